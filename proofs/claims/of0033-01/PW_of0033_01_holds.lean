import PyProof.Rows.All
import Wide.All
import OpenK.AllK
import PyProof.IsiStr
import Wide.FinOn
import Lean
import PySem.Challenge.RW_of0033_01
set_option Elab.async false
set_option linter.unusedVariables false
section
open PySem PySem.W PySem.W.X PyProof.Rows
set_option Elab.async false
set_option maxRecDepth 100000
set_option maxHeartbeats 8000000
namespace Mine
section
local macro_rules
  | `(tactic| refine $e:term) => `(tactic| (refine' $e; try (case hl => intro w; kernel_rfl)))
open_top hd for PySem.Challenge.rw_of0033_01
end
end Mine
end
section
open PySem PySem.W PySem.W.X PyProof.Rows
set_option Elab.async false
set_option maxRecDepth 100000
set_option maxHeartbeats 4000000
namespace Mine
open PySem.SeqAt
open AutoSeq1 (wpAny_loadPart')
open MeetsSeq MeetsSeq2 MeetsSeq3 SeqRoads2
/-- an item of the heap: a tuple (t, k) at an address -/
structure It where
  a : Addr
  t : Int
  k : Int
  tt : Tok
  tk : Tok
def It.obj (x : It) : Obj := { cls := .type "tuple", data := .seq #[.int x.t x.tt, .int x.k x.tk] }
def It.v (x : It) : Value := .ref x.a
def It.lt (x y : It) : Bool := decide (x.t < y.t) || (x.t == y.t && decide (x.k < y.k))
theorem tuple_lt_pairs (l b : Addr) (x1 x2 y1 y2 : Int) (t1 t2 u1 u2 : Tok) (n n2 : Nat) (dd dd2 : Option Addr) (sl sl2 : Array (Option Value)) :
    Meets (Builtin.«tuple.__lt__» ⟨[.ref l, .ref b], []⟩)
      (fun _ R s => s.heap.get? l = some { cls := .type "tuple", dict := dd, data := .seq #[.int x1 t1, .int x2 t2] n, slots := sl } ∧ s.heap.get? b = some { cls := .type "tuple", dict := dd2, data := .seq #[.int y1 u1, .int y2 u2] n2, slots := sl2 } ∧
        R (.ok (.ret (.bool (decide (x1 < y1) || (x1 == y1 && decide (x2 < y2)))))) s) :=
  .of_wp fun prog w A R s h => by
    obtain ⟨hp, g, d, tk, os⟩ := s; obtain ⟨hl, hb, h⟩ := h
    have f2 := AutoSeq1.sub_tuple_tuple
    wp_walk using wpAny_loadPart' hl, wpAny_loadPart' hb, wpAny_forIn_list _ (fun (rest : List (Value × Value)) b s' => b.1 = none ∧ s' = ⟨hp, g, d, tk, os⟩ ∧
      (rest = [(.int x1 t1, .int y1 u1), (.int x2 t2, .int y2 u2)] ∨ (rest = [(.int x2 t2, .int y2 u2)] ∧ x1 = y1) ∨ (rest = [] ∧ x1 = y1 ∧ x2 = y2))) _
    case turn =>
      rintro ⟨x, y⟩ rest b s' ⟨hb', rfl, hz⟩
      rcases hz with hz | ⟨hz, e1⟩ | ⟨hz, e1, e2⟩
      · injection hz with h1 h2
        injection h1 with h1 h3
        subst h1 h2 h3
        refine wpAny_bind (EqAt.int_int _ _ _ _ prog w _ _ ?_)
        by_cases hy : x1 = y1
        · have hb : (x1 == y1) = true := by simp [hy]
          rw [hb]
          wp_walk
          exact ⟨rfl, rfl, .inr (.inl ⟨rfl, hy⟩)⟩
        · have hb : (x1 == y1) = false := by simp [hy]
          rw [hb]
          refine wpAny_ite_split (fun _ => ?_) (fun hh => absurd rfl hh)
          refine wpAny_bind (wpAny_rule (wpAny_bind ?_))
          refine (show wpAny (model prog w) A.in1 (compareOp .Lt (.int x1 t1) (.int y1 u1)) _ _ _ from PyProof.Rows.lt_int ?_)
          wp_walk
          exact ⟨_, rfl, by rw [hb, Bool.false_and, Bool.or_false] at h; exact h⟩
      · injection hz with h1 h2
        injection h1 with h1 h3
        subst h1 h2 h3
        refine wpAny_bind (EqAt.int_int _ _ _ _ prog w _ _ ?_)
        by_cases hy : x2 = y2
        · have hb : (x2 == y2) = true := by simp [hy]
          rw [hb]
          wp_walk
          exact ⟨rfl, rfl, .inr (.inr ⟨rfl, e1, hy⟩)⟩
        · have hb : (x2 == y2) = false := by simp [hy]
          rw [hb]
          refine wpAny_ite_split (fun _ => ?_) (fun hh => absurd rfl hh)
          refine wpAny_bind (wpAny_rule (wpAny_bind ?_))
          refine (show wpAny (model prog w) A.in1 (compareOp .Lt (.int x2 t2) (.int y2 u2)) _ _ _ from PyProof.Rows.lt_int ?_)
          wp_walk
          exact ⟨_, rfl, by simpa [e1] using h⟩
      · cases hz
    case fin =>
      rintro ⟨b1, b2⟩ s' ⟨hb', rfl, hz⟩
      simp only at hb'
      subst hb'
      rcases hz with hz | ⟨hz, e1⟩ | ⟨hz, e1, e2⟩
      · cases hz
      · cases hz
      · wp_walk
        exact ⟨_, rfl, by simpa [e1, e2, Builtin.Tuple.tupleCompareSizes] using h⟩
    case h =>
      exact ⟨rfl, rfl, .inl rfl⟩
theorem lt_pairs {prog : Program} {w : World} {A : Around} {E : Value → Shared → Prop} {s : Shared} {Q : Value → Shared → Prop} {x y : It} (hx : s.heap.get? x.a = some x.obj) (hy : s.heap.get? y.a = some y.obj) (hu : A.units < cLine)
    (h : Q (.bool (x.lt y)) s) : wpAny (model prog w) A (compareOp .Lt x.v y.v) Q E s :=
  richCompare_meets_room (op := .Lt) ⟨_, hx, rfl⟩ ⟨_, hy, rfl⟩ F.slot_tuple_lt F.entry_tuple_lt (F.args_tuple_lt_2 _ _) (tuple_lt_pairs x.a y.a x.t x.k y.t y.k x.tt x.tk y.tt y.tk 0 0 none none #[] #[])
    ⟨hx, hy, show Value.bool (x.lt y) ≠ Value.notImplemented ∧ Q (.bool (x.lt y)) s from ⟨(fun x => nomatch x), h⟩⟩ hu
end Mine
end
section
open PySem PySem.W PySem.W.X PyProof.Rows
set_option Elab.async false
set_option maxRecDepth 100000
set_option maxHeartbeats 4000000
namespace Mine
def getI (its : List It) (i : Nat) : It := its.getD i ⟨0, 0, 0, 0, 0⟩
theorem getI_get {its : List It} {i : Nat} (h : i < its.length) : its[i]? = some (getI its i) := by simp [getI, h]
theorem getI_mem {its : List It} {i : Nat} (h : i < its.length) : getI its i ∈ its := by
  have := getI_get h
  exact List.mem_of_getElem? this
theorem mem_set_or {its : List It} {i : Nat} {x y : It} (h : y ∈ its.set i x) : y ∈ its ∨ y = x := List.mem_or_eq_of_mem_set h
noncomputable def sd (new : It) (its : List It) (pos : Nat) : List It :=
  if 0 < pos then
    if new.lt (getI its ((pos - 1) / 2)) then sd new (its.set pos (getI its ((pos - 1) / 2))) ((pos - 1) / 2) else its.set pos new
  else its.set pos new
termination_by pos
decreasing_by omega
theorem sd_zero (new : It) (its : List It) : sd new its 0 = its.set 0 new := by rw [sd]; simp
theorem sd_go {new : It} {its : List It} {pos : Nat} (h : 0 < pos) (hl : new.lt (getI its ((pos - 1) / 2)) = true) : sd new its pos = sd new (its.set pos (getI its ((pos - 1) / 2))) ((pos - 1) / 2) := by rw [sd]; simp [h, hl]
theorem sd_stop {new : It} {its : List It} {pos : Nat} (h : 0 < pos) (hl : new.lt (getI its ((pos - 1) / 2)) = false) : sd new its pos = its.set pos new := by rw [sd]; simp [h, hl]
/-- which child comes up -/
def child (its : List It) (pos : Nat) : Nat :=
  if 2 * pos + 1 + 1 < its.length ∧ (getI its (2 * pos + 1)).lt (getI its (2 * pos + 1 + 1)) = false then 2 * pos + 1 + 1 else 2 * pos + 1
theorem child_gt (its : List It) (pos : Nat) : pos < child its pos := by unfold child; split <;> omega
theorem child_lt {its : List It} {pos : Nat} (h : 2 * pos + 1 < its.length) : child its pos < its.length := by unfold child; split <;> omega
/-- the way down: the list and the last place -/
noncomputable def su (its : List It) (pos : Nat) : List It × Nat :=
  if h : 2 * pos + 1 < its.length then su (its.set pos (getI its (child its pos))) (child its pos) else (its, pos)
termination_by its.length - pos
decreasing_by
  have := child_gt its pos
  have := child_lt h
  simp only [List.length_set]
  omega
theorem su_go {its : List It} {pos : Nat} (h : 2 * pos + 1 < its.length) : su its pos = su (its.set pos (getI its (child its pos))) (child its pos) := by rw [su]; simp [h]
theorem su_stop {its : List It} {pos : Nat} (h : ¬ 2 * pos + 1 < its.length) : su its pos = (its, pos) := by rw [su]; simp [h]
noncomputable def hpush (its : List It) (x : It) : List It := sd x (its ++ [x]) its.length
/-- siftup from place 0 -/
noncomputable def sift0 (new : It) (its : List It) : List It := sd new ((su its 0).1.set (su its 0).2 new) (su its 0).2
noncomputable def hpop (its : List It) : It × List It :=
  if its.dropLast = [] then (getI its (its.length - 1), []) else (getI its.dropLast 0, sift0 (getI its (its.length - 1)) (its.dropLast.set 0 (getI its (its.length - 1))))
section
variable {prog : Program} {w : World} {A : Around} {E : Value → Shared → Prop} {s : Shared} {h₀ : Heap} {L hp : Addr} {m : Str → Option Value} {news rest : List (Addr × Obj)} {its : List It} {n : Nat} {k : Int} {u : Tok}
theorem it_sub {value slice : PySem.Expr} {Q : Value → Shared → Prop} (N : News h₀ L s.heap news) (hm : (hp, listOf (its.map It.v).toArray n) ∈ news) (h0 : 0 ≤ k) (h1 : k < its.length) (hfit : k < 2 ^ 63) (h : Q (getI its k.toNat).v s)
    (hs : subscripted slice false (.ref hp) (.int k u) = operate [.ref hp, .int k u] (getItem (.ref hp) (.int k u)) := by with_unfolding_all rfl) :
    wpAny (model prog w) A (subscriptTail value slice (.ref hp) (.int k u)) Q E s := by
  have hl : s.heap.IsList hp (its.map It.v).toArray := ⟨_, (N _ hm).1, rfl, n, rfl⟩
  have hk : k.toNat < its.length := by omega
  exact tail_any hl.typeIs slot_list_getitem.lookup (wpAny_getItem_list hl h0 hfit (by simp [getI, hk]) h) hs
theorem it_set {x : It} {Q : Unit → Shared → Prop} (F : Fr h₀ L s.heap m) (N : News h₀ L s.heap ((hp, listOf (its.map It.v).toArray n) :: rest)) (hne : ∀ p ∈ rest, p.1 ≠ hp) (h0 : 0 ≤ k) (h1 : k < its.length) (hfit : k < 2 ^ 63)
    (h : ∀ h', Fr h₀ L h' m → News h₀ L h' ((hp, listOf ((its.set k.toNat x).map It.v).toArray n) :: rest) → Q () { s with heap := h' }) :
    wpAny (model prog w) A (setItem (.ref hp) (.int k u) x.v) Q E s := by
  have z := N _ (.head _)
  have N' : News h₀ L s.heap ([] ++ (hp, listOf (its.map It.v).toArray n) :: rest) := N
  refine ki_setAt z.1 h0 hfit (by simpa using h1) (h _ (F.change (Heap.SameBut.update ..) z.2.1 z.2.2) (ki_turn (pre := []) _ N' (fun _ h => nomatch h) hne ?_ ?_))
  · apply Array.toList_inj.mp
    simp
  · simp
theorem it_len {Q : Value → Shared → Prop} (N : News h₀ L s.heap news) (hm : (hp, listOf (its.map It.v).toArray n) ∈ news) (hfit : its.length < 1000) (h : Q (.int (its.length : Int) (s.toks + 1)) { s with toks := s.toks + 1 + 1 }) :
    wpAny (model prog w) A (call (.builtin "len") [.ref hp]) Q E s := by
  have hl : s.heap.IsList hp (its.map It.v).toArray := ⟨_, (N _ hm).1, rfl, n, rfl⟩
  have e : (its.map It.v).toArray.size = its.length := by simp
  exact len_list hl (by rw [e]; omega) (by rw [e]; exact h)
theorem it_subN {value slice : PySem.Expr} {i : Nat} {Q : Value → Shared → Prop} (N : News h₀ L s.heap news) (hm : (hp, listOf (its.map It.v).toArray n) ∈ news) (h1 : i < its.length) (hfit : i < 1000) (h : Q (getI its i).v s)
    (hs : subscripted slice false (.ref hp) (.int (i : Int) u) = operate [.ref hp, .int (i : Int) u] (getItem (.ref hp) (.int (i : Int) u)) := by with_unfolding_all rfl) :
    wpAny (model prog w) A (subscriptTail value slice (.ref hp) (.int (i : Int) u)) Q E s := it_sub N hm (by omega) (by omega) (by omega) h hs
theorem it_setN {i : Nat} {x : It} {Q : Unit → Shared → Prop} (F : Fr h₀ L s.heap m) (N : News h₀ L s.heap ((hp, listOf (its.map It.v).toArray n) :: rest)) (hne : ∀ p ∈ rest, p.1 ≠ hp) (h1 : i < its.length) (hfit : i < 1000)
    (h : ∀ h', Fr h₀ L h' m → News h₀ L h' ((hp, listOf ((its.set i x).map It.v).toArray n) :: rest) → Q () { s with heap := h' }) :
    wpAny (model prog w) A (setItem (.ref hp) (.int (i : Int) u) x.v) Q E s := it_set F N hne (by omega) (by omega) (by omega) h
end
end Mine
end
section
open PySem PySem.W PySem.W.X PyProof.Rows
set_option Elab.async false
set_option maxRecDepth 100000
set_option maxHeartbeats 4000000
namespace Mine
def Stop (P : Prop) : Prop := P
theorem Stop.out {P : Prop} (h : Stop P) : P := h
theorem kstB_self {m : Str → Option Value} {ps : List (Str × Value)} (h : ∀ p ∈ ps, m p.1 = some p.2) : kstB m ps = m := by
  funext z
  exact kstB_eq h fun _ => rfl
theorem fr_names {h₀ h : Heap} {L : Addr} {m : Str → Option Value} {ps : List (Str × Value)} (F : Fr h₀ L h m) (hk : ∀ p ∈ ps, m p.1 = some p.2) : Fr h₀ L h (kstB m ps) := by
  rw [kstB_self hk]; exact F
/-- a turn's end of my while -/
inductive WEnd {σ : Type} (h₀ : Heap) (L : Addr) (s : Shared) (Led : σ → List (Addr × Obj)) (ps : σ → List (Str × Value)) (P : σ → Prop) (μ : σ → Nat) (c : σ) (s₂ : Shared) : Prop where
  | mk (c' : σ) (h' : Heap) (tk : Nat) (m' : Str → Option Value) (e : s₂ = { s with heap := h', toks := tk }) (F : Fr h₀ L h' m') (N : News h₀ L h' (Led c')) (hk : ∀ p ∈ ps c', m' p.1 = some p.2) (hp : P c') (hm : μ c' < μ c)
def WPost {σ : Type} (h₀ : Heap) (L : Addr) (s : Shared) (Led : σ → List (Addr × Obj)) (ps : σ → List (Str × Value)) (P : σ → Prop) (μ : σ → Nat) (Q : Flow → Shared → Prop) (c : σ) (f : Flow) (s₂ : Shared) : Prop :=
  match f with
  | .ret v => Q (.ret v) s₂
  | .brk => Q .next s₂
  | _ => WEnd h₀ L s Led ps P μ c s₂
theorem wend {σ : Type} {h₀ : Heap} {L : Addr} {s : Shared} {Led : σ → List (Addr × Obj)} {ps : σ → List (Str × Value)} {P : σ → Prop} {μ : σ → Nat} {c : σ} {h' : Heap} {tk : Nat} {m' : Str → Option Value} (c' : σ)
    (F : Fr h₀ L h' m') (N : News h₀ L h' (Led c')) (hk : ∀ p ∈ ps c', m' p.1 = some p.2) (hp : P c') (hm : μ c' < μ c) : WEnd h₀ L s Led ps P μ c { s with heap := h', toks := tk } := ⟨c', h', tk, m', rfl, F, N, hk, hp, hm⟩
theorem my_while {σ : Type} {prog : Program} {w : World} {A : Around} {E : Value → Shared → Prop} {Q : Flow → Shared → Prop} {s : Shared} {env : Env} {h₀ : Heap} {L : Addr} {test : Expr} {body : List Stmt} {pos : Pos} {m₀ : Str → Option Value}
    (Led : σ → List (Addr × Obj)) (ps : σ → List (Str × Value)) (P : σ → Prop) (μ : σ → Nat) (c₀ : σ)
    (F : Fr h₀ L s.heap m₀) (N : News h₀ L s.heap (Led c₀)) (hk : ∀ p ∈ ps c₀, m₀ p.1 = some p.2) (hp : P c₀)
    (turn : ∀ (c : σ) (u : Str → Option Value) h tk, P c → Fr h₀ L h (kstB u (ps c)) → News h₀ L h (Led c) →
      wpAny (model prog w) A (isTrue test env (eval test env)) (fun b s₂ =>
        if b = true then wpAny (model prog w) A (execs body env) (WPost h₀ L s Led ps P μ Q c) E s₂ else Q .next s₂) E { s with heap := h, toks := tk })
    (hE : PassesOwn (model prog w) A env E) :
    wpAny (model prog w) A (exec (.While test body [] pos) env) Q E s := by
  refine While_inv2 (fun n m nx => ∃ c : σ, nx = Led c ∧ μ c = n ∧ (∀ p ∈ ps c, m p.1 = some p.2) ∧ P c) F N ⟨c₀, rfl, rfl, hk, hp⟩ ?_ hE
  rintro n m₁ nx h tk F₁ N₁ ⟨c, hnx, hsz, h1, hp'⟩
  rw [hnx] at N₁
  rw [← hsz]
  refine wpAny_mono (turn c m₁ h tk hp' (fr_names F₁ h1) N₁) (fun b s₂ p => ?_) fun _ _ x => x
  cases b with
  | false => simpa using p
  | true =>
    simp only [if_true] at p ⊢
    refine wpAny_mono p (fun f s₃ q => ?_) fun _ _ x => x
    cases f with
    | ret v => exact q
    | brk => exact q
    | next =>
      obtain ⟨c', h', tk', m', rfl, F', N', hk9, hp9, hm9⟩ := q
      exact ⟨h', tk', m', Led c', μ c', rfl, F', N', hm9, c', rfl, rfl, hk9, hp9⟩
    | cont =>
      obtain ⟨c', h', tk', m', rfl, F', N', hk9, hp9, hm9⟩ := q
      exact ⟨h', tk', m', Led c', μ c', rfl, F', N', hm9, c', rfl, rfl, hk9, hp9⟩
end Mine
end
theorem Mine.offM2 : True := by w_top off; trivial
section
open PySem PySem.W PySem.W.X PyProof.Rows
set_option Elab.async false
set_option maxRecDepth 100000
set_option maxHeartbeats 8000000
namespace Mine
theorem fill (w : World) (h : Heap) : (hd.heap_39 w.params).In h → model Challenge.rw_of0033_01.row.prog w = model Challenge.rw_of0033_01.row.prog w := by
  k_fill
  intro _
  rfl
abbrev TopAt (mean : ExcName → Option Value) (mg mb : Str → Option Value) (h : Heap) : Prop := Top hd.view_39 (looseW hd.view_39 [Str.ofString "_filemode_table"]) mean mg mb h
theorem pp_eq {p : Nat} (h : 0 < p) : ((p : Int) - 1).fdiv (2 ^ Int.toNat 1) = (((p - 1) / 2 : Nat) : Int) := by
  have e : (2 ^ Int.toNat 1 : Int) = 2 := rfl
  rw [e, Int.fdiv_eq_ediv_of_nonneg _ (by omega)]
  omega
section
local macro_rules | `(tactic| walk_at "exec While Compare cons nil") => `(tactic| refine Stop.out ?_)
local macro_rules | `(tactic| walk_at "WPost") => `(tactic| (dsimp only [WPost]))
local macro_rules | `(tactic| walk_at "WEnd") => `(tactic| refine Stop.out ?_)
theorem siftdown_call (w : World) (mean : ExcName → Option Value) (mg mb : Str → Option Value)
  (dp un : Nat) (gd : Option (List Code)) (cn : Str) (cs : Scope) (a : Addr) (ccd : Value) (cl : List (Str × Addr)) (outer : List Env) (A₀ : Around) (base h₀ : Heap) (L : Addr) (m : Str → Option Value) (s : Shared) (Q E : Value → Shared → Prop)
  (hp : Addr) (its : List It) (n : Nat) (rest : List (Addr × Obj)) (pos : Nat) (t1 t2 : Tok)
  (B : Below A₀ base outer h₀) (F : Fr h₀ L s.heap m) (X : (hd.heap_39 w.params).In h₀) (N : News h₀ L s.heap ((hp, W.listOf (its.map It.v).toArray n) :: rest)) (T : TopAt mean mg mb h₀) (hk : cs.kind = .function)
  (hne : ∀ p ∈ rest, p.1 ≠ hp) (hmem : ∀ x ∈ its, (x.a, x.obj) ∈ rest) (h1 : pos < its.length) (hlen : its.length < 100) (hdp : dp + 5 < recursionLimit) (hun : un + 40 < cLine)
  (ret : ∀ h' tk', Fr h₀ L h' m → News h₀ L h' ((hp, W.listOf ((sd (getI its pos) its pos).map It.v).toArray n) :: rest) → Q .none { s with heap := h', toks := tk' }) :
  wpAny (model Challenge.rw_of0033_01.row.prog w) (ktrTop dp un gd cn cs L a ccd cl outer) (call (.ref 112) [.ref hp, .int 0 t1, .int pos t2]) Q E s := by
  refine wpAny_call ?_
  k_dflt ktr_enter
  k_steps
  rename Fr _ _ _ _ => F'
  rename News _ _ _ _ => N'
  refine it_subN N' (.head _) h1 (by omega) ?_ (by with_unfolding_all rfl)
  k_steps
  unfold Stop
  rename Fr _ _ _ _ => F'
  rename News _ _ _ _ => N'
  refine my_while (σ := List It × Nat × Tok) (fun c => (hp, W.listOf (c.1.map It.v).toArray n) :: rest) (fun c => [(Str.ofString "heap", .ref hp), (Str.ofString "startpos", .int 0 t1), (Str.ofString "pos", .int (c.2.1 : Int) c.2.2), (Str.ofString "newitem", (getI its pos).v)])
    (fun c => c.2.1 < c.1.length ∧ c.1.length = its.length ∧ (∀ x ∈ c.1, (x.a, x.obj) ∈ rest) ∧ sd (getI its pos) c.1 c.2.1 = sd (getI its pos) its pos) (fun c => c.2.1) (its, pos, t2) F' N' ?_ ⟨h1, rfl, hmem, rfl⟩ ?_ ?_
  · kst_all
  · rintro ⟨cur, p, tp⟩ u h tk ⟨c1, c2, c3, c4⟩ F1 N1
    dsimp only at *
    clear F' N'
    k_steps
    · rename Fr _ _ _ _ => F2
      rename News _ _ _ _ => N2
      rename (0 : Int) < _ => hpos
      have hp0 : 0 < p := by omega
      have e := pp_eq hp0
      rw [e] at F2 ⊢
      refine it_subN N2 (.head _) (by omega) (by omega) ?_ (by with_unfolding_all rfl)
      k_steps
      rename Fr _ _ _ _ => F3
      rename News _ _ _ _ => N3
      refine lt_pairs (N3 _ (.tail _ (hmem _ (getI_mem h1)))).1 (N3 _ (.tail _ (c3 _ (getI_mem (by omega))))).1 (by ktr_units) ?_
      k_steps
      · rename Fr _ _ _ _ => F4
        rename News _ _ _ _ => N4
        rename (getI its pos).lt _ = true => hlt
        dsimp only
        refine it_setN F4 N4 hne c1 (by omega) ?_
        intro h9 F9 N9
        clear F4 N4
        k_steps
        unfold Stop
        rename Fr _ _ _ _ => F5
        rename News _ _ _ _ => N5
        refine wend (cur.set p (getI cur ((p - 1) / 2)), (p - 1) / 2, _) F5 N5 (by kst_all) ?_ ?_
        · refine ⟨by simp only [List.length_set]; omega, by simp only [List.length_set]; omega, fun x hx => ?_, ?_⟩
          · rcases mem_set_or hx with hx | rfl
            · exact c3 x hx
            · exact c3 _ (getI_mem (by omega))
          · rw [← c4, sd_go hp0 hlt]
        · show (p - 1) / 2 < p
          omega
      · rename Fr _ _ _ _ => F4
        rename News _ _ _ _ => N4
        rename (getI its pos).lt _ = false => hlt
        dsimp only
        refine it_setN F4 N4 hne c1 (by omega) ?_
        intro h9 F9 N9
        rw [← sd_stop hp0 hlt, c4] at N9
        clear F4 N4
        k_steps
        exact ret _ _ (by assumption) (by assumption)
    · rename Fr _ _ _ _ => F2
      rename News _ _ _ _ => N2
      dsimp only
      refine it_setN F2 N2 hne c1 (by omega) ?_
      intro h9 F9 N9
      have hp0 : p = 0 := by omega
      subst hp0
      rw [← sd_zero, c4] at N9
      clear F2 N2
      k_steps
      exact ret _ _ (by assumption) (by assumption)
  · walk1
end
end Mine
end
theorem Mine.offM3 : True := by w_top off; trivial
section
open PySem PySem.W PySem.W.X PyProof.Rows
set_option Elab.async false
set_option maxRecDepth 100000
set_option maxHeartbeats 8000000
namespace Mine
theorem fill3 (w : World) (h : Heap) : (hd.heap_39 w.params).In h → model Challenge.rw_of0033_01.row.prog w = model Challenge.rw_of0033_01.row.prog w := by
  k_fill
  intro _
  rfl
section
local macro_rules | `(tactic| walk_at "exec While Compare cons nil") => `(tactic| refine Stop.out ?_)
local macro_rules | `(tactic| walk_at "WPost") => `(tactic| (dsimp only [WPost]))
local macro_rules | `(tactic| walk_at "WEnd") => `(tactic| refine Stop.out ?_)
local macro_rules | `(tactic| walk_at "call ref") => `(tactic| refine Stop.out ?_)
theorem siftup_call (w : World) (mean : ExcName → Option Value) (mg mb : Str → Option Value)
  (dp un : Nat) (gd : Option (List Code)) (cn : Str) (cs : Scope) (a : Addr) (ccd : Value) (cl : List (Str × Addr)) (outer : List Env) (A₀ : Around) (base h₀ : Heap) (L : Addr) (m : Str → Option Value) (s : Shared) (Q E : Value → Shared → Prop)
  (hp : Addr) (its : List It) (n : Nat) (rest : List (Addr × Obj)) (t1 : Tok)
  (B : Below A₀ base outer h₀) (F : Fr h₀ L s.heap m) (X : (hd.heap_39 w.params).In h₀) (N : News h₀ L s.heap ((hp, W.listOf (its.map It.v).toArray n) :: rest)) (T : TopAt mean mg mb h₀) (hk : cs.kind = .function)
  (hne : ∀ p ∈ rest, p.1 ≠ hp) (hmem : ∀ x ∈ its, (x.a, x.obj) ∈ rest) (h1 : 0 < its.length) (hlen : its.length < 100) (hdp : dp + 10 < recursionLimit) (hun : un + 60 < cLine)
  (ret : ∀ h' tk', Fr h₀ L h' m → News h₀ L h' ((hp, W.listOf ((sift0 (getI its 0) its).map It.v).toArray n) :: rest) → Q .none { s with heap := h', toks := tk' }) :
  wpAny (model Challenge.rw_of0033_01.row.prog w) (ktrTop dp un gd cn cs L a ccd cl outer) (call (.ref 119) [.ref hp, .int 0 t1]) Q E s := by
  refine wpAny_call ?_
  k_dflt ktr_enter
  k_steps
  rename News _ _ _ _ => N1
  refine it_len N1 (.head _) (by omega) ?_
  k_steps
  rename News _ _ _ _ => N2
  refine it_subN (i := 0) N2 (.head _) h1 (by omega) ?_ (by with_unfolding_all rfl)
  k_steps
  unfold Stop
  rename Fr _ _ _ _ => F3
  rename News _ _ _ _ => N3
  refine my_while (σ := List It × Nat × Tok × Tok) (fun c => (hp, W.listOf (c.1.map It.v).toArray n) :: rest)
    (fun c => [(Str.ofString "heap", .ref hp), (Str.ofString "endpos", .int (its.length : Int) _), (Str.ofString "startpos", .int 0 t1), (Str.ofString "newitem", (getI its 0).v), (Str.ofString "pos", .int (c.2.1 : Int) c.2.2.1), (Str.ofString "childpos", .int ((2 * c.2.1 + 1 : Nat) : Int) c.2.2.2)])
    (fun c => c.2.1 < c.1.length ∧ c.1.length = its.length ∧ (∀ x ∈ c.1, (x.a, x.obj) ∈ rest) ∧ su c.1 c.2.1 = su its 0) (fun c => its.length - c.2.1) (its, 0, t1, _) F3 N3 (by kst_all) ⟨h1, rfl, hmem, rfl⟩ ?_ ?_
  · rintro ⟨cur, p, tp, tc⟩ u h tk ⟨c1, c2, c3, c4⟩ F4 N4
    clear F3 N3
    dsimp only at c1 c2 c3 c4 F4 N4
    k_steps
    · rename Fr _ _ _ _ => F5
      rename News _ _ _ _ => N5
      have e5 : ((2 * p + 1 : Nat) : Int) + 1 = ((2 * p + 1 + 1 : Nat) : Int) := by omega
      rw [e5] at F5
      dsimp only
      refine it_subN N5 (.head _) (by omega) (by omega) ?_ (by with_unfolding_all rfl)
      k_steps
      dsimp only
      refine it_subN N5 (.head _) (by omega) (by omega) ?_ (by with_unfolding_all rfl)
      refine lt_pairs (N5 _ (.tail _ (c3 _ (getI_mem (by omega))))).1 (N5 _ (.tail _ (c3 _ (getI_mem (by omega))))).1 (by ktr_units) ?_
      k_steps
      · rename Fr _ _ _ _ => F7
        rename News _ _ _ _ => N7
        rename It.lt _ _ = true => hlt
        dsimp only
        refine it_subN N7 (.head _) (by omega) (by omega) ?_ (by with_unfolding_all rfl)
        k_steps
        dsimp only
        rename Fr _ _ _ _ => F8
        rename News _ _ _ _ => N8
        refine it_setN F8 N8 hne c1 (by omega) ?_
        intro h9 F9 N9
        clear F8 N8
        k_steps
        unfold Stop
        rename Fr _ _ _ _ => F10
        rename News _ _ _ _ => N10
        have e10 : 2 * ((2 * p + 1 : Nat) : Int) + 1 = ((2 * (2 * p + 1) + 1 : Nat) : Int) := by omega
        rw [e10] at F10
        refine wend (cur.set p (getI cur (2 * p + 1)), 2 * p + 1, _, _) F10 N10 (by kst_all) ?_ ?_
        · have hc : child cur p = 2 * p + 1 := by unfold child; rw [if_neg]; rintro ⟨_, h⟩; rw [hlt] at h; cases h
          dsimp only
          refine ⟨by simp only [List.length_set]; omega, by simp only [List.length_set]; omega, fun x hx => ?_, ?_⟩
          · rcases mem_set_or hx with hx | rfl
            · exact c3 x hx
            · exact c3 _ (getI_mem (by omega))
          · rw [← c4, su_go (its := cur) (by omega), hc]
        · show its.length - (2 * p + 1) < its.length - p
          omega
      · rename Fr _ _ _ _ => F7
        rename News _ _ _ _ => N7
        rename It.lt _ _ = false => hlt
        dsimp only
        refine it_subN N7 (.head _) (by omega) (by omega) ?_ (by with_unfolding_all rfl)
        k_steps
        dsimp only
        rename Fr _ _ _ _ => F8
        rename News _ _ _ _ => N8
        refine it_setN F8 N8 hne c1 (by omega) ?_
        intro h9 F9 N9
        clear F8 N8
        k_steps
        unfold Stop
        rename Fr _ _ _ _ => F10
        rename News _ _ _ _ => N10
        have e10 : 2 * ((2 * p + 1 + 1 : Nat) : Int) + 1 = ((2 * (2 * p + 1 + 1) + 1 : Nat) : Int) := by omega
        rw [e10] at F10
        refine wend (cur.set p (getI cur (2 * p + 1 + 1)), 2 * p + 1 + 1, _, _) F10 N10 (by kst_all) ?_ ?_
        · have hc : child cur p = 2 * p + 1 + 1 := by unfold child; rw [if_pos ⟨by omega, hlt⟩]
          dsimp only
          refine ⟨by simp only [List.length_set]; omega, by simp only [List.length_set]; omega, fun x hx => ?_, ?_⟩
          · rcases mem_set_or hx with hx | rfl
            · exact c3 x hx
            · exact c3 _ (getI_mem (by omega))
          · rw [← c4, su_go (its := cur) (by omega), hc]
        · show its.length - (2 * p + 1 + 1) < its.length - p
          omega
    · rename Fr _ _ _ _ => F7
      rename News _ _ _ _ => N7
      dsimp only
      refine it_subN N7 (.head _) (by omega) (by omega) ?_ (by with_unfolding_all rfl)
      k_steps
      dsimp only
      rename Fr _ _ _ _ => F8
      rename News _ _ _ _ => N8
      refine it_setN F8 N8 hne c1 (by omega) ?_
      intro h9 F9 N9
      clear F8 N8
      k_steps
      unfold Stop
      rename Fr _ _ _ _ => F10
      rename News _ _ _ _ => N10
      have e10 : 2 * ((2 * p + 1 : Nat) : Int) + 1 = ((2 * (2 * p + 1) + 1 : Nat) : Int) := by omega
      rw [e10] at F10
      refine wend (cur.set p (getI cur (2 * p + 1)), 2 * p + 1, _, _) F10 N10 (by kst_all) ?_ ?_
      · have hc : child cur p = 2 * p + 1 := by unfold child; rw [if_neg]; rintro ⟨h, _⟩; omega
        dsimp only
        refine ⟨by simp only [List.length_set]; omega, by simp only [List.length_set]; omega, fun x hx => ?_, ?_⟩
        · rcases mem_set_or hx with hx | rfl
          · exact c3 x hx
          · exact c3 _ (getI_mem (by omega))
        · rw [← c4, su_go (its := cur) (by omega), hc]
      · show its.length - (2 * p + 1) < its.length - p
        omega
    · dsimp only
      rename Fr _ _ _ _ => F7
      rename News _ _ _ _ => N7
      refine it_setN F7 N7 hne c1 (by omega) ?_
      intro h9 F9 N9
      clear F7 N7
      k_steps
      unfold Stop
      rename Below _ _ _ _ => B11
      rename Fr _ _ _ _ => F11
      rename News _ _ _ _ => N11
      rename Frag.In _ _ => X11
      rename Top _ _ _ _ _ _ => T11
      have hsu : su its 0 = (cur, p) := by rw [← c4, su_stop (by omega)]
      k_dflt refine siftdown_call w mean mg mb _ _ _ _ _ _ _ _ _ _ _ _ _ _ _ _ _ hp (cur.set p (getI its 0)) n rest p t1 tp B11 F11 X11 N11 T11 rfl hne (fun x hx => ?_) (by simp only [List.length_set]; omega) (by simp only [List.length_set]; omega) (by ktr_room) (by ktr_units) ?_
      · rcases mem_set_or hx with hx | rfl
        · exact c3 x hx
        · exact hmem _ (getI_mem h1)
      · intro h12 tk12 F12 N12
        have e12 : getI (cur.set p (getI its 0)) p = getI its 0 := by simp [getI, c1]
        rw [e12] at N12
        clear F11 N11
        k_steps
        rename Fr h₀ _ _ _ => F13
        rename News h₀ _ _ _ => N13
        refine ret _ _ F13 ?_
        unfold sift0
        rw [hsu]
        exact N13
  · walk1
end
end Mine
end
theorem Mine.offM4 : True := by w_top off; trivial
section
open PySem PySem.W PySem.W.X PyProof.Rows
set_option Elab.async false
set_option maxRecDepth 100000
set_option maxHeartbeats 8000000
namespace Mine
theorem fill4 (w : World) (h : Heap) : (hd.heap_39 w.params).In h → model Challenge.rw_of0033_01.row.prog w = model Challenge.rw_of0033_01.row.prog w := by
  k_fill
  intro _
  rfl
theorem kl_last_snoc (p : List Value) (y : Value) : kl_last (p ++ [y]) = some (p, y) := by
  induction p with
  | nil => rfl
  | cons x r ih => show (match kl_last (r ++ [y]) with | some (p, y) => some (x :: p, y) | none => some ([], x)) = _; rw [ih]
theorem snoc_last {its : List It} (h : 0 < its.length) : its = its.dropLast ++ [getI its (its.length - 1)] := by
  apply List.ext_getElem?
  intro i
  rw [List.getElem?_append, List.length_dropLast]
  split
  · rename_i h2
    rw [List.getElem?_dropLast, if_pos h2]
  · rename_i h2
    by_cases h3 : i = its.length - 1
    · subst h3
      rw [getI_get (by omega)]
      simp
    · rw [List.getElem?_eq_none (by omega), List.getElem?_eq_none (by simp; omega)]
theorem getI_set_self {its : List It} {i : Nat} {x : It} (h : i < its.length) : getI (its.set i x) i = x := by
  unfold getI
  rw [List.getD_eq_getElem?_getD, List.getElem?_set_self h]
  rfl
section
variable {prog : Program} {w : World} {A : Around} {E : Value → Shared → Prop} {s : Shared} {h₀ : Heap} {L hp : Addr} {m : Str → Option Value} {news rest : List (Addr × Obj)} {its : List It} {n : Nat}
theorem it_append {x : It} {Q : Value → Shared → Prop} (F : Fr h₀ L s.heap m) (N : News h₀ L s.heap ((hp, listOf (its.map It.v).toArray n) :: rest)) (hne : ∀ p ∈ rest, p.1 ≠ hp) (hlen : its.length < 1000)
    (h : ∀ h', Fr h₀ L h' m → News h₀ L h' ((hp, listOf ((its ++ [x]).map It.v).toArray (n + 1)) :: rest) → Q .none { s with heap := h' }) : wpAny (model prog w) A (call (.builtin "list.append") [.ref hp, x.v]) Q E s := by
  refine append_K F N (Upd.head hne) (fun h' F' N' => h h' F' ?_) (by simp [sizeLine_eq]; omega)
  have e : (its.map It.v).toArray.push x.v = ((its ++ [x]).map It.v).toArray := by simp
  rw [e] at N'
  exact N'
theorem it_pop {Q : Value → Shared → Prop} (F : Fr h₀ L s.heap m) (N : News h₀ L s.heap ((hp, listOf (its.map It.v).toArray n) :: rest)) (hne : ∀ p ∈ rest, p.1 ≠ hp) (h1 : 0 < its.length) (hlen : its.length < 1000)
    (h : ∀ h', Fr h₀ L h' m → News h₀ L h' ((hp, listOf (its.dropLast.map It.v).toArray (n + 1)) :: rest) → Q (getI its (its.length - 1)).v { s with heap := h' }) : wpAny (model prog w) A (call (.builtin "list.pop") [.ref hp]) Q E s := by
  refine kl_pop F N (p := its.dropLast.map It.v) (y := (getI its (its.length - 1)).v) ?_ (Upd.head hne) (by simp [sizeLine_eq]; omega) h
  have e := congrArg (List.map It.v) (snoc_last h1)
  rw [List.map_append] at e
  show kl_last (its.map It.v) = _
  rw [e]
  exact kl_last_snoc _ _
theorem it_truthy {Q : Bool → Shared → Prop} (N : News h₀ L s.heap news) (hm : (hp, listOf (its.map It.v).toArray n) ∈ news) (hlen : its.length < 1000) (h : Q (decide (its ≠ [])) { s with toks := s.toks + 1 + 1 }) :
    wpAny (model prog w) A (truthy (.ref hp)) Q E s := by
  have hl : s.heap.IsList hp (its.map It.v).toArray := ⟨_, (N _ hm).1, rfl, n, rfl⟩
  refine wpAny_truthy_list hl (by simp; omega) ?_
  have e : (!(its.map It.v).toArray.isEmpty) = decide (its ≠ []) := by cases its <;> simp
  rw [e]; exact h
end
section
local macro_rules | `(tactic| walk_at "call ref") => `(tactic| refine Stop.out ?_)
local macro_rules | `(tactic| walk_at "truthy ref") => `(tactic| refine Stop.out ?_)
theorem heappush_call (w : World) (mean : ExcName → Option Value) (mg mb : Str → Option Value)
  (dp un : Nat) (gd : Option (List Code)) (cn : Str) (cs : Scope) (a : Addr) (ccd : Value) (cl : List (Str × Addr)) (outer : List Env) (A₀ : Around) (base h₀ : Heap) (L : Addr) (m : Str → Option Value) (s : Shared) (Q E : Value → Shared → Prop)
  (hp : Addr) (its : List It) (n : Nat) (rest : List (Addr × Obj)) (x : It)
  (B : Below A₀ base outer h₀) (F : Fr h₀ L s.heap m) (X : (hd.heap_39 w.params).In h₀) (N : News h₀ L s.heap ((hp, W.listOf (its.map It.v).toArray n) :: rest)) (T : TopAt mean mg mb h₀) (hk : cs.kind = .function)
  (hne : ∀ p ∈ rest, p.1 ≠ hp) (hmem : ∀ x ∈ its, (x.a, x.obj) ∈ rest) (hx : (x.a, x.obj) ∈ rest) (hlen : its.length < 90) (hdp : dp + 20 < recursionLimit) (hun : un + 80 < cLine)
  (ret : ∀ h' tk', Fr h₀ L h' m → News h₀ L h' ((hp, W.listOf ((hpush its x).map It.v).toArray (n + 1)) :: rest) → Q .none { s with heap := h', toks := tk' }) :
  wpAny (model Challenge.rw_of0033_01.row.prog w) (ktrTop dp un gd cn cs L a ccd cl outer) (call (.ref 98) [.ref hp, x.v]) Q E s := by
  refine wpAny_call ?_
  k_dflt ktr_enter
  k_steps
  rename Fr _ _ _ _ => F1
  rename News _ _ _ _ => N1
  refine it_append F1 N1 hne (by omega) ?_
  intro h2 F2 N2
  clear F1 N1
  k_steps
  refine it_len N2 (.head _) (by simp; omega) ?_
  k_steps
  unfold Stop
  rename Below _ _ _ _ => B11
  rename Fr _ _ _ _ => F11
  rename News _ _ _ _ => N11
  rename Frag.In _ _ => X11
  rename Top _ _ _ _ _ _ => T11
  have e1 : (((its ++ [x]).length : Nat) : Int) - 1 = ((its.length : Nat) : Int) := by simp
  rw [e1]
  k_dflt refine siftdown_call w mean mg mb _ _ _ _ _ _ _ _ _ _ _ _ _ _ _ _ _ hp (its ++ [x]) (n + 1) rest its.length _ _ B11 F11 X11 N11 T11 rfl hne (fun y hy => ?_) (by simp) (by simp; omega) (by ktr_room) (by ktr_units) ?_
  · rcases List.mem_append.mp hy with hy | hy
    · exact hmem y hy
    · rw [List.mem_singleton.mp hy]; exact hx
  · intro h12 tk12 F12 N12
    have e12 : getI (its ++ [x]) its.length = x := by simp [getI]
    rw [e12] at N12
    clear F11 N11
    k_steps
    rename Fr h₀ _ _ _ => F13
    rename News h₀ _ _ _ => N13
    exact ret _ _ F13 N13
theorem heappop_call (w : World) (mean : ExcName → Option Value) (mg mb : Str → Option Value)
  (dp un : Nat) (gd : Option (List Code)) (cn : Str) (cs : Scope) (a : Addr) (ccd : Value) (cl : List (Str × Addr)) (outer : List Env) (A₀ : Around) (base h₀ : Heap) (L : Addr) (m : Str → Option Value) (s : Shared) (Q E : Value → Shared → Prop)
  (hp : Addr) (its : List It) (n : Nat) (rest : List (Addr × Obj))
  (B : Below A₀ base outer h₀) (F : Fr h₀ L s.heap m) (X : (hd.heap_39 w.params).In h₀) (N : News h₀ L s.heap ((hp, W.listOf (its.map It.v).toArray n) :: rest)) (T : TopAt mean mg mb h₀) (hk : cs.kind = .function)
  (hne : ∀ p ∈ rest, p.1 ≠ hp) (hmem : ∀ x ∈ its, (x.a, x.obj) ∈ rest) (h1 : 0 < its.length) (hlen : its.length < 90) (hdp : dp + 20 < recursionLimit) (hun : un + 80 < cLine)
  (ret : ∀ h' tk', Fr h₀ L h' m → News h₀ L h' ((hp, W.listOf ((hpop its).2.map It.v).toArray (n + 1)) :: rest) → Q (hpop its).1.v { s with heap := h', toks := tk' }) :
  wpAny (model Challenge.rw_of0033_01.row.prog w) (ktrTop dp un gd cn cs L a ccd cl outer) (call (.ref 105) [.ref hp]) Q E s := by
  refine wpAny_call ?_
  k_dflt ktr_enter
  k_steps
  rename Fr _ _ _ _ => F1
  rename News _ _ _ _ => N1
  dsimp only
  refine it_pop F1 N1 hne h1 (by omega) ?_
  intro h2 F2 N2
  clear F1 N1
  have hdl : its.dropLast.length = its.length - 1 := List.length_dropLast
  k_steps
  unfold Stop
  rename News _ _ _ _ => N3
  refine it_truthy N3 (.head _) (by omega) ?_
  k_steps
  · rename its.dropLast ≠ [] => hne1
    rename Fr _ _ _ _ => F4
    rename News _ _ _ _ => N4
    have hl0 : 0 < its.dropLast.length := List.length_pos_iff.mpr hne1
    refine it_subN (i := 0) N4 (.head _) hl0 (by omega) ?_ (by with_unfolding_all rfl)
    k_steps
    rename Fr _ _ _ _ => F5
    rename News _ _ _ _ => N5
    refine it_setN (i := 0) F5 N5 hne hl0 (by omega) ?_
    intro h6 F6 N6
    clear F5 N5
    k_steps
    unfold Stop
    rename Below _ _ _ _ => B11
    rename Fr _ _ _ _ => F11
    rename News _ _ _ _ => N11
    rename Frag.In _ _ => X11
    rename Top _ _ _ _ _ _ => T11
    k_dflt refine siftup_call w mean mg mb _ _ _ _ _ _ _ _ _ _ _ _ _ _ _ _ _ hp (its.dropLast.set 0 (getI its (its.length - 1))) (n + 1) rest _ B11 F11 X11 N11 T11 rfl hne (fun y hy => ?_) (by simp only [List.length_set]; omega) (by simp only [List.length_set]; omega) (by ktr_room) (by ktr_units) ?_
    · rcases mem_set_or hy with hy | rfl
      · exact hmem y (List.dropLast_subset _ hy)
      · exact hmem _ (getI_mem (by omega))
    · intro h12 tk12 F12 N12
      have e12 : getI (its.dropLast.set 0 (getI its (its.length - 1))) 0 = getI its (its.length - 1) := getI_set_self hl0
      rw [e12] at N12
      clear F11 N11
      k_steps
      rename Fr h₀ _ _ _ => F13
      rename News h₀ _ _ _ => N13
      have e13 : hpop its = (getI its.dropLast 0, sift0 (getI its (its.length - 1)) (its.dropLast.set 0 (getI its (its.length - 1)))) := by unfold hpop; rw [if_neg hne1]
      rw [e13] at ret
      exact ret _ _ F13 N13
  · rename ¬ its.dropLast ≠ [] => hne0
    have hne1 : its.dropLast = [] := Classical.not_not.mp hne0
    rename Fr h₀ _ _ _ => F13
    rename News h₀ _ _ _ => N13
    have e13 : hpop its = (getI its (its.length - 1), []) := by unfold hpop; rw [if_pos hne1]
    rw [e13] at ret
    rw [hne1] at N13
    exact ret _ _ F13 N13
end
end Mine
end
section
open PySem PySem.W PySem.W.X PyProof.Rows
set_option Elab.async false
set_option maxRecDepth 100000
set_option maxHeartbeats 4000000
namespace Mine
section
variable {prog : Program} {w : World} {A : Around} {h₀ : Heap} {L : Addr} {m : Str → Option Value} {env : Env} {ct elt : Expr} {x : Str} {scope : Scope} {cl : List (Str × Addr)} {s : Shared} {S : List (Addr × Obj) → Prop} {P : Nat → Value → Prop} {Fin : List Value → List (Addr × Obj) → Prop} {news : List (Addr × Obj)}
theorem rest_inv {n : Nat} (J : Nat → List Value → List (Addr × Obj) → Prop)
    (turn : ∀ i ys nw v I oI C oC D m₂ h tk (E' : Value → Shared → Prop), i < n → J i ys nw → P i v → LCg.NsObj oC m₂ → m₂ x = some v → Fr h₀ L h m → News h₀ L h ((I, oI) :: (C, oC) :: (D, LCg.lst ys) :: nw) → LCg.Off3 I C D nw → ((@Ne Nat I C) ∧ (@Ne Nat I D) ∧ (@Ne Nat C D)) →
      wpAny (model prog w) A (eval elt (compEnvC scope cl C env)) (LCg.CompEnd h₀ L m { s with heap := h, toks := tk } I oI C oC D (LCg.lst ys) S (fun y nw' => J (i + 1) (ys ++ [y]) nw')) E' { s with heap := h, toks := tk })
    (fin : ∀ ys nw, J n ys nw → Fin ys nw) (h0 : J 0 [] news) : LCg.CompRest prog w A h₀ L m env elt x scope cl s S P Fin n 0 [] news := by
  have key : ∀ (j i : Nat) (ys : List Value) (nw : List (Addr × Obj)), i + j = n → J i ys nw → LCg.CompRest prog w A h₀ L m env elt x scope cl s S P Fin j i ys nw := by
    intro j
    induction j with
    | zero =>
      intro i ys nw hi hy
      have e : i = n := by omega
      subst e
      exact LCg.CompRest.zero (fin ys nw hy)
    | succ j ih =>
      intro i ys nw hi hy
      refine LCg.CompRest.succ ?_
      intro v I oI C oC D m₂ h tk E' hv hC hx F N off ne
      refine wpAny_mono (turn i ys nw v I oI C oC D m₂ h tk E' (by omega) hy hv hC hx F N off ne) (fun y s₂ hq => ?_) fun _ _ e => e
      obtain ⟨h', tk', nw', e, F', N', off', hS, hj⟩ := hq
      exact ⟨h', tk', nw', e, F', N', off', hS, ih (i + 1) _ _ (by omega) hj⟩
  exact key n 0 [] news (by omega) h0
/-- a comprehension none of whose items pass the test -/
theorem restT_none {n : Nat}
    (turn : ∀ i v I oI C oC D m₂ h tk (E' : Value → Shared → Prop), i < n → P i v → LCg.NsObj oC m₂ → m₂ x = some v → Fr h₀ L h m → News h₀ L h ((I, oI) :: (C, oC) :: (D, LCg.lst []) :: news) → LCg.Off3 I C D news → ((@Ne Nat I C) ∧ (@Ne Nat I D) ∧ (@Ne Nat C D)) →
      wpAny (model prog w) A (isTrue ct (compEnvC scope cl C env) (eval ct (compEnvC scope cl C env))) (fun ok s' => ok = false ∧ LCg.CompEnd h₀ L m { s with heap := h, toks := tk } I oI C oC D (LCg.lst []) S (fun _ nw' => nw' = news) Value.none s') E' { s with heap := h, toks := tk })
    (fin : Fin [] news) : LCt.CompRestT prog w A h₀ L m env ct elt x scope cl s S P Fin n 0 [] news := by
  have key : ∀ (j i : Nat), i + j = n → LCt.CompRestT prog w A h₀ L m env ct elt x scope cl s S P Fin j i [] news := by
    intro j
    induction j with
    | zero =>
      intro i hi
      exact LCt.CompRestT.zero fin
    | succ j ih =>
      intro i hi
      refine LCt.CompRestT.succ ?_
      intro v I oI C oC D m₂ h tk E' hv hC hx F N off ne
      refine wpAny_mono (turn i v I oI C oC D m₂ h tk E' (by omega) hv hC hx F N off ne) (fun ok s₂ hq => ?_) fun _ _ e => e
      obtain ⟨hok, h', tk', nw', e, F', N', off', hS, hj⟩ := hq
      subst hok hj
      simp only [Bool.false_eq_true, if_false]
      exact ⟨h', tk', nw', e, F', N', off', hS, ih (i + 1) (by omega)⟩
  exact key n 0 (by omega)
end
end Mine
end
theorem Mine.offM5 : True := by w_top off; trivial
section
open PySem PySem.W PySem.W.X PyProof.Rows
set_option Elab.async false
set_option maxRecDepth 100000
set_option maxHeartbeats 8000000
namespace Mine
theorem fill5 (w : World) (h : Heap) : (hd.heap_39 w.params).In h → model Challenge.rw_of0033_01.row.prog w = model Challenge.rw_of0033_01.row.prog w := by
  k_fill
  intro _
  rfl
section
local macro_rules | `(tactic| ktr_unf) => `(tactic| (refine' code_defC ?k1 ?k2 ?k3 ?k4 ?k5 ?kA ?kF ?kK ?k6 ?k7 ?k8 ?k9 ?kB ?kD ?_ ?c2 ?c3 ?c4; (case kA => exact rfl); (case kF => exact rfl); (case kK => assumption); (case k1 => k_asm); (case k2 => k_asm); (case k3 => k_asm); (case k4 => k_asm); (case k5 => k_asm); (case k6 => k_is); (case k7 => k_is); (case k8 => ktr_room); (case k9 => exact BindsTo.of_eq rfl); (case kB => exact rfl); (case kD => decide +kernel); (case c2 => exact rfl); (case c3 => exact rfl); (case c4 => exact rfl); k_whole; intro g' L' h' tk' cells' FG' F' N' Y' B' X' T' l1))
local macro_rules | `(tactic| walk_at "call ref") => `(tactic| refine Stop.out ?_)
local macro_rules | `(tactic| walk_at "eval ListComp") => `(tactic| refine Stop.out ?_)
local macro_rules | `(tactic| walk_at "CompSrcT") => `(tactic| refine Stop.out ?_)
theorem heaped_call (w : World) (mean : ExcName → Option Value) (mg mb : Str → Option Value)
  (dp un : Nat) (gd : Option (List Code)) (cn : Str) (cs : Scope) (a : Addr) (ccd : Value) (cl : List (Str × Addr)) (outer : List Env) (A₀ : Around) (base h₀ : Heap) (L : Addr) (m : Str → Option Value) (s : Shared) (Q E : Value → Shared → Prop)
  (hp : Addr) (its : List It) (n : Nat) (rest : List (Addr × Obj))
  (B : Below A₀ base outer h₀) (F : Fr h₀ L s.heap m) (X : (hd.heap_39 w.params).In h₀) (N : News h₀ L s.heap ((hp, W.listOf (its.map It.v).toArray n) :: rest)) (T : TopAt mean mg mb h₀) (hk : cs.kind = .function)
  (hne : ∀ p ∈ rest, p.1 ≠ hp) (hmem : ∀ x ∈ its, (x.a, x.obj) ∈ rest) (hlen : its.length < 90) (hdp : dp + 20 < recursionLimit) (hun : un + 80 < cLine)
  (hheap : ∀ k, 0 < k → k < its.length → (getI its k).lt (getI its ((k - 1) / 2)) = false)
  (ret : ∀ h' tk', Fr h₀ L h' m → News h₀ L h' ((hp, W.listOf (its.map It.v).toArray n) :: rest) → Q (.bool true) { s with heap := h', toks := tk' }) :
  wpAny (model Challenge.rw_of0033_01.row.prog w) (ktrTop dp un gd cn cs L a ccd cl outer) (call (.ref 183) [.ref hp]) Q E s := by
  refine wpAny_call ?_
  k_dflt ktr_unf
  rename CellsAre _ _ _ => Y
  rename News _ _ _ _ => N1
  k_dflt (k_cells Y)
  simp only [List.cons_append, List.nil_append] at N1
  dsimp only
  k_steps
  unfold Stop
  rename Fr _ _ _ _ => F2
  k_dflt (refine LCt.ListComp_T (F₀ := F2) (by with_unfolding_all rfl) (by decide) (by rfl) (by decide) (by rfl) ?_)
  k_steps
  refine it_len N1 (.tail _ (.head _)) (by omega) ?_
  k_steps
  unfold Stop
  rename IsRange _ _ _ _ _ _ _ _ => R3
  rename Fr _ _ _ _ => F3
  rename News _ _ _ _ => N3
  refine LCt.CompSrcT.range (by rfl) F3 N3 R3 (small_one (by omega) (by omega) (by omega) (by omega)) (rangeSize_nat _ _) (by rw [sizeLine_eq]; omega) ?_
  intro g4
  refine restT_none ?_ ?_
  · intro i v I oI C oC D m2 h5 tk5 E5 hi hv hC hx F5 N5 off ne
    obtain ⟨t, rfl⟩ := hv
    clear F3 N3
    have ei : (1 : Int) + (i : Int) = ((i + 1 : Nat) : Int) := by omega
    have ej : (((i + 1 : Nat) : Int) - 1).fdiv 2 = ((i / 2 : Nat) : Int) := by rw [Int.fdiv_eq_ediv_of_nonneg _ (by omega)]; omega
    rw [ei] at hx
    k_steps
    refine it_subN N5 (by k_mem) (by omega) (by omega) ?_ (by with_unfolding_all rfl)
    k_steps
    rw [ej]
    refine it_subN N5 (by k_mem) (by omega) (by omega) ?_ (by with_unfolding_all rfl)
    have hg : ∀ x ∈ its, h5.get? x.a = some x.obj := fun x hx => (N5 _ (.tail _ (.tail _ (.tail _ (.tail _ (.tail _ (hmem x hx))))))).1
    refine lt_pairs (hg _ (getI_mem (by omega))) (hg _ (getI_mem (by omega))) (by ktr_units) ?_
    have hf := hheap (i + 1) (by omega) (by omega)
    rw [show (i + 1 - 1) / 2 = i / 2 by omega] at hf
    rw [hf]
    k_steps
    exact LCg.CompEnd.intro F5 N5 _ (fun p hp => hp) off trivial rfl
  · unfold LCg.FinE
    intro D6 h6 tk6 F6 N6 o6
    clear F3 N3
    k_steps
    rename Fr h₀ _ _ _ => F13
    rename News h₀ _ _ _ => N13
    exact ret _ _ F13 (fun p hp => N13 p (.tail _ (.tail _ (.tail _ hp))))
end
end Mine
end
section
open PySem PySem.W PySem.W.X PyProof.Rows
set_option Elab.async false
set_option maxRecDepth 100000
set_option maxHeartbeats 4000000
namespace Mine
inductive FEndI {σ : Type} (h₀ : Heap) (L : Addr) (s : Heap → Nat → Shared) (own : List (Addr × Obj)) (Led : σ → List (Addr × Obj)) (ps : σ → List (Str × Value)) (P : Nat → σ → Prop) (i : Nat) (s₂ : Shared) : Prop where
  | mk (c' : σ) (h' : Heap) (tk : Nat) (m' : Str → Option Value) (e : s₂ = s h' tk) (F : Fr h₀ L h' m') (N : News h₀ L h' (Led c' ++ own)) (hs : ∀ p ∈ own, ∀ q ∈ Led c', p.1 ≠ q.1) (hk : ∀ p ∈ ps c', m' p.1 = some p.2) (hp : P (i + 1) c')
def FEnd {σ : Type} (h₀ : Heap) (L : Addr) (s : Shared) (own : List (Addr × Obj)) (Led : σ → List (Addr × Obj)) (ps : σ → List (Str × Value)) (P : Nat → σ → Prop) (i : Nat) (s₂ : Shared) : Prop :=
  FEndI h₀ L (fun h' tk => { s with heap := h', toks := tk }) own Led ps P i s₂
def FPost {σ : Type} (h₀ : Heap) (L : Addr) (s : Shared) (own : List (Addr × Obj)) (Led : σ → List (Addr × Obj)) (ps : σ → List (Str × Value)) (P : Nat → σ → Prop) (i : Nat) (Q : Flow → Shared → Prop) (f : Flow) (s₂ : Shared) : Prop :=
  match f with
  | .ret v => Q (.ret v) s₂
  | .brk => Q .next s₂
  | _ => FEnd h₀ L s own Led ps P i s₂
theorem fend {σ : Type} {h₀ : Heap} {L : Addr} {s : Shared} {own : List (Addr × Obj)} {Led : σ → List (Addr × Obj)} {ps : σ → List (Str × Value)} {P : Nat → σ → Prop} {i : Nat} {h' : Heap} {tk : Nat} {m' : Str → Option Value} (c' : σ)
    (F : Fr h₀ L h' m') (N : News h₀ L h' (Led c' ++ own)) (hs : ∀ p ∈ own, ∀ q ∈ Led c', p.1 ≠ q.1) (hk : ∀ p ∈ ps c', m' p.1 = some p.2) (hp : P (i + 1) c') : FEnd h₀ L s own Led ps P i { s with heap := h', toks := tk } := ⟨c', h', tk, m', rfl, F, N, hs, hk, hp⟩
inductive ForAt (prog : Program) (w : World) (A : Around) (h₀ : Heap) (env : Env) (target : Expr) (body orelse : List Stmt) (Q : Flow → Shared → Prop) (E : Value → Shared → Prop) (it : Value) (s₂ : Shared) : Prop where
  | mk (σ : Type) (I : Addr) (fp wr : List Addr) (n : Nat) (Pv Md : Nat → Value → Heap → Prop) (St : Nat → Heap → Prop) (Led : σ → List (Addr × Obj)) (ps : σ → List (Str × Value)) (P : Nat → σ → Prop) (c₀ : σ) (m : Str → Option Value)
    (q1 : it = .ref I)
    (q2 : KTurns prog w A target I fp wr n Pv Md St)
    (q3 : env.locals ∉ wr)
    (q4 : ∀ b ∈ wr, h₀.get? b = none)
    (q5 : ∀ q ∈ Led c₀, q.1 ∉ wr)
    (q6 : ∀ i h, St i h → ∀ b ∈ wr, ∃ o, h.get? b = some o)
    (q7 : ∀ i h h' c, St i h → (∀ b ∈ wr, ∀ o, h.get? b = some o → h'.get? b = some o) → (∀ b o, h₀.get? b = some o → h'.get? b = some o) → News h₀ env.locals h' (Led c) → St i h')
    (q8 : St 0 s₂.heap)
    (q9 : Fr h₀ env.locals s₂.heap m)
    (q10 : News h₀ env.locals s₂.heap (Led c₀))
    (q11 : ∀ p ∈ ps c₀, m p.1 = some p.2)
    (q12 : P 0 c₀)
    (q13 : ∀ i v c (u : Str → Option Value) h tk own, i < n → Pv i v h → P i c → (∀ p ∈ own, ∀ q ∈ Led c, p.1 ≠ q.1) → Fr h₀ env.locals h (kstB u (ps c)) → News h₀ env.locals h (Led c ++ own) →
      wpAny (model prog w) A (assign target env v) (fun _ s₃ => wpAny (model prog w) A (execs body env) (FPost h₀ env.locals s₂ own Led ps P i Q) E s₃) E { s₂ with heap := h, toks := tk })
    (q14 : ∀ c (u : Str → Option Value) h tk, P n c → Fr h₀ env.locals h (kstB u (ps c)) → News h₀ env.locals h (Led c) → wpAny (model prog w) A (execs orelse env) Q E { s₂ with heap := h, toks := tk })
theorem runs_toks {M : Model} {Γ : Ctx} {p : Pos} {t : Sem PySem.Fin} {fs : List Frame} {s s' : Shared} {e : End} (h : Runs M Γ p t fs s e s') : s.toks ≤ s'.toks := by
  induction h <;> (try simp only [Shared.setGen] at *) <;> omega
theorem wakes_toks {M : Model} {Γ : Ctx} {p : Pos} {g : Nat} {r : Resume} {s s' : Shared} {res : GenResult} (h : Wakes M Γ p g r s res s') : s.toks ≤ s'.toks := by
  unfold Wakes at h
  split at h
  · exact h.elim
  · split at h
    · obtain ⟨e₁, s₁, hr, _, _, rfl⟩ := h
      have := runs_toks hr
      exact this
    · rw [h.2]; exact Nat.le_refl _
    · rw [h.2]; exact Nat.le_refl _
  · obtain ⟨e₁, s₁, hr, _, _, rfl⟩ := h
    have := runs_toks hr
    exact this
  · rw [h.2]; exact Nat.le_refl _
  · rw [h.2]; exact Nat.le_refl _
theorem wp_toks {α : Type} {M : Model} {Γ : Ctx} {T : Nat} {Q : α → Pos → Shared → Prop} {E : Value → Pos → Shared → Prop} (t : Sem α) : ∀ p s, T ≤ s.toks → Sem.wp M Γ t Q E p s → Sem.wp M Γ t (fun a p s => Q a p s ∧ T ≤ s.toks) (fun e p s => E e p s ∧ T ≤ s.toks) p s := by
  induction t with
  | pure a => intro p s hT h; rw [Sem.wp] at h ⊢; exact ⟨h, hT⟩
  | raise e => intro p s hT h; rw [Sem.wp] at h ⊢; exact ⟨h, hT⟩
  | unsupported w => intro p s hT h; rw [Sem.wp] at h; exact h.elim
  | finish e => intro p s hT h; rw [Sem.wp] at h; exact h.elim
  | rule t k ih => intro p s hT h; rw [Sem.wp] at h ⊢; exact ih _ _ _ hT h
  | «at» q k ih => intro p s hT h; rw [Sem.wp] at h ⊢; exact ih _ _ _ hT h
  | load a q k ih => intro p s hT h; rw [Sem.wp] at h ⊢; obtain ⟨o, ho, h⟩ := h; exact ⟨o, ho, ih _ _ _ hT h⟩
  | update a q f k ih => intro p s hT h; rw [Sem.wp] at h ⊢; exact ⟨h.1, ih _ _ _ hT h.2⟩
  | alloc o k ih => intro p s hT h; rw [Sem.wp] at h ⊢; exact ih _ _ _ hT h
  | loadIfAlive a k ih => intro p s hT h; rw [Sem.wp] at h ⊢; exact ih _ _ _ hT h
  | point l k ih => intro p s hT h; rw [Sem.wp] at h ⊢; exact ih _ _ _ hT h
  | register a k ih => intro p s hT h; rw [Sem.wp] at h; exact h.elim
  | fresh k ih => intro p s hT h; rw [Sem.wp] at h ⊢; exact ih _ _ _ (Nat.le_succ_of_le hT) h
  | ask k ih => intro p s hT h; rw [Sem.wp] at h ⊢; exact ih _ _ _ hT h
  | choose src n k ih => intro p s hT h; rw [Sem.wp] at h ⊢; exact ⟨h.1, ih _ _ _ hT h.2⟩
  | os q l k ih => intro p s hT h; rw [Sem.wp] at h ⊢; exact ih _ _ _ hT h
  | call c hd g l k ih =>
    intro p s hT h; rw [Sem.wp] at h ⊢
    obtain ⟨r, s', hr, h⟩ := h
    exact ⟨r, s', hr, ih _ _ _ (Nat.le_trans hT (runs_toks hr)) h⟩
  | handled own k ih => intro p s hT h; rw [Sem.wp] at h ⊢; exact ih _ _ _ hT h
  | newGen c k ih => intro p s hT h; rw [Sem.wp] at h ⊢; exact ih _ _ _ hT h
  | genState g k ih => intro p s hT h; rw [Sem.wp] at h ⊢; obtain ⟨st, hs, h⟩ := h; exact ⟨st, hs, ih _ _ _ hT h⟩
  | resume g r l k ih =>
    intro p s hT h; rw [Sem.wp] at h ⊢
    obtain ⟨res, s', hr, h⟩ := h
    exact ⟨res, s', hr, ih _ _ _ (Nat.le_trans hT (wakes_toks hr)) h⟩
  | yield v g l k ih => intro p s hT h; rw [Sem.wp] at h; exact h.elim
  | stack k ih => intro p s hT h; rw [Sem.wp] at h ⊢; exact ih _ _ _ hT h
  | fork c k ih => intro p s hT h; rw [Sem.wp] at h; exact h.elim
  | thread k ih => intro p s hT h; rw [Sem.wp] at h ⊢; exact ih _ _ _ hT h
  | await a t d l k ih => intro p s hT h; rw [Sem.wp] at h; exact h.elim
theorem wpAny_toks {α : Type} {M : Model} {A : Around} {T : Nat} {t : Sem α} {Q : α → Shared → Prop} {E : Value → Shared → Prop} {s : Shared} (hT : T ≤ s.toks) (h : wpAny M A t Q E s) :
    wpAny M A t (fun a s' => Q a s' ∧ T ≤ s'.toks) (fun e s' => E e s' ∧ T ≤ s'.toks) s := fun Γ p hΓ => wp_toks t p s hT (h Γ p hΓ)
/-- a tree may use that the tokens only grow -/
theorem wpAny_with {α : Type} {M : Model} {A : Around} {T : Nat} {t : Sem α} {Q : α → Shared → Prop} {E : Value → Shared → Prop} {s : Shared} (hT : T ≤ s.toks)
    (h : wpAny M A t (fun a s' => T ≤ s'.toks → Q a s') E s) : wpAny M A t Q E s :=
  wpAny_mono (wpAny_toks hT h) (fun _ _ x => x.1 x.2) fun _ _ x => x.1
structure TTurns (prog : Program) (w : World) (A : Around) (target : Expr) (I : Addr) (wr : List Addr) (n T : Nat) (P Md : Nat → Value → Heap → Prop) (St : Nat → Heap → Prop) : Prop where
  item : ∀ i (s : Shared) (Q : Option Value → Shared → Prop) (E : Value → Shared → Prop), i < n → T ≤ s.toks → St i s.heap →
    (∀ v h' tk, Md i v h' → T ≤ tk → (∀ b o, b ∉ wr → s.heap.get? b = some o → h'.get? b = some o) → Q (some v) { s with heap := h', toks := tk }) → wpAny (model prog w) A (pyNext (.ref I)) Q E s
  go : ∀ i v (s : Shared) (Q : Unit → Shared → Prop) (E : Value → Shared → Prop), Md i v s.heap →
    (∀ h', P i v h' → St (i + 1) h' → (∀ b o, b ∉ wr → s.heap.get? b = some o → h'.get? b = some o) → Q () { s with heap := h' }) → wpAny (model prog w) A (letOwnedTupleGo target (.ref I) v) Q E s
  done : ∀ (s : Shared) (Q : Option Value → Shared → Prop) (E : Value → Shared → Prop), St n s.heap →
    (∀ h' tk, (∀ b o, b ∉ wr → s.heap.get? b = some o → h'.get? b = some o) → Q none { s with heap := h', toks := tk }) → wpAny (model prog w) A (pyNext (.ref I)) Q E s
inductive ForAtT (prog : Program) (w : World) (A : Around) (h₀ : Heap) (env : Env) (target : Expr) (body orelse : List Stmt) (Q : Flow → Shared → Prop) (E : Value → Shared → Prop) (it : Value) (s₂ : Shared) : Prop where
  | mk (σ : Type) (I : Addr) (wr : List Addr) (n T : Nat) (Pv Md : Nat → Value → Heap → Prop) (St : Nat → Heap → Prop) (Led : σ → List (Addr × Obj)) (ps : σ → List (Str × Value)) (P : Nat → σ → Prop) (c₀ : σ) (m : Str → Option Value)
    (q1 : it = .ref I)
    (q2 : TTurns prog w A target I wr n T Pv Md St)
    (q3 : T ≤ s₂.toks)
    (q4 : env.locals ∉ wr)
    (q5 : ∀ b ∈ wr, h₀.get? b = none)
    (q6 : ∀ q ∈ Led c₀, q.1 ∉ wr)
    (q7 : ∀ i h, St i h → ∀ b ∈ wr, ∃ o, h.get? b = some o)
    (q8 : ∀ i h h' c, St i h → (∀ b ∈ wr, ∀ o, h.get? b = some o → h'.get? b = some o) → (∀ b o, h₀.get? b = some o → h'.get? b = some o) → News h₀ env.locals h' (Led c) → St i h')
    (q9 : St 0 s₂.heap)
    (q10 : Fr h₀ env.locals s₂.heap m)
    (q11 : News h₀ env.locals s₂.heap (Led c₀))
    (q12 : ∀ p ∈ ps c₀, m p.1 = some p.2)
    (q13 : P 0 c₀)
    (q14 : ∀ i v c (u : Str → Option Value) h tk own, i < n → Pv i v h → P i c → T ≤ tk → (∀ p ∈ own, ∀ q ∈ Led c, p.1 ≠ q.1) → Fr h₀ env.locals h (kstB u (ps c)) → News h₀ env.locals h (Led c ++ own) →
      wpAny (model prog w) A (assign target env v) (fun _ s₃ => wpAny (model prog w) A (execs body env) (FPost h₀ env.locals s₂ own Led ps P i Q) E s₃) E { s₂ with heap := h, toks := tk })
    (q15 : ∀ c (u : Str → Option Value) h tk, P n c → Fr h₀ env.locals h (kstB u (ps c)) → News h₀ env.locals h (Led c) → wpAny (model prog w) A (execs orelse env) Q E { s₂ with heap := h, toks := tk })
theorem for_loopT {prog : Program} {w : World} {A : Around} {s : Shared} {env : Env} {h₀ : Heap} {target : Expr} {body orelse : List Stmt} {R : Result → Shared → Prop} {it : Value}
    (h : ForAtT prog w A h₀ env target body orelse (fun f s' => R (.ok f) s') (notedBy (model prog w) A env fun e s' => R (.error e) s') it s) :
    codeAny (model prog w) A (.forLoop target it body orelse env) R s := by
  obtain ⟨σ, I, wr, n, T, Pv, Md, St, Led, ps, P, c₀, m, rfl, W, hT, hLw, hwr, hnw, hob, hSt, hst, F, N, hk, hp, turn, done⟩ := h
  have old : ∀ b o, h₀.get? b = some o → b ∉ wr := fun b o e hb => by rw [hwr b hb] at e; cases e
  refine codeAny_forLoop_any
    (fun k s' => ∃ h' tk m' c i, s' = { s with heap := h', toks := tk } ∧ T ≤ tk ∧ St i h' ∧ Fr h₀ env.locals h' m' ∧ News h₀ env.locals h' (Led c) ∧ (∀ q ∈ Led c, q.1 ∉ wr) ∧ (∀ p ∈ ps c, m' p.1 = some p.2) ∧ P i c ∧ i ≤ n ∧ k = n + 1 - i) ?_ (n + 1)
    ⟨s.heap, s.toks, m, c₀, 0, rfl, hT, hst, F, N, hnw, hk, hp, Nat.zero_le _, rfl⟩
  rintro k s' ⟨h', tk, m', c, i, rfl, hTk, hst', F', N', hnw', hk', hP', hi, rfl⟩
  have next : ∀ h₁ : Heap, (∀ b o, b ∉ wr → h'.get? b = some o → h₁.get? b = some o) → Fr h₀ env.locals h₁ m' ∧ News h₀ env.locals h₁ (Led c) := fun h₁ hk₁ =>
    ⟨⟨F'.ns.at' fun o e => hk₁ _ o hLw e, fun b o e => hk₁ b o (old b o e) (F'.keep b o e), F'.above⟩, fun p hp => ⟨hk₁ _ _ (hnw' p hp) (N' p hp).1, (N' p hp).2⟩⟩
  by_cases hlt : i < n
  · refine W.item i _ _ _ hlt hTk hst' fun v h₁ tk₁ hMd hTk₁ hk₁ => ?_
    refine W.go i v _ _ _ hMd fun h₂ hPv hst₂ hk₂ => ?_
    obtain ⟨F₂, N₂⟩ := next h₂ fun b o hb x => hk₂ b o hb (hk₁ b o hb x)
    have Nown : News h₀ env.locals h₂ (PyProof.Rows.ownOf h₀ wr h₂) := news_ownOf hLw
    have hsep : ∀ p ∈ PyProof.Rows.ownOf h₀ wr h₂, ∀ q ∈ Led c, p.1 ≠ q.1 := fun p hp q hq e => hnw' q hq (e ▸ ownOf_sub p hp)
    have N₃ : News h₀ env.locals h₂ (Led c ++ PyProof.Rows.ownOf h₀ wr h₂) := fun p hp => (List.mem_append.mp hp).elim (N₂ p) (Nown p)
    refine wpAny_with (T := T) hTk₁ (wpAny_mono (turn i v c m' h₂ tk₁ (PyProof.Rows.ownOf h₀ wr h₂) hlt hPv hP' hTk₁ hsep (fr_names F₂ hk') N₃) (fun _ s₂ h₂' => ?_) fun _ _ e => e)
    intro hT2
    refine wpAny_with (T := T) hT2 (wpAny_mono h₂' (fun f s₃ h₃ => ?_) fun _ _ e => e)
    intro hT3
    have fin : FEnd h₀ env.locals s (PyProof.Rows.ownOf h₀ wr h₂) Led ps P i s₃ → ∃ m, m < n + 1 - i ∧ ∃ h' tk m' c i, s₃ = { s with heap := h', toks := tk } ∧ T ≤ tk ∧ St i h' ∧ Fr h₀ env.locals h' m' ∧ News h₀ env.locals h' (Led c) ∧ (∀ q ∈ Led c, q.1 ∉ wr) ∧ (∀ p ∈ ps c, m' p.1 = some p.2) ∧ P i c ∧ i ≤ n ∧ m = n + 1 - i := by
      rintro ⟨c', h₃', tk₃, m₂, rfl, F₃, N₃, hs₃, hk₃, hP₃⟩
      have N₄ : News h₀ env.locals h₃' (Led c') := fun p hp => N₃ p (List.mem_append.mpr (.inl hp))
      refine ⟨n + 1 - (i + 1), by omega, h₃', tk₃, m₂, c', i + 1, rfl, hT3, ?_, F₃, N₄, fun q hq hb => ?_, hk₃, hP₃, hlt, rfl⟩
      · refine hSt _ _ _ c' hst₂ (fun b hb o e => ?_) F₃.keep N₄
        exact (N₃ _ (List.mem_append.mpr (.inr (mem_ownOf hb (hwr b hb) e)))).1
      · obtain ⟨o, ho⟩ := hob _ _ hst₂ _ hb
        exact hs₃ _ (mem_ownOf hb (hwr _ hb) ho) q hq rfl
    cases f with
    | ret v => exact h₃
    | brk => exact h₃
    | cont => exact fin h₃
    | next => exact fin h₃
  · have hin : i = n := by omega
    subst hin
    refine W.done _ _ _ hst' fun h₁ tk₁ hk₁ => ?_
    obtain ⟨F₁, N₁⟩ := next h₁ hk₁
    exact done c m' h₁ tk₁ hP' (fr_names F₁ hk') N₁
theorem For_atT {prog : Program} {w : World} {A : Around} {E : Value → Shared → Prop} {s : Shared} {env : Env} {h₀ : Heap} {target iter : Expr} {body orelse : List Stmt} {pos : Pos} {Q : Flow → Shared → Prop} {m₀ : Str → Option Value} (_F : Fr h₀ env.locals s.heap m₀)
    (h : wpAny (model prog w) A (eval iter env) (fun xv s₁ => wpAny (model prog w) A (pyIter xv) (fun it s₂ => ForAtT prog w A h₀ env target body orelse Q E it s₂) E s₁) E s)
    (hE : PassesOwn (model prog w) A env E) (hs : ∀ x, foldedSetIterable iter env x = pure x := by intro _; rfl) :
    wpAny (model prog w) A (exec (.For target iter body orelse pos) env) Q E s := by
  refine wpAny_For (wpAny_mono h (fun xv s₁ h₁ => wpAny_mono h₁ (fun it s₂ h₂ => ?_) fun _ _ e => e) fun _ _ e => e) hs
  obtain ⟨σ, I, wr, n, T, Pv, Md, St, Led, ps, P, c₀, m, rfl, W, hT, hLw, hwr, hnw, hob, hSt, hst, F, N, hk, hp, turn, done⟩ := h₂
  refine for_loopT (R := fun r s' => match r with | .ok f => Q f s' | .error e => cameBackBy (model prog w) A env E e s') ⟨σ, I, wr, n, T, Pv, Md, St, Led, ps, P, c₀, m, rfl, W, hT, hLw, hwr, hnw, hob, hSt, hst, F, N, hk, hp, ?_, ?_⟩
  · intro i v c u h tk own a b c' t d e f
    exact wpAny_mono (turn i v c u h tk own a b c' t d e f) (fun _ _ x => wpAny_passesOwn hE x) hE
  · intro c u h tk a b d
    exact wpAny_passesOwn hE (done c u h tk a b d)
theorem ForAt.toT {prog : Program} {w : World} {A : Around} {h₀ : Heap} {env : Env} {target : Expr} {body orelse : List Stmt} {Q : Flow → Shared → Prop} {E : Value → Shared → Prop} {it : Value} {s : Shared} :
    ForAt prog w A h₀ env target body orelse Q E it s → ForAtT prog w A h₀ env target body orelse Q E it s
  | ⟨σ, I, _, wr, n, Pv, Md, St, Led, ps, P, c₀, m, e, W, hLw, hwr, hnw, hob, hSt, hst, F, N, hk, hp, turn, done⟩ =>
    ⟨σ, I, wr, n, 0, Pv, Md, St, Led, ps, P, c₀, m, e, ⟨fun i s Q E a _ b k => W.item i s Q E a b fun v h t x y => k v h t x (Nat.zero_le _) y, fun i v s Q E a k => W.go i v s Q E a k, fun s Q E a k => W.done s Q E a k⟩,
      Nat.zero_le _, hLw, hwr, hnw, hob, hSt, hst, F, N, hk, hp, fun i v c u h tk own a b d _ => turn i v c u h tk own a b d, done⟩
theorem For_at {prog : Program} {w : World} {A : Around} {E : Value → Shared → Prop} {s : Shared} {env : Env} {h₀ : Heap} {target iter : Expr} {body orelse : List Stmt} {pos : Pos} {Q : Flow → Shared → Prop} {m₀ : Str → Option Value} (F : Fr h₀ env.locals s.heap m₀)
    (h : wpAny (model prog w) A (eval iter env) (fun xv s₁ => wpAny (model prog w) A (pyIter xv) (fun it s₂ => ForAt prog w A h₀ env target body orelse Q E it s₂) E s₁) E s)
    (hE : PassesOwn (model prog w) A env E) (hs : ∀ x, foldedSetIterable iter env x = pure x := by intro _; rfl) :
    wpAny (model prog w) A (exec (.For target iter body orelse pos) env) Q E s :=
  For_atT F (wpAny_mono h (fun _ _ h₁ => wpAny_mono h₁ (fun _ _ h₂ => h₂.toT) fun _ _ e => e) fun _ _ e => e) hE hs
end Mine
end
section
open PySem PySem.W PySem.W.X PyProof.Rows
set_option Elab.async false
set_option maxRecDepth 100000
set_option maxHeartbeats 4000000
namespace Mine
section
variable {prog : Program} {w : World} {A : Around} {E : Value → Shared → Prop} {s : Shared}
theorem letGo_plain {target : Expr} {I : Addr} {o : Obj} {n : String} {v : Value} {Q : Unit → Shared → Prop} (ho : s.heap.get? I = some o) (hc : o.cls = .type n)
    (hn : (["enumerate", "zip", "dict_itemiterator", "dict_reverseitemiterator", "odict_iterator", "itertools.zip_longest", "itertools.pairwise"].contains n) = false) (hQ : Q () s) :
    wpAny (model prog w) A (letOwnedTupleGo target (.ref I) v) Q E s := by
  have key : wpAny (model prog w) A (do
      let (.ref r, .ref a) := (Value.ref I, v) | return
      let o ← load r
      match o.cls, o.data with
      | .type n, .fields vs =>
        if ["enumerate", "zip", "dict_itemiterator", "dict_reverseitemiterator", "odict_iterator", "itertools.zip_longest", "itertools.pairwise"].contains n && vs[0]? == some (rawInt a) then
          rule "for.unpacks-the-owned-tuple"
          updateField r 0 .none
      | _, _ => pure ()) Q E s := by
    cases v with
    | ref a =>
      refine wpAny_bind (wpAny_load ho ?_)
      rw [hc]
      cases o.data with
      | fields vs => dsimp only; rw [if_neg (by rw [hn, Bool.false_and]; exact Bool.false_ne_true)]; exact wpAny_pure hQ
      | _ => exact wpAny_pure hQ
    | _ => exact wpAny_pure hQ
  unfold letOwnedTupleGo
  split
  · exact key
  · exact key
  · exact wpAny_pure hQ
end
section
variable {prog : Program} {w : World} {A : Around} {E : Value → Shared → Prop} {s : Shared} {env : Env} {h₀ : Heap} {target : Expr} {body orelse : List Stmt} {Q : Flow → Shared → Prop} {m : Str → Option Value}
theorem fresh_out {h : Heap} {L : Addr} {m : Str → Option Value} (F : Fr h₀ L h m) (b : Addr) (hb : h.objs.size ≤ b) : h₀.get? b = none := by
  cases q : h₀.get? b with
  | none => rfl
  | some o' => exact absurd (Heap.lt_size (F.keep _ _ q)) (Nat.not_lt.mpr hb)
/-- a for over a tuple of the base -/
theorem iter_tuple {σ : Type} {t : Addr} {items : Array Value} (Led : σ → List (Addr × Obj)) (ps : σ → List (Str × Value)) (P : Nat → σ → Prop) (c₀ : σ) (hh : A.handled = none) (ht : h₀.IsTuple t items)
    (F : Fr h₀ env.locals s.heap m) (N : News h₀ env.locals s.heap (Led c₀)) (hk : ∀ p ∈ ps c₀, m p.1 = some p.2) (hp : P 0 c₀)
    (turn : ∀ i v c (u : Str → Option Value) h tk own, i < items.size → items[i]? = some v → P i c → (∀ p ∈ own, ∀ q ∈ Led c, p.1 ≠ q.1) → Fr h₀ env.locals h (kstB u (ps c)) → News h₀ env.locals h (Led c ++ own) →
      wpAny (model prog w) A (assign target env v) (fun _ s₃ => wpAny (model prog w) A (execs body env) (FPost h₀ env.locals s own Led ps P i Q) E s₃) E { s with heap := h, toks := tk })
    (done : ∀ c (u : Str → Option Value) h tk, P items.size c → Fr h₀ env.locals h (kstB u (ps c)) → News h₀ env.locals h (Led c) → wpAny (model prog w) A (execs orelse env) Q E { s with heap := h, toks := tk }) :
    wpAny (model prog w) A (pyIter (.ref t)) (fun it s₂ => ForAt prog w A h₀ env target body orelse Q E it s₂) E s := by
  have hts : s.heap.IsTuple t items := ht.at fun o e => F.keep t o e
  have hlt : t < s.heap.objs.size := by obtain ⟨o, ho, _⟩ := hts; exact Heap.lt_size ho
  refine wpAny_pyIter_tuple hts ?_
  have up : ∀ b o, s.heap.get? b = some o → (s.heap.push { cls := .type "tuple_iterator", data := .fields #[.ref t, .int 0 0] }).get? b = some o := fun b o e => Heap.get?_push_of_some _ e
  have W := Walks.tuple (prog := prog) (w := w) hh s.heap.objs.size t (Nat.ne_of_lt hlt) items
  refine ⟨σ, s.heap.objs.size, _, _, items.size, _, _, _, Led, ps, P, c₀, m, rfl, KTurns.ofWalks (target := target) W ?_, ?_, ?_, ?_, ?_, ?_, ⟨⟨_, Heap.get?_push_size _ rfl, rfl, rfl⟩, hts.push _⟩, F.push _, N.grown up, hk, hp, turn, done⟩
  · intro i v s' Q' E' st hQ
    obtain ⟨o, ho, hc, _⟩ := st.1
    exact letGo_plain ho hc (by decide) hQ
  · intro hm; exact absurd F.ns.lt ((List.mem_singleton.mp hm) ▸ Nat.lt_irrefl _)
  · intro b hb; rw [List.mem_singleton.mp hb]; exact next_is_new F
  · intro q hq hm; exact absurd (Heap.lt_size (N q hq).1) ((List.mem_singleton.mp hm) ▸ Nat.lt_irrefl _)
  · intro i h st b hb
    obtain ⟨o, ho, _⟩ := st.1
    rw [List.mem_singleton.mp hb]; exact ⟨o, ho⟩
  · intro i h h' c st hw hk₀ _
    exact ⟨st.1.at fun o e => hw _ (by simp) o e, ht.at fun o e => hk₀ t o e⟩
/-- a for over a range by ones -/
theorem iter_range {σ : Type} {r : Addr} {a b : Int} {t u v : Tok} {n : Nat} (Led : σ → List (Addr × Obj)) (ps : σ → List (Str × Value)) (P : Nat → σ → Prop) (c₀ : σ) (hh : A.handled = none)
    (hr : IsRange s.heap r a b 1 t u v) (hsm : Builtin.Range.small a b 1 = true) (hn : Builtin.Range.rangeSize a b 1 = ((n : Nat) : Int))
    (F : Fr h₀ env.locals s.heap m) (N : News h₀ env.locals s.heap (Led c₀)) (hk : ∀ p ∈ ps c₀, m p.1 = some p.2) (hp : P 0 c₀)
    (turn : ∀ i c (u : Str → Option Value) h tk tv own, i < n → P i c → (∀ p ∈ own, ∀ q ∈ Led c, p.1 ≠ q.1) → Fr h₀ env.locals h (kstB u (ps c)) → News h₀ env.locals h (Led c ++ own) →
      wpAny (model prog w) A (assign target env (.int (a + (i : Int)) tv)) (fun _ s₃ => wpAny (model prog w) A (execs body env) (FPost h₀ env.locals s own Led ps P i Q) E s₃) E { s with heap := h, toks := tk })
    (done : ∀ c (u : Str → Option Value) h tk, P n c → Fr h₀ env.locals h (kstB u (ps c)) → News h₀ env.locals h (Led c) → wpAny (model prog w) A (execs orelse env) Q E { s with heap := h, toks := tk }) :
    wpAny (model prog w) A (pyIter (.ref r)) (fun it s₂ => ForAt prog w A h₀ env target body orelse Q E it s₂) E s := by
  refine wpAny_pyIter_range hr hsm ?_
  have W := LCg.range_walks (prog := prog) (w := w) (I := s.heap.objs.size) hh a n
  refine ⟨σ, s.heap.objs.size, _, _, n, _, _, _, Led, ps, P, c₀, m, rfl, KTurns.ofWalks (target := target) W ?_, ?_, ?_, ?_, ?_, ?_, (by show IsRangeIter _ _ _ _ _; rw [hn]; simpa using Heap.get?_push_size _ rfl), F.push _, N.grown fun _ _ e => Heap.get?_push_of_some _ e, hk, hp, ?_, done⟩
  · intro i v s' Q' E' st hQ
    exact letGo_plain (o := _) (n := "range_iterator") st rfl (by decide) hQ
  · intro hm; exact absurd F.ns.lt ((List.mem_singleton.mp hm) ▸ Nat.lt_irrefl _)
  · intro b hb; rw [List.mem_singleton.mp hb]; exact next_is_new F
  · intro q hq hm; exact absurd (Heap.lt_size (N q hq).1) ((List.mem_singleton.mp hm) ▸ Nat.lt_irrefl _)
  · intro i h st b hb
    rw [List.mem_singleton.mp hb]; exact ⟨_, st⟩
  · intro i h h' c st hw _ _
    exact hw _ (by simp) _ st
  · intro i v c u h tk own hi hv
    obtain ⟨tv, rfl⟩ := hv
    exact turn i c u h tk tv own hi
/-- a for over a text's signs -/
theorem iter_str {σ : Type} {x : Str} {t : Tok} (Led : σ → List (Addr × Obj)) (ps : σ → List (Str × Value)) (P : Nat → σ → Prop) (c₀ : σ) (hh : A.handled = none) (hasc : x.cps.all (· < 128) = true)
    (F : Fr h₀ env.locals s.heap m) (N : News h₀ env.locals s.heap (Led c₀)) (hk : ∀ p ∈ ps c₀, m p.1 = some p.2) (hp : P 0 c₀)
    (turn : ∀ i ch c (u : Str → Option Value) h tk tv own, i < x.cps.size → x.cps[i]? = some ch → P i c → (∀ p ∈ own, ∀ q ∈ Led c, p.1 ≠ q.1) → Fr h₀ env.locals h (kstB u (ps c)) → News h₀ env.locals h (Led c ++ own) →
      wpAny (model prog w) A (assign target env (.str ⟨#[ch]⟩ tv)) (fun _ s₃ => wpAny (model prog w) A (execs body env) (FPost h₀ env.locals s own Led ps P i Q) E s₃) E { s with heap := h, toks := tk })
    (done : ∀ c (u : Str → Option Value) h tk, P x.cps.size c → Fr h₀ env.locals h (kstB u (ps c)) → News h₀ env.locals h (Led c) → wpAny (model prog w) A (execs orelse env) Q E { s with heap := h, toks := tk }) :
    wpAny (model prog w) A (pyIter (.str x t)) (fun it s₂ => ForAt prog w A h₀ env target body orelse Q E it s₂) E s := by
  refine wpAny_pyIter_ascii hasc ?_
  have W := Walks.strAscii (prog := prog) (w := w) hh s.heap.objs.size x t
  refine ⟨σ, s.heap.objs.size, _, _, x.cps.size, _, _, _, Led, ps, P, c₀, m, rfl, KTurns.ofWalks (target := target) W ?_, ?_, ?_, ?_, ?_, ?_, ⟨_, Heap.get?_push_size _ rfl, rfl, rfl⟩, F.push _, N.grown fun _ _ e => Heap.get?_push_of_some _ e, hk, hp, ?_, done⟩
  · intro i v s' Q' E' st hQ
    obtain ⟨o, ho, hc, _⟩ := st
    exact letGo_plain ho hc (by decide) hQ
  · intro hm; exact absurd F.ns.lt ((List.mem_singleton.mp hm) ▸ Nat.lt_irrefl _)
  · intro b hb; rw [List.mem_singleton.mp hb]; exact next_is_new F
  · intro q hq hm; exact absurd (Heap.lt_size (N q hq).1) ((List.mem_singleton.mp hm) ▸ Nat.lt_irrefl _)
  · intro i h st b hb
    obtain ⟨o, ho, _⟩ := st
    rw [List.mem_singleton.mp hb]; exact ⟨o, ho⟩
  · intro i h h' c st hw _ _
    obtain ⟨o, ho, r⟩ := st
    exact ⟨o, hw _ (by simp) o ho, r⟩
  · intro i v c u h tk own hi hv
    obtain ⟨ch, tv, hch, rfl⟩ := hv
    exact turn i ch c u h tk tv own hi hch
end
end Mine
end
section
open PySem PySem.W PySem.W.X PyProof.Rows
set_option Elab.async false
set_option maxRecDepth 100000
set_option maxHeartbeats 4000000
namespace Mine
open AutoSeq1 (wpAny_loadPart')
section
variable {prog : Program} {w : World} {A : Around} {E : Value → Shared → Prop} {s : Shared}
theorem nextOf_tuple_item {it t : Addr} {i : Nat} {items : Array Value} {x : Value} {Q : Value → Shared → Prop} (hit : s.heap.IsTupleIter it t i) (ht : s.heap.IsTuple t items) (hx : items[i]? = some x)
    (hQ : ∀ h', h'.IsTupleIter it t (i + 1) → Heap.SameBut it s.heap h' → Q x { s with heap := h' }) : wpAny (model prog w) A (Builtin.SmallTypes.nextOf (.ref it)) Q E s := by
  obtain ⟨o, ho, hc, hd⟩ := id hit
  obtain ⟨ol, hol, _, nl, hdl⟩ := ht
  unfold Builtin.SmallTypes.nextOf
  refine wpAny_bind (wpAny_callSpecial?_slot (name := Str.ofString "__next__") hit.typeIs F.slot_tuple_iterator_next
    (wpAny_call_entry F.slot_tuple_iterator_next hit.typeIs F.entry_tuple_iterator_next ?_ (F.args_tuple_iterator_next_1 _)))
  show wpAny _ _ (field (.ref it) 0 >>= _) _ _ s
  refine wpAny_bind (wpAny_field ho hd (x := .ref t) rfl ?_)
  show wpAny _ _ (if (Value.ref t == Value.none) = true then _ else _) _ _ s
  rw [if_neg (show ¬ ((Value.ref t == Value.none) = true) from Bool.false_ne_true)]
  show wpAny _ _ (field (.ref it) 1 >>= _) _ _ s
  refine wpAny_bind (wpAny_field ho hd (x := .int i 0) rfl ?_)
  show wpAny _ _ (seqItems? (.ref t) >>= _) _ _ s
  refine wpAny_bind (wpAny_seqItems hol hdl ?_)
  simp only [Int.toNat_natCast, hx]
  refine wpAny_bind (wpAny_setField ho hd (by simp) (wpAny_pure ⟨x, rfl, wpAny_pure (hQ _ ?_ (Heap.SameBut.update ..))⟩))
  exact ⟨_, Heap.get?_update_self _ ho (Obj.isFreed_of_fields (Obj.data_mapFields hd _)), (Obj.cls_mapFields ..).trans hc, by
    rw [Obj.data_mapFields hd]; simp [rawInt]⟩
theorem nextOf_tuple_end {it t : Addr} {i : Nat} {items : Array Value} {Q : Value → Shared → Prop} (hh : A.handled = none) (hit : s.heap.IsTupleIter it t i) (ht : s.heap.IsTuple t items) (hx : items[i]? = none)
    (hE : ∀ h' e, Heap.ExtBut it s.heap h' → (∃ o, h'.get? e = some o ∧ o.cls = .type "StopIteration") → E (.ref e) { s with heap := h' }) : wpAny (model prog w) A (Builtin.SmallTypes.nextOf (.ref it)) Q E s := by
  obtain ⟨o, ho, hc, hd⟩ := id hit
  obtain ⟨ol, hol, _, nl, hdl⟩ := ht
  unfold Builtin.SmallTypes.nextOf
  refine wpAny_bind (wpAny_callSpecial?_slot (name := Str.ofString "__next__") hit.typeIs F.slot_tuple_iterator_next
    (wpAny_call_entry F.slot_tuple_iterator_next hit.typeIs F.entry_tuple_iterator_next ?_ (F.args_tuple_iterator_next_1 _)))
  show wpAny _ _ (field (.ref it) 0 >>= _) _ _ s
  refine wpAny_bind (wpAny_field ho hd (x := .ref t) rfl ?_)
  show wpAny _ _ (if (Value.ref t == Value.none) = true then _ else _) _ _ s
  rw [if_neg (show ¬ ((Value.ref t == Value.none) = true) from Bool.false_ne_true)]
  show wpAny _ _ (field (.ref it) 1 >>= _) _ _ s
  refine wpAny_bind (wpAny_field ho hd (x := .int i 0) rfl ?_)
  show wpAny _ _ (seqItems? (.ref t) >>= _) _ _ s
  refine wpAny_bind (wpAny_seqItems hol hdl ?_)
  simp only [Int.toNat_natCast, hx]
  refine wpAny_bind (wpAny_rule (wpAny_bind (wpAny_setField ho hd (by simp) ?_)))
  show wpAny _ _ (newExc (.type "StopIteration") [] >>= _) _ _ _
  refine wpAny_bind ?_
  simp only [newExc, newTuple]
  refine wpAny_bind (wpAny_newObj_type ?_ (by size_fits))
  refine wpAny_bind (m := firstArgMember _ _) (wpAny_of_eq (a := Value.none) (by first | rfl | (simp only [firstArgMember]; rfl)) ?_)
  refine wpAny_newObj_type ?_ (by size_fits)
  simp only [raiseNew]
  refine wpAny_bind (wpAny_handled ?_)
  first | rw [show A.in1.handled = none from hh] | rw [hh]
  refine wpAny_bind (wpAny_pure (wpAny_throw ?_))
  exact hE _ _ (((Heap.SameBut.update ..).extBut.push _).push _) ⟨_, Heap.get?_push_size _ rfl, rfl⟩
end
theorem draws_tuple {prog : Program} {w : World} {A : Around} (hh : A.handled = none) (it t : Addr) (hne : t ≠ it) (items : Array Value) :
    Draws prog w A it [it, t] items.size (fun i v => items[i]? = some v) (fun i h => h.IsTupleIter it t i ∧ h.IsTuple t items) where
  live := fun _ _ st => let ⟨o, ho, _⟩ := st.1; ⟨o, ho⟩
  frame := fun _ _ _ st hk => ⟨st.1.at fun o e => hk it (by simp) o e, st.2.at fun o e => hk t (by simp) o e⟩
  item := fun i s Q E hi st hQ => by
    refine nextOf_tuple_item st.1 st.2 (x := items[i]) (by simp [hi]) fun h' hit' hs' => ?_
    exact hQ _ h' s.toks (by simp [hi]) ⟨hit', st.2.extBut hs'.extBut hne⟩ hs'
  done := fun s Q E st hE => nextOf_tuple_end hh st.1 st.2 (by simp) hE
theorem meets_enumerate_tuple (l : Addr) (items : Array Value) (n : Nat) (dct : Option Addr) (sl : Array (Option Value)) :
    Meets (Builtin.«enumerate.__new__» ⟨[.type "enumerate", .ref l], []⟩) (fun _ R s => s.heap.get? l = some { cls := .type "tuple", dict := dct, data := .seq items n, slots := sl } ∧
      R (.ok (.ret (.ref (s.heap.push { cls := .type "tuple_iterator", data := .fields #[.ref l, .int 0 0] }).objs.size)))
        { s with heap := (s.heap.push { cls := .type "tuple_iterator", data := .fields #[.ref l, .int 0 0] }).push { cls := .type "enumerate", data := .fields #[.none, .bool false, .ref s.heap.objs.size, rawInt 0, .none, .none] } }) :=
  .of_wp fun prog w A R s h => by
    obtain ⟨hp, g, d, tk, os⟩ := s; obtain ⟨hl, h⟩ := h
    have hsub := sub_enumerate
    have hL : Heap.IsTuple (Shared.heap ⟨hp, g, d, tk, os⟩) l items := ⟨_, hl, rfl, n, rfl⟩
    wp_walk using wpAny_loadPart' hl
    refine wpAny_stack_any fun st => wpAny_pure ?_
    split
    · rename_i c _ _ _ _ _
      cases (c == Value.type "enumerate")
      · wp_walk using wpAny_loadPart' hl, wpAny_pyIter_tuple hL
        exact ⟨_, rfl, h⟩
      · wp_walk using wpAny_loadPart' hl, wpAny_pyIter_tuple hL
        exact ⟨_, rfl, h⟩
    · wp_walk using wpAny_loadPart' hl, wpAny_pyIter_tuple hL
      exact ⟨_, rfl, h⟩
theorem call_enumerate_tuple {prog : Program} {w : World} {A : Around} {E : Value → Shared → Prop} {s : Shared} {l : Addr} {items : Array Value} {Q : Value → Shared → Prop} (hL : s.heap.IsTuple l items)
    (h : ∀ h', IsEnum h' (s.heap.objs.size + 1) s.heap.objs.size 0 .none → h'.IsTupleIter s.heap.objs.size l 0 → h'.objs.size = s.heap.objs.size + 2 →
      (∀ b o, s.heap.get? b = some o → h'.get? b = some o) → Q (.ref (s.heap.objs.size + 1)) { s with heap := h' }) :
    wpAny (model prog w) A (call (.type "enumerate") [.ref l]) Q E s := by
  obtain ⟨⟨c, dct, dt, sl⟩, hl, hc, n, hd⟩ := hL
  replace hc : c = .type "tuple" := hc
  replace hd : dt = .seq items n := hd
  subst hc hd
  refine callType_new F.called_enumerate (by decide) (F.typeCall_enumerate_1 _) (F.newCall_enumerate_1 _) (fun obj => F.args_object_init_2 obj _) F.entry_enumerate_new
    (meets_enumerate_tuple l items n dct sl) ⟨hl, ?_⟩
  have hz : (s.heap.push { cls := .type "tuple_iterator", data := .fields #[.ref l, .int 0 0] }).objs.size = s.heap.objs.size + 1 := Heap.size_push ..
  show _ ∧ _
  rw [hz]
  have he : IsEnum ((s.heap.push { cls := .type "tuple_iterator", data := .fields #[.ref l, .int 0 0] }).push
      { cls := .type "enumerate", data := .fields #[.none, .bool false, .ref s.heap.objs.size, rawInt 0, .none, .none] }) (s.heap.objs.size + 1) s.heap.objs.size 0 .none := by
    have := Heap.get?_push_size (s.heap.push { cls := .type "tuple_iterator", data := .fields #[.ref l, .int 0 0] })
      (o := { cls := .type "enumerate", data := .fields #[.none, .bool false, .ref s.heap.objs.size, rawInt 0, .none, .none] }) rfl
    rw [hz] at this; exact this
  refine ⟨⟨_, he, rfl⟩, h _ he ⟨_, Heap.get?_push_of_some _ (Heap.get?_push_size _ rfl), rfl, rfl⟩ (by rw [Heap.size_push, hz]) fun b o x => Heap.get?_push_of_some _ (Heap.get?_push_of_some _ x)⟩
section
variable {prog : Program} {w : World} {A : Around} {E : Value → Shared → Prop} {s : Shared} {env : Env} {h₀ : Heap} {elts : List Expr} {kt : Nat} {pt : Pos} {body orelse : List Stmt} {Q : Flow → Shared → Prop} {m : Str → Option Value}
/-- a for over an enumerate of any source that draws -/
theorem iter_enum {σ : Type} {it e : Addr} {fp : List Addr} {n : Nat} {Px : Nat → Value → Prop} {St : Nat → Heap → Prop} (Led : σ → List (Addr × Obj)) (ps : σ → List (Str × Value)) (P : Nat → σ → Prop) (c₀ : σ)
    (D : Draws prog w A.in1 it fp n Px St) (hei : e ≠ it) (hef : e ∉ fp) (hif : it ∈ fp) (he : IsEnum s.heap e it 0 .none) (hst : St 0 s.heap) (heL : env.locals ≠ e) (hiL : env.locals ≠ it) (he₀ : h₀.get? e = none) (hi₀ : h₀.get? it = none)
    (hoff : ∀ q ∈ Led c₀, q.1 ≠ e ∧ q.1 ≠ it)
    (hS : ∀ i h h', St i h → (∀ o, h.get? it = some o → h'.get? it = some o) → (∀ b o, h₀.get? b = some o → h'.get? b = some o) → St i h')
    (F : Fr h₀ env.locals s.heap m) (N : News h₀ env.locals s.heap (Led c₀)) (hk : ∀ p ∈ ps c₀, m p.1 = some p.2) (hp : P 0 c₀)
    (turn : ∀ i x T ti c (u : Str → Option Value) h tk own, i < n → Px i x → h.IsTuple T #[.int (i : Int) ti, x] → P i c → (∀ p ∈ own, ∀ q ∈ Led c, p.1 ≠ q.1) → Fr h₀ env.locals h (kstB u (ps c)) → News h₀ env.locals h (Led c ++ own) →
      wpAny (model prog w) A (assign (.Tuple elts kt pt) env (.ref T)) (fun _ s₃ => wpAny (model prog w) A (execs body env) (FPost h₀ env.locals s own Led ps P i Q) E s₃) E { s with heap := h, toks := tk })
    (done : ∀ c (u : Str → Option Value) h tk, P n c → Fr h₀ env.locals h (kstB u (ps c)) → News h₀ env.locals h (Led c) → wpAny (model prog w) A (execs orelse env) Q E { s with heap := h, toks := tk }) :
    wpAny (model prog w) A (pyIter (.ref e)) (fun it s₂ => ForAt prog w A h₀ env (.Tuple elts kt pt) body orelse Q E it s₂) E s := by
  refine wpAny_pyIter_enum he ?_
  have W := (WalksT.enumerateD D e hei hef hif).toU
  refine ⟨σ, e, _, _, n, _, _, _, Led, ps, P, c₀, m, rfl, KTurns.ofWalksU (elts := elts) (k := kt) (pos := pt) W, ?_, ?_, ?_, ?_, ?_, ⟨⟨_, he⟩, hst⟩, F, N, hk, hp, ?_, done⟩
  · intro hm
    rcases List.mem_cons.mp hm with q | q
    · exact heL q
    · exact hiL (List.mem_singleton.mp q)
  · intro b hb
    rcases List.mem_cons.mp hb with rfl | q
    · exact he₀
    · rw [List.mem_singleton.mp q]; exact hi₀
  · intro q hq hm
    rcases List.mem_cons.mp hm with r | r
    · exact (hoff q hq).1 r
    · exact (hoff q hq).2 (List.mem_singleton.mp r)
  · intro i h st b hb
    obtain ⟨⟨old, h1⟩, h2⟩ := st
    rcases List.mem_cons.mp hb with rfl | q
    · exact ⟨_, h1⟩
    · rw [List.mem_singleton.mp q]; exact D.live _ _ h2
  · intro i h h' c st hw hk₀ _
    obtain ⟨⟨old, h1⟩, h2⟩ := st
    exact ⟨⟨old, hw _ (by simp) _ h1⟩, hS i h h' h2 (fun o e => hw it (by simp) o e) hk₀⟩
  · intro i v c u h tk own hi hv hP hsep F₁ N₁
    obtain ⟨T, vals, rfl, ⟨ti, x, hx, rfl⟩, hT⟩ := hv
    exact turn i x T ti c u h tk own hi hx hT hP hsep F₁ N₁
theorem enum_tuple {σ : Type} {t : Addr} {items : Array Value} (Led : σ → List (Addr × Obj)) (ps : σ → List (Str × Value)) (P : Nat → σ → Prop) (c₀ : σ) (hh : A.handled = none) (ht : h₀.IsTuple t items)
    (F : Fr h₀ env.locals s.heap m) (N : News h₀ env.locals s.heap (Led c₀)) (hk : ∀ p ∈ ps c₀, m p.1 = some p.2) (hp : P 0 c₀)
    (turn : ∀ i x T ti c (u : Str → Option Value) h tk own, i < items.size → items[i]? = some x → h.IsTuple T #[.int (i : Int) ti, x] → P i c → (∀ p ∈ own, ∀ q ∈ Led c, p.1 ≠ q.1) → Fr h₀ env.locals h (kstB u (ps c)) → News h₀ env.locals h (Led c ++ own) →
      wpAny (model prog w) A (assign (.Tuple elts kt pt) env (.ref T)) (fun _ s₃ => wpAny (model prog w) A (execs body env) (FPost h₀ env.locals s own Led ps P i Q) E s₃) E { s with heap := h, toks := tk })
    (done : ∀ c (u : Str → Option Value) h tk, P items.size c → Fr h₀ env.locals h (kstB u (ps c)) → News h₀ env.locals h (Led c) → wpAny (model prog w) A (execs orelse env) Q E { s with heap := h, toks := tk }) :
    wpAny (model prog w) A (call (.type "enumerate") [.ref t]) (fun xv s₁ => wpAny (model prog w) A (pyIter xv) (fun it s₂ => ForAt prog w A h₀ env (.Tuple elts kt pt) body orelse Q E it s₂) E s₁) E s := by
  have hts : s.heap.IsTuple t items := ht.at fun o e => F.keep t o e
  have hlt : t < s.heap.objs.size := by obtain ⟨o, ho, _⟩ := hts; exact Heap.lt_size ho
  have hL : env.locals < s.heap.objs.size := F.ns.lt
  refine call_enumerate_tuple hts ?_
  intro h3 e3 i3 z3 k3
  refine iter_enum (it := s.heap.objs.size) (e := s.heap.objs.size + 1) Led ps P c₀ (draws_tuple (A := A.in1) hh s.heap.objs.size t (Nat.ne_of_lt hlt) items) (Nat.ne_of_gt (Nat.lt_succ_self _)) ?_ (by simp) e3 ⟨i3, hts.at fun o e => k3 t o e⟩ (Nat.ne_of_lt (Nat.lt_succ_of_lt hL)) (Nat.ne_of_lt hL) (fresh_out F _ (Nat.le_succ _)) (fresh_out F _ (Nat.le_refl _))
    (fun q hq => ?_) ?_ (F.keeps k3) (N.grown k3) hk hp turn done
  · intro hm
    rcases List.mem_cons.mp hm with q | q
    · exact absurd q (Nat.ne_of_gt (Nat.lt_succ_self _))
    · exact absurd (List.mem_singleton.mp q) (Nat.ne_of_gt (Nat.lt_succ_of_lt hlt))
  · have := Heap.lt_size (N q hq).1
    exact ⟨Nat.ne_of_lt (Nat.lt_succ_of_lt this), Nat.ne_of_lt this⟩
  · intro i h h' st hw hk₀
    exact ⟨st.1.at fun o e => hw o e, ht.at fun o e => hk₀ t o e⟩
theorem enum_str {σ : Type} {x : Str} {tx : Tok} (Led : σ → List (Addr × Obj)) (ps : σ → List (Str × Value)) (P : Nat → σ → Prop) (c₀ : σ) (hh : A.handled = none) (hasc : x.cps.all (· < 128) = true)
    (F : Fr h₀ env.locals s.heap m) (N : News h₀ env.locals s.heap (Led c₀)) (hk : ∀ p ∈ ps c₀, m p.1 = some p.2) (hp : P 0 c₀)
    (turn : ∀ i ch T ti tv c (u : Str → Option Value) h tk own, i < x.cps.size → x.cps[i]? = some ch → h.IsTuple T #[.int (i : Int) ti, .str ⟨#[ch]⟩ tv] → P i c → (∀ p ∈ own, ∀ q ∈ Led c, p.1 ≠ q.1) → Fr h₀ env.locals h (kstB u (ps c)) → News h₀ env.locals h (Led c ++ own) →
      wpAny (model prog w) A (assign (.Tuple elts kt pt) env (.ref T)) (fun _ s₃ => wpAny (model prog w) A (execs body env) (FPost h₀ env.locals s own Led ps P i Q) E s₃) E { s with heap := h, toks := tk })
    (done : ∀ c (u : Str → Option Value) h tk, P x.cps.size c → Fr h₀ env.locals h (kstB u (ps c)) → News h₀ env.locals h (Led c) → wpAny (model prog w) A (execs orelse env) Q E { s with heap := h, toks := tk }) :
    wpAny (model prog w) A (call (.type "enumerate") [.str x tx]) (fun xv s₁ => wpAny (model prog w) A (pyIter xv) (fun it s₂ => ForAt prog w A h₀ env (.Tuple elts kt pt) body orelse Q E it s₂) E s₁) E s := by
  have hL : env.locals < s.heap.objs.size := F.ns.lt
  refine call_enumerate_str ?_
  intro h3 e3 i3 z3 k3
  have hty : strIterType x = "str_ascii_iterator" := by simp [strIterType, hasc]
  rw [hty] at i3
  refine iter_enum (it := s.heap.objs.size) (e := s.heap.objs.size + 1) Led ps P c₀ (Draws.strAscii (A := A.in1) hh s.heap.objs.size x tx) (Nat.ne_of_gt (Nat.lt_succ_self _)) ?_ (by simp) e3 i3 (Nat.ne_of_lt (Nat.lt_succ_of_lt hL)) (Nat.ne_of_lt hL) (fresh_out F _ (Nat.le_succ _)) (fresh_out F _ (Nat.le_refl _))
    (fun q hq => ?_) ?_ (F.keeps k3) (N.grown k3) hk hp ?_ done
  · intro hm
    exact absurd (List.mem_singleton.mp hm) (Nat.ne_of_gt (Nat.lt_succ_self _))
  · have := Heap.lt_size (N q hq).1
    exact ⟨Nat.ne_of_lt (Nat.lt_succ_of_lt this), Nat.ne_of_lt this⟩
  · intro i h h' st hw hk₀
    obtain ⟨o, ho, r⟩ := st
    exact ⟨o, hw o ho, r⟩
  · intro i v T ti c u h tk own hi hv
    obtain ⟨ch, tv, hch, rfl⟩ := hv
    exact turn i ch T ti tv c u h tk own hi hch
end
end Mine
end
theorem Mine.offM6 : True := by w_top off; trivial
section
open PySem PySem.W PySem.W.X PyProof.Rows
set_option Elab.async false
set_option maxRecDepth 100000
set_option maxHeartbeats 8000000
namespace Mine
theorem fill6 (w : World) (h : Heap) : (hd.heap_39 w.params).In h → model Challenge.rw_of0033_01.row.prog w = model Challenge.rw_of0033_01.row.prog w := by
  k_fill
  intro _
  rfl
/-- an entry of a table: its address, the bits, the sign -/
structure Ent where
  a : Addr
  bit : Int
  tb : Tok
  ch : Nat
  tc : Tok
def tabs : List (Addr × List Ent) := [
  (134, [⟨127, 40960, 344, 108, 372⟩, ⟨128, 49152, 346, 115, 373⟩, ⟨129, 32768, 340, 45, 374⟩, ⟨130, 24576, 338, 98, 375⟩, ⟨131, 16384, 334, 100, 376⟩, ⟨132, 8192, 336, 99, 377⟩, ⟨133, 4096, 342, 112, 378⟩]),
  (136, [⟨135, 256, 354, 114, 379⟩]),
  (138, [⟨137, 128, 356, 119, 380⟩]),
  (142, [⟨139, 2112, 381, 115, 382⟩, ⟨140, 2048, 348, 83, 383⟩, ⟨141, 64, 358, 120, 384⟩]),
  (144, [⟨143, 32, 360, 114, 385⟩]),
  (146, [⟨145, 16, 362, 119, 386⟩]),
  (150, [⟨147, 1032, 387, 115, 388⟩, ⟨148, 1024, 350, 83, 389⟩, ⟨149, 8, 364, 120, 390⟩]),
  (152, [⟨151, 4, 366, 114, 391⟩]),
  (154, [⟨153, 2, 368, 119, 392⟩]),
  (158, [⟨155, 513, 393, 116, 394⟩, ⟨156, 512, 352, 84, 395⟩, ⟨157, 1, 370, 120, 396⟩])]
def Ent.obj (e : Ent) : Obj := { cls := .type "tuple", data := .seq #[.int e.bit e.tb, .str ⟨#[e.ch]⟩ e.tc] }
def TabIn (h : Heap) (t : Addr × List Ent) : Prop := h.IsTuple t.1 (t.2.map fun e => Value.ref e.a).toArray ∧ ∀ e ∈ t.2, h.IsTuple e.a #[.int e.bit e.tb, .str ⟨#[e.ch]⟩ e.tc]
theorem tabs_in {w : World} {h : Heap} (X : (hd.heap_39 w.params).In h) : h.IsTuple 159 (tabs.map fun t => Value.ref t.1).toArray ∧ ∀ t ∈ tabs, TabIn h t := by
  have key : ∀ (a : Addr) (vs : List Value), (hd.heap_39 w.params).lookup a = some { cls := .type "tuple", data := .seq vs.toArray } → h.IsTuple a vs.toArray := fun a vs e => ⟨_, X _ _ e, rfl, _, rfl⟩
  refine ⟨key 159 _ rfl, ?_⟩
  unfold tabs
  repeat' (first | exact List.forall_mem_nil _ | (refine List.forall_mem_cons.mpr ⟨?_, ?_⟩) | (refine ⟨key _ _ rfl, ?_⟩) | exact key _ _ rfl)
/-- does this entry fit -/
def fits (i : Nat) (mode : Int) (e : Ent) : Bool := if i = 0 then Builtin.bitAnd mode 61440 == e.bit else Builtin.bitAnd mode e.bit == e.bit
/-- the sign of row i -/
def sign (i : Nat) (mode : Int) (row : List Ent) : Nat := match row.find? (fits i mode) with
  | some e => e.ch
  | none => if i = 0 then 63 else 45
def row (i : Nat) : List Ent := (tabs.getD i (0, [])).2
def signsTo (mode : Int) (n : Nat) : List Nat := (List.range n).map fun i => sign i mode (row i)
def one (c : Nat) : Str := ⟨#[c]⟩
theorem listOf_snoc (vs : List Value) (x : Value) : W.listOf (vs.toArray.push x) (vs.length + 1) = W.listOf (vs ++ [x]).toArray (vs ++ [x]).length := by simp
theorem ones_len : ∀ l : List Nat, ((l.map one).map (·.length)).sum = l.length
  | [] => rfl
  | c :: r => by
    simp only [List.map_cons, List.sum_cons, List.length_cons]
    rw [ones_len r]
    show 1 + r.length = r.length + 1
    omega
theorem strs_len {vs : List Value} {ys : List Str} (h : StrsAre vs ys) : vs.length = ys.length := by
  induction h with
  | nil => rfl
  | cons _ _ _ ih => simp [ih]
theorem sign_some {i j : Nat} {mode : Int} {e : Ent} : ∀ {r : List Ent}, r[j]? = some e → (∀ k, k < j → ∀ e', r[k]? = some e' → fits i mode e' = false) → fits i mode e = true → sign i mode r = e.ch := by
  intro r hj hno hf
  have : r.find? (fits i mode) = some e := by
    rw [List.find?_eq_some_iff_getElem]
    obtain ⟨hlt, he⟩ := List.getElem?_eq_some_iff.mp hj
    exact ⟨hf, j, hlt, he, fun k hk => by simp [hno k hk r[k] (List.getElem?_eq_getElem (by omega))]⟩
  unfold sign
  rw [this]
theorem sign_none {i : Nat} {mode : Int} {r : List Ent} (hno : ∀ k, k < r.length → ∀ e', r[k]? = some e' → fits i mode e' = false) : sign i mode r = if i = 0 then 63 else 45 := by
  have : r.find? (fits i mode) = none := by
    rw [List.find?_eq_none]
    intro e he
    obtain ⟨k, hk, rfl⟩ := List.mem_iff_getElem.mp he
    simp [hno k hk r[k] (List.getElem?_eq_getElem hk)]
  unfold sign
  rw [this]
theorem signs_succ {mode : Int} {i : Nat} {te : Addr × List Ent} (h : tabs[i]? = some te) {c : Nat} (hs : sign i mode te.2 = c) : (signsTo mode (i + 1)).map one = (signsTo mode i).map one ++ [one c] := by
  have hr : row i = te.2 := by unfold row; rw [List.getD_eq_getElem?_getD, h]; rfl
  unfold signsTo
  rw [List.range_succ, List.map_append, List.map_append, List.map_cons, List.map_nil, List.map_cons, List.map_nil, hr, hs]
theorem join_ones : ∀ l : List Nat, Str.join (Str.ofString "") (l.map one) = ⟨l.toArray⟩
  | [] => rfl
  | [c] => rfl
  | c :: d :: r => by
    have ih := join_ones (d :: r)
    show one c ++ Str.ofString "" ++ Str.join (Str.ofString "") ((d :: r).map one) = _
    rw [ih]
    apply Str.ext'
    simp [one, Str.cps_append]
    rfl
section
local macro_rules | `(tactic| walk_at "call builtin:list.append") => `(tactic| refine Stop.out ?_)
local macro_rules | `(tactic| walk_at "exec For Tuple Call") => `(tactic| refine Stop.out ?_)
local macro_rules | `(tactic| walk_at "exec For Tuple Name") => `(tactic| refine Stop.out ?_)
local macro_rules | `(tactic| walk_at "exec For") => `(tactic| refine Stop.out ?_)
local macro_rules | `(tactic| walk_at "FPost") => `(tactic| (dsimp only [FPost]))
local macro_rules | `(tactic| walk_at "FEnd") => `(tactic| refine Stop.out ?_)
local macro_rules | `(tactic| walk_at "newList") => `(tactic| refine Stop.out ?_)
theorem filemode_call (w : World) (mean : ExcName → Option Value) (mg mb : Str → Option Value)
  (gd : Option (List Code)) (cn : Str) (cs : Scope) (a : Addr) (ccd : Value) (cl : List (Str × Addr)) (outer : List Env) (A₀ : Around) (base h₀ : Heap) (L : Addr) (m : Str → Option Value) (s : Shared) (Q E : Value → Shared → Prop)
  (mode : Int) (tm : Tok) (news : List (Addr × Obj))
  (B : Below A₀ base outer h₀) (F : Fr h₀ L s.heap m) (X : (hd.heap_39 w.params).In h₀) (N : News h₀ L s.heap news) (T : TopAt mean mg mb h₀) (hk : cs.kind = .function)
  (ret : ∀ t h' tk', Fr h₀ L h' m → News h₀ L h' news → Q (.str ⟨(signsTo mode 10).toArray⟩ t) { s with heap := h', toks := tk' }) :
  wpAny (model Challenge.rw_of0033_01.row.prog w) (ktrTop 303 20 gd cn cs L a ccd cl outer) (call (.ref 166) [.int mode tm]) Q E s := by
  refine wpAny_call ?_
  k_dflt ktr_enter
  k_steps
  unfold Stop
  rename Fr _ _ _ _ => F0
  rename News _ _ _ _ => N0
  refine newList_K F0 N0 ?_
  intro pl h0 F0' N0' hlt
  clear F0 N0
  k_steps
  unfold Stop
  rename (hd.heap_39 w.params).In _ => X1
  obtain ⟨hT, hTabs⟩ := tabs_in X1
  rename Fr _ _ _ _ => F1
  refine For_at F1 ?_ (by walk1)
  k_steps
  rename Fr _ _ _ _ => F2
  rename News _ _ _ _ => N2
  refine enum_tuple (σ := List Value) (fun vs => (pl, W.listOf vs.toArray vs.length) :: news) (fun _ => [(Str.ofString "perm", .ref pl), (Str.ofString "mode", .int mode tm)]) (fun i vs => StrsAre vs ((signsTo mode i).map one)) [] rfl hT F2 N2 (by kst_all) .nil ?_ ?_
  · intro i x TT ti vs u h4 tk4 own hi hx hTT hvs hsep F4 N4
    clear F2 N2
    obtain ⟨te, hte, rfl⟩ : ∃ te, tabs[i]? = some te ∧ x = .ref te.1 := by
      have hx' : (tabs[i]?).map (fun t => Value.ref t.1) = some x := by simpa using hx
      cases q : tabs[i]? with
      | none => rw [q] at hx'; cases hx'
      | some te => rw [q] at hx'; exact ⟨te, rfl, (Option.some.inj hx').symm⟩
    have hin := hTabs te (List.mem_of_getElem? hte)
    have hi10 : i < 10 := hi
    have hTT' : IsTup h4 TT _ := hTT
    k_steps
    unfold Stop
    rename Fr _ _ _ _ => F5
    rename News _ _ _ _ => N5
    refine For_at F5 ?_ (by walk1)
    k_steps
    refine iter_tuple (σ := Unit) (fun _ => ((pl, W.listOf vs.toArray vs.length) :: news) ++ own) (fun _ => [(Str.ofString "index", .int (i : Int) ti), (Str.ofString "perm", .ref pl), (Str.ofString "mode", .int mode tm)])
      (fun j _ => ∀ k, k < j → ∀ e', te.2[k]? = some e' → fits i mode e' = false) () rfl hin.1 F5 N5 (by kst_all) (fun k hk => absurd hk (Nat.not_lt_zero _)) ?_ ?_
    · intro j v _ u6 h6 tk6 own6 hj hv hno hsep6 F6 N6
      clear F5 N5
      obtain ⟨e, he, rfl⟩ : ∃ e, te.2[j]? = some e ∧ v = .ref e.a := by
        have hv' : (te.2[j]?).map (fun e => Value.ref e.a) = some v := by simpa using hv
        cases q : te.2[j]? with
        | none => rw [q] at hv'; cases hv'
        | some e => rw [q] at hv'; exact ⟨e, rfl, (Option.some.inj hv').symm⟩
      have hE : IsTup h6 e.a #[.int e.bit e.tb, .str ⟨#[e.ch]⟩ e.tc] := (hin.2 e (List.mem_of_getElem? he)).at fun o q => F6.keep _ o q
      k_steps
      · rename (i : Int) = 0 => hi0
        rename Builtin.bitAnd mode 61440 = e.bit => hb
        have hi1 : i = 0 := by omega
        unfold Stop
        rename Fr _ _ _ _ => F7
        rename News _ _ _ _ => N7
        have N7' := kst_newsOf N7 (l' := (pl, W.listOf vs.toArray vs.length) :: (news ++ own ++ own6)) (by intro p hp; simpa [or_assoc] using hp)
        have hne7 : ∀ p ∈ news ++ own ++ own6, p.1 ≠ pl := fun p hp => by
          rcases List.mem_append.mp hp with hp | hp
          · rcases List.mem_append.mp hp with hp | hp
            · exact Nat.ne_of_lt (hlt p hp)
            · exact hsep p hp (pl, W.listOf vs.toArray vs.length) (.head _)
          · exact hsep6 p hp (pl, W.listOf vs.toArray vs.length) (.head _)
        refine append_K F7 N7' (Upd.head hne7) ?_ (by rw [List.size_toArray, sizeLine_eq, strs_len hvs]; simp [signsTo]; omega)
        intro h8 F8 N8
        clear F7 N7 N7'
        k_steps
        unfold Stop
        rename Fr _ _ _ _ => F9
        rename News _ _ _ _ => N9
        refine fend (vs ++ [.str ⟨#[e.ch]⟩ e.tc]) F9 (fun p hp => N9 p ?_) (fun p hp q hq => ?_) (by kst_all) ?_
        · rw [listOf_snoc]
          rcases List.mem_cons.mp hp with rfl | hp
          · exact .head _
          · exact .tail _ (List.mem_append.mpr (.inl hp))
        · rcases List.mem_cons.mp hq with rfl | hq
          · exact hsep p hp (pl, W.listOf vs.toArray vs.length) (.head _)
          · exact hsep p hp q (.tail _ hq)
        · have hsg : sign i mode te.2 = e.ch := sign_some he hno (by unfold fits; rw [if_pos hi1]; simpa using hb)
          show StrsAre _ _
          rw [signs_succ hte hsg]
          exact kct_snoc hvs
      · rename (i : Int) = 0 => hi0
        rename ¬ Builtin.bitAnd mode 61440 = e.bit => hb
        have hi1 : i = 0 := by omega
        unfold Stop
        rename Fr _ _ _ _ => F7
        rename News _ _ _ _ => N7
        refine fend () F7 (kst_newsOf N7 (by intro p hp; simpa [or_assoc] using hp)) hsep6 (by kst_all) ?_
        intro k hk e' he'
        by_cases hkj : k = j
        · subst hkj
          rw [he] at he'
          cases he'
          unfold fits
          rw [if_pos hi1]; simpa using hb
        · exact hno k (by omega) e' he'
      · rename ¬ (i : Int) = 0 => hi0
        rename Builtin.bitAnd mode e.bit = e.bit => hb
        have hi1 : ¬ i = 0 := by omega
        unfold Stop
        rename Fr _ _ _ _ => F7
        rename News _ _ _ _ => N7
        have N7' := kst_newsOf N7 (l' := (pl, W.listOf vs.toArray vs.length) :: (news ++ own ++ own6)) (by intro p hp; simpa [or_assoc] using hp)
        have hne7 : ∀ p ∈ news ++ own ++ own6, p.1 ≠ pl := fun p hp => by
          rcases List.mem_append.mp hp with hp | hp
          · rcases List.mem_append.mp hp with hp | hp
            · exact Nat.ne_of_lt (hlt p hp)
            · exact hsep p hp (pl, W.listOf vs.toArray vs.length) (.head _)
          · exact hsep6 p hp (pl, W.listOf vs.toArray vs.length) (.head _)
        refine append_K F7 N7' (Upd.head hne7) ?_ (by rw [List.size_toArray, sizeLine_eq, strs_len hvs]; simp [signsTo]; omega)
        intro h8 F8 N8
        clear F7 N7 N7'
        k_steps
        unfold Stop
        rename Fr _ _ _ _ => F9
        rename News _ _ _ _ => N9
        refine fend (vs ++ [.str ⟨#[e.ch]⟩ e.tc]) F9 (fun p hp => N9 p ?_) (fun p hp q hq => ?_) (by kst_all) ?_
        · rw [listOf_snoc]
          rcases List.mem_cons.mp hp with rfl | hp
          · exact .head _
          · exact .tail _ (List.mem_append.mpr (.inl hp))
        · rcases List.mem_cons.mp hq with rfl | hq
          · exact hsep p hp (pl, W.listOf vs.toArray vs.length) (.head _)
          · exact hsep p hp q (.tail _ hq)
        · have hsg : sign i mode te.2 = e.ch := sign_some he hno (by unfold fits; rw [if_neg hi1]; simpa using hb)
          show StrsAre _ _
          rw [signs_succ hte hsg]
          exact kct_snoc hvs
      · rename ¬ (i : Int) = 0 => hi0
        rename ¬ Builtin.bitAnd mode e.bit = e.bit => hb
        have hi1 : ¬ i = 0 := by omega
        unfold Stop
        rename Fr _ _ _ _ => F7
        rename News _ _ _ _ => N7
        refine fend () F7 (kst_newsOf N7 (by intro p hp; simpa [or_assoc] using hp)) hsep6 (by kst_all) ?_
        intro k hk e' he'
        by_cases hkj : k = j
        · subst hkj
          rw [he] at he'
          cases he'
          unfold fits
          rw [if_neg hi1]; simpa using hb
        · exact hno k (by omega) e' he'
    · intro _ u6 h6 tk6 hno F6 N6
      clear F5 N5
      have hno' : ∀ k, k < te.2.length → ∀ e', te.2[k]? = some e' → fits i mode e' = false := by simpa using hno
      k_steps
      · rename (i : Int) = 0 => hi0
        have hi1 : i = 0 := by omega
        unfold Stop
        rename Fr _ _ _ _ => F7
        rename News _ _ _ _ => N7
        have N7' := kst_newsOf N7 (l' := (pl, W.listOf vs.toArray vs.length) :: (news ++ own)) (by intro p hp; simpa [or_assoc] using hp)
        have hne7 : ∀ p ∈ news ++ own, p.1 ≠ pl := fun p hp => by
          rcases List.mem_append.mp hp with hp | hp
          · exact Nat.ne_of_lt (hlt p hp)
          · exact hsep p hp (pl, W.listOf vs.toArray vs.length) (.head _)
        refine append_K F7 N7' (Upd.head hne7) ?_ (by rw [List.size_toArray, sizeLine_eq, strs_len hvs]; simp [signsTo]; omega)
        intro h8 F8 N8
        clear F7 N7 N7'
        k_steps
        unfold Stop
        rename Fr _ _ _ _ => F9
        rename News _ _ _ _ => N9
        rw [listOf_snoc] at N9
        refine fend (vs ++ [_]) F9 N9 (fun p hp q hq => ?_) (by kst_all) ?_
        · rcases List.mem_cons.mp hq with rfl | hq
          · exact hsep p hp (pl, W.listOf vs.toArray vs.length) (.head _)
          · exact hsep p hp q (.tail _ hq)
        · have eone : one 63 = Str.ofString "?" := by decide +kernel
          have hsg : sign i mode te.2 = 63 := (sign_none hno').trans (if_pos hi1)
          show StrsAre _ _
          rw [signs_succ hte hsg, eone]
          exact kct_snoc hvs
      · rename ¬ (i : Int) = 0 => hi0
        have hi1 : ¬ i = 0 := by omega
        unfold Stop
        rename Fr _ _ _ _ => F7
        rename News _ _ _ _ => N7
        have N7' := kst_newsOf N7 (l' := (pl, W.listOf vs.toArray vs.length) :: (news ++ own)) (by intro p hp; simpa [or_assoc] using hp)
        have hne7 : ∀ p ∈ news ++ own, p.1 ≠ pl := fun p hp => by
          rcases List.mem_append.mp hp with hp | hp
          · exact Nat.ne_of_lt (hlt p hp)
          · exact hsep p hp (pl, W.listOf vs.toArray vs.length) (.head _)
        refine append_K F7 N7' (Upd.head hne7) ?_ (by rw [List.size_toArray, sizeLine_eq, strs_len hvs]; simp [signsTo]; omega)
        intro h8 F8 N8
        clear F7 N7 N7'
        k_steps
        unfold Stop
        rename Fr _ _ _ _ => F9
        rename News _ _ _ _ => N9
        rw [listOf_snoc] at N9
        refine fend (vs ++ [_]) F9 N9 (fun p hp q hq => ?_) (by kst_all) ?_
        · rcases List.mem_cons.mp hq with rfl | hq
          · exact hsep p hp (pl, W.listOf vs.toArray vs.length) (.head _)
          · exact hsep p hp q (.tail _ hq)
        · have eone : one 45 = Str.ofString "-" := by decide +kernel
          have hsg : sign i mode te.2 = 45 := (sign_none hno').trans (if_neg hi1)
          show StrsAre _ _
          rw [signs_succ hte hsg, eone]
          exact kct_snoc hvs
  · intro vs u h4 tk4 hvs F4 N4
    clear F2 N2
    k_steps
    refine join_list (ys := (signsTo mode 10).map one) (PySem.IsL.isList (n := vs.length) (N4 _ (.head _)).1) hvs ?_ ?_
    · rw [ones_len, List.length_map]
      simp [signsTo]
      decide
    · intro t5 k5
      have ej : Txt.join (Str.ofString "") ((signsTo mode 10).map one) = ⟨(signsTo mode 10).toArray⟩ := (eq_of_beq (join_plain_closes _ _)).trans (join_ones _)
      rw [ej]
      k_steps
      rename Fr h₀ _ _ _ => F13
      rename News h₀ _ _ _ => N13
      exact ret _ _ _ F13 (fun p hp => N13 p (.tail _ hp))
end
end Mine
end
section
open PySem PySem.W PySem.W.X PyProof.Rows
set_option Elab.async false
set_option maxRecDepth 100000
set_option maxHeartbeats 4000000
namespace Mine
section
variable {prog : Program} {w : World} {A : Around} {E : Value → Shared → Prop} {s : Shared} {env : Env} {h₀ : Heap} {target : Expr} {body orelse : List Stmt} {Q : Flow → Shared → Prop} {m : Str → Option Value}
/-- a for over a text's signs, their tokens being new -/
theorem iter_strT {σ : Type} {x : Str} {t : Tok} (Led : σ → List (Addr × Obj)) (ps : σ → List (Str × Value)) (P : Nat → σ → Prop) (c₀ : σ) (hh : A.handled = none) (hasc : x.cps.all (· < 128) = true)
    (F : Fr h₀ env.locals s.heap m) (N : News h₀ env.locals s.heap (Led c₀)) (hk : ∀ p ∈ ps c₀, m p.1 = some p.2) (hp : P 0 c₀)
    (turn : ∀ i ch c (u : Str → Option Value) h tk tv own, i < x.cps.size → x.cps[i]? = some ch → s.toks ≤ tv → P i c → (∀ p ∈ own, ∀ q ∈ Led c, p.1 ≠ q.1) → Fr h₀ env.locals h (kstB u (ps c)) → News h₀ env.locals h (Led c ++ own) →
      wpAny (model prog w) A (assign target env (.str ⟨#[ch]⟩ tv)) (fun _ s₃ => wpAny (model prog w) A (execs body env) (FPost h₀ env.locals s own Led ps P i Q) E s₃) E { s with heap := h, toks := tk })
    (done : ∀ c (u : Str → Option Value) h tk, P x.cps.size c → Fr h₀ env.locals h (kstB u (ps c)) → News h₀ env.locals h (Led c) → wpAny (model prog w) A (execs orelse env) Q E { s with heap := h, toks := tk }) :
    wpAny (model prog w) A (pyIter (.str x t)) (fun it s₂ => ForAtT prog w A h₀ env target body orelse Q E it s₂) E s := by
  refine wpAny_pyIter_ascii hasc ?_
  refine ⟨σ, s.heap.objs.size, [s.heap.objs.size], x.cps.size, s.toks, fun i v _ => ∃ ch tv, x.cps[i]? = some ch ∧ v = .str ⟨#[ch]⟩ tv ∧ s.toks ≤ tv, fun i v h => (∃ ch tv, x.cps[i]? = some ch ∧ v = .str ⟨#[ch]⟩ tv ∧ s.toks ≤ tv) ∧ h.IsStrIter s.heap.objs.size "str_ascii_iterator" x t (i + 1), fun i h => h.IsStrIter s.heap.objs.size "str_ascii_iterator" x t i,
    Led, ps, P, c₀, m, rfl, ⟨?_, ?_, ?_⟩, Nat.le_refl _, ?_, ?_, ?_, ?_, ?_, ⟨_, Heap.get?_push_size _ rfl, rfl, rfl⟩, F.push _, N.grown fun _ _ e => Heap.get?_push_of_some _ e, hk, hp, ?_, done⟩
  · intro i s' Q' E' hi hT st hQ
    refine wpAny_pyNext_ascii_item st (c := x.cps[i]) (by simp [hi]) fun h' hit' hs' => ?_
    exact hQ _ h' (s'.toks + 1) ⟨⟨_, _, by simp [hi], rfl, hT⟩, hit'⟩ (Nat.le_succ_of_le hT) fun b o hb e => hs'.extBut b o (fun h => hb (by simp [h])) e
  · intro i v s' Q' E' st hQ
    obtain ⟨o, ho, hc, hd⟩ := st.2
    exact letGo_plain ho hc (by decide) (hQ s'.heap st.1 st.2 fun _ _ _ e => e)
  · intro s' Q' E' st hQ
    exact wpAny_pyNext_ascii_end hh st (by simp) fun h' he' => hQ h' s'.toks fun b o hb e => he' b o (fun h => hb (by simp [h])) e
  · intro hm; exact absurd F.ns.lt ((List.mem_singleton.mp hm) ▸ Nat.lt_irrefl _)
  · intro b hb; rw [List.mem_singleton.mp hb]; exact next_is_new F
  · intro q hq hm; exact absurd (Heap.lt_size (N q hq).1) ((List.mem_singleton.mp hm) ▸ Nat.lt_irrefl _)
  · intro i h st b hb
    obtain ⟨o, ho, _⟩ := st
    rw [List.mem_singleton.mp hb]; exact ⟨o, ho⟩
  · intro i h h' c st hw _ _
    obtain ⟨o, ho, r⟩ := st
    exact ⟨o, hw _ (by simp) o ho, r⟩
  · intro i v c u h tk own hi hv hP _ hsep F₁ N₁
    obtain ⟨ch, tv, hch, rfl, htv⟩ := hv
    exact turn i ch c u h tk tv own hi hch htv hP hsep F₁ N₁
end
end Mine
end
theorem Mine.offM7 : True := by w_top off; trivial
section
open PySem PySem.W PySem.W.X PyProof.Rows
set_option Elab.async false
set_option maxRecDepth 100000
set_option maxHeartbeats 8000000
namespace Mine
theorem fill7 (w : World) (h : Heap) : (hd.heap_39 w.params).In h → model Challenge.rw_of0033_01.row.prog w = model Challenge.rw_of0033_01.row.prog w := by
  k_fill
  intro _
  rfl
theorem none_booked {w : World} {h : Heap} (X : (hd.heap_39 w.params).In h) : NoneBooked h :=
  ⟨fun _ => none, ⟨_, #[], _, X 2 _ rfl, rfl, fun _ h => absurd h (Array.not_mem_empty _), fun _ => rfl⟩, rfl⟩
theorem is_strs {prog : Program} {w : World} {A : Around} {E : Value → Shared → Prop} {s : Shared} {Q : Value → Shared → Prop} {y z : Str} {u v : Tok} (hu : u ≠ 0) (hv : v ≠ 0) (hne : u ≠ v) (hb : NoneBooked s.heap)
    (hq : ∀ b, (y ≠ z → b = false) → Q (.bool b) s) : wpAny (model prog w) A (compareOp .Is (.str y u) (.str z v)) Q E s := by
  show wpAny (model prog w) A (do return .bool (← isSame (.str y u) (.str z v))) Q E s
  have h0 : (u == 0 || v == 0) = false := by simp [hu, hv]
  by_cases e : y = z
  · exact wpAny_bind (wpAny_isSame_str h0 hb fun b => wpAny_pure (hq b fun x => absurd e x))
  · rw [isSame_str_other y z u v h0 (by simpa using hne) (by simpa using e)]
    exact wpAny_bind (wpAny_pure (wpAny_pure (hq false fun _ => rfl)))
theorem one_ne {a b : Nat} (h : a ≠ b) : (⟨#[a]⟩ : Str) ≠ one b := fun e => h (by simpa [one] using congrArg Str.cps e)
section
local macro_rules | `(tactic| walk_at "execs cons") => `(tactic| refine wpAny_execs_cons ?_)
local macro_rules | `(tactic| walk_at "execs nil") => `(tactic| refine wpAny_execs_nil ?_)
local macro_rules | `(tactic| walk_at "compareOp Is") => `(tactic| refine Stop.out ?_)
local macro_rules | `(tactic| walk_at "compareOp Is str str") => `(tactic| refine Stop.out ?_)
local macro_rules | `(tactic| walk_at "exec For") => `(tactic| refine Stop.out ?_)
local macro_rules | `(tactic| walk_at "exec For Name Name") => `(tactic| refine Stop.out ?_)
local macro_rules | `(tactic| walk_at "exec For Name Name cons nil") => `(tactic| refine Stop.out ?_)
local macro_rules | `(tactic| walk_at "pyIter str") => `(tactic| refine Stop.out ?_)
local macro_rules | `(tactic| walk_at "FPost") => `(tactic| (dsimp only [FPost]))
local macro_rules | `(tactic| walk_at "FEnd") => `(tactic| refine Stop.out ?_)
theorem countOf_call (w : World) (mean : ExcName → Option Value) (mg mb : Str → Option Value)
  (dp un : Nat) (gd : Option (List Code)) (cn : Str) (cs : Scope) (a : Addr) (ccd : Value) (cl : List (Str × Addr)) (outer : List Env) (A₀ : Around) (base h₀ : Heap) (L : Addr) (m : Str → Option Value) (s : Shared) (Q E : Value → Shared → Prop)
  (x : Str) (c : Nat) (tx tc : Tok) (news : List (Addr × Obj))
  (B : Below A₀ base outer h₀) (F : Fr h₀ L s.heap m) (X : (hd.heap_39 w.params).In h₀) (N : News h₀ L s.heap news) (T : TopAt mean mg mb h₀) (hk : cs.kind = .function) (hdp : dp + 5 < recursionLimit) (hun : un + 40 < cLine)
  (hasc : x.cps.all (· < 128) = true) (hx : x.cps.size < 1000) (htc : tc ≠ 0) (htc' : tc < s.toks)
  (ret : ∀ t h' tk', Fr h₀ L h' m → News h₀ L h' news → Q (.int (x.cps.toList.countP (· == c) : Nat) t) { s with heap := h', toks := tk' }) :
  wpAny (model Challenge.rw_of0033_01.row.prog w) (ktrTop dp un gd cn cs L a ccd cl outer) (call (.ref 63) [.str x tx, .str (one c) tc]) Q E s := by
  refine wpAny_call ?_
  k_dflt ktr_enter
  k_steps
  unfold Stop
  rename Fr _ _ _ _ => F1
  refine For_atT F1 ?_ (by walk1)
  k_steps
  unfold Stop
  rename Fr _ _ _ _ => F2
  rename News _ _ _ _ => N2
  refine iter_strT (σ := Nat × Tok) (fun _ => news) (fun k => [(Str.ofString "count", .int (k.1 : Int) k.2), (Str.ofString "b", .str (one c) tc)]) (fun i k => k.1 = (x.cps.toList.take i).countP (· == c)) (0, _) rfl hasc F2 N2 (by kst_all) rfl ?_ ?_
  · rintro i ch ⟨k, tk'⟩ u h4 tk4 tv own hi hch htv hk' hsep F4 N4
    clear F2 N2
    dsimp only at hk' F4 N4
    have htv2 : s.toks ≤ tv := Nat.le_trans (by dsimp only; omega) htv
    clear htv
    k_steps
    unfold Stop
    dsimp only
    rename (hd.heap_39 w.params).In _ => X5
    rename Fr _ _ _ _ => F5
    refine is_strs (Nat.ne_of_gt (Nat.lt_of_le_of_lt (Nat.zero_le _) (Nat.lt_of_lt_of_le htc' htv2))) htc (Nat.ne_of_gt (Nat.lt_of_lt_of_le htc' htv2)) (none_booked (X5.keeps F5.keep)) ?_
    intro b hb
    have hi' : i < x.cps.toList.length := by simpa using hi
    have hch' : x.cps.toList[i]? = some ch := by simpa using hch
    have hstep : (x.cps.toList.take (i + 1)).countP (· == c) = (x.cps.toList.take i).countP (· == c) + if ch = c then 1 else 0 := by
      rw [List.take_add_one, hch', List.countP_append]
      simp [List.countP_cons]
    k_steps
    · rename b = true => hbt
      have hc : ch = c := Classical.byContradiction fun hne => by
        have := hb (one_ne hne); rw [hbt] at this; cases this
      unfold Stop
      rename Fr _ _ _ _ => F7
      rename News _ _ _ _ => N7
      refine fend (k + 1, _) F7 N7 hsep (by kst_all) ?_
      show k + 1 = _
      rw [hstep, if_pos hc, hk']
    · rename (_ == one c) = true => hbt
      have hc : ch = c := by simpa [one] using congrArg Str.cps (eq_of_beq hbt)
      unfold Stop
      rename Fr _ _ _ _ => F7
      rename News _ _ _ _ => N7
      refine fend (k + 1, _) F7 N7 hsep (by kst_all) ?_
      show k + 1 = _
      rw [hstep, if_pos hc, hk']
    · rename (_ == one c) = false => hbt
      have hc : ¬ ch = c := fun e => by
        have : ((⟨#[ch]⟩ : Str) == one c) = true := by rw [e]; exact beq_self_eq_true (one c)
        rw [hbt] at this; cases this
      unfold Stop
      rename Fr _ _ _ _ => F7
      rename News _ _ _ _ => N7
      refine fend (k, _) F7 N7 hsep (by kst_all) ?_
      show k = _
      rw [hstep, if_neg hc, hk']
      rfl
  · rintro ⟨k, tk'⟩ u h4 tk4 hk' F4 N4
    clear F2 N2
    dsimp only at hk' F4 N4
    k_steps
    rename Fr h₀ _ _ _ => F13
    rename News h₀ _ _ _ => N13
    have e : k = x.cps.toList.countP (· == c) := by rw [hk', List.take_of_length_le (by simp)]
    subst e
    exact ret _ _ _ F13 N13
end
end Mine
end
section
open PySem PySem.W PySem.W.X PyProof.Rows
set_option Elab.async false
set_option maxRecDepth 100000
set_option maxHeartbeats 4000000
namespace Mine
section
variable {prog : Program} {w : World} {A : Around} {E : Value → Shared → Prop} {s : Shared}
/-- enumerate's next over a text, the tokens told -/
theorem enum_next_ascii {e it : Addr} {x : Str} {t : Tok} {i c : Nat} {old : Value} {Q : Option Value → Shared → Prop}
    (he : IsEnum s.heap e it i old) (hit : s.heap.IsStrIter it "str_ascii_iterator" x t i) (hx : x.cps[i]? = some c) (hne : e ≠ it)
    (hQ : ∀ h', IsEnumOut h' e it ((i : Int) + 1) (.str ⟨#[c]⟩ s.toks) s.heap.objs.size → h'.IsStrIter it "str_ascii_iterator" x t (i + 1) → h'.IsTuple s.heap.objs.size #[.int i (s.toks + 1), .str ⟨#[c]⟩ s.toks] →
      (∀ b o, b ≠ e → b ≠ it → s.heap.get? b = some o → h'.get? b = some o) → Q (some (.ref s.heap.objs.size)) { s with heap := h', toks := s.toks + 1 + 1 }) :
    wpAny (model prog w) A (pyNext (.ref e)) Q E s := by
  have hT : s.TypeIs (.ref e) "enumerate" := ⟨_, he, rfl⟩
  unfold pyNext
  refine wpAny_bind (wpAny_attempt (wpAny_callSpecial?_slot (name := Str.ofString "__next__") hT F.slot_enumerate_next
    (wpAny_call_entry F.slot_enumerate_next hT F.entry_enumerate_next ?_ (F.args_enumerate_next_1 _))))
  obtain ⟨hp, g, d, tk, os⟩ := s
  show wpAny _ _ (field (.ref e) 2 >>= _) _ _ _
  refine wpAny_bind (wpAny_field he rfl (x := .ref it) rfl ?_)
  refine wpAny_bind (wpAny_nextOf_ascii_item hit hx fun h₁ hit₁ hs₁ => ?_)
  replace hs₁ : Heap.SameBut it hp h₁ := hs₁
  have he₁ : IsEnum h₁ e it i old := (hs₁.2 e hne).trans he
  show wpAny _ _ (field (.ref e) 3 >>= _) _ _ ⟨h₁, g, d, tk + 1, os⟩
  refine wpAny_bind (wpAny_field he₁ rfl (x := rawInt i) rfl ?_)
  show wpAny _ _ (field (.ref e) 4 >>= _) _ _ ⟨h₁, g, d, tk + 1, os⟩
  refine wpAny_bind (wpAny_field he₁ rfl (x := .none) rfl ?_)
  show wpAny _ _ (mkInt i >>= _) _ _ ⟨h₁, g, d, tk + 1, os⟩
  refine wpAny_bind (wpAny_mkInt ?_)
  show wpAny _ _ (setField (.ref e) 3 (rawInt ((i : Int) + 1)) >>= _) _ _ ⟨h₁, g, d, tk + 1 + 1, os⟩
  refine wpAny_bind (wpAny_setField_rec he₁ (by simp) fun h₂ he₂ hs₂ => ?_)
  replace hs₂ : Heap.SameBut e h₁ h₂ := hs₂
  replace he₂ : IsEnum h₂ e it ((i : Int) + 1) old := he₂
  show wpAny _ _ (setField (.ref e) 4 .none >>= _) _ _ ⟨h₂, g, d, tk + 1 + 1, os⟩
  refine wpAny_bind (wpAny_setField_rec he₂ (by simp) fun h₃ he₃ hs₃ => ?_)
  replace hs₃ : Heap.SameBut e h₂ h₃ := hs₃
  replace he₃ : IsEnum h₃ e it ((i : Int) + 1) old := he₃
  show wpAny _ _ (newTuple [.int i (tk + 1), .str ⟨#[c]⟩ tk] >>= _) _ _ ⟨h₃, g, d, tk + 1 + 1, os⟩
  refine wpAny_bind (wpAny_newTuple ?_)
  have he₄ : IsEnum (h₃.push { cls := .type "tuple", data := .seq #[.int i (tk + 1), .str ⟨#[c]⟩ tk] }) e it ((i : Int) + 1) old := Heap.get?_push_of_some _ he₃
  generalize hh₄ : h₃.push { cls := .type "tuple", data := .seq #[.int i (tk + 1), .str ⟨#[c]⟩ tk] } = h₄ at he₄
  have hsz : h₃.objs.size = hp.objs.size := by rw [hs₃.1, hs₂.1, hs₁.1]
  have hel : e < hp.objs.size := Heap.lt_size he
  have ht₄ : h₄.get? hp.objs.size = some { cls := .type "tuple", data := .seq #[.int i (tk + 1), .str ⟨#[c]⟩ tk] } := by rw [← hh₄, ← hsz]; exact Heap.get?_push_size _ rfl
  have hk₄ : ∀ b o, b ≠ e → b ≠ it → hp.get? b = some o → h₄.get? b = some o := fun b o hbe hbi hb => by
    rw [← hh₄]; exact Heap.get?_push_of_some _ (hs₃.extBut b o hbe (hs₂.extBut b o hbe (hs₁.extBut b o hbi hb)))
  have up : ∀ b o, b ≠ e → h₁.get? b = some o → h₄.get? b = some o := fun b o hbe hb => by
    rw [← hh₄]; exact Heap.get?_push_of_some _ (hs₃.extBut b o hbe (hs₂.extBut b o hbe hb))
  have hit₄ : h₄.IsStrIter it "str_ascii_iterator" x t (i + 1) := by
    obtain ⟨o, ho, r⟩ := hit₁
    exact ⟨o, up it o (Ne.symm hne) ho, r⟩
  show wpAny _ _ (Builtin.SmallTypes.ownedTupleIsFree (.ref e) >>= _) _ _ ⟨h₄, g, d, tk + 1 + 1, os⟩
  rw [hsz]
  clear hh₄ he₃ hs₃ he₂ hs₂ he₁ hs₁ hit₁ hsz up h₃ h₂ h₁
  refine wpAny_bind ?_
  unfold Builtin.SmallTypes.ownedTupleIsFree
  refine wpAny_bind (wpAny_field he₄ rfl (x := .none) rfl (wpAny_pure ?_))
  simp only [if_true]
  refine wpAny_bind (wpAny_rule ?_)
  refine wpAny_bind (wpAny_field he₄ rfl (x := old) rfl ?_)
  refine wpAny_bind (wpAny_setField_rec he₄ (by simp) fun h₅ he₅ hs₅ => ?_)
  replace hs₅ : Heap.SameBut e h₄ h₅ := hs₅
  replace he₅ : IsEnum h₅ e it ((i : Int) + 1) (.str ⟨#[c]⟩ tk) := he₅
  show wpAny _ _ (Builtin.SmallTypes.ownedTupleHandOut (.ref e) (.ref hp.objs.size) >>= _) _ _ ⟨h₅, g, d, tk + 1 + 1, os⟩
  refine wpAny_bind ?_
  unfold Builtin.SmallTypes.ownedTupleHandOut
  refine wpAny_bind (wpAny_setField_rec he₅ (by simp) fun h₆ he₆ hs₆ => ?_)
  replace hs₆ : Heap.SameBut e h₅ h₆ := hs₆
  replace he₆ : IsEnumOut h₆ e it ((i : Int) + 1) (.str ⟨#[c]⟩ tk) hp.objs.size := he₆
  refine wpAny_setField_rec he₆ (by simp) fun h₇ he₇ hs₇ => ?_
  replace hs₇ : Heap.SameBut e h₆ h₇ := hs₇
  replace he₇ : IsEnumOut h₇ e it ((i : Int) + 1) (.str ⟨#[c]⟩ tk) hp.objs.size := he₇
  have all : ∀ b o, b ≠ e → h₄.get? b = some o → h₇.get? b = some o := fun b o hbe hb => hs₇.extBut b o hbe (hs₆.extBut b o hbe (hs₅.extBut b o hbe hb))
  refine wpAny_bind (wpAny_letGo (wpAny_pure ⟨_, rfl, wpAny_pure (hQ h₇ he₇ ?_ ?_ ?_)⟩))
  · obtain ⟨o, ho, r⟩ := hit₄
    exact ⟨o, all it o (Ne.symm hne) ho, r⟩
  · exact ⟨_, all _ _ (Nat.ne_of_gt hel) ht₄, rfl, _, rfl⟩
  · exact fun b o hbe hbi hb => all b o hbe (hk₄ b o hbe hbi hb)
end
section
variable {prog : Program} {w : World} {A : Around} {E : Value → Shared → Prop} {s : Shared} {env : Env} {h₀ : Heap} {elts : List Expr} {kt : Nat} {pt : Pos} {body orelse : List Stmt} {Q : Flow → Shared → Prop} {m : Str → Option Value}
theorem enum_strT {σ : Type} {x : Str} {tx : Tok} (Led : σ → List (Addr × Obj)) (ps : σ → List (Str × Value)) (P : Nat → σ → Prop) (c₀ : σ) (hh : A.handled = none) (hasc : x.cps.all (· < 128) = true)
    (F : Fr h₀ env.locals s.heap m) (N : News h₀ env.locals s.heap (Led c₀)) (hk : ∀ p ∈ ps c₀, m p.1 = some p.2) (hp : P 0 c₀)
    (turn : ∀ i ch T ti tv c (u : Str → Option Value) h tk own, i < x.cps.size → x.cps[i]? = some ch → s.toks ≤ tv → h.IsTuple T #[.int (i : Int) ti, .str ⟨#[ch]⟩ tv] → P i c → (∀ p ∈ own, ∀ q ∈ Led c, p.1 ≠ q.1) → Fr h₀ env.locals h (kstB u (ps c)) → News h₀ env.locals h (Led c ++ own) →
      wpAny (model prog w) A (assign (.Tuple elts kt pt) env (.ref T)) (fun _ s₃ => wpAny (model prog w) A (execs body env) (FPost h₀ env.locals s own Led ps P i Q) E s₃) E { s with heap := h, toks := tk })
    (done : ∀ c (u : Str → Option Value) h tk, P x.cps.size c → Fr h₀ env.locals h (kstB u (ps c)) → News h₀ env.locals h (Led c) → wpAny (model prog w) A (execs orelse env) Q E { s with heap := h, toks := tk }) :
    wpAny (model prog w) A (call (.type "enumerate") [.str x tx]) (fun xv s₁ => wpAny (model prog w) A (pyIter xv) (fun it s₂ => ForAtT prog w A h₀ env (.Tuple elts kt pt) body orelse Q E it s₂) E s₁) E s := by
  have hL : env.locals < s.heap.objs.size := F.ns.lt
  refine call_enumerate_str ?_
  intro h3 e3 i3 z3 k3
  have hty : strIterType x = "str_ascii_iterator" := by simp [strIterType, hasc]
  rw [hty] at i3
  refine wpAny_pyIter_enum e3 ?_
  have hei : s.heap.objs.size + 1 ≠ s.heap.objs.size := Nat.ne_of_gt (Nat.lt_succ_self _)
  refine ⟨σ, s.heap.objs.size + 1, [s.heap.objs.size + 1, s.heap.objs.size], x.cps.size, s.toks,
    fun i v h => ∃ T ti ch tv, v = .ref T ∧ x.cps[i]? = some ch ∧ s.toks ≤ tv ∧ h.IsTuple T #[.int (i : Int) ti, .str ⟨#[ch]⟩ tv],
    fun i v h => ∃ T ti ch tv, v = .ref T ∧ x.cps[i]? = some ch ∧ s.toks ≤ tv ∧ h.IsTuple T #[.int (i : Int) ti, .str ⟨#[ch]⟩ tv] ∧ T ≠ s.heap.objs.size + 1 ∧ (∃ y, IsEnumOut h (s.heap.objs.size + 1) s.heap.objs.size ((i : Int) + 1) y T) ∧ h.IsStrIter s.heap.objs.size "str_ascii_iterator" x tx (i + 1),
    fun i h => (∃ old, IsEnum h (s.heap.objs.size + 1) s.heap.objs.size i old) ∧ h.IsStrIter s.heap.objs.size "str_ascii_iterator" x tx i,
    Led, ps, P, c₀, m, rfl, ⟨?_, ?_, ?_⟩, Nat.le_refl _, ?_, ?_, ?_, ?_, ?_, ⟨⟨_, e3⟩, i3⟩, F.keeps k3, N.grown k3, hk, hp, ?_, done⟩
  · intro i s' Q' E' hi hT st hQ
    obtain ⟨⟨old, he⟩, hit⟩ := st
    have hx : x.cps[i]? = some x.cps[i] := by simp [hi]
    refine enum_next_ascii he hit hx hei fun h' ho hit' hTup hk' => ?_
    have helt : s.heap.objs.size + 1 < s'.heap.objs.size := Heap.lt_size he
    exact hQ _ h' (s'.toks + 1 + 1) ⟨_, _, _, _, rfl, hx, hT, hTup, Nat.ne_of_gt helt, ⟨_, ho⟩, hit'⟩ (Nat.le_succ_of_le (Nat.le_succ_of_le hT)) fun b o hb e => hk' b o (fun q => hb (by simp [q])) (fun q => hb (by simp [q])) e
  · intro i v s' Q' E' hm hQ
    obtain ⟨T, ti, ch, tv, rfl, hch, htv, hTup, hTe, ⟨y, ho⟩, hit⟩ := hm
    refine wpAny_letOwnedTupleGo_enum ho fun h' he' hs' => hQ h' ⟨T, ti, ch, tv, rfl, hch, htv, ?_⟩ ⟨⟨y, by simpa using he'⟩, ?_⟩ fun b o hb e => ?_
    · obtain ⟨o, q, r⟩ := hTup
      exact ⟨o, hs'.extBut _ _ hTe q, r⟩
    · obtain ⟨o, q, r⟩ := hit
      exact ⟨o, hs'.extBut _ _ (Ne.symm hei) q, r⟩
    · exact hs'.extBut _ _ (fun q => hb (by simp [q])) e
  · intro s' Q' E' st hQ
    obtain ⟨⟨old, he⟩, hit⟩ := st
    exact wpAny_pyNext_enum_endD (Draws.strAscii (A := A.in1) hh s.heap.objs.size x tx) he hit fun h' hx => hQ h' s'.toks fun b o hb e => hx b o (fun q => hb (by simp [q])) e
  · intro hm
    rcases List.mem_cons.mp hm with q | q
    · exact absurd q (Nat.ne_of_lt (Nat.lt_succ_of_lt hL))
    · exact absurd (List.mem_singleton.mp q) (Nat.ne_of_lt hL)
  · intro b hb
    rcases List.mem_cons.mp hb with rfl | q
    · exact fresh_out F _ (Nat.le_succ _)
    · rw [List.mem_singleton.mp q]; exact fresh_out F _ (Nat.le_refl _)
  · intro q hq hm
    have := Heap.lt_size (N q hq).1
    rcases List.mem_cons.mp hm with r | r
    · exact absurd r (Nat.ne_of_lt (Nat.lt_succ_of_lt this))
    · exact absurd (List.mem_singleton.mp r) (Nat.ne_of_lt this)
  · intro i h st b hb
    obtain ⟨⟨old, h1⟩, ⟨o, h2, _⟩⟩ := st
    rcases List.mem_cons.mp hb with rfl | q
    · exact ⟨_, h1⟩
    · rw [List.mem_singleton.mp q]; exact ⟨o, h2⟩
  · intro i h h' c st hw _ _
    obtain ⟨⟨old, h1⟩, ⟨o, h2, r⟩⟩ := st
    exact ⟨⟨old, hw _ (by simp) _ h1⟩, ⟨o, hw _ (by simp) o h2, r⟩⟩
  · intro i v c u h tk own hi hv hP _ hsep F₁ N₁
    obtain ⟨T, ti, ch, tv, rfl, hch, htv, hTup⟩ := hv
    exact turn i ch T ti tv c u h tk own hi hch htv hTup hP hsep F₁ N₁
end
end Mine
end
theorem Mine.offM8 : True := by w_top off; trivial
section
open PySem PySem.W PySem.W.X PyProof.Rows
set_option Elab.async false
set_option maxRecDepth 100000
set_option maxHeartbeats 8000000
namespace Mine
theorem fill8 (w : World) (h : Heap) : (hd.heap_39 w.params).In h → model Challenge.rw_of0033_01.row.prog w = model Challenge.rw_of0033_01.row.prog w := by
  k_fill
  intro _
  rfl
def placeOf (x : Str) : Option Nat := x.cps.toList.findIdx? (· == 45)
def placeV (x : Str) (v : Value) : Prop := match placeOf x with
  | some i => ∃ t, v = .int (i : Int) t
  | none => v = .none
theorem tok1 {t k j tv : Nat} (h : t + k + 1 + j ≤ tv) (hp : 0 < t) : tv ≠ 0 ∧ t + k ≠ 0 ∧ tv ≠ t + k := by omega
theorem place_at {x : Str} {i : Nat} (hi : x.cps[i]? = some 45) (hno : ∀ k, k < i → x.cps[k]? ≠ some 45) : placeOf x = some i := by
  unfold placeOf
  rw [List.findIdx?_eq_some_iff_getElem]
  have h1 : x.cps.toList[i]? = some 45 := by simpa using hi
  obtain ⟨h2, h3⟩ := List.getElem?_eq_some_iff.mp h1
  refine ⟨h2, by simp [h3], fun j hj => ?_⟩
  have := hno j hj
  intro hc
  apply this
  rw [← Array.getElem?_toList, List.getElem?_eq_getElem (Nat.lt_trans hj h2)]
  simpa using hc
theorem place_none {x : Str} (hno : ∀ k, k < x.cps.size → x.cps[k]? ≠ some 45) : placeOf x = none := by
  unfold placeOf
  rw [List.findIdx?_eq_none_iff]
  intro y hy
  obtain ⟨k, hk, e⟩ := List.mem_iff_getElem.mp hy
  have := hno k (by simpa using hk)
  rw [← Array.getElem?_toList, List.getElem?_eq_getElem hk, e] at this
  simpa using this
section
local macro_rules | `(tactic| walk_at "execs cons") => `(tactic| refine wpAny_execs_cons ?_)
local macro_rules | `(tactic| walk_at "execs nil") => `(tactic| refine wpAny_execs_nil ?_)
local macro_rules | `(tactic| walk_at "compareOp Is") => `(tactic| refine Stop.out ?_)
local macro_rules | `(tactic| walk_at "compareOp Is str str") => `(tactic| refine Stop.out ?_)
local macro_rules | `(tactic| walk_at "exec For") => `(tactic| refine Stop.out ?_)
local macro_rules | `(tactic| walk_at "exec For Tuple Call") => `(tactic| refine Stop.out ?_)
local macro_rules | `(tactic| walk_at "call type:enumerate") => `(tactic| refine Stop.out ?_)
local macro_rules | `(tactic| walk_at "FPost") => `(tactic| (dsimp only [FPost]))
local macro_rules | `(tactic| walk_at "FEnd") => `(tactic| refine Stop.out ?_)
theorem place_call (w : World) (mean : ExcName → Option Value) (mg mb : Str → Option Value)
  (gd : Option (List Code)) (cn : Str) (cs : Scope) (a : Addr) (ccd : Value) (A₀ : Around) (base h₀ : Heap) (L : Addr) (m : Str → Option Value) (s : Shared) (Q E : Value → Shared → Prop)
  (x : Str) (tx : Tok) (news : List (Addr × Obj))
  (B : Below A₀ base [] h₀) (XB : (hd.heap_39 w.params).In base) (TB : TopAt mean mg mb base) (F : Fr h₀ L s.heap m) (X : (hd.heap_39 w.params).In h₀) (N : News h₀ L s.heap news) (T : TopAt mean mg mb h₀) (hk : cs.kind = .function)
  (hasc : x.cps.all (· < 128) = true) (hx : x.cps.size < 1000) (hpos : 0 < s.toks)
  (ret : ∀ v h' tk', placeV x v → Fr h₀ L h' m → News h₀ L h' news → Q v { s with heap := h', toks := tk' }) :
  wpAny (model Challenge.rw_of0033_01.row.prog w) (ktrTop 302 20 gd cn cs L a ccd [] []) (call (.ref 219) [.str x tx]) Q E s := by
  refine wpAny_call ?_
  k_dflt (refine' code_defS0 (cn := cn) (cs := cs) (a := a) (ccd := ccd) ?k1 ?k2 ?k3 ?k4 ?k5 ?kA ?k6 ?k7 ?k8 ?k9 ?kB ?_ ?cK ?c2 ?c3 ?c4 ?c5; (case kA => exact rfl); (case k2 => k_asm); (case k1 => k_asm); (case k3 => k_asm); (case k4 => k_asm); (case k5 => k_asm); (case k6 => k_is); (case k7 => k_is); (case k8 => ktr_room); (case k9 => exact BindsTo.of_eq rfl); (case kB => exact locs rfl); (case cK => exact hk); (case c2 => exact rfl); (case c3 => exact rfl); (case c4 => exact rfl); (case c5 => decide); k_whole; intro g' L' h' FG' F' N' B' X' T' D'; (try dsimp only); (try k_fold))
  k_steps
  unfold Stop
  rename Fr _ _ _ _ => F1
  refine For_atT F1 ?_ (by walk1)
  k_steps
  unfold Stop
  rename Fr _ _ _ _ => F2
  rename News _ _ _ _ => N2
  refine enum_strT (σ := Unit) (fun _ => news) (fun _ => [(Str.ofString "b", .str (Str.ofString "-") _)]) (fun i _ => ∀ k, k < i → x.cps[k]? ≠ some 45) () rfl hasc F2 N2 (by kst_all) (fun k hk => absurd hk (Nat.not_lt_zero _)) ?_ ?_
  · intro i ch T4 ti tv c4 u h4 tk4 own hi hch htv hT4 hno hsep F4 N4
    clear F2 N2
    have hT5 : IsTup h4 T4 _ := hT4
    k_steps
    unfold Stop
    dsimp only at htv ⊢
    rename Frag.In _ _ => X5
    rename Fr _ _ _ _ => F5
    refine is_strs (tok1 htv hpos).1 (tok1 htv hpos).2.1 (tok1 htv hpos).2.2 (none_booked (X5.keeps F5.keep)) ?_
    intro b hb
    k_steps
    · rename b = true => hbt
      have hc : ch = 45 := Classical.byContradiction fun hne => by
        have := hb (one_ne hne); rw [hbt] at this; cases this
      subst hc
      rename Fr h₀ _ _ _ => F13
      rename News h₀ _ _ _ => N13
      exact ret _ _ _ (by unfold placeV; rw [place_at hch hno]; exact ⟨_, rfl⟩) F13 (fun p hp => N13 p (List.mem_append_left _ hp))
    · rename (_ == Str.ofString "-") = true => hbt
      have hc : ch = 45 := by simpa [one] using congrArg Str.cps (eq_of_beq hbt : _ = one 45)
      subst hc
      rename Fr h₀ _ _ _ => F13
      rename News h₀ _ _ _ => N13
      exact ret _ _ _ (by unfold placeV; rw [place_at hch hno]; exact ⟨_, rfl⟩) F13 (fun p hp => N13 p (List.mem_append_left _ hp))
    · rename (_ == Str.ofString "-") = false => hbt
      have hc : ¬ ch = 45 := fun e => by
        have : ((⟨#[ch]⟩ : Str) == Str.ofString "-") = true := by rw [e]; exact beq_self_eq_true (one 45)
        rw [hbt] at this; cases this
      unfold Stop
      rename Fr _ _ _ _ => F7
      rename News _ _ _ _ => N7
      refine fend () F7 N7 hsep (by kst_all) ?_
      intro k hk hk'
      rcases Nat.lt_or_eq_of_le (Nat.le_of_lt_succ hk) with q | q
      · exact hno k q hk'
      · rw [q, hch] at hk'; exact hc (Option.some.inj hk')
  · intro c4 u h4 tk4 hno F4 N4
    clear F2 N2
    k_steps
    rename Fr h₀ _ _ _ => F13
    rename News h₀ _ _ _ => N13
    exact ret _ _ _ (by unfold placeV; rw [place_none hno]) F13 N13
end
end Mine
end
theorem Mine.offM9 : True := by w_top off; trivial
section
open PySem PySem.W PySem.W.X PyProof.Rows
set_option Elab.async false
set_option maxRecDepth 100000
set_option maxHeartbeats 8000000
namespace Mine
theorem fill9 (w : World) (h : Heap) : (hd.heap_39 w.params).In h → model Challenge.rw_of0033_01.row.prog w = model Challenge.rw_of0033_01.row.prog w := by
  k_fill
  intro _
  rfl
theorem off1_mem {D : Addr} : ∀ {l : List (Addr × Obj)}, LCg.Off1 D l → ∀ p ∈ l, p.1 ≠ D
  | [], _, _, h => nomatch h
  | _ :: _, x, p, h => by
    rcases List.mem_cons.mp h with rfl | h
    · exact x.1
    · exact off1_mem x.2 p h
theorem lst_of {ys : List Value} {n : Nat} (h : ys.length = n) : LCg.lst ys = W.listOf ys.toArray n := by subst h; rfl
def bitsOf (mode : Int) (n : Nat) : List Bool := (List.range n).map fun k => (mode.fdiv (2 ^ k)).fmod 2 == 1
theorem bitsOf_len (mode : Int) (n : Nat) : (bitsOf mode n).length = n := by simp [bitsOf]
theorem bitsOf_succ (mode : Int) (n : Nat) : (bitsOf mode (n + 1)).map Value.bool = (bitsOf mode n).map Value.bool ++ [Value.bool ((mode.fdiv (2 ^ n)).fmod 2 == 1)] := by
  unfold bitsOf
  rw [List.range_succ, List.map_append, List.map_append]
  rfl
section
local macro_rules | `(tactic| ktr_unf) => `(tactic| (refine' code_defC ?k1 ?k2 ?k3 ?k4 ?k5 ?kA ?kF ?kK ?k6 ?k7 ?k8 ?k9 ?kB ?kD ?_ ?c2 ?c3 ?c4; (case kA => exact rfl); (case kF => exact rfl); (case kK => assumption); (case k1 => k_asm); (case k2 => k_asm); (case k3 => k_asm); (case k4 => k_asm); (case k5 => k_asm); (case k6 => k_is); (case k7 => k_is); (case k8 => ktr_room); (case k9 => exact BindsTo.of_eq rfl); (case kB => exact rfl); (case kD => decide +kernel); (case c2 => exact rfl); (case c3 => exact rfl); (case c4 => exact rfl); k_whole; intro g' L' h' tk' cells' FG' F' N' Y' B' X' T' l1))
local macro_rules | `(tactic| walk_at "eval ListComp") => `(tactic| refine Stop.out ?_)
local macro_rules | `(tactic| walk_at "CompSrc") => `(tactic| refine Stop.out ?_)
local macro_rules | `(tactic| walk_at "CompEnd") => `(tactic| refine Stop.out ?_)
theorem rights_call (w : World) (mean : ExcName → Option Value) (mg mb : Str → Option Value)
  (dp un : Nat) (gd : Option (List Code)) (cn : Str) (cs : Scope) (a : Addr) (ccd : Value) (cl : List (Str × Addr)) (outer : List Env) (A₀ : Around) (base h₀ : Heap) (L : Addr) (m : Str → Option Value) (s : Shared) (Q E : Value → Shared → Prop)
  (mode : Int) (tm : Tok) (rest : List (Addr × Obj)) (h0 : 0 ≤ mode)
  (B : Below A₀ base outer h₀) (F : Fr h₀ L s.heap m) (X : (hd.heap_39 w.params).In h₀) (N : News h₀ L s.heap rest) (T : TopAt mean mg mb h₀) (hk : cs.kind = .function)
  (hdp : dp + 20 < recursionLimit) (hun : un + 80 < cLine)
  (ret : ∀ p h' tk' n, (∀ q ∈ rest, q.1 ≠ p) → Fr h₀ L h' m → News h₀ L h' ((p, W.listOf ((bitsOf mode 12).map Value.bool).toArray n) :: rest) → Q (.ref p) { s with heap := h', toks := tk' }) :
  wpAny (model Challenge.rw_of0033_01.row.prog w) (ktrTop dp un gd cn cs L a ccd cl outer) (call (.ref 200) [.int mode tm]) Q E s := by
  refine wpAny_call ?_
  k_dflt ktr_unf
  rename CellsAre _ _ _ => Y
  rename News _ _ _ _ => N1
  k_dflt (k_cells Y)
  simp only [List.cons_append, List.nil_append] at N1
  dsimp only
  k_steps
  unfold Stop
  rename Fr _ _ _ _ => F2
  k_dflt (refine LCg.ListComp_U (F₀ := F2) (by with_unfolding_all rfl) (by decide) (by rfl) (by decide) (by rfl) ?_)
  k_steps
  unfold Stop
  rename IsRange _ _ _ _ _ _ _ _ => R3
  rename Fr _ _ _ _ => F3
  rename News _ _ _ _ => N3
  refine LCg.CompSrc.range (n := 12) (by rfl) F3 N3 R3 (by decide) (by decide) (by decide) ?_
  intro g4
  refine rest_inv (fun i ys nw => ys = (bitsOf mode i).map Value.bool ∧ nw = _) ?_ ?_ ⟨rfl, rfl⟩
  · rintro i ys nw v I oI C oC D m2 h5 tk5 E5 hi ⟨hy, rfl⟩ hv hC hx F5 N5 off ne
    obtain ⟨t, rfl⟩ := hv
    clear F3 N3
    rw [Int.zero_add] at hx
    k_steps
    unfold Stop
    refine LCg.CompEnd.intro F5 N5 _ (fun p hp => hp) off trivial ⟨?_, rfl⟩
    rw [hy, bitsOf_succ]
    rfl
  · rintro ys nw ⟨hy, rfl⟩
    unfold LCg.FinE
    intro D6 h6 tk6 F6 N6 o6
    clear F3 N3
    k_steps
    rename Fr h₀ _ _ _ => F13
    rename News h₀ _ _ _ => N13
    rw [lst_of (n := 12) (by rw [hy, List.length_map, bitsOf_len])] at N13
    subst hy
    refine ret D6 _ _ 12 ?_ F13 (fun p hp => N13 p ?_)
    · intro q hq
      exact off1_mem o6 q (.tail _ hq)
    · rcases List.mem_cons.mp hp with hp | hp
      · rw [hp]; exact .head _
      · exact .tail _ (.tail _ hp)
end
end Mine
end
section
open PySem PySem.W PySem.W.X PyProof.Rows
set_option Elab.async false
set_option maxRecDepth 100000
set_option maxHeartbeats 4000000
namespace Mine
section
variable {prog : Program} {w : World} {A : Around} {E : Value → Shared → Prop} {s : Shared} {env : Env} {h₀ : Heap} {target : Expr} {body orelse : List Stmt} {Q : Flow → Shared → Prop} {m : Str → Option Value}
/-- a for over a list of the ledger -/
theorem iter_list {σ : Type} {t : Addr} {items : Array Value} {kl : Nat} (Led : σ → List (Addr × Obj)) (ps : σ → List (Str × Value)) (P : Nat → σ → Prop) (c₀ : σ) (hh : A.handled = none) (hm : ∀ c, (t, W.listOf items kl) ∈ Led c)
    (F : Fr h₀ env.locals s.heap m) (N : News h₀ env.locals s.heap (Led c₀)) (hk : ∀ p ∈ ps c₀, m p.1 = some p.2) (hp : P 0 c₀)
    (turn : ∀ i v c (u : Str → Option Value) h tk own, i < items.size → items[i]? = some v → P i c → (∀ p ∈ own, ∀ q ∈ Led c, p.1 ≠ q.1) → Fr h₀ env.locals h (kstB u (ps c)) → News h₀ env.locals h (Led c ++ own) →
      wpAny (model prog w) A (assign target env v) (fun _ s₃ => wpAny (model prog w) A (execs body env) (FPost h₀ env.locals s own Led ps P i Q) E s₃) E { s with heap := h, toks := tk })
    (done : ∀ c (u : Str → Option Value) h tk, P items.size c → Fr h₀ env.locals h (kstB u (ps c)) → News h₀ env.locals h (Led c) → wpAny (model prog w) A (execs orelse env) Q E { s with heap := h, toks := tk }) :
    wpAny (model prog w) A (pyIter (.ref t)) (fun it s₂ => ForAt prog w A h₀ env target body orelse Q E it s₂) E s := by
  have hts : s.heap.IsList t items := ⟨_, (N _ (hm c₀)).1, rfl, _, rfl⟩
  have hlt : t < s.heap.objs.size := by obtain ⟨o, ho, _⟩ := hts; exact Heap.lt_size ho
  refine wpAny_pyIter_list hts ?_
  have up : ∀ b o, s.heap.get? b = some o → (s.heap.push { cls := .type "list_iterator", data := .fields #[.ref t, .int 0 0] }).get? b = some o := fun b o e => Heap.get?_push_of_some _ e
  have W := Walks.list (prog := prog) (w := w) hh s.heap.objs.size t (Nat.ne_of_lt hlt) items
  refine ⟨σ, s.heap.objs.size, _, _, items.size, _, _, _, Led, ps, P, c₀, m, rfl, KTurns.ofWalks (target := target) W ?_, ?_, ?_, ?_, ?_, ?_, ⟨⟨_, Heap.get?_push_size _ rfl, rfl, rfl⟩, hts.push _⟩, F.push _, N.grown up, hk, hp, turn, done⟩
  · intro i v s' Q' E' st hQ
    obtain ⟨o, ho, hc, _⟩ := st.1
    exact letGo_plain ho hc (by decide) hQ
  · intro hm; exact absurd F.ns.lt ((List.mem_singleton.mp hm) ▸ Nat.lt_irrefl _)
  · intro b hb; rw [List.mem_singleton.mp hb]; exact next_is_new F
  · intro q hq hm; exact absurd (Heap.lt_size (N q hq).1) ((List.mem_singleton.mp hm) ▸ Nat.lt_irrefl _)
  · intro i h st b hb
    obtain ⟨o, ho, _⟩ := st.1
    rw [List.mem_singleton.mp hb]; exact ⟨o, ho⟩
  · intro i h h' c st hw hk₀ N'
    exact ⟨st.1.at fun o e => hw _ (by simp) o e, ⟨_, (N' _ (hm c)).1, rfl, _, rfl⟩⟩
end
section
variable {prog : Program} {w : World} {A : Around} {E : Value → Shared → Prop} {s : Shared} {env : Env} {Q : Value → Shared → Prop}
theorem ifexp_str {test : Expr} {x y : Str} {k1 k2 : Nat} {p p1 p2 : Pos} (hx : x = one (x.cps.getD 0 0)) (hy : y = one (y.cps.getD 0 0))
    (h : wpAny (model prog w) A (isTrue test env (eval test env)) (fun b s' => Q (.str (one (if b = true then x.cps.getD 0 0 else y.cps.getD 0 0)) s'.toks) { s' with toks := s'.toks + 1 }) E s) :
    wpAny (model prog w) A (eval (.IfExp test (.Constant (.str x) k1 p1) (.Constant (.str y) k2 p2) p) env) Q E s := by
  refine wpAny_IfExp (wpAny_mono h (fun b s₁ h₁ => ?_) fun _ _ e => e)
  cases b
  · refine Calls.Constant_str ?_
    rw [hy]; exact h₁
  · refine Calls.Constant_str ?_
    rw [hx]; exact h₁
end
section
variable {prog : Program} {w : World} {A : Around} {E : Value → Shared → Prop} {s : Shared} {h₀ : Heap} {L hp : Addr} {m : Str → Option Value} {news rest : List (Addr × Obj)} {vs : List Value} {v : Value} {n : Nat} {k : Int} {u : Tok}
theorem v_sub {value slice : PySem.Expr} {Q : Value → Shared → Prop} (N : News h₀ L s.heap news) (hm : (hp, listOf vs.toArray n) ∈ news) {i : Nat} (hi : k = (i : Int)) (hv : vs[i]? = some v) (hfit : i < 1000) (h : Q v s)
    (hs : subscripted slice false (.ref hp) (.int k u) = operate [.ref hp, .int k u] (getItem (.ref hp) (.int k u)) := by with_unfolding_all rfl) :
    wpAny (model prog w) A (subscriptTail value slice (.ref hp) (.int k u)) Q E s := by
  have hl : s.heap.IsList hp vs.toArray := ⟨_, (N _ hm).1, rfl, n, rfl⟩
  subst hi
  exact tail_any hl.typeIs slot_list_getitem.lookup (wpAny_getItem_list hl (by omega) (by omega) (by simpa using hv) h) hs
theorem t_sub {value slice : PySem.Expr} {ta : Addr} {its : Array Value} {Q : Value → Shared → Prop} (ht : s.heap.IsTuple ta its) {i : Nat} (hi : k = (i : Int)) (hv : its[i]? = some v) (hfit : i < 1000) (h : Q v s)
    (hs : subscripted slice false (.ref ta) (.int k u) = operate [.ref ta, .int k u] (getItem (.ref ta) (.int k u)) := by with_unfolding_all rfl) :
    wpAny (model prog w) A (subscriptTail value slice (.ref ta) (.int k u)) Q E s := by
  subst hi
  have hlt : i < its.size := (Array.getElem?_eq_some_iff.mp hv).1
  exact tail_any ht.typeIs F.slot_tuple_getitem.lookup (getItem_tuple ht (by omega) (by omega) (seqIndex_of (by omega) (by omega)) (by simpa using hv) h) hs
theorem v_len {Q : Value → Shared → Prop} (N : News h₀ L s.heap news) (hm : (hp, listOf vs.toArray n) ∈ news) (hfit : vs.length < 1000) (h : Q (.int (vs.length : Int) (s.toks + 1)) { s with toks := s.toks + 1 + 1 }) :
    wpAny (model prog w) A (call (.builtin "len") [.ref hp]) Q E s := by
  have hl : s.heap.IsList hp vs.toArray := ⟨_, (N _ hm).1, rfl, n, rfl⟩
  have e : vs.toArray.size = vs.length := by simp
  exact len_list hl (by rw [e]; omega) (by rw [e]; exact h)
end
end Mine
end
theorem Mine.offM10 : True := by w_top off; trivial
section
open PySem PySem.W PySem.W.X PyProof.Rows
set_option Elab.async false
set_option maxRecDepth 100000
set_option maxHeartbeats 8000000
namespace Mine
theorem fill10 (w : World) (h : Heap) : (hd.heap_39 w.params).In h → model Challenge.rw_of0033_01.row.prog w = model Challenge.rw_of0033_01.row.prog w := by
  k_fill
  intro _
  rfl
section
local macro_rules | `(tactic| walk_at "execs cons") => `(tactic| refine wpAny_execs_cons ?_)
local macro_rules | `(tactic| walk_at "execs nil") => `(tactic| refine wpAny_execs_nil ?_)
local macro_rules | `(tactic| walk_at "eval IfExp") => `(tactic| refine ifexp_str (by decide) (by decide) ?_)
local macro_rules | `(tactic| walk_at "binaryOp Add") => `(tactic| refine Stop.out ?_)
local macro_rules | `(tactic| walk_at "binaryOp Add str str") => `(tactic| refine Stop.out ?_)
local macro_rules | `(tactic| walk_at "exec For Tuple List cons nil") => `(tactic| refine Stop.out ?_)
local macro_rules | `(tactic| walk_at "pyIter ref") => `(tactic| refine Stop.out ?_)
local macro_rules | `(tactic| walk_at "FPost") => `(tactic| (dsimp only [FPost]))
local macro_rules | `(tactic| walk_at "FEnd") => `(tactic| refine Stop.out ?_)
def sg3 (b : Nat → Bool) (f sp sm gr : Nat) : List Nat := [if b f then 114 else 45, if b (f - 1) then 119 else 45, if b sp then (if b (f - 2) then sm else gr) else (if b (f - 2) then 120 else 45)]
def sgs (b : Nat → Bool) : Nat → List Nat
  | 0 => []
  | 1 => sg3 b 8 11 115 83
  | 2 => sg3 b 8 11 115 83 ++ sg3 b 5 10 115 83
  | _ => sg3 b 8 11 115 83 ++ sg3 b 5 10 115 83 ++ sg3 b 2 9 116 84
theorem str_len_app (x y : Str) : (x ++ y).length = x.length + y.length := by
  show (x.cps ++ y.cps).size = _
  simp [Str.length]
theorem str_len_one (c : Nat) : (one c).length = 1 := rfl
theorem sgs_len (b : Nat → Bool) (i : Nat) : (sgs b i).length ≤ 9 := by
  match i with
  | 0 => exact (by decide : 0 ≤ 9)
  | 1 => exact (by decide : 3 ≤ 9)
  | 2 => exact (by decide : 6 ≤ 9)
  | _ + 3 => exact (by decide : 9 ≤ 9)
theorem sg_end {c : Str} {b : Nat → Bool} {i f sp sm gr x y z : Nat} (hP : c = ⟨(sgs b i).toArray⟩) (hs : sgs b (i + 1) = sgs b i ++ sg3 b f sp sm gr)
    (hx : x = if b f = true then 114 else 45) (hy : y = if b (f - 1) = true then 119 else 45) (hz : z = if b sp = true then (if b (f - 2) = true then sm else gr) else (if b (f - 2) = true then 120 else 45)) :
    c ++ one x ++ one y ++ one z = ⟨(sgs b (i + 1)).toArray⟩ := by
  subst hx hy hz hP
  show Str.mk _ = Str.mk _
  congr 1
  rw [hs]
  apply Array.toList_inj.mp
  show ((((sgs b i).toArray ++ #[_]) ++ #[_]) ++ #[_]).toList = _
  simp [sg3]
theorem signs_call (w : World) (mean : ExcName → Option Value) (mg mb : Str → Option Value)
  (dp un : Nat) (gd : Option (List Code)) (cn : Str) (cs : Scope) (a : Addr) (ccd : Value) (cl : List (Str × Addr)) (outer : List Env) (A₀ : Around) (base h₀ : Heap) (L : Addr) (m : Str → Option Value) (s : Shared) (Q E : Value → Shared → Prop)
  (pr : Addr) (bs : List Bool) (n : Nat) (rest : List (Addr × Obj)) (hl : bs.length = 12)
  (B : Below A₀ base outer h₀) (F : Fr h₀ L s.heap m) (X : (hd.heap_39 w.params).In h₀) (N : News h₀ L s.heap rest) (hm : (pr, W.listOf (bs.map Value.bool).toArray n) ∈ rest) (T : TopAt mean mg mb h₀) (hk : cs.kind = .function)
  (hdp : dp + 20 < recursionLimit) (hun : un + 80 < cLine)
  (ret : ∀ t h' tk', Fr h₀ L h' m → News h₀ L h' rest → Q (.str ⟨(sgs (fun i => bs.getD i false) 3).toArray⟩ t) { s with heap := h', toks := tk' }) :
  wpAny (model Challenge.rw_of0033_01.row.prog w) (ktrTop dp un gd cn cs L a ccd cl outer) (call (.ref 207) [.ref pr]) Q E s := by
  have hb : ∀ i, i < 12 → (bs.map Value.bool)[i]? = some (.bool (bs.getD i false)) := by
    intro i hi
    simp [List.getD, hi, hl]
  refine wpAny_call ?_
  k_dflt ktr_enter
  k_steps
  unfold Stop
  rename Fr _ _ _ _ => F1
  refine For_at F1 ?_ (by walk1)
  k_steps
  unfold Stop
  rename Fr _ _ _ _ => F2
  rename News _ _ _ _ => N2
  refine iter_list (σ := Str × Tok) (fun _ => _) (fun c => [(Str.ofString "rights", .ref pr), (Str.ofString "signs", .str c.1 c.2)]) (fun i c => c.1 = ⟨(sgs (fun i => bs.getD i false) i).toArray⟩) (⟨#[]⟩, _) rfl (fun _ => List.Mem.head _) F2 N2 (by kst_all) rfl ?_ ?_
  · rintro i v ⟨c, tc⟩ u h4 tk4 own hi hv hP hsep F4 N4
    clear F2 N2
    dsimp only at hP F4 N4
    obtain ⟨f, sp, sm, gr, t1, t2, t3, t4, D, rfl, hD, hf2, hf, hsp, hstep⟩ : ∃ (f sp sm gr : Nat) (t1 t2 t3 t4 : Tok) (D : Addr), v = .ref D ∧ IsTup h4 D #[.int (f : Int) t1, .int (sp : Int) t2, .str (one sm) t3, .str (one gr) t4] ∧ 2 ≤ f ∧ f < 12 ∧ sp < 12 ∧ ∀ b, sgs b (i + 1) = sgs b i ++ sg3 b f sp sm gr := by
      have h0 := (N4 _ (.tail _ (.tail _ (.tail _ (.head _))))).1
      have h1 := (N4 _ (.tail _ (.tail _ (.head _)))).1
      have h2 := (N4 _ (.tail _ (.head _))).1
      match i, hi with
      | 0, _ => exact ⟨8, 11, 115, 83, _, _, _, _, _, (Option.some.inj hv).symm, ⟨_, h0, rfl, _, rfl⟩, by decide, by decide, by decide, fun _ => rfl⟩
      | 1, _ => exact ⟨5, 10, 115, 83, _, _, _, _, _, (Option.some.inj hv).symm, ⟨_, h1, rfl, _, rfl⟩, by decide, by decide, by decide, fun _ => rfl⟩
      | 2, _ => exact ⟨2, 9, 116, 84, _, _, _, _, _, (Option.some.inj hv).symm, ⟨_, h2, rfl, _, rfl⟩, by decide, by decide, by decide, fun _ => rfl⟩
    have hc : c.length ≤ 9 := by rw [hP]; simpa [Str.length] using sgs_len _ i
    clear hv
    k_steps
    rename News _ _ _ _ => N5
    refine v_sub N5 (List.mem_append_left _ (.tail _ (.tail _ (.tail _ (.tail _ hm))))) (i := f) (by rfl) (hb _ (by omega)) (by omega) ?_ (by with_unfolding_all rfl)
    k_steps
    unfold Stop
    dsimp only
    refine PyProof.Rows.add_str (fun t9 tk9 => ?_) (by rw [sizeLine_eq]; simp only [str_len_app, str_len_one]; omega)
    k_steps
    rename News _ _ _ _ => N5
    refine v_sub N5 (List.mem_append_left _ (.tail _ (.tail _ (.tail _ (.tail _ hm))))) (i := f - 1) (by omega) (hb _ (by omega)) (by omega) ?_ (by with_unfolding_all rfl)
    k_steps
    unfold Stop
    dsimp only
    refine PyProof.Rows.add_str (fun t9 tk9 => ?_) (by rw [sizeLine_eq]; simp only [str_len_app, str_len_one]; omega)
    k_steps
    rename News _ _ _ _ => N5
    refine v_sub N5 (List.mem_append_left _ (.tail _ (.tail _ (.tail _ (.tail _ hm))))) (i := sp) (by rfl) (hb _ (by omega)) (by omega) ?_ (by with_unfolding_all rfl)
    k_steps
    · rename News _ _ _ _ => N5
      refine v_sub N5 (List.mem_append_left _ (.tail _ (.tail _ (.tail _ (.tail _ hm))))) (i := f - 2) (by omega) (hb _ (by omega)) (by omega) ?_ (by with_unfolding_all rfl)
      k_steps
      · unfold Stop
        dsimp only
        refine PyProof.Rows.add_str (fun t9 tk9 => ?_) (by rw [sizeLine_eq]; simp only [str_len_app, str_len_one]; omega)
        k_steps
        unfold Stop
        rename Fr _ _ _ _ => F7
        rename News _ _ _ _ => N7
        refine fend (_, _) F7 N7 hsep (by kst_all) ?_
        dsimp only
        rename bs.getD sp false = _ => hA
        rename bs.getD (f - 2) false = _ => hB
        exact sg_end hP (hstep _) rfl rfl (by rw [if_pos hA, if_pos hB])
      · unfold Stop
        dsimp only
        refine PyProof.Rows.add_str (fun t9 tk9 => ?_) (by rw [sizeLine_eq]; simp only [str_len_app, str_len_one]; omega)
        k_steps
        unfold Stop
        rename Fr _ _ _ _ => F7
        rename News _ _ _ _ => N7
        refine fend (_, _) F7 N7 hsep (by kst_all) ?_
        dsimp only
        rename bs.getD sp false = _ => hA
        rename bs.getD (f - 2) false = _ => hB
        exact sg_end hP (hstep _) rfl rfl (by rw [if_pos hA, if_neg (show ¬ (bs.getD (f - 2) false = true) by rw [hB]; exact Bool.false_ne_true)])
    · rename News _ _ _ _ => N5
      refine v_sub N5 (List.mem_append_left _ (.tail _ (.tail _ (.tail _ (.tail _ hm))))) (i := f - 2) (by omega) (hb _ (by omega)) (by omega) ?_ (by with_unfolding_all rfl)
      k_steps
      unfold Stop
      dsimp only
      refine PyProof.Rows.add_str (fun t9 tk9 => ?_) (by rw [sizeLine_eq]; simp only [str_len_app, str_len_one]; omega)
      k_steps
      unfold Stop
      rename Fr _ _ _ _ => F7
      rename News _ _ _ _ => N7
      refine fend (_, _) F7 N7 hsep (by kst_all) ?_
      dsimp only
      rename bs.getD sp false = _ => hA
      exact sg_end hP (hstep _) rfl rfl (by rw [if_neg (show ¬ (bs.getD sp false = true) by rw [hA]; exact Bool.false_ne_true)]; rfl)
  · rintro ⟨c, tc⟩ u h4 tk4 hP F4 N4
    clear F2 N2
    dsimp only at hP F4 N4
    k_steps
    rename Fr h₀ _ _ _ => F13
    rename News h₀ _ _ _ => N13
    subst hP
    exact ret _ _ _ F13 (fun p hp => N13 p (.tail _ (.tail _ (.tail _ (.tail _ hp)))))
end
end Mine
end
theorem Mine.offM11 : True := by w_top off; trivial
section
open PySem PySem.W PySem.W.X PyProof.Rows
set_option Elab.async false
set_option maxRecDepth 100000
set_option maxHeartbeats 8000000
namespace Mine
theorem fill11 (w : World) (h : Heap) : (hd.heap_39 w.params).In h → model Challenge.rw_of0033_01.row.prog w = model Challenge.rw_of0033_01.row.prog w := by
  k_fill
  intro _
  rfl
def chg (mode deed mask : Int) : Int := if deed = 0 then Builtin.bitOr mode mask else if deed = 1 then Builtin.bitAnd mode (Builtin.bitNot mask) else if deed = 2 then Builtin.bitXor mode mask else Builtin.bitOr (Builtin.bitAnd mode 61440) mask
section
local macro_rules | `(tactic| walk_at "execs cons") => `(tactic| refine wpAny_execs_cons ?_)
local macro_rules | `(tactic| walk_at "execs nil") => `(tactic| refine wpAny_execs_nil ?_)
theorem changed_call (w : World) (mean : ExcName → Option Value) (mg mb : Str → Option Value)
  (gd : Option (List Code)) (cn : Str) (cs : Scope) (a : Addr) (ccd : Value) (cl : List (Str × Addr)) (outer : List Env) (A₀ : Around) (base h₀ : Heap) (L : Addr) (m : Str → Option Value) (s : Shared) (Q E : Value → Shared → Prop)
  (mode deed mask : Int) (t1 t2 t3 : Tok) (rest : List (Addr × Obj)) (h1 : 0 ≤ mode) (h2 : 0 ≤ mask) (h3 : 0 ≤ deed) (h4 : deed < 4)
  (B : Below A₀ base outer h₀) (F : Fr h₀ L s.heap m) (X : (hd.heap_39 w.params).In h₀) (N : News h₀ L s.heap rest) (T : TopAt mean mg mb h₀) (hk : cs.kind = .function)
  (ret : ∀ t h' tk', Fr h₀ L h' m → News h₀ L h' rest → Q (.int (chg mode deed mask) t) { s with heap := h', toks := tk' }) :
  wpAny (model Challenge.rw_of0033_01.row.prog w) (ktrTop 303 20 gd cn cs L a ccd cl outer) (call (.ref 190) [.int mode t1, .int deed t2, .int mask t3]) Q E s := by
  refine wpAny_call ?_
  k_dflt ktr_enter
  k_steps
  all_goals (rename Fr h₀ _ _ _ => F13)
  all_goals (rename News h₀ _ _ _ => N13)
  · rw [show chg mode deed mask = Builtin.bitOr mode mask by unfold chg; rw [if_pos (by assumption)]] at ret
    exact ret _ _ _ F13 N13
  · rw [show chg mode deed mask = Builtin.bitAnd mode (Builtin.bitNot mask) by unfold chg; rw [if_neg (by assumption), if_pos (by assumption)]] at ret
    exact ret _ _ _ F13 N13
  · rw [show chg mode deed mask = Builtin.bitXor mode mask by unfold chg; rw [if_neg (by assumption), if_neg (by assumption), if_pos (by assumption)]] at ret
    exact ret _ _ _ F13 N13
  · rw [show chg mode deed mask = Builtin.bitOr (Builtin.bitAnd mode 61440) mask by unfold chg; rw [if_neg (by assumption), if_neg (by assumption), if_neg (by assumption)]] at ret
    exact ret _ _ _ F13 N13
end
end Mine
end
theorem Mine.offM12 : True := by w_top off; trivial
section
open PySem PySem.W PySem.W.X PyProof.Rows
set_option Elab.async false
set_option maxRecDepth 100000
set_option maxHeartbeats 8000000
namespace Mine
theorem fill12 (w : World) (h : Heap) : (hd.heap_39 w.params).In h → model Challenge.rw_of0033_01.row.prog w = model Challenge.rw_of0033_01.row.prog w := by
  k_fill
  intro _
  rfl
/-- an order: a tuple of four ints at an address -/
structure Od where
  a : Addr
  t : Int
  d : Int
  w : Int
  m : Int
  tt : Tok
  td : Tok
  tw : Tok
  tm : Tok
def Od.obj (x : Od) : Obj := { cls := .type "tuple", data := .seq #[.int x.t x.tt, .int x.d x.td, .int x.w x.tw, .int x.m x.tm] }
def Od.v (x : Od) : Value := .ref x.a
def maskOf (x : Int) : Int := [448, 56, 7, 292, 146, 73, 3584, 1032].getD ((x.fdiv 12).fmod 8).toNat 0
def Od.of (x : Int) (o : Od) : Prop := o.t = (x.fdiv 96).fmod 10 ∧ o.d = x.fmod 4 ∧ o.w = (x.fdiv 4).fmod 3 ∧ o.m = maskOf x
theorem ords_end {h₀ h' : Heap} {L I C D D' : Addr} {m : Str → Option Value} {s₁ : Shared} {oI oC oD : Obj} {S : List (Addr × Obj) → Prop} {r : Value → List (Addr × Obj) → Prop} {tk : Nat} {P1 P2 : Addr × Obj} {more : List (Addr × Obj)} {x : Int} {t1 t2 t3 t4 : Tok}
    (F : Fr h₀ L h' m) (N : News h₀ L h' ((D', ({ cls := .type "tuple", data := .seq #[.int ((x.fdiv 96).fmod 10) t1, .int (x.fmod 4) t2, .int ((x.fdiv 4).fmod 3) t3, .int (maskOf x) t4] } : Obj)) :: (I, oI) :: (C, oC) :: (D, oD) :: P1 :: P2 :: more))
    (off : LCg.Off3 I C D (P1 :: P2 :: more)) (q1 : @LT.lt Nat _ I D') (q2 : @LT.lt Nat _ C D') (q3 : @LT.lt Nat _ D D')
    (h : ∀ o9 : Od, o9.a = D' → Od.of x o9 → S (P1 :: P2 :: (o9.a, o9.obj) :: more) ∧ r (.ref D') (P1 :: P2 :: (o9.a, o9.obj) :: more)) :
    LCg.CompEnd h₀ L m s₁ I oI C oC D oD S r (.ref D') { s₁ with heap := h', toks := tk } := by
  obtain ⟨h1, h2⟩ := h ⟨D', (x.fdiv 96).fmod 10, x.fmod 4, (x.fdiv 4).fmod 3, maskOf x, t1, t2, t3, t4⟩ rfl ⟨rfl, rfl, rfl, rfl⟩
  refine LCg.CompEnd.intro F N (P1 :: P2 :: (_, _) :: more) ?_ ⟨off.1, off.2.1, ⟨Nat.ne_of_gt q1, Nat.ne_of_gt q2, Nat.ne_of_gt q3⟩, off.2.2⟩ h1 h2
  intro p hp
  rcases List.mem_cons.mp hp with e | hp
  · rw [e]; exact .tail _ (.head _)
  rcases List.mem_cons.mp hp with e | hp
  · rw [e]; exact .tail _ (.tail _ (.head _))
  rcases List.mem_cons.mp hp with e | hp
  · rw [e]; exact .tail _ (.tail _ (.tail _ (.head _)))
  rcases List.mem_cons.mp hp with e | hp
  · rw [e]; exact .tail _ (.tail _ (.tail _ (.tail _ (.head _))))
  rcases List.mem_cons.mp hp with e | hp
  · rw [e]; exact .tail _ (.tail _ (.tail _ (.tail _ (.tail _ (.head _)))))
  rcases List.mem_cons.mp hp with e | hp
  · rw [e]; exact .head _
  · exact .tail _ (.tail _ (.tail _ (.tail _ (.tail _ (.tail _ hp)))))
section
local macro_rules | `(tactic| walk_at "eval ListComp") => `(tactic| refine Stop.out ?_)
local macro_rules | `(tactic| walk_at "CompSrc") => `(tactic| refine Stop.out ?_)
local macro_rules | `(tactic| walk_at "CompEnd") => `(tactic| refine Stop.out ?_)
local macro_rules | `(tactic| ktr_unf) => `(tactic| (refine' code_defC ?k1 ?k2 ?k3 ?k4 ?k5 ?kA ?kF ?kK ?k6 ?k7 ?k8 ?k9 ?kB ?kD ?_ ?c2 ?c3 ?c4; (case kA => exact rfl); (case kF => exact rfl); (case kK => assumption); (case k1 => k_asm); (case k2 => k_asm); (case k3 => k_asm); (case k4 => k_asm); (case k5 => k_asm); (case k6 => k_is); (case k7 => k_is); (case k8 => ktr_room); (case k9 => exact BindsTo.of_eq rfl); (case kB => exact rfl); (case kD => decide +kernel); (case c2 => exact rfl); (case c3 => exact rfl); (case c4 => exact rfl); k_whole; intro g' L' h' tk' cells' FG' F' N' Y' B' X' T' l1))
local macro_rules | `(tactic| k_all) => `(tactic| (intro p9 hp9; refine Nat.ne_of_lt ?_; exact Nat.lt_of_lt_of_le (‹∀ p ∈ _, p.1 < _› p9 hp9) (by omega)))
local macro_rules | `(tactic| walk_at "subscriptTail") => `(tactic| refine Stop.out ?_)
local macro_rules | `(tactic| walk_at "subscriptTail ref int") => `(tactic| refine Stop.out ?_)
theorem orders_call (w : World) (mean : ExcName → Option Value) (mg mb : Str → Option Value)
  (dp un : Nat) (gd : Option (List Code)) (cn : Str) (cs : Scope) (a : Addr) (ccd : Value) (cl : List (Str × Addr)) (outer : List Env) (A₀ : Around) (base h₀ : Heap) (L : Addr) (m : Str → Option Value) (s : Shared) (Q E : Value → Shared → Prop)
  (pn : Addr) (xs : List (Int × Tok)) (n : Nat) (rest : List (Addr × Obj)) (hlen : xs.length < 100)
  (B : Below A₀ base outer h₀) (F : Fr h₀ L s.heap m) (X : (hd.heap_39 w.params).In h₀) (N : News h₀ L s.heap rest) (hm : (pn, W.listOf (xs.map fun x => Value.int x.1 x.2).toArray n) ∈ rest) (T : TopAt mean mg mb h₀) (hk : cs.kind = .function)
  (hdp : dp + 20 < recursionLimit) (hun : un + 80 < cLine)
  (ret : ∀ (p : Addr) (h' : Heap) (tk' k : Nat) (os : List Od), os.length = xs.length → (∀ (i : Nat) (x : Int × Tok) (o : Od), xs[i]? = some x → os[i]? = some o → Od.of x.1 o) → (∀ q ∈ rest, q.1 ≠ p) → (∀ o ∈ os, o.a ≠ p) → Fr h₀ L h' m → News h₀ L h' ((p, W.listOf (os.map Od.v).toArray k) :: (os.map fun o => (o.a, o.obj)) ++ rest) → Q (.ref p) { s with heap := h', toks := tk' }) :
  wpAny (model Challenge.rw_of0033_01.row.prog w) (ktrTop dp un gd cn cs L a ccd cl outer) (call (.ref 171) [.ref pn]) Q E s := by
  refine wpAny_call ?_
  k_dflt ktr_unf
  rename CellsAre _ _ _ => Y
  rename News _ _ _ _ => N1
  k_dflt (k_cells Y)
  simp only [List.cons_append, List.nil_append] at N1
  dsimp only
  k_steps
  unfold Stop
  rename Fr _ _ _ _ => F2
  k_dflt (refine LCg.ListComp_U (F₀ := F2) (by with_unfolding_all rfl) (by decide) (by rfl) (by decide) (by rfl) ?_)
  k_steps
  unfold Stop
  rename Fr _ _ _ _ => F3
  rename News _ _ _ _ => N3
  refine LCg.CompSrc.ledger (by rfl) F3 N3 (.tail _ (.tail _ hm)) (by rw [sizeLine_eq]; simp; omega) ?_
  intro g4
  rw [show (xs.map fun x => Value.int x.1 x.2).toArray.size = xs.length by simp]
  refine rest_inv (fun i ys nw => ∃ os : List Od, os.length = i ∧ ys = os.map Od.v ∧ (∀ (j : Nat) (x : Int × Tok) (o : Od), xs[j]? = some x → os[j]? = some o → Od.of x.1 o) ∧ nw = _ :: _ :: ((os.reverse.map fun o => (o.a, o.obj)) ++ rest)) ?_ ?_ ⟨[], rfl, rfl, (fun _ _ _ _ h => by simp at h), rfl⟩
  · rintro i ys nw v I oI C oC D m2 h5 tk5 E5 hi ⟨os, ho1, hy, ho2, rfl⟩ hv hC hx F5 N5 off ne
    obtain ⟨⟨x, tx⟩, hxi, rfl⟩ : ∃ x : Int × Tok, xs[i]? = some x ∧ v = .int x.1 x.2 := by
      have : xs[i]? = some xs[i] := by simp [hi]
      refine ⟨xs[i], this, ?_⟩
      simp [this] at hv
      exact hv.symm
    clear F3 N3
    generalize hmore : (os.reverse.map fun o => (o.a, o.obj)) ++ rest = more at N5 off
    k_steps
    unfold Stop
    rename Fr _ _ _ _ => F7
    rename News _ _ _ _ => N7
    obtain ⟨q1, q2, q3, _⟩ := ‹I < _ ∧ C < _ ∧ D < _ ∧ _›
    refine ords_end F7 N7 off q1 q2 q3 (fun o9 e9 hof => ⟨.inr ⟨W.listOf (xs.map fun x => Value.int x.1 x.2).toArray n, ?_, rfl, n, rfl⟩, os ++ [o9], ?_, ?_, ?_, ?_⟩)
    · rw [← hmore]
      exact .tail _ (.tail _ (.tail _ (List.mem_append_right _ hm)))
    · rw [List.length_append, ho1]; rfl
    · rw [hy, List.map_append, ← e9]; rfl
    · intro j x' o' hj hj'
      rcases Nat.lt_trichotomy j i with q | q | q
      · rw [List.getElem?_append_left (by omega)] at hj'
        exact ho2 j x' o' hj hj'
      · subst q
        rw [List.getElem?_append_right (by omega), ho1, Nat.sub_self] at hj'
        rw [hxi] at hj
        cases hj
        cases hj'
        exact hof
      · rw [List.getElem?_append_right (by omega), List.getElem?_eq_none (by simp; omega)] at hj'
        cases hj'
    · rw [List.reverse_append, List.map_append, List.append_assoc, hmore]
      rfl
  · rintro ys nw ⟨os, ho1, hy, ho2, rfl⟩
    unfold LCg.FinE
    intro D6 h6 tk6 F6 N6 o6
    clear F3 N3
    k_steps
    rename Fr h₀ _ _ _ => F13
    rename News h₀ _ _ _ => N13
    rw [lst_of (n := xs.length) (by rw [hy, List.length_map, ho1])] at N13
    subst hy
    have o7 := off1_mem o6
    refine ret D6 _ _ xs.length os ho1 ho2 (fun q hq => o7 q (.tail _ (.tail _ (List.mem_append_right _ hq)))) (fun o ho => o7 (o.a, o.obj) (.tail _ (.tail _ (List.mem_append_left _ (List.mem_map.mpr ⟨o, List.mem_reverse.mpr ho, rfl⟩))))) F13 (fun p hp => N13 p ?_)
    rcases List.mem_append.mp hp with hp | hp
    · rcases List.mem_cons.mp hp with e | hp
      · rw [e]; exact .head _
      · obtain ⟨o, ho, rfl⟩ := List.mem_map.mp hp
        exact .tail _ (.tail _ (.tail _ (List.mem_append_left _ (List.mem_map.mpr ⟨o, List.mem_reverse.mpr ho, rfl⟩))))
    · exact .tail _ (.tail _ (.tail _ (List.mem_append_right _ hp)))
end
end Mine
end
section
open PySem PySem.W PySem.W.X PyProof.Rows
set_option Elab.async false
namespace Mine
theorem changed_callU (w : World) (mean : ExcName → Option Value) (mg mb : Str → Option Value)
  (un : Nat) (gd : Option (List Code)) (cn : Str) (cs : Scope) (a : Addr) (ccd : Value) (cl : List (Str × Addr)) (outer : List Env) (A₀ : Around) (base h₀ : Heap) (L : Addr) (m : Str → Option Value) (s : Shared) (Q E : Value → Shared → Prop)
  (mode deed mask : Int) (t1 t2 t3 : Tok) (rest : List (Addr × Obj)) (h1 : 0 ≤ mode) (h2 : 0 ≤ mask) (h3 : 0 ≤ deed) (h4 : deed < 4)
  (B : Below A₀ base outer h₀) (F : Fr h₀ L s.heap m) (X : (hd.heap_39 w.params).In h₀) (N : News h₀ L s.heap rest) (T : TopAt mean mg mb h₀) (hk : cs.kind = .function) (hun : un ≤ 20)
  (ret : ∀ t h' tk', Fr h₀ L h' m → News h₀ L h' rest → Q (.int (chg mode deed mask) t) { s with heap := h', toks := tk' }) :
  wpAny (model Challenge.rw_of0033_01.row.prog w) (ktrTop 303 un gd cn cs L a ccd cl outer) (call (.ref 190) [.int mode t1, .int deed t2, .int mask t3]) Q E s :=
  wpAny_units_le (A := ktrTop 303 20 gd cn cs L a ccd cl outer) (changed_call w mean mg mb gd cn cs a ccd cl outer A₀ base h₀ L m s Q E mode deed mask t1 t2 t3 rest h1 h2 h3 h4 B F X N T hk ret) hun
theorem filemode_callU (w : World) (mean : ExcName → Option Value) (mg mb : Str → Option Value)
  (un : Nat) (gd : Option (List Code)) (cn : Str) (cs : Scope) (a : Addr) (ccd : Value) (cl : List (Str × Addr)) (outer : List Env) (A₀ : Around) (base h₀ : Heap) (L : Addr) (m : Str → Option Value) (s : Shared) (Q E : Value → Shared → Prop)
  (mode : Int) (tm : Tok) (news : List (Addr × Obj))
  (B : Below A₀ base outer h₀) (F : Fr h₀ L s.heap m) (X : (hd.heap_39 w.params).In h₀) (N : News h₀ L s.heap news) (T : TopAt mean mg mb h₀) (hk : cs.kind = .function) (hun : un ≤ 20)
  (ret : ∀ t h' tk', Fr h₀ L h' m → News h₀ L h' news → Q (.str ⟨(signsTo mode 10).toArray⟩ t) { s with heap := h', toks := tk' }) :
  wpAny (model Challenge.rw_of0033_01.row.prog w) (ktrTop 303 un gd cn cs L a ccd cl outer) (call (.ref 166) [.int mode tm]) Q E s :=
  wpAny_units_le (A := ktrTop 303 20 gd cn cs L a ccd cl outer) (filemode_call w mean mg mb gd cn cs a ccd cl outer A₀ base h₀ L m s Q E mode tm news B F X N T hk ret) hun
end Mine
end
section
open PySem PySem.W PySem.W.X PyProof.Rows
set_option maxHeartbeats 400000
namespace Mine
/-- x stands not behind y -/
def It.le (x y : It) : Prop := y.lt x = false
theorem le_iff (x y : It) : x.le y ↔ (x.t < y.t ∨ (x.t = y.t ∧ x.k ≤ y.k)) := by
  unfold It.le It.lt
  simp only [Bool.or_eq_false_iff, decide_eq_false_iff_not, Bool.and_eq_false_iff, beq_eq_false_iff_ne]
  omega
theorem lt_iff (x y : It) : x.lt y = true ↔ (x.t < y.t ∨ (x.t = y.t ∧ x.k < y.k)) := by
  unfold It.lt
  simp only [Bool.or_eq_true, decide_eq_true_eq, Bool.and_eq_true, beq_iff_eq]
theorem le_trans' {x y z : It} (h : x.le y) (h' : y.le z) : x.le z := by
  rw [le_iff] at *; omega
theorem le_of_lt' {x y : It} (h : x.lt y = true) : x.le y := by
  rw [lt_iff] at h; rw [le_iff]; omega
theorem le_refl' (x : It) : x.le x := by rw [le_iff]; omega
def HeapOK (its : List It) : Prop := ∀ k, 0 < k → k < its.length → (getI its ((k - 1) / 2)).le (getI its k)
theorem getI_set {its : List It} {i j : Nat} {x : It} (hj : i < its.length) : getI (its.set i x) j = if i = j then x else getI its j := by
  unfold getI
  by_cases h : i = j
  · subst h; simp [List.getD, hj]
  · simp [List.getD, h, List.getElem?_set]
theorem sd_len (new : It) (pos : Nat) : ∀ its : List It, (sd new its pos).length = its.length := by
  induction pos using Nat.strongRecOn with
  | _ pos ih =>
    intro its
    by_cases h0 : 0 < pos
    · cases hl : new.lt (getI its ((pos - 1) / 2)) with
      | true => rw [sd_go h0 hl, ih _ (by omega)]; simp
      | false => rw [sd_stop h0 hl]; simp
    · obtain rfl : pos = 0 := by omega
      rw [sd_zero]; simp
theorem sd_ok (new : It) (pos : Nat) : ∀ its : List It, pos < its.length →
    (∀ k, 0 < k → k < its.length → k ≠ pos → (k - 1) / 2 ≠ pos → (getI its ((k - 1) / 2)).le (getI its k)) →
    (∀ k, 0 < k → k < its.length → (k - 1) / 2 = pos → new.le (getI its k)) →
    (0 < pos → ∀ k, 0 < k → k < its.length → (k - 1) / 2 = pos → (getI its ((pos - 1) / 2)).le (getI its k)) →
    HeapOK (sd new its pos) := by
  induction pos using Nat.strongRecOn with
  | _ pos ih =>
    intro its hp h1 h2 h3
    have stop : (pos = 0 ∨ (0 < pos ∧ (getI its ((pos - 1) / 2)).le new)) → HeapOK (its.set pos new) := by
      intro hs k hk hkl
      rw [List.length_set] at hkl
      rw [getI_set hp, getI_set hp]
      by_cases e : pos = k
      · subst e
        rw [if_neg (by omega), if_pos rfl]
        rcases hs with hs | hs
        · omega
        · exact hs.2
      · rw [if_neg e]
        by_cases e2 : pos = (k - 1) / 2
        · rw [if_pos e2]; exact h2 k hk hkl e2.symm
        · rw [if_neg e2]; exact h1 k hk hkl (Ne.symm e) (Ne.symm e2)
    by_cases h0 : 0 < pos
    · cases hl : new.lt (getI its ((pos - 1) / 2)) with
      | false =>
        rw [sd_stop h0 hl]
        exact stop (.inr ⟨h0, hl⟩)
      | true =>
        rw [sd_go h0 hl]
        have hP := le_of_lt' hl
        refine ih _ (by omega) _ (by rw [List.length_set]; omega) ?_ ?_ ?_
        · intro k hk hkl hne hne'
          rw [List.length_set] at hkl
          rw [getI_set hp, getI_set hp]
          by_cases e : pos = k
          · subst e; exact absurd rfl hne'
          · rw [if_neg e]
            by_cases e2 : pos = (k - 1) / 2
            · rw [if_pos e2]; exact h3 h0 k hk hkl e2.symm
            · rw [if_neg e2]; exact h1 k hk hkl (Ne.symm e) (Ne.symm e2)
        · intro k hk hkl hpar
          rw [List.length_set] at hkl
          rw [getI_set hp]
          by_cases e : pos = k
          · rw [if_pos e]; exact hP
          · rw [if_neg e]
            have := h1 k hk hkl (Ne.symm e) (by omega)
            rw [hpar] at this
            exact le_trans' hP this
        · intro h0' k hk hkl hpar
          rw [List.length_set] at hkl
          rw [getI_set hp, getI_set hp, if_neg (by omega)]
          have hG := h1 ((pos - 1) / 2) h0' (by omega) (by omega) (by omega)
          by_cases e : pos = k
          · rw [if_pos e]; exact hG
          · rw [if_neg e]
            have := h1 k hk hkl (Ne.symm e) (by omega)
            rw [hpar] at this
            exact le_trans' hG this
    · obtain rfl : pos = 0 := by omega
      rw [sd_zero]
      exact stop (.inl rfl)
theorem getI_eq {its : List It} {i : Nat} (h : i < its.length) : its[i] = getI its i := by simp [getI, List.getD, h]
/-- putting an item of j at i and x at j is as putting x at i -/
theorem swap_perm {its : List It} {i j : Nat} {x : It} (hi : i < its.length) (hj : j < its.length) (hij : i ≠ j) : ((its.set i (getI its j)).set j x).Perm (its.set i x) := by
  classical
  rw [List.perm_iff_count]
  intro b
  have a1 := List.count_set (a := getI its j) (b := b) hi
  have a2 := List.count_set (l := its.set i (getI its j)) (a := x) (b := b) (i := j) (by simpa using hj)
  have a3 := List.count_set (a := x) (b := b) hi
  have e : (its.set i (getI its j))[j]'(by simpa using hj) = getI its j := by
    rw [List.getElem_set_ne hij]; exact getI_eq hj
  rw [e] at a2
  rw [a2, a1, a3]
  have hm : (its[i] == b) = true → 0 < List.count b its := fun q => by
    have := eq_of_beq q
    rw [List.count_pos_iff, ← this]; exact List.getElem_mem hi
  by_cases q : (its[i] == b) = true
  · have := hm q
    simp only [q, if_true]
    by_cases q2 : (getI its j == b) = true
    · simp only [q2, if_true]; omega
    · simp only [q2]
      simp
  · simp only [q]
    by_cases q2 : (getI its j == b) = true
    · simp only [q2, if_true]; simp
    · simp only [q2]; simp
theorem sd_perm (new : It) (pos : Nat) : ∀ its : List It, pos < its.length → (sd new its pos).Perm (its.set pos new) := by
  induction pos using Nat.strongRecOn with
  | _ pos ih =>
    intro its hp
    by_cases h0 : 0 < pos
    · cases hl : new.lt (getI its ((pos - 1) / 2)) with
      | true =>
        rw [sd_go h0 hl]
        exact (ih _ (by omega) _ (by rw [List.length_set]; omega)).trans (swap_perm hp (by omega) (by omega))
      | false => rw [sd_stop h0 hl]
    · obtain rfl : pos = 0 := by omega
      rw [sd_zero]
theorem child_par {its : List It} {pos : Nat} : (child its pos - 1) / 2 = pos := by unfold child; split <;> omega
theorem child_le {its : List It} {pos k : Nat} (hk : 0 < k) (hkl : k < its.length) (hp : (k - 1) / 2 = pos) : (getI its (child its pos)).le (getI its k) := by
  have hk' : k = 2 * pos + 1 ∨ k = 2 * pos + 1 + 1 := by omega
  unfold child
  split
  · rename_i h
    rcases hk' with rfl | rfl
    · exact h.2
    · exact le_refl' _
  · rename_i h
    rcases hk' with rfl | rfl
    · exact le_refl' _
    · have : (getI its (2 * pos + 1)).lt (getI its (2 * pos + 1 + 1)) = true := by
        cases hq : (getI its (2 * pos + 1)).lt (getI its (2 * pos + 1 + 1)) with
        | true => rfl
        | false => exact absurd ⟨hkl, hq⟩ h
      exact le_of_lt' this
theorem su_all (n : Nat) : ∀ (its : List It) (pos : Nat), its.length - pos = n → pos < its.length → 
    (∀ k, 0 < k → k < its.length → k ≠ pos → (k - 1) / 2 ≠ pos → (getI its ((k - 1) / 2)).le (getI its k)) →
    (0 < pos → ∀ k, 0 < k → k < its.length → (k - 1) / 2 = pos → (getI its ((pos - 1) / 2)).le (getI its k)) →
    (su its pos).1.length = its.length ∧ (su its pos).2 < its.length ∧
    (∀ k, 0 < k → k < its.length → k ≠ (su its pos).2 → (k - 1) / 2 ≠ (su its pos).2 → (getI (su its pos).1 ((k - 1) / 2)).le (getI (su its pos).1 k)) ∧
    its.length ≤ 2 * (su its pos).2 + 1 ∧ ∀ x, ((su its pos).1.set (su its pos).2 x).Perm (its.set pos x) := by
  induction n using Nat.strongRecOn with
  | _ n ih =>
    intro its pos hn hp h1 h3
    by_cases hlt : 2 * pos + 1 < its.length
    · rw [su_go hlt]
      have hc1 := child_gt its pos
      have hc2 := child_lt hlt
      have hc3 := child_par (its := its) (pos := pos)
      have := ih (its.length - child its pos) (by omega) (its.set pos (getI its (child its pos))) (child its pos) (by rw [List.length_set]) (by rw [List.length_set]; exact hc2) ?_ ?_
      · obtain ⟨a1, a2, a3, a4, a5⟩ := this
        rw [List.length_set] at a1 a2 a3 a4
        exact ⟨a1, a2, a3, a4, fun x => (a5 x).trans (swap_perm hp hc2 (by omega))⟩
      · intro k hk hkl hne hne'
        rw [List.length_set] at hkl
        rw [getI_set hp, getI_set hp]
        by_cases e : pos = k
        · subst e
          rw [if_neg (by omega), if_pos rfl]
          exact h3 hk _ (by omega) hc2 hc3
        · rw [if_neg e]
          by_cases e2 : pos = (k - 1) / 2
          · rw [if_pos e2]; exact child_le hk hkl e2.symm
          · rw [if_neg e2]; exact h1 k hk hkl (Ne.symm e) (Ne.symm e2)
      · intro h0 k hk hkl hpar
        rw [List.length_set] at hkl
        rw [getI_set hp, getI_set hp, hc3, if_pos rfl, if_neg (by omega)]
        have := h1 k hk hkl (by omega) (by omega)
        rw [hpar] at this
        exact this
    · rw [su_stop hlt]
      exact ⟨rfl, hp, h1, by omega, fun x => .refl _⟩
theorem hpush_len (its : List It) (x : It) : (hpush its x).length = its.length + 1 := by unfold hpush; rw [sd_len]; simp
theorem getI_app_left {a b : List It} {i : Nat} (h : i < a.length) : getI (a ++ b) i = getI a i := by simp [getI, List.getD, List.getElem?_append_left h]
theorem hpush_ok {its : List It} (x : It) (h : HeapOK its) : HeapOK (hpush its x) := by
  unfold hpush
  refine sd_ok _ _ _ (by simp) ?_ ?_ ?_
  · intro k hk hkl hne _
    simp only [List.length_append, List.length_singleton] at hkl
    rw [getI_app_left (by omega), getI_app_left (by omega)]
    exact h k hk (by omega)
  · intro k hk hkl hp
    simp only [List.length_append, List.length_singleton] at hkl
    omega
  · intro _ k hk hkl hp
    simp only [List.length_append, List.length_singleton] at hkl
    omega
theorem hpush_perm (its : List It) (x : It) : (hpush its x).Perm (its ++ [x]) := by
  unfold hpush
  refine (sd_perm x _ _ (by simp)).trans ?_
  rw [List.set_append_right _ _ (Nat.le_refl _)]
  simp
theorem min_first {its : List It} (h : HeapOK its) : ∀ k, k < its.length → (getI its 0).le (getI its k) := by
  intro k
  induction k using Nat.strongRecOn with
  | _ k ih =>
    intro hk
    by_cases h0 : 0 < k
    · exact le_trans' (ih ((k - 1) / 2) (by omega) (by omega)) (h k h0 hk)
    · obtain rfl : k = 0 := by omega
      exact le_refl' _
theorem drop_perm {d : List It} (last : It) (h : d ≠ []) : (d ++ [last]).Perm (getI d 0 :: d.set 0 last) := by
  cases d with
  | nil => exact absurd rfl h
  | cons a r => exact List.Perm.cons a (List.perm_append_comm (l₁ := r) (l₂ := [last]))
theorem hpop_all {its : List It} (h : HeapOK its) (h0 : 0 < its.length) : HeapOK (hpop its).2 ∧ its.Perm ((hpop its).1 :: (hpop its).2) ∧ (∀ y ∈ its, (hpop its).1.le y) ∧ (hpop its).2.length + 1 = its.length := by
  have hl : its = its.dropLast ++ [getI its (its.length - 1)] := by
    have := List.dropLast_concat_getLast (l := its) (by intro e; rw [e] at h0; simp at h0)
    rw [List.getLast_eq_getElem, getI_eq (by omega)] at this
    exact this.symm
  have hmin : ∀ y ∈ its, (getI its 0).le y := by
    intro y hy
    obtain ⟨k, hk, rfl⟩ := List.mem_iff_getElem.mp hy
    rw [getI_eq hk]; exact min_first h k hk
  by_cases hd : its.dropLast = []
  · unfold hpop
    rw [if_pos hd]
    rw [hd] at hl
    have hlen : its.length = 1 := by rw [hl]; rfl
    refine ⟨fun k _ hk => absurd hk (Nat.not_lt_zero _), by rw [← List.nil_append [getI its (its.length - 1)], ← hl], ?_, by simp [hlen]⟩
    show ∀ y ∈ its, (getI its (its.length - 1)).le y
    rw [hlen]; exact hmin
  · unfold hpop
    rw [if_neg hd]
    have hdl : 0 < its.dropLast.length := List.length_pos_iff.mpr hd
    have hdn : its.dropLast.length = its.length - 1 := by simp
    have hg : ∀ k, k < its.dropLast.length → getI its.dropLast k = getI its k := fun k hk => by
      have : getI its k = getI (its.dropLast ++ [getI its (its.length - 1)]) k := congrArg (fun l => getI l k) hl
      rw [this, getI_app_left hk]
    generalize hlast : getI its (its.length - 1) = last at hl ⊢
    have hset : 0 < (its.dropLast.set 0 last).length := by rw [List.length_set]; exact hdl
    have hs := su_all _ (its.dropLast.set 0 last) 0 rfl hset ?_ (fun q => absurd q (Nat.lt_irrefl _))
    · obtain ⟨a1, a2, a3, a4, a5⟩ := hs
      rw [List.length_set] at a1 a2 a3 a4
      have hpos : (su (its.dropLast.set 0 last) 0).2 < ((su (its.dropLast.set 0 last) 0).1.set (su (its.dropLast.set 0 last) 0).2 last).length := by rw [List.length_set, a1]; exact a2
      have hperm : (sift0 last (its.dropLast.set 0 last)).Perm (its.dropLast.set 0 last) := by
        unfold sift0
        refine (sd_perm _ _ _ hpos).trans ?_
        rw [List.set_set]
        refine (a5 last).trans ?_
        rw [List.set_set]
      refine ⟨?_, ?_, ?_, ?_⟩
      · unfold sift0
        refine sd_ok _ _ _ hpos ?_ ?_ ?_
        · intro k hk hkl hne hne'
          rw [List.length_set, a1] at hkl
          rw [getI_set (by rw [a1]; exact a2), getI_set (by rw [a1]; exact a2), if_neg (Ne.symm hne'), if_neg (Ne.symm hne)]
          exact a3 k hk hkl hne hne'
        · intro k hk hkl hpar
          rw [List.length_set, a1] at hkl
          omega
        · intro _ k hk hkl hpar
          rw [List.length_set, a1] at hkl
          omega
      · rw [hg 0 hdl]
        refine List.Perm.trans ?_ (List.Perm.cons _ hperm.symm)
        conv => lhs; rw [hl]
        rw [← hg 0 hdl]
        exact drop_perm _ hd
      · show ∀ y ∈ its, (getI its.dropLast 0).le y
        rw [hg 0 hdl]; exact hmin
      · show (sift0 last (its.dropLast.set 0 last)).length + 1 = its.length
        rw [hperm.length_eq, List.length_set]; omega
    · intro k hk hkl hne hne'
      rw [List.length_set] at hkl
      rw [getI_set hdl, getI_set hdl, if_neg (Ne.symm hne'), if_neg (Ne.symm hne), hg k hkl, hg _ (by omega)]
      exact h k hk (by omega)
end Mine
end
section
open PySem
set_option Elab.async false
set_option maxRecDepth 100000
set_option maxHeartbeats 4000000
namespace Mine
theorem lk_str_getitem : typeLookup (.type "str") "__getitem__" = pure (some (.builtin "str.__getitem__")) := by rw [typeLookup_type, builtinLookup_eq_fast]; kernel_rfl
theorem typeOf_str_getitem : typeOf (.builtin "str.__getitem__") = pure (.type "wrapper_descriptor") := by kernel_rfl
theorem slot_wd_get : Slot "wrapper_descriptor" "__get__" "wrapper_descriptor.__get__" :=
  .of (owner := "wrapper_descriptor") (n := "__get__") (by rw [typeLookup_type, builtinLookup_eq_fast]; kernel_rfl) (by decide +kernel) (by decide +kernel) (by decide +kernel)
    (by first | exact .inl (by decide +kernel) | exact .inr (by decide +kernel)) (by rw [isSubtype_type]; kernel_rfl)
theorem wd_no_set : typeLookup (.type "wrapper_descriptor") "__set__" = pure none := by rw [typeLookup_type, builtinLookup_eq_fast]; kernel_rfl
theorem wd_no_delete : typeLookup (.type "wrapper_descriptor") "__delete__" = pure none := by rw [typeLookup_type, builtinLookup_eq_fast]; kernel_rfl
theorem entry_wd_get : entryFor table "wrapper_descriptor.__get__" = some Builtin.«wrapper_descriptor.__get__» := entryFor_of_tree (by kernel_rfl)
theorem args_wd_get (a b c : Value) : argsOk "wrapper_descriptor.__get__" ⟨[a, b, c], []⟩ := by unfold argsOk; kernel_rfl
theorem entry_hasattr : entryFor table "hasattr" = some Builtin.«hasattr» := entryFor_of_tree (by kernel_rfl)
theorem owner_str_getitem : (".".intercalate ("str.__getitem__".cutAt '.').dropLast) = "str" := by
  have e0 : "str.__getitem__".cutAt '.' = ["str", "__getitem__"] := by first | rfl | decide +kernel
  rw [e0]; decide +kernel
theorem sub_str_str : isSubtype (.type "str") (.type (".".intercalate ("str.__getitem__".cutAt '.').dropLast)) = pure true := by
  rw [owner_str_getitem, isSubtype_type]; kernel_rfl
section
variable {prog : Program} {w : World} {A : Around} {E : Value → Shared → Prop} {h : Heap} {g : Array GenState} {d : Drawn} {t : Nat} {os : OsState} {x : Str} {u : Tok}
theorem gi_get {R : Result → Shared → Prop} (hq : ∀ h' (v : Addr), (∀ b o, h.get? b = some o → h'.get? b = some o) → R (.ok (.ret (.ref v))) ⟨h', g, d, t, os⟩) :
    codeAny (model prog w) A (.call (.builtin "wrapper_descriptor.__get__") ⟨[.builtin "str.__getitem__", .str x u, .type "str"], []⟩) R ⟨h, g, d, t, os⟩ := by
  have hT : (⟨h, g, d, t, os⟩ : Shared).TypeIs (.str x u) "str" := rfl
  have hT5 : (⟨h, g, d, t, os⟩ : Shared).TypeIs (.builtin "str.__getitem__") "wrapper_descriptor" := typeOf_str_getitem
  have f8 := sub_str_str
  refine codeAny_call_builtin slot_wd_get.plain entry_wd_get (slot_wd_get.check _ _ _ _ _ _ _ _ hT5 (args_wd_get _ _ _) ?_)
  repeat (any_goals (first | assumption | wp_step))
  exact hq _ _ fun b o e => Heap.get?_push_of_some _ e
theorem gi_entry {tk : Tok} {Q : Fin → Shared → Prop} (hq : ∀ h' (v : Addr), (∀ b o, h.get? b = some o → h'.get? b = some o) → Q (.done (.ret (.ref v))) ⟨h', g, d, t, os⟩) :
    wpAny (model prog w) A (Builtin.«object.__getattribute__» ⟨[.str x u, .str "__getitem__" tk], []⟩) Q E ⟨h, g, d, t, os⟩ := by
  have hT : (⟨h, g, d, t, os⟩ : Shared).TypeIs (.str x u) "str" := rfl
  have hT5 : (⟨h, g, d, t, os⟩ : Shared).TypeIs (.builtin "str.__getitem__") "wrapper_descriptor" := typeOf_str_getitem
  have f4 := lk_str_getitem
  have f5 := typeOf_str_getitem
  have f6 := slot_wd_get.lookup
  have f7 := wd_no_set
  have f8 := wd_no_delete
  repeat (any_goals (first | assumption | wp_step))
  refine gi_get fun h' v hk => ?_
  exact wpAny_pure (hq h' v hk)
theorem gi_call {tk : Tok} {R : Result → Shared → Prop} (hq : ∀ h' (v : Addr), (∀ b o, h.get? b = some o → h'.get? b = some o) → R (.ok (.ret (.ref v))) ⟨h', g, d, t, os⟩) :
    codeAny (model prog w) A (.call (.builtin "object.__getattribute__") ⟨[.str x u, .str "__getitem__" tk], []⟩) R ⟨h, g, d, t, os⟩ :=
  codeAny_call_builtin F.slot_str_getattribute.plain F.entry_object_getattribute (F.slot_str_getattribute.check _ _ _ _ _ _ _ _ (show (⟨h, g, d, t, os⟩ : Shared).TypeIs (.str x u) "str" from rfl) (F.args_object_getattribute_2 _ _) (gi_entry hq))
end
end Mine
end
section
open PySem
set_option Elab.async false
set_option maxRecDepth 100000
set_option maxHeartbeats 400000
namespace Mine
section
variable {prog : Program} {w : World} {A : Around} {E : Value → Shared → Prop} {h : Heap} {g : Array GenState} {d : Drawn} {t : Nat} {os : OsState} {x : Str} {u : Tok}
theorem gi_by {tk : Tok} {Q : Value → Shared → Prop} (hq : ∀ h' (v : Addr), (∀ b o, h.get? b = some o → h'.get? b = some o) → Q (.ref v) ⟨h', g, d, t, os⟩) : wpAny (model prog w) A (getAttrBy (.str x u) (.str "__getitem__" tk) false) Q E ⟨h, g, d, t, os⟩ := by
  have hT : (⟨h, g, d, t, os⟩ : Shared).TypeIs (.str x u) "str" := rfl
  have f2 := F.slot_str_getattribute.lookup
  have f3 := F.slot_str_getattribute.bind (.str x u)
  repeat (any_goals (first | assumption | wp_step))
  refine gi_call fun h' v hk => ?_
  repeat (any_goals (first | assumption | wp_step))
  exact hq h' v hk
end
end Mine
end
section
open PySem
set_option Elab.async false
set_option maxRecDepth 100000
set_option maxHeartbeats 400000
namespace Mine
section
variable {prog : Program} {w : World} {A : Around} {E : Value → Shared → Prop} {h : Heap} {g : Array GenState} {d : Drawn} {t : Nat} {os : OsState} {x : Str} {u : Tok}
theorem no_data : (withoutEnding? "str.__getitem__" "#data").isSome = false := by decide +kernel
theorem hasattr_entry {tk : Tok} {Q : Fin → Shared → Prop} (hq : ∀ h', (∀ b o, h.get? b = some o → h'.get? b = some o) → Q (.done (.ret (.bool true))) ⟨h', g, d, t, os⟩) :
    wpAny (model prog w) A (Builtin.«hasattr» ⟨[.str x u, .str "__getitem__" tk], []⟩) Q E ⟨h, g, d, t, os⟩ := by
  unfold Builtin.«hasattr»
  refine wpAny_bind (wpAny_of_eq (a := [.str x u, .str "__getitem__" tk]) rfl ?_)
  try dsimp only
  refine wpAny_bind (wpAny_of_eq (a := ()) rfl ?_)
  try dsimp only
  rw [if_neg (by exact Bool.false_ne_true)]
  refine wpAny_bind (wpAny_of_eq (a := .type "str") rfl ?_)
  try dsimp only
  refine wpAny_bind (wpAny_of_eq (a := some (Str.ofString "__getitem__")) rfl ?_)
  try dsimp only
  refine wpAny_bind (wpAny_of_eq lk_str_getitem ?_)
  try dsimp only
  refine wpAny_bind (wpAny_of_eq F.slot_str_getattribute.lookup ?_)
  rw [if_neg (by rw [no_data]; exact Bool.false_ne_true)]
  refine wpAny_bind (wpAny_of_eq (a := 0) rfl ?_)
  rw [if_neg (by decide)]
  refine wpAny_bind ?_
  unfold getAttrBy?
  refine wpAny_bind (wpAny_attempt (gi_by fun h' v hk => ?_))
  exact wpAny_pure (wpAny_pure (hq h' hk))
theorem kind_hasattr : builtinKind "hasattr" = none := by decide +kernel
theorem plain_hasattr : plainId "hasattr" = true := by decide +kernel
theorem args_hasattr (a b : Value) : argsOk "hasattr" ⟨[a, b], []⟩ := by unfold argsOk; kernel_rfl
end
open PySem.W PySem.W.X PyProof.Rows in
theorem has_call {prog : Program} {w : World} {A : Around} {E : Value → Shared → Prop} {s : Shared} {h₀ : Heap} {L : Addr} {m : Str → Option Value} {news : List (Addr × Obj)} {x : Str} {u tk : Tok} {Q : Value → Shared → Prop} (F : Fr h₀ L s.heap m) (N : News h₀ L s.heap news)
    (h : ∀ h', Fr h₀ L h' m → News h₀ L h' news → Q (.bool true) { s with heap := h' }) : wpAny (model prog w) A (call (.builtin "hasattr") [.str x u, .str (Str.ofString "__getitem__") tk]) Q E s :=
  Calls.call_function_entry kind_hasattr plain_hasattr entry_hasattr (args_hasattr _ _) (hasattr_entry fun h' hk => ⟨_, rfl, h h' (F.keeps hk) (N.grown hk)⟩)
end Mine
end
section
open PySem PySem.W PySem.W.X PyProof.Rows
set_option Elab.async false
set_option maxRecDepth 100000
set_option maxHeartbeats 4000000
namespace Mine
def OdOK (o : Od) : Prop := 0 ≤ o.t ∧ 0 ≤ o.d ∧ o.d < 4 ∧ 0 ≤ o.w ∧ o.w < 3 ∧ 0 ≤ o.m
def It.key (x : It) : Int × Int := (x.t, x.k)
def keyOf (os : List Od) (j : Nat) : Int × Int := ((os[j]?.map Od.t).getD 0, (j : Int))
theorem key_of {os : List Od} {i : Nat} {o : Od} (h : os[i]? = some o) : keyOf os i = (o.t, (i : Int)) := by simp [keyOf, h]
def keyLe (a b : Int × Int) : Prop := a.1 < b.1 ∨ (a.1 = b.1 ∧ a.2 ≤ b.2)
def InOrder (os : List Od) (ks : List Nat) : Prop := ks.Perm (List.range os.length) ∧ ks.Pairwise fun i j => keyLe (keyOf os i) (keyOf os j)
def wOf (os : List Od) (k : Nat) : Nat := ((os[k]?.map Od.w).getD 0).toNat
def stepM (os : List Od) (ms : List Int) (k : Nat) : List Int := match os[k]? with
  | some o => ms.set o.w.toNat (chg (ms.getD o.w.toNat 0) o.d o.m)
  | none => ms
def rowTx (ms : List Int) (w : Nat) : List Nat := signsTo (ms.getD w 0) 10 ++ [32, 97 + w]
def stepR (os : List Od) (st : List Int × List (List Nat)) (k : Nat) : List Int × List (List Nat) := (stepM os st.1 k, st.2 ++ [rowTx (stepM os st.1 k) (wOf os k)])
def runR (os : List Od) (ks : List Nat) : List Int × List (List Nat) := ks.foldl (stepR os) ([33184, 17385, 44543], [])
def intV (x : Int × Tok) : Value := .int x.1 x.2
def strV (x : List Nat × Tok) : Value := .str ⟨x.1.toArray⟩ x.2
theorem runR_snoc (os : List Od) (ks : List Nat) (k : Nat) : runR os (ks ++ [k]) = stepR os (runR os ks) k := by simp [runR, List.foldl_append]
theorem ks_of {os : List Od} {dn : List It} (h : (dn.map It.key).Perm ((List.range os.length).map (keyOf os))) (hs : dn.Pairwise It.le) : InOrder os (dn.map (·.k.toNat)) := by
  constructor
  · have h2 := h.map (fun p : Int × Int => p.2.toNat)
    rw [List.map_map, List.map_map] at h2
    have e : List.map ((fun p : Int × Int => p.2.toNat) ∘ keyOf os) (List.range os.length) = List.range os.length := by
      rw [List.map_congr_left (g := id) (fun i _ => by simp [keyOf])]
      simp
    rw [e] at h2
    exact h2
  · rw [List.pairwise_map]
    refine hs.imp_of_mem ?_
    intro a b ha hb hab
    have hk : ∀ x ∈ dn, keyOf os x.k.toNat = x.key := fun x hx => by
      have z : x.key ∈ dn.map It.key := List.mem_map.mpr ⟨x, hx, rfl⟩
      obtain ⟨j, _, e⟩ := List.mem_map.mp (h.mem_iff.mp z)
      have e2 : x.k = (j : Int) := (congrArg Prod.snd e).symm
      rw [e2, Int.toNat_natCast, e]
    rw [hk a ha, hk b hb]
    exact (le_iff a b).mp hab
theorem keyLe_antisymm {os : List Od} {i j : Nat} (h : keyLe (keyOf os i) (keyOf os j)) (h' : keyLe (keyOf os j) (keyOf os i)) : i = j := by
  unfold keyLe keyOf at *
  simp only at h h'
  omega
theorem order_unique {os : List Od} {ks ks' : List Nat} (h : InOrder os ks) (h' : InOrder os ks') : ks = ks' :=
  (h.1.trans h'.1.symm).eq_of_pairwise (fun i j _ _ a b => keyLe_antisymm a b) h.2 h'.2
theorem row_str {sg : List Nat} {w : Int} {wn : Nat} (h : w = (wn : Int)) (h3 : wn < 3) : (⟨sg.toArray⟩ : Str) ++ Str.ofString " " ++ Txt.item (Str.ofString "abc") w = ⟨(sg ++ [32, 97 + wn]).toArray⟩ := by
  have e : Txt.item (Str.ofString "abc") w = ⟨#[97 + wn]⟩ := by
    subst h
    rcases wn with _ | _ | _ | _
    · decide +kernel
    · decide +kernel
    · decide +kernel
    · omega
  rw [e]
  have e2 : Str.ofString " " = ⟨#[32]⟩ := by decide +kernel
  rw [e2]
  show Str.mk _ = Str.mk _
  congr 1
  show (sg.toArray ++ #[32]) ++ #[97 + wn] = _
  simp
theorem bitAnd_bound {x y : Int} (hx : 0 ≤ x) : 0 ≤ Builtin.bitAnd x y ∧ Builtin.bitAnd x y ≤ x := by
  by_cases hy : 0 ≤ y
  · rw [bitAnd_pp hx hy]
    have := @Nat.and_le_left x.toNat y.toNat
    omega
  · rw [bitAnd_pn hx hy]
    have := @Nat.and_le_left x.toNat (Builtin.bitNot y).toNat
    omega
theorem chg_nonneg {a d m : Int} (h1 : 0 ≤ a) (h2 : 0 ≤ m) : 0 ≤ chg a d m := by
  have k1 := bitAnd_bound (x := a) (y := m) h1
  have k2 := bitAnd_bound (x := m) (y := a) h2
  rw [bitAnd_comm] at k2
  unfold chg
  split
  · rw [bitOr_and]; omega
  split
  · exact (bitAnd_bound h1).1
  split
  · rw [bitXor_and]; omega
  · have k3 := bitAnd_bound (x := a) (y := 61440) h1
    have k4 := bitAnd_bound (x := Builtin.bitAnd a 61440) (y := m) k3.1
    have k5 := bitAnd_bound (x := m) (y := Builtin.bitAnd a 61440) h2
    rw [bitAnd_comm] at k5
    rw [bitOr_and]; omega
end Mine
end
theorem Mine.offM13 : True := by w_top off; trivial
section
open PySem PySem.W PySem.W.X PyProof.Rows
set_option Elab.async false
set_option maxRecDepth 100000
set_option maxHeartbeats 8000000
namespace Mine
theorem fill13 (w : World) (h : Heap) : (hd.heap_39 w.params).In h → model Challenge.rw_of0033_01.row.prog w = model Challenge.rw_of0033_01.row.prog w := by
  k_fill
  intro _
  rfl
def Mark : Prop := True
theorem newList_K' {M : Model} {A : Around} {E : Value → Shared → Prop} {s : Shared} {h₀ : Heap} {L : Addr} {m : Str → Option Value} {news : List (Addr × Obj)} {vs : List Value} {Q : Value → Shared → Prop} (F : Fr h₀ L s.heap m) (N : News h₀ L s.heap news)
    (h : ∀ l h' ob, ob = W.listOf vs.toArray 0 → Fr h₀ L h' m → News h₀ L h' ((l, ob) :: news) → (∀ p ∈ news, p.1 < l) → Q (.ref l) { s with heap := h' }) (hsz : vs.length ≤ sizeLine := by size_fits) : wpAny M A (newList vs) Q E s :=
  newList_K F N (fun l h' F' N' hl => h l h' _ rfl F' N' hl) hsz
def pairs (l : List It) : List (Addr × Obj) := l.map fun x => (x.a, x.obj)
theorem rangeSize_nat0 (n : Nat) : Builtin.Range.rangeSize 0 (n : Int) 1 = ((n : Nat) : Int) := by
  rw [rangeSize_nat]; omega
theorem obj_ne {its : Array Value} {n : Nat} {x : It} : some (W.listOf its n) ≠ some x.obj := fun e => by
  have := congrArg Obj.cls (Option.some.inj e)
  exact absurd this (by simp [It.obj])
structure WS where
  its : List It
  ni : Nat
  pm : Addr
  ms : List (Int × Tok)
  km : Nat
  rows : List (List Nat × Tok)
  kr : Nat
  oa : Obj
  ob : Obj
  oc : Obj
  od : Obj
  dn : List It
def doneLed1 (hp pm L1 : Addr) (oM o1 o2 o3 o4 : Obj) (rest : List (Addr × Obj)) (c : List It × Nat) : List (Addr × Obj) := (hp, W.listOf (c.1.map It.v).toArray c.2) :: (pm, oM) :: (L1 + 1 + 1 + 1 + 1, o1) :: (L1 + 1 + 1 + 1, o2) :: (L1 + 1 + 1, o3) :: (L1 + 1, o4) :: (pairs c.1 ++ rest)
structure DoneInv1 (os : List Od) (i : Nat) (c : List It × Nat) : Prop where
  q1 : c.1.length = i
  q2 : HeapOK c.1
  q3 : (c.1.map It.key).Perm ((List.range i).map (keyOf os))
def doneLed (hp pr L1 : Addr) (more : List (Addr × Obj)) (c : WS) : List (Addr × Obj) := (hp, W.listOf (c.its.map It.v).toArray c.ni) :: (pr, W.listOf (c.rows.map strV).toArray c.kr) :: (c.pm, W.listOf (c.ms.map intV).toArray c.km) :: (L1 + 1 + 1 + 1 + 1, c.oa) :: (L1 + 1 + 1 + 1, c.ob) :: (L1 + 1 + 1, c.oc) :: (L1 + 1, c.od) :: more
structure DoneInv (os : List Od) (its0 : List It) (hp pr L1 : Addr) (c : WS) : Prop where
  q1 : HeapOK c.its
  q2 : its0.Perm (c.dn ++ c.its)
  q3 : c.dn.Pairwise It.le
  q4 : (∀ x ∈ c.dn, ∀ y ∈ c.its, x.le y)
  q5 : c.ms.length = 3
  q6 : (∀ x ∈ c.ms, 0 ≤ x.1)
  q7 : c.rows.length = c.dn.length
  q8 : (c.ms.map (·.1), c.rows.map (·.1)) = runR os (c.dn.map (·.k.toNat))
  q9 : c.od.data = .cell (some (.ref c.pm))
  q10 : (∃ v, c.oa.data = .cell v)
  q11 : (∃ v, c.ob.data = .cell v)
  q12 : (∃ v, c.oc.data = .cell v)
  q13 : c.pm ≠ hp
  q14 : c.pm ≠ pr
  q15 : @Ne Nat c.pm (L1 + 1)
  q16 : @Ne Nat c.pm (L1 + 1 + 1)
  q17 : @Ne Nat c.pm (L1 + 1 + 1 + 1)
  q18 : @Ne Nat c.pm (L1 + 1 + 1 + 1 + 1)
section
variable {prog : Program} {w : World} {A : Around} {E : Value → Shared → Prop} {s : Shared} {h₀ h : Heap} {L D : Addr} {m : Str → Option Value} {rest : List (Addr × Obj)} {rows : List (List Nat × Tok)} {tx : List Nat} {t : Tok} {kr : Nat} {a b c d : Addr × Obj}
theorem news_turn (N : News h₀ L h (a :: b :: c :: d :: rest)) : News h₀ L h (c :: b :: a :: rest) := by
  intro p hp
  rcases List.mem_cons.mp hp with e | hp
  · rw [e]; exact N _ (.tail _ (.tail _ (.head _)))
  rcases List.mem_cons.mp hp with e | hp
  · rw [e]; exact N _ (.tail _ (.head _))
  rcases List.mem_cons.mp hp with e | hp
  · rw [e]; exact N _ (.head _)
  · exact N _ (.tail _ (.tail _ (.tail _ (.tail _ hp))))
theorem news_swap (N : News h₀ L h (a :: b :: rest)) : News h₀ L h (b :: a :: rest) := by
  intro p hp
  rcases List.mem_cons.mp hp with e | hp
  · rw [e]; exact N _ (.tail _ (.head _))
  rcases List.mem_cons.mp hp with e | hp
  · rw [e]; exact N _ (.head _)
  · exact N _ (.tail _ (.tail _ hp))
theorem row_append {Q : Value → Shared → Prop} (F : Fr h₀ L s.heap m) (N : News h₀ L s.heap ((D, W.listOf (rows.map strV).toArray kr) :: rest)) (hne : ∀ p ∈ rest, p.1 ≠ D) (hlen : rows.length < 1000)
    (h : ∀ h', Fr h₀ L h' m → News h₀ L h' ((D, W.listOf ((rows ++ [(tx, t)]).map strV).toArray (kr + 1)) :: rest) → Q .none { s with heap := h' }) : wpAny (model prog w) A (call (.builtin "list.append") [.ref D, .str ⟨tx.toArray⟩ t]) Q E s := by
  refine append_K F N (Upd.head hne) (fun h' F' N' => h h' F' ?_) (by simp [sizeLine_eq]; omega)
  have e : (rows.map strV).toArray.push (.str ⟨tx.toArray⟩ t) = ((rows ++ [(tx, t)]).map strV).toArray := by simp [strV]
  rw [e] at N'
  exact N'
end
section
local macro_rules | `(tactic| walk_at "eval ListComp") => `(tactic| refine Stop.out ?_)
local macro_rules | `(tactic| walk_at "exec For") => `(tactic| refine Stop.out ?_)
local macro_rules | `(tactic| walk_at "exec For Name Call") => `(tactic| refine Stop.out ?_)
local macro_rules | `(tactic| walk_at "exec For Name Call cons nil") => `(tactic| refine Stop.out ?_)
local macro_rules | `(tactic| walk_at "pyIter ref") => `(tactic| refine Stop.out ?_)
local macro_rules | `(tactic| walk_at "FPost") => `(tactic| (dsimp only [FPost]))
local macro_rules | `(tactic| walk_at "FEnd") => `(tactic| refine Stop.out ?_)
local macro_rules | `(tactic| walk_at "newList") => `(tactic| refine Stop.out ?_)
local macro_rules | `(tactic| walk_at "newTuple") => `(tactic| refine Stop.out ?_)
local macro_rules | `(tactic| walk_at "call ref") => `(tactic| ((rename Mark => kM9); refine Stop.out ?_))
local macro_rules | `(tactic| k_all) => `(tactic| with_reducible assumption)
local macro_rules | `(tactic| walk_at "exec While") => `(tactic| refine Stop.out ?_)
local macro_rules | `(tactic| walk_at "exec While Name") => `(tactic| refine Stop.out ?_)
local macro_rules | `(tactic| walk_at "exec While Name cons nil") => `(tactic| refine Stop.out ?_)
local macro_rules | `(tactic| walk_at "WPost") => `(tactic| (dsimp only [WPost]))
local macro_rules | `(tactic| walk_at "WEnd") => `(tactic| refine Stop.out ?_)
local macro_rules | `(tactic| walk_at "truthy ref") => `(tactic| refine Stop.out ?_)
local macro_rules | `(tactic| walk_at "subscriptTail Name Name ref int") => `(tactic| refine Stop.out ?_)
local macro_rules | `(tactic| walk_at "CompSrc") => `(tactic| refine Stop.out ?_)
local macro_rules | `(tactic| walk_at "CompEnd") => `(tactic| refine Stop.out ?_)
theorem done_call (w : World) (mean : ExcName → Option Value) (mg mb : Str → Option Value)
  (gd : Option (List Code)) (cn : Str) (cs : Scope) (a : Addr) (ccd : Value) (cl : List (Str × Addr)) (outer : List Env) (A₀ : Around) (base h₀ : Heap) (L : Addr) (m : Str → Option Value) (s : Shared) (Q E : Value → Shared → Prop)
  (po : Addr) (os : List Od) (n : Nat) (rest : List (Addr × Obj)) (hlen : os.length < 64) (hok : ∀ o ∈ os, OdOK o)
  (B : Below A₀ base outer h₀) (F : Fr h₀ L s.heap m) (X : (hd.heap_39 w.params).In h₀) (N : News h₀ L s.heap rest) (hm : (po, W.listOf (os.map Od.v).toArray n) ∈ rest) (hmo : ∀ o ∈ os, (o.a, o.obj) ∈ rest) (T : TopAt mean mg mb h₀) (hk : cs.kind = .function)
  (ret : ∀ (p : Addr) (h' : Heap) (tk' k : Nat) (rows : List (List Nat × Tok)) (ks : List Nat), InOrder os ks → rows.map (·.1) = (runR os ks).2 → (∀ q ∈ rest, q.1 ≠ p) → Fr h₀ L h' m → News h₀ L h' ((p, W.listOf (rows.map strV).toArray k) :: rest) → Q (.ref p) { s with heap := h', toks := tk' }) :
  wpAny (model Challenge.rw_of0033_01.row.prog w) (ktrTop 302 7 gd cn cs L a ccd cl outer) (call (.ref 195) [.ref po]) Q E s := by
  refine wpAny_call ?_
  k_dflt (refine' code_defC ?k1 ?k2 ?k3 ?k4 ?k5 ?kA ?kF ?kK ?k6 ?k7 ?k8 ?k9 ?kB ?kD ?_ ?c2 ?c3 ?c4; (case kA => exact rfl); (case kF => exact rfl); (case kK => assumption); (case k1 => k_asm); (case k2 => k_asm); (case k3 => k_asm); (case k4 => k_asm); (case k5 => k_asm); (case k6 => k_is); (case k7 => k_is); (case k8 => ktr_room); (case k9 => exact BindsTo.of_eq rfl); (case kB => exact rfl); (case kD => decide +kernel); (case c2 => exact rfl); (case c3 => exact rfl); (case c4 => exact rfl); k_whole; intro g1 L1 h1 tk1 cells1 FG1 F1 N1 Y1 B1 X1 T1 l1)
  k_dflt (k_cells Y1)
  rename_i o1 o2 o3 o4 d1 d2 d3 d4
  simp only [List.cons_append, List.nil_append] at N1
  have hr1 : ∀ p ∈ rest, p.1 ≠ L1 + 1 := fun p hp => Nat.ne_of_lt (Nat.lt_of_lt_of_le (l1 p hp) (by omega))
  replace d1 : o1.data = .cell none := d1
  replace d2 : o2.data = .cell none := d2
  replace d3 : o3.data = .cell none := d3
  replace d4 : o4.data = .cell none := d4
  dsimp only
  k_steps
  unfold Stop
  rename Fr _ _ _ _ => F2
  rename News _ _ _ _ => N2
  refine newList_K' F2 N2 ?_
  intro pm h3 oM hoM F3 N3 hlt3
  have a1 : @LT.lt Nat _ (L1 + 1 + 1 + 1 + 1) pm := hlt3 _ (.head _)
  have a2 : @LT.lt Nat _ (L1 + 1 + 1 + 1) pm := hlt3 _ (.tail _ (.head _))
  have a3 : @LT.lt Nat _ (L1 + 1 + 1) pm := hlt3 _ (.tail _ (.tail _ (.head _)))
  have a4 : @LT.lt Nat _ (L1 + 1) pm := hlt3 _ (.tail _ (.tail _ (.tail _ (.head _))))
  have a5 : (∀ p ∈ rest, @LT.lt Nat _ p.1 pm) ∧ True := ⟨fun p hp => hlt3 p (.tail _ (.tail _ (.tail _ (.tail _ hp)))), trivial⟩
  clear hlt3
  k_steps
  unfold Stop
  rename_i o4' F4 N4 d4'
  refine newList_K F4 N4 ?_
  intro hp h5 F5 N5 hlt5
  have b1 : @LT.lt Nat _ (L1 + 1 + 1 + 1 + 1) hp := hlt5 _ (.tail _ (.head _))
  have b2 : @LT.lt Nat _ (L1 + 1 + 1 + 1) hp := hlt5 _ (.tail _ (.tail _ (.head _)))
  have b3 : @LT.lt Nat _ (L1 + 1 + 1) hp := hlt5 _ (.tail _ (.tail _ (.tail _ (.head _))))
  have b4 : @LT.lt Nat _ (L1 + 1) hp := hlt5 _ (.tail _ (.tail _ (.tail _ (.tail _ (.head _)))))
  have b5 : @LT.lt Nat _ pm hp := hlt5 _ (.head _)
  have b6 : (∀ p ∈ rest, @LT.lt Nat _ p.1 hp) ∧ True := ⟨fun p hp => hlt5 p (.tail _ (.tail _ (.tail _ (.tail _ (.tail _ hp))))), trivial⟩
  clear hlt5
  k_steps
  unfold Stop
  rename Fr _ _ _ _ => F6
  refine For_at F6 ?_ (by walk1)
  k_steps
  rename News _ _ _ _ => N6
  refine v_len N6 (.tail _ (.tail _ (.tail _ (.tail _ (.tail _ (.tail _ hm)))))) (by simp; omega) ?_
  k_steps
  unfold Stop
  rename IsRange _ _ _ _ _ _ _ _ => R7
  rename Fr _ _ _ _ => F7
  rename News _ _ _ _ => N7
  rw [List.length_map] at R7
  refine iter_range (σ := List It × Nat) (doneLed1 hp pm L1 oM o1 o2 o3 o4' rest)
    (fun c => [(Str.ofString "orders", .ref po), (Str.ofString "heap", .ref hp)]) (DoneInv1 os) ([], 0) rfl R7 (small_one (by omega) (by omega) (by omega) (by omega)) (rangeSize_nat0 _) F7 N7 (by kst_all) ⟨rfl, (fun k h h' => absurd h' (Nat.not_lt_zero _)), .refl _⟩ ?_ ?_
  · rintro i ⟨its, ni⟩ u h8 tk8 tv8 own hi ⟨hP1, hP2, hP3⟩ hsep F8 N8
    clear F7 N7 R7
    dsimp only [doneLed1] at hsep N8
    dsimp only at hsep hP1 hP2 hP3 F8 N8 ⊢
    simp only [List.cons_append, List.append_assoc] at N8
    have hmore1 : ∀ x ∈ its, (x.a, x.obj) ∈ pairs its ++ (rest ++ own) := fun x hx => List.mem_append_left _ (List.mem_map.mpr ⟨x, hx, rfl⟩)
    have hmore2 : ∀ p ∈ rest, p ∈ pairs its ++ (rest ++ own) := fun p hp => List.mem_append_right _ (List.mem_append_left _ hp)
    have hmore3 : ∀ p ∈ own, p ∈ pairs its ++ (rest ++ own) := fun p hp => List.mem_append_right _ (List.mem_append_right _ hp)
    have hmore4 : ∀ p ∈ pairs its ++ (rest ++ own), p.1 ≠ hp := by
      intro p hp'
      rcases List.mem_append.mp hp' with q | q
      · obtain ⟨x, hx, rfl⟩ := List.mem_map.mp q
        intro e
        have z1 := (N8 _ (.head _)).1
        have z2 := (N8 (x.a, x.obj) (.tail _ (.tail _ (.tail _ (.tail _ (.tail _ (.tail _ (hmore1 x hx)))))))).1
        dsimp only at e z1 z2
        rw [e, z1] at z2
        exact obj_ne z2
      · rcases List.mem_append.mp q with q | q
        · exact Nat.ne_of_lt (b6.1 p q)
        · exact fun e => hsep p q _ (.head _) e
    generalize pairs its ++ (rest ++ own) = more at N8 hmore1 hmore2 hmore3 hmore4
    obtain ⟨o, ho⟩ : ∃ o, os[i]? = some o := ⟨os[i], by simp [hi]⟩
    have hoi : (os.map Od.v)[i]? = some o.v := by simp [ho]
    have hom : o ∈ os := List.mem_of_getElem? ho
    have mk : Mark := trivial
    k_steps
    rename News _ _ _ _ => N9
    refine v_sub N9 (.tail _ (.tail _ (.tail _ (.tail _ (.tail _ (.tail _ (hmore2 _ hm))))))) (i := i) (by omega) hoi (by omega) ?_ (by with_unfolding_all rfl)
    k_steps
    refine t_sub (i := 0) (v := .int o.t o.tt) (its := #[.int o.t o.tt, .int o.d o.td, .int o.w o.tw, .int o.m o.tm]) ⟨o.obj, (N9 _ (.tail _ (.tail _ (.tail _ (.tail _ (.tail _ (.tail _ (hmore2 _ (hmo o hom))))))))).1, rfl, _, rfl⟩ rfl rfl (by omega) ?_ (by with_unfolding_all rfl)
    k_steps
    unfold Stop
    rename Fr _ _ _ _ => F10
    rename News _ _ _ _ => N10
    refine kup_newTuple F10 N10 ?_ (by kmk_size)
    intro pt h11 F11 N11 hlt11
    k_steps
    unfold Stop
    have hpt : ∀ p ∈ more, p.1 ≠ pt := fun p hp' => Nat.ne_of_lt (hlt11 p (.tail _ (.tail _ (.tail _ (.tail _ (.tail _ (.tail _ hp')))))))
    have hpp : @LT.lt Nat _ hp pt := hlt11 _ (.head _)
    clear hlt11
    generalize hx12 : (It.mk pt o.t (0 + (i : Int)) o.tt tv8) = x12
    have hxa : x12.a = pt := by rw [← hx12]
    have N12 : News g1 L1 h11 ((hp, W.listOf (its.map It.v).toArray ni) :: (pm, oM) :: (L1 + 1 + 1 + 1 + 1, o1) :: (L1 + 1 + 1 + 1, o2) :: (L1 + 1 + 1, o3) :: (L1 + 1, o4') :: (x12.a, x12.obj) :: more) := by
      rw [← hx12]
      intro p hp'
      rcases List.mem_cons.mp hp' with e | hp'
      · rw [e]; exact N11 _ (.tail _ (.head _))
      rcases List.mem_cons.mp hp' with e | hp'
      · rw [e]; exact N11 _ (.tail _ (.tail _ (.head _)))
      rcases List.mem_cons.mp hp' with e | hp'
      · rw [e]; exact N11 _ (.tail _ (.tail _ (.tail _ (.head _))))
      rcases List.mem_cons.mp hp' with e | hp'
      · rw [e]; exact N11 _ (.tail _ (.tail _ (.tail _ (.tail _ (.head _)))))
      rcases List.mem_cons.mp hp' with e | hp'
      · rw [e]; exact N11 _ (.tail _ (.tail _ (.tail _ (.tail _ (.tail _ (.head _))))))
      rcases List.mem_cons.mp hp' with e | hp'
      · rw [e]; exact N11 _ (.tail _ (.tail _ (.tail _ (.tail _ (.tail _ (.tail _ (.head _)))))))
      rcases List.mem_cons.mp hp' with e | hp'
      · rw [e]; exact N11 _ (.head _)
      · exact N11 _ (.tail _ (.tail _ (.tail _ (.tail _ (.tail _ (.tail _ (.tail _ hp')))))))
    clear N11
    have hne12 : ∀ p ∈ (pm, oM) :: (L1 + 1 + 1 + 1 + 1, o1) :: (L1 + 1 + 1 + 1, o2) :: (L1 + 1 + 1, o3) :: (L1 + 1, o4') :: (x12.a, x12.obj) :: more, p.1 ≠ hp := by
      intro p hp'
      rcases List.mem_cons.mp hp' with e | hp'
      · rw [e]; exact Nat.ne_of_lt b5
      rcases List.mem_cons.mp hp' with e | hp'
      · rw [e]; exact Nat.ne_of_lt b1
      rcases List.mem_cons.mp hp' with e | hp'
      · rw [e]; exact Nat.ne_of_lt b2
      rcases List.mem_cons.mp hp' with e | hp'
      · rw [e]; exact Nat.ne_of_lt b3
      rcases List.mem_cons.mp hp' with e | hp'
      · rw [e]; exact Nat.ne_of_lt b4
      rcases List.mem_cons.mp hp' with e | hp'
      · rw [e, hxa]; exact Nat.ne_of_gt hpp
      · exact hmore4 p hp'
    rw [show Value.ref pt = x12.v by rw [← hx12]; rfl]
    k_dflt refine heappush_call w mean mg mb _ _ _ _ _ _ _ _ _ _ _ _ _ _ _ _ _ hp its ni _ x12 B1 F11 X1 N12 T1 rfl hne12 (fun x hx => .tail _ (.tail _ (.tail _ (.tail _ (.tail _ (.tail _ (hmore1 x hx))))))) (.tail _ (.tail _ (.tail _ (.tail _ (.tail _ (.head _)))))) (by omega) (by ktr_room) (by ktr_units) ?_
    intro h13 tk13 F13 N13
    clear F11 N12
    k_steps
    unfold Stop
    have hpm : ∀ y, y ∈ hpush its x12 → y ∈ its ∨ y = x12 := fun y hy => by
      have := (hpush_perm its x12).mem_iff.mp hy
      rcases List.mem_append.mp this with q | q
      · exact .inl q
      · exact .inr (List.mem_singleton.mp q)
    have hok13 := hpush_ok x12 hP2
    have hm13 : ∀ x ∈ hpush its x12, (x.a, x.obj) ∈ (pm, oM) :: (L1 + 1 + 1 + 1 + 1, o1) :: (L1 + 1 + 1 + 1, o2) :: (L1 + 1 + 1, o3) :: (L1 + 1, o4') :: (x12.a, x12.obj) :: more := fun y hy => by
      rcases hpm y hy with q | q
      · exact .tail _ (.tail _ (.tail _ (.tail _ (.tail _ (.tail _ (hmore1 y q))))))
      · rw [q]; exact .tail _ (.tail _ (.tail _ (.tail _ (.tail _ (.head _)))))
    refine heaped_call w mean mg mb _ _ _ _ _ _ _ _ _ _ _ _ _ _ _ _ _ hp (hpush its x12) (ni + 1) _ B1 F13 X1 N13 T1 rfl hne12 hm13 (by rw [hpush_len]; omega) (by ktr_room) (by ktr_units) (fun k q1 q2 => hok13 k q1 q2) ?_
    intro h14 tk14 F14 N14
    clear F13 N13
    k_steps
    unfold Stop
    refine fend (hpush its x12, ni + 1) F14 ?_ ?_ (by kst_all) ⟨?_, hok13, ?_⟩
    · try dsimp only [doneLed1, doneLed]
      intro p hp'
      rcases List.mem_append.mp hp' with hp' | hp'
      · rcases List.mem_cons.mp hp' with e | hp'
        · rw [e]; exact N14 _ (.head _)
        rcases List.mem_cons.mp hp' with e | hp'
        · rw [e]; exact N14 _ (.tail _ (.head _))
        rcases List.mem_cons.mp hp' with e | hp'
        · rw [e]; exact N14 _ (.tail _ (.tail _ (.head _)))
        rcases List.mem_cons.mp hp' with e | hp'
        · rw [e]; exact N14 _ (.tail _ (.tail _ (.tail _ (.head _))))
        rcases List.mem_cons.mp hp' with e | hp'
        · rw [e]; exact N14 _ (.tail _ (.tail _ (.tail _ (.tail _ (.head _)))))
        rcases List.mem_cons.mp hp' with e | hp'
        · rw [e]; exact N14 _ (.tail _ (.tail _ (.tail _ (.tail _ (.tail _ (.head _))))))
        rcases List.mem_append.mp hp' with hp' | hp'
        · obtain ⟨y, hy, rfl⟩ := List.mem_map.mp hp'
          exact N14 _ (.tail _ (hm13 y hy))
        · exact N14 _ (.tail _ (.tail _ (.tail _ (.tail _ (.tail _ (.tail _ (.tail _ (hmore2 p hp'))))))))
      · exact N14 _ (.tail _ (.tail _ (.tail _ (.tail _ (.tail _ (.tail _ (.tail _ (hmore3 p hp'))))))))
    · try dsimp only [doneLed1, doneLed]
      intro p hp' q hq
      rcases List.mem_cons.mp hq with e | hq
      · rw [e]; exact hsep p hp' (hp, W.listOf (its.map It.v).toArray ni) (.head _)
      rcases List.mem_cons.mp hq with e | hq
      · rw [e]; exact hsep p hp' _ (.tail _ (.head _))
      rcases List.mem_cons.mp hq with e | hq
      · rw [e]; exact hsep p hp' _ (.tail _ (.tail _ (.head _)))
      rcases List.mem_cons.mp hq with e | hq
      · rw [e]; exact hsep p hp' _ (.tail _ (.tail _ (.tail _ (.head _))))
      rcases List.mem_cons.mp hq with e | hq
      · rw [e]; exact hsep p hp' _ (.tail _ (.tail _ (.tail _ (.tail _ (.head _)))))
      rcases List.mem_cons.mp hq with e | hq
      · rw [e]; exact hsep p hp' _ (.tail _ (.tail _ (.tail _ (.tail _ (.tail _ (.head _))))))
      rcases List.mem_append.mp hq with hq | hq
      · obtain ⟨y, hy, rfl⟩ := List.mem_map.mp hq
        rcases hpm y hy with z | z
        · exact hsep p hp' _ (.tail _ (.tail _ (.tail _ (.tail _ (.tail _ (.tail _ (List.mem_append_left _ (List.mem_map.mpr ⟨y, z, rfl⟩))))))))
        · rw [z]
          show p.1 ≠ x12.a
          rw [hxa]; exact hpt p (hmore3 p hp')
      · exact hsep p hp' _ (.tail _ (.tail _ (.tail _ (.tail _ (.tail _ (.tail _ (List.mem_append_right _ hq)))))))
    · try dsimp only [doneLed1, doneLed]
      rw [hpush_len, hP1]
    · try dsimp only [doneLed1, doneLed]
      refine ((hpush_perm its x12).map It.key).trans ?_
      rw [List.map_append, List.range_succ, List.map_append]
      refine hP3.append ?_
      rw [← hx12]
      simp [It.key, key_of ho]
  · rintro ⟨its0, n0⟩ u h8 tk8 ⟨hP1, hP2, hP3⟩ F8 N8
    clear F7 N7 R7
    dsimp only [doneLed1] at N8
    dsimp only at hP1 hP2 hP3 F8 N8 ⊢
    have hmore1 : ∀ x ∈ its0, (x.a, x.obj) ∈ pairs its0 ++ rest := fun x hx => List.mem_append_left _ (List.mem_map.mpr ⟨x, hx, rfl⟩)
    have hmore2 : ∀ p ∈ rest, p ∈ pairs its0 ++ rest := fun p hp => List.mem_append_right _ hp
    have hobj : ∀ p ∈ pairs its0 ++ rest, p ∈ rest ∨ ∃ x ∈ its0, p = (x.a, x.obj) := fun p hp' => by
      rcases List.mem_append.mp hp' with q | q
      · obtain ⟨x, hx, rfl⟩ := List.mem_map.mp q
        exact .inr ⟨x, hx, rfl⟩
      · exact .inl q
    generalize pairs its0 ++ rest = more at N8 hmore1 hmore2 hobj
    have hother : ∀ p ∈ more, ∀ b o, h8.get? b = some o → (∀ x : It, o ≠ x.obj) → (∀ p ∈ rest, p.1 ≠ b) → p.1 ≠ b := fun p hp' b o hb hne hr e => by
      rcases hobj p hp' with q | ⟨x, hx, q⟩
      · exact hr p q e
      · have := (N8 _ (.tail _ (.tail _ (.tail _ (.tail _ (.tail _ (.tail _ hp'))))))).1
        rw [e, hb, q] at this
        exact hne x (Option.some.inj this)
    have hcl : ∀ {o : Obj} {v : Option Value}, o.data = .cell v → ∀ x : It, o ≠ x.obj := fun hd x e => by rw [e] at hd; cases hd
    have hc4 : ∀ p ∈ more, p.1 ≠ L1 + 1 + 1 + 1 + 1 := fun p hp' => hother p hp' _ _ (N8 _ (.tail _ (.tail _ (.head _)))).1 (hcl d1) (fun p hp => Nat.ne_of_lt (Nat.lt_of_lt_of_le (l1 p hp) (by omega)))
    have hc3 : ∀ p ∈ more, p.1 ≠ L1 + 1 + 1 + 1 := fun p hp' => hother p hp' _ _ (N8 _ (.tail _ (.tail _ (.tail _ (.head _))))).1 (hcl d2) (fun p hp => Nat.ne_of_lt (Nat.lt_of_lt_of_le (l1 p hp) (by omega)))
    have hc2 : ∀ p ∈ more, p.1 ≠ L1 + 1 + 1 := fun p hp' => hother p hp' _ _ (N8 _ (.tail _ (.tail _ (.tail _ (.tail _ (.head _)))))).1 (hcl d3) (fun p hp => Nat.ne_of_lt (Nat.lt_of_lt_of_le (l1 p hp) (by omega)))
    have hc1 : ∀ p ∈ more, p.1 ≠ L1 + 1 := fun p hp' => hother p hp' _ _ (N8 _ (.tail _ (.tail _ (.tail _ (.tail _ (.tail _ (.head _))))))).1 (hcl d4') (fun p hp => Nat.ne_of_lt (Nat.lt_of_lt_of_le (l1 p hp) (by omega)))
    have hch : ∀ p ∈ more, p.1 ≠ hp := fun p hp' => hother p hp' _ _ (N8 _ (.head _)).1 (fun x e => obj_ne (congrArg some e)) (fun p hp => Nat.ne_of_lt (b6.1 p hp))
    clear hother hobj hcl
    k_steps
    unfold Stop
    rename Fr _ _ _ _ => F9
    rename News _ _ _ _ => N9
    refine newList_K F9 N9 ?_
    intro pr h10 F10 N10 hlt10
    have e1 : @LT.lt Nat _ (L1 + 1 + 1 + 1 + 1) pr := hlt10 _ (.tail _ (.tail _ (.head _)))
    have e2 : @LT.lt Nat _ hp pr := hlt10 _ (.head _)
    have e3 : @LT.lt Nat _ pm pr := hlt10 _ (.tail _ (.head _))
    have hcr : ∀ p ∈ more, p.1 ≠ pr := fun p hp' => Nat.ne_of_lt (hlt10 _ (.tail _ (.tail _ (.tail _ (.tail _ (.tail _ (.tail _ hp')))))))
    clear hlt10
    k_steps
    unfold Stop
    obtain ⟨t1, t2, t3, hoM'⟩ : ∃ t1 t2 t3, oM = W.listOf (([(33184, t1), (17385, t2), (44543, t3)] : List (Int × Tok)).map intV).toArray 0 := ⟨_, _, _, hoM⟩
    clear hoM
    rename Fr _ _ _ _ => F11
    rename News _ _ _ _ => N11
    rw [hoM'] at N11
    refine my_while (σ := WS) (doneLed hp pr L1 more)
      (fun c => [(Str.ofString "orders", .ref po), (Str.ofString "heap", .ref hp), (Str.ofString "rows", .ref pr)])
      (DoneInv os its0 hp pr L1)
      (fun c => c.its.length) ⟨its0, n0, pm, [(33184, t1), (17385, t2), (44543, t3)], 0, [], 0, o1, o2, o3, o4', []⟩ F11 ?_ (by kst_all) ⟨hP2, .refl _, .nil, (fun _ h => nomatch h), rfl, by simp, rfl, rfl, d4', ⟨_, d1⟩, ⟨_, d2⟩, ⟨_, d3⟩, Nat.ne_of_lt b5, Nat.ne_of_lt e3, Nat.ne_of_gt a4, Nat.ne_of_gt a3, Nat.ne_of_gt a2, Nat.ne_of_gt a1⟩ ?_ (by walk1)
    · exact news_swap N11
    · rintro ⟨its, ni, pm2, ms, km, rows, kr, oa, ob, oc, od, dn⟩ u h12 tk12 ⟨q1, q2, q3, q4, q5, q6, q7, q8, q9, ⟨va, q10⟩, ⟨vb, q11⟩, ⟨vc, q12⟩, q13, q14, q15, q16, q17, q18⟩ F12 N12
      clear F11 N11
      dsimp only [doneLed] at N12
      dsimp only at q1 q2 q3 q4 q5 q6 q7 q8 q9 q10 q11 q12 q13 q14 q15 q16 q17 q18 F12 N12 ⊢
      have mk : Mark := trivial
      have hil : its.length ≤ os.length := by
        have := q2.length_eq
        rw [List.length_append] at this
        omega
      k_steps
      unfold Stop
      refine it_truthy N12 (.head _) (by omega) ?_
      by_cases hi : its = []
      · rw [show decide (its ≠ []) = false by simp [hi]]
        simp only [Bool.false_eq_true, if_false]
        k_steps
        rename Fr h₀ _ _ _ => F20
        rename News h₀ _ _ _ => N20
        subst hi
        rw [List.append_nil] at q2
        refine ret pr _ _ kr rows (dn.map (·.k.toNat)) (ks_of (((q2.map It.key).symm).trans hP3) q3) (congrArg Prod.snd q8) (fun q hq => hcr q (hmore2 q hq)) F20 (fun p hp' => ?_)
        rcases List.mem_cons.mp hp' with e | hp'
        · rw [e]; exact N20 _ (.tail _ (.head _))
        · exact N20 _ (.tail _ (.tail _ (.tail _ (.tail _ (.tail _ (.tail _ (.tail _ (hmore2 p hp'))))))))
      · rw [show decide (its ≠ []) = true by simp [hi]]
        simp only [if_true]
        have hi0 : 0 < its.length := List.length_pos_iff.mpr hi
        obtain ⟨p1, p2, p3, p4⟩ := hpop_all q1 hi0
        have hxm : (hpop its).1 ∈ its := p2.mem_iff.mpr (.head _)
        have hits : ∀ x ∈ its, (x.a, x.obj) ∈ more := fun x hx => hmore1 x (q2.mem_iff.mpr (List.mem_append_right _ hx))
        have hne12 : ∀ p ∈ (pr, W.listOf (rows.map strV).toArray kr) :: (pm2, W.listOf (ms.map intV).toArray km) :: (L1 + 1 + 1 + 1 + 1, oa) :: (L1 + 1 + 1 + 1, ob) :: (L1 + 1 + 1, oc) :: (L1 + 1, od) :: more, p.1 ≠ hp := by
          intro p hp'
          rcases List.mem_cons.mp hp' with e | hp'
          · rw [e]; exact Nat.ne_of_gt e2
          rcases List.mem_cons.mp hp' with e | hp'
          · rw [e]; exact q13
          rcases List.mem_cons.mp hp' with e | hp'
          · rw [e]; exact Nat.ne_of_lt b1
          rcases List.mem_cons.mp hp' with e | hp'
          · rw [e]; exact Nat.ne_of_lt b2
          rcases List.mem_cons.mp hp' with e | hp'
          · rw [e]; exact Nat.ne_of_lt b3
          rcases List.mem_cons.mp hp' with e | hp'
          · rw [e]; exact Nat.ne_of_lt b4
          · exact hch p hp'
        k_steps
        unfold Stop
        k_dflt refine heappop_call w mean mg mb _ _ _ _ _ _ _ _ _ _ _ _ _ _ _ _ _ hp its ni _ B1 F12 X1 N12 T1 rfl hne12 (fun x hx => .tail _ (.tail _ (.tail _ (.tail _ (.tail _ (.tail _ (hits x hx))))))) hi0 (by omega) (by ktr_room) (by ktr_units) ?_
        intro h13 tk13 F13 N13
        clear F12 N12
        generalize hx : (hpop its).1 = x at p2 p3 hxm ⊢
        generalize hits' : (hpop its).2 = its' at p1 p2 p4 N13
        have hT13 : IsTup h13 x.a #[.int x.t x.tt, .int x.k x.tk] := ⟨_, (N13 _ (.tail _ (.tail _ (.tail _ (.tail _ (.tail _ (.tail _ (.tail _ (hits x hxm))))))))).1, rfl, _, rfl⟩
        unfold It.v
        k_steps
        unfold Stop
        rename Fr _ _ _ _ => F14
        rename News _ _ _ _ => N14
        have hits2 : ∀ y ∈ its', (y.a, y.obj) ∈ more := fun y hy => hits y (p2.mem_iff.mpr (.tail _ hy))
        k_dflt refine heaped_call w mean mg mb _ _ _ _ _ _ _ _ _ _ _ _ _ _ _ _ _ hp its' (ni + 1) _ B1 F14 X1 N14 T1 rfl hne12 (fun x hx => .tail _ (.tail _ (.tail _ (.tail _ (.tail _ (.tail _ (hits2 x hx))))))) (by omega) (by ktr_room) (by ktr_units) (fun k q1 q2 => p1 k q1 q2) ?_
        intro h15 tk15 F15 N15
        clear F14 N14 hT13
        obtain ⟨j, hj, o, hjo, hxk, hxt⟩ : ∃ j, j < os.length ∧ ∃ o, os[j]? = some o ∧ x.k = (j : Int) ∧ x.t = o.t := by
          have z : x.key ∈ its0.map It.key := List.mem_map.mpr ⟨x, q2.mem_iff.mpr (List.mem_append_right _ hxm), rfl⟩
          obtain ⟨j, hj, e⟩ := List.mem_map.mp (hP3.mem_iff.mp z)
          have hj' : j < os.length := List.mem_range.mp hj
          have ho : os[j]? = some os[j] := by simp [hj']
          rw [key_of ho] at e
          injection e with e1 e2
          exact ⟨j, hj', os[j], ho, e2.symm, e1.symm⟩
        have hom : o ∈ os := List.mem_of_getElem? hjo
        obtain ⟨k1, k2, k3, k4, k5, k6⟩ := hok o hom
        k_steps
        rename Fr _ _ _ _ => F16
        rename News _ _ _ _ => N16
        refine v_sub N16 (.tail _ (.tail _ (.tail _ (.tail _ (.tail _ (.tail _ (.tail _ (hmore2 _ hm)))))))) (i := j) hxk (v := o.v) (by simp [hjo]) (by omega) ?_ (by with_unfolding_all rfl)
        have hT16 : IsTup h15 o.a #[.int o.t o.tt, .int o.d o.td, .int o.w o.tw, .int o.m o.tm] := ⟨o.obj, (N16 _ (.tail _ (.tail _ (.tail _ (.tail _ (.tail _ (.tail _ (.tail _ (hmore2 _ (hmo o hom)))))))))).1, rfl, _, rfl⟩
        unfold Od.v
        rename Mark => mk
        clear mk
        have hwn : ∃ wn : Nat, o.w = (wn : Int) ∧ wn < 3 := ⟨o.w.toNat, by omega, by omega⟩
        obtain ⟨wn, hwn, hwn3⟩ := hwn
        obtain ⟨⟨mw, tmw⟩, hmw⟩ : ∃ z, ms[wn]? = some z := ⟨ms[wn], by simp [q5, hwn3]⟩
        have hmv : (ms.map intV)[wn]? = some (.int mw tmw) := by simp [hmw, intV]
        k_steps
        unfold Stop
        rename News _ _ _ _ => N17
        refine v_sub N17 (.tail _ (.tail _ (.head _))) (i := wn) hwn hmv (by omega) ?_ (by with_unfolding_all rfl)
        k_steps
        unfold Stop
        rename News _ _ _ _ => N17
        refine v_sub N17 (.tail _ (.tail _ (.head _))) (i := wn) hwn hmv (by omega) ?_ (by with_unfolding_all rfl)
        k_steps
        unfold Stop
        rename News _ _ _ _ => N17
        refine v_sub N17 (.tail _ (.tail _ (.head _))) (i := wn) hwn hmv (by omega) ?_ (by with_unfolding_all rfl)
        k_steps
        unfold Stop
        rename Fr _ _ _ _ => F18
        rename News _ _ _ _ => N18
        refine kup_newTuple F18 N18 ?_ (by kmk_size)
        intro pt1 h19 F19 N19 hlt19
        k_steps
        unfold Stop
        rename News _ _ _ _ => N17
        refine v_sub N17 (.tail _ (.tail _ (.tail _ (.head _)))) (i := wn) hwn hmv (by omega) ?_ (by with_unfolding_all rfl)
        k_steps
        unfold Stop
        rename News _ _ _ _ => N17
        refine v_sub N17 (.tail _ (.tail _ (.tail _ (.head _)))) (i := wn) hwn hmv (by omega) ?_ (by with_unfolding_all rfl)
        k_steps
        unfold Stop
        rename News _ _ _ _ => N17
        refine v_sub N17 (.tail _ (.tail _ (.tail _ (.head _)))) (i := wn) hwn hmv (by omega) ?_ (by with_unfolding_all rfl)
        k_steps
        unfold Stop
        rename Fr _ _ _ _ => F20
        rename News _ _ _ _ => N20
        refine kup_newTuple F20 N20 ?_ (by kmk_size)
        intro pt2 h21 F21 N21 hlt21
        clear hlt21 hlt19
        k_steps
        unfold Stop
        rename Fr _ _ _ _ => F22
        rename News _ _ _ _ => N22'
        have N22 := fun p hp => N22' p (.tail _ (.tail _ hp))
        change News g1 L1 h21 _ at N22
        clear N22'
        k_dflt (refine LCg.ListComp_U (F₀ := F22) (by with_unfolding_all rfl) (by decide) (by rfl) (by decide) (by rfl) ?_)
        k_steps
        unfold Stop
        rename IsRange _ _ _ _ _ _ _ _ => R23
        rename Fr _ _ _ _ => F23
        rename News _ _ _ _ => N23
        refine LCg.CompSrc.range (n := 3) (by rfl) F23 N23 R23 (by decide) (by decide) (by decide) ?_
        intro g24
        refine rest_inv (fun i ys nw => ∃ zs : List (Int × Tok), ys = zs.map intV ∧ zs.map (·.1) = ((ms.map (·.1)).set wn (chg mw o.d o.m)).take i ∧ nw = _) ?_ ?_ ⟨[], rfl, rfl, rfl⟩
        · rintro i ys nw v I oI C oC D m2 h25 tk25 E25 hi3 ⟨zs, hzs, hzs2, rfl⟩ hv hC hx F25 N25 off ne
          obtain ⟨tp, rfl⟩ := hv
          clear F23 N23 R23
          have mk : Mark := trivial
          have hz3 : zs.length = i := by
            have := congrArg List.length hzs2
            simp only [List.length_map, List.length_take, List.length_set, q5] at this
            omega
          obtain ⟨⟨mi, tmi⟩, hmi⟩ : ∃ z, ms[i]? = some z := ⟨ms[i], by simp [q5, hi3]⟩
          have hmiv : (ms.map intV)[i]? = some (.int mi tmi) := by simp [hmi, intV]
          have hmi0 : 0 ≤ mi := q6 (mi, tmi) (List.mem_of_getElem? hmi)
          have hstep : ∀ v, ((ms.map (·.1)).set wn (chg mw o.d o.m))[i]? = some v → zs.map (·.1) ++ [v] = ((ms.map (·.1)).set wn (chg mw o.d o.m)).take (i + 1) := fun v hv => by
            rw [List.take_add_one, hv, hzs2]; rfl
          k_steps
          · unfold Stop
            rename 0 + (i : Int) = o.w => hiw
            have hiw' : wn = i := by omega
            rename News _ _ _ _ => N27
            refine v_sub N27 (.tail _ (.tail _ (.tail _ (.tail _ (.tail _ (.head _)))))) (i := i) (by omega) hmiv (by omega) ?_ (by with_unfolding_all rfl)
            k_steps
            unfold Stop
            rename Fr _ _ _ _ => F28
            rename News _ _ _ _ => N28
            k_dflt refine changed_callU w mean mg mb _ _ _ _ _ _ _ _ _ _ _ _ _ _ _ _ mi o.d o.m _ _ _ _ hmi0 k6 k2 k3 B1 F28 X1 N28 T1 rfl (show 10 ≤ 20 by decide) ?_
            intro t29 h29 tk29 F29 N29
            clear F28 N28
            k_steps
            unfold Stop
            subst hiw'
            rw [hmw] at hmi
            cases hmi
            refine LCg.CompEnd.intro F29 N29 _ (fun p hp => hp) off trivial ⟨zs ++ [(chg mw o.d o.m, t29)], ?_, ?_, rfl⟩
            · rw [hzs, List.map_append]; rfl
            · rw [List.map_append]
              exact hstep _ (by simp [q5, hwn3])
          · unfold Stop
            rename News _ _ _ _ => N27
            refine v_sub N27 (.tail _ (.tail _ (.tail _ (.tail _ (.tail _ (.head _)))))) (i := i) (by omega) hmiv (by omega) ?_ (by with_unfolding_all rfl)
            k_steps
            unfold Stop
            rename ¬ (0 + (i : Int) = o.w) => hiw
            rename Fr _ _ _ _ => F29
            refine LCg.CompEnd.intro F29 N27 _ (fun p hp => hp) off trivial ⟨zs ++ [(mi, tmi)], ?_, ?_, rfl⟩
            · rw [hzs, List.map_append]; rfl
            · rw [List.map_append]
              refine hstep _ ?_
              rw [List.getElem?_set_ne (by omega)]
              simp [hmi]
        · rintro ys nw ⟨zs, hzs, hzs2, rfl⟩
          unfold LCg.FinE
          intro D26 h26 tk26 F26 N26 o26
          clear F23 N23 R23
          have o27 := off1_mem o26
          have dg1 : @Ne Nat D26 (L1 + 1) := fun e => o27 _ (.tail _ (.tail _ (.tail _ (.tail _ (.tail _ (.tail _ (.head _))))))) e.symm
          have dg2 : @Ne Nat D26 (L1 + 1 + 1) := fun e => o27 _ (.tail _ (.tail _ (.tail _ (.tail _ (.tail _ (.head _)))))) e.symm
          have dg3 : @Ne Nat D26 (L1 + 1 + 1 + 1) := fun e => o27 _ (.tail _ (.tail _ (.tail _ (.tail _ (.head _))))) e.symm
          have dg4 : @Ne Nat D26 (L1 + 1 + 1 + 1 + 1) := fun e => o27 _ (.tail _ (.tail _ (.tail _ (.head _)))) e.symm
          have dg5 : @Ne Nat D26 hp := fun e => o27 _ (.head _) e.symm
          have dg6 : @Ne Nat D26 pr := fun e => o27 _ (.tail _ (.head _)) e.symm
          have dg7 : ∀ p ∈ more, p.1 ≠ D26 := fun p hp' => o27 p (.tail _ (.tail _ (.tail _ (.tail _ (.tail _ (.tail _ (.tail _ hp')))))))
          rw [lst_of (n := 3) (by rw [hzs, List.length_map]; simpa [q5] using congrArg List.length hzs2)] at N26
          have mk : Mark := trivial
          have hz26 : zs.length = 3 := by simpa [q5] using congrArg List.length hzs2
          obtain ⟨⟨zw, tzw⟩, hzw⟩ : ∃ z, zs[wn]? = some z := ⟨zs[wn], by simp [hz26, hwn3]⟩
          have hzw' : zw = chg mw o.d o.m := by
            have e1 : (zs.map (·.1))[wn]? = some zw := by simp [hzw]
            rw [hzs2, List.take_of_length_le (by simp [q5])] at e1
            simpa [q5, hwn3] using e1.symm
          have hzv : ys[wn]? = some (.int zw tzw) := by rw [hzs]; simp [hzw, intV]
          k_steps
          unfold Stop
          rename Fr _ _ _ _ => F30
          rename News _ _ _ _ => N30
          refine v_sub N30 (.head _) (i := wn) hwn hzv (by omega) ?_ (by with_unfolding_all rfl)
          k_steps
          unfold Stop
          k_dflt refine filemode_callU w mean mg mb _ _ _ _ _ _ _ _ _ _ _ _ _ _ _ _ zw _ _ B1 F30 X1 N30 T1 rfl (show 10 ≤ 20 by decide) ?_
          intro t31 h31 tk31 F31 N31
          clear F30 N30
          rename Mark => mk
          clear mk
          k_steps
          rename Fr _ _ _ _ => F32
          rename News _ _ _ _ => N32
          refine has_call F32 N32 ?_
          intro h33 F33 N33
          clear F32 N32
          k_steps
          rename Fr g1 _ _ _ => F34
          rename News g1 _ _ _ => N34
          rw [row_str hwn hwn3]
          subst hzs
          refine row_append F34 (news_turn N34) ?_ (by have := q2.length_eq; rw [List.length_append] at this; omega) ?_
          · intro p hp'
            rcases List.mem_cons.mp hp' with e | hp'
            · rw [e]; exact Nat.ne_of_lt e2
            rcases List.mem_cons.mp hp' with e | hp'
            · rw [e]; exact dg6
            rcases List.mem_cons.mp hp' with e | hp'
            · rw [e]; exact Nat.ne_of_lt e1
            rcases List.mem_cons.mp hp' with e | hp'
            · rw [e]; exact Nat.ne_of_lt (Nat.lt_of_le_of_lt (Nat.le_succ _) e1)
            rcases List.mem_cons.mp hp' with e | hp'
            · rw [e]; exact Nat.ne_of_lt (Nat.lt_of_le_of_lt (Nat.le_succ _) (Nat.lt_of_le_of_lt (Nat.le_succ _) e1))
            rcases List.mem_cons.mp hp' with e | hp'
            · rw [e]; exact Nat.ne_of_lt (Nat.lt_of_le_of_lt (Nat.le_succ _) (Nat.lt_of_le_of_lt (Nat.le_succ _) (Nat.lt_of_le_of_lt (Nat.le_succ _) e1)))
            · exact hcr p hp'
          intro h36 F36 N36
          clear F34 N34
          k_steps
          unfold Stop
          refine wend ⟨its', ni + 1, D26, zs, 3, rows ++ [(signsTo zw 10 ++ [32, 97 + wn], _)], kr + 1, _, _, _, _, dn ++ [x]⟩ F36 (news_swap N36) (by kst_all) ⟨p1, ?_, ?_, ?_, hz26, ?_, ?_, ?_, by assumption, ⟨_, by assumption⟩, ⟨_, by assumption⟩, ⟨_, by assumption⟩, dg5, dg6, dg1, dg2, dg3, dg4⟩ ?_
          · try dsimp only [doneLed1, doneLed]
            refine q2.trans ?_
            rw [List.append_assoc]
            exact List.Perm.append_left _ p2
          · try dsimp only [doneLed1, doneLed]
            rw [List.pairwise_append]
            refine ⟨q3, List.pairwise_singleton _ _, fun y hy z hz => ?_⟩
            rw [List.mem_singleton.mp hz]
            exact q4 y hy x hxm
          · try dsimp only [doneLed1, doneLed]
            intro y hy z hz
            have hz' : z ∈ its := p2.mem_iff.mpr (.tail _ hz)
            rcases List.mem_append.mp hy with hy | hy
            · exact q4 y hy z hz'
            · rw [List.mem_singleton.mp hy]; exact p3 z hz'
          · try dsimp only [doneLed1, doneLed]
            intro z hz
            have z1 : z.1 ∈ zs.map (·.1) := List.mem_map.mpr ⟨z, hz, rfl⟩
            rw [hzs2] at z1
            rcases List.mem_or_eq_of_mem_set (List.mem_of_mem_take z1) with z2 | z2
            · obtain ⟨y, hy, e⟩ := List.mem_map.mp z2
              rw [← e]; exact q6 y hy
            · rw [z2]
              exact chg_nonneg (q6 (mw, tmw) (List.mem_of_getElem? hmw)) k6
          · try dsimp only [doneLed1, doneLed]
            rw [List.length_append, List.length_append, q7]
            rfl
          · try dsimp only [doneLed1, doneLed]
            have e1 : x.k.toNat = j := by omega
            have e2 : o.w.toNat = wn := by omega
            rw [List.map_append, List.map_append]
            show _ = runR os (dn.map (·.k.toNat) ++ [x.k.toNat])
            rw [runR_snoc, ← q8, e1]
            have e3 : (ms.map (·.1)).getD wn 0 = mw := by simp [hmw]
            have e4 : stepM os (ms.map (·.1)) j = zs.map (·.1) := by
              unfold stepM
              rw [hjo]
              dsimp only
              rw [e2, e3, hzs2, List.take_of_length_le (by simp [q5])]
            have e5 : wOf os j = wn := by unfold wOf; rw [hjo]; exact e2
            have e6 : (zs.map (·.1)).getD wn 0 = zw := by simp [hzw]
            unfold stepR
            dsimp only
            rw [e4, e5]
            unfold rowTx
            rw [e6]
            rfl
          · try dsimp only [doneLed1, doneLed]
            omega
end
end Mine
end
section
open PySem PySem.W PySem.W.X PyProof.Rows
set_option Elab.async false
set_option maxHeartbeats 4000000
namespace Mine
/-- a sort's tree, asked by a pure order -/
noncomputable def pw {α : Type} (lt : Nat → Nat → Bool) (n : Nat) : KasT α → (α → Prop) → Prop
  | .ret a, Q => Q a
  | .ask i j k, Q => i < n ∧ j < n ∧ pw lt n (k (lt i j)) Q
theorem pw_mono {α : Type} {lt : Nat → Nat → Bool} {n : Nat} {Q R : α → Prop} (h : ∀ a, Q a → R a) : ∀ t : KasT α, pw lt n t Q → pw lt n t R
  | .ret a, q => h a q
  | .ask _ _ k, q => ⟨q.1, q.2.1, pw_mono h (k _) q.2.2⟩
theorem pw_bind {α β : Type} {lt : Nat → Nat → Bool} {n : Nat} {f : α → KasT β} {Q : β → Prop} : ∀ t : KasT α, pw lt n t (fun a => pw lt n (f a) Q) → pw lt n (t.bind f) Q
  | .ret _, q => q
  | .ask _ _ k, q => ⟨q.1, q.2.1, pw_bind (k _) q.2.2⟩
theorem pw_kas {α : Type} {lt : Nat → Nat → Bool} {n : Nat} {cmp : Nat → Nat → (Bool → Shared → Prop) → Shared → Prop} {s : Shared} {Q : α → Prop} {R : α → Shared → Prop}
    (hc : ∀ i j (C : Bool → Shared → Prop), i < n → j < n → C (lt i j) s → cmp i j C s) (hQ : ∀ a, Q a → R a s) : ∀ t : KasT α, pw lt n t Q → t.kasWp cmp R s
  | .ret a, q => hQ a q
  | .ask i j k, q => hc i j _ q.1 q.2.1 (pw_kas hc hQ (k _) q.2.2)
structure Ord (lt : Nat → Nat → Bool) (n : Nat) : Prop where
  tot : ∀ i j, i < n → j < n → i ≠ j → lt i j = false → lt j i = true
  tr : ∀ i j k, lt i j = true → lt j k = true → lt i k = true
  asy : ∀ i j, lt i j = true → lt j i = false
abbrev gp (p : Array Nat) (i : Nat) : Nat := p.getD i 0
def Valid (n : Nat) (p : Array Nat) : Prop := p.toList.Perm (List.range n)
theorem Valid.size {n : Nat} {p : Array Nat} (h : Valid n p) : p.size = n := by
  have := h.length_eq
  simpa using this
theorem gp_get {p : Array Nat} {i : Nat} (h : i < p.size) : p[i]? = some (gp p i) := by simp [gp, Array.getD, h]
theorem Valid.lt {n : Nat} {p : Array Nat} (h : Valid n p) {i : Nat} (hi : i < n) : gp p i < n := by
  have e := gp_get (p := p) (i := i) (by rw [h.size]; exact hi)
  have : gp p i ∈ p.toList := by
    rw [← Array.getElem?_toList] at e
    exact List.mem_of_getElem? e
  exact List.mem_range.mp (h.mem_iff.mp this)
theorem Valid.inj {n : Nat} {p : Array Nat} (h : Valid n p) {i j : Nat} (hi : i < n) (hj : j < n) (hne : i ≠ j) : gp p i ≠ gp p j := by
  have nd : p.toList.Nodup := h.nodup_iff.mpr List.nodup_range
  intro e
  have e1 := gp_get (p := p) (i := i) (by rw [h.size]; exact hi)
  have e2 := gp_get (p := p) (i := j) (by rw [h.size]; exact hj)
  rw [← Array.getElem?_toList] at e1 e2
  rw [e, ← e2] at e1
  exact hne ((List.getElem?_inj (by simp [h.size, hi]) nd).mp e1)
section
variable {lt : Nat → Nat → Bool} {n : Nat}
def Up (lt : Nat → Nat → Bool) (p : Array Nat) (m : Nat) : Prop := ∀ k, 1 ≤ k → k < m → lt (gp p (k - 1)) (gp p k) = true
def Dn (lt : Nat → Nat → Bool) (p : Array Nat) (m : Nat) : Prop := ∀ k, 1 ≤ k → k < m → lt (gp p k) (gp p (k - 1)) = true
theorem up_lt (O : Ord lt n) {p : Array Nat} {m : Nat} (h : Up lt p m) {i : Nat} : ∀ j, i < j → j < m → lt (gp p i) (gp p j) = true := by
  intro j
  induction j with
  | zero => intro h1; omega
  | succ j ih =>
    intro h1 h2
    have e := h (j + 1) (by omega) h2
    rw [Nat.add_sub_cancel] at e
    by_cases q : i = j
    · rw [q]; exact e
    · exact O.tr _ _ _ (ih (by omega) (by omega)) e
theorem asc_pw (O : Ord lt n) {p : Array Nat} (v : Valid n p) {Q : Nat → Prop} : ∀ (f a : Nat), 1 ≤ a → a + f ≤ n → Up lt p a → (∀ m, a ≤ m → m ≤ a + f → Up lt p m → (m = a + f ∨ lt (gp p m) (gp p (m - 1)) = true) → Q m) → pw lt n (kas_asc p f a) Q := by
  intro f
  induction f with
  | zero => intro a h1 h2 up h; exact h a (Nat.le_refl _) (by omega) up (.inl rfl)
  | succ f ih =>
    intro a h1 h2 up h
    refine ⟨v.lt (by omega), v.lt (by omega), ?_⟩
    cases e : lt (gp p a) (gp p (a - 1)) with
    | true =>
      simp only [if_true]
      exact h a (Nat.le_refl _) (by omega) up (.inr e)
    | false =>
      simp only [Bool.false_eq_true, if_false]
      refine ih (a + 1) (by omega) (by omega) ?_ fun m h3 h4 h5 h6 => h m (by omega) (by omega) h5 (h6.imp (fun q => by omega) id)
      intro k h3 h4
      by_cases q : k = a
      · rw [q]
        exact O.tot _ _ (v.lt (by omega)) (v.lt (by omega)) (v.inj (by omega) (by omega) (by omega)) e
      · exact up k h3 (by omega)
theorem desc_pw (O : Ord lt n) {p : Array Nat} (v : Valid n p) {Q : Array Nat × Nat × Nat → Prop} : ∀ (f a : Nat), 1 ≤ a → a + f ≤ n → Dn lt p a → (∀ m, a ≤ m → m ≤ a + f → Dn lt p m → Q (p, m, 0)) → pw lt n (kas_desc f p a 0) Q := by
  intro f
  induction f with
  | zero => intro a h1 h2 dn h; exact h a (Nat.le_refl _) (by omega) dn
  | succ f ih =>
    intro a h1 h2 dn h
    refine ⟨v.lt (by omega), v.lt (by omega), ?_⟩
    cases e : lt (gp p a) (gp p (a - 1)) with
    | true =>
      simp only [if_true]
      refine ih (a + 1) (by omega) (by omega) ?_ fun m h3 h4 h5 => h m (by omega) (by omega) h5
      intro k h3 h4
      by_cases q : k = a
      · rw [q]; exact e
      · exact dn k h3 (by omega)
    | false =>
      simp only [Bool.false_eq_true, if_false]
      refine ⟨v.lt (by omega), v.lt (by omega), ?_⟩
      have e2 := O.tot _ _ (v.lt (by omega)) (v.lt (by omega)) (v.inj (by omega) (by omega) (by omega)) e
      rw [show lt (p.getD (a - 1) 0) (p.getD a 0) = true from e2]
      simp only [if_true]
      exact h a (Nat.le_refl _) (by omega) dn
theorem gp_of {p : Array Nat} {i x : Nat} (h : p[i]? = some x) : gp p i = x := by
  obtain ⟨h1, h2⟩ := Array.getElem?_eq_some_iff.mp h
  simp [gp, Array.getD, h1, h2]
theorem rev_gp {p : Array Nat} {m k : Nat} (hm : m ≤ p.size) (hk : k < m) : gp (kas_rev p 0 m) k = gp p (m - 1 - k) := by
  refine gp_of ?_
  unfold kas_rev
  rw [getElem?_mirror_all hm, if_pos ⟨Nat.zero_le _, hk⟩, Nat.zero_add]
  exact gp_get (by omega)
theorem rev_valid {p : Array Nat} (v : Valid n p) (i j : Nat) : Valid n (kas_rev p i j) := by
  have := mirror_perm p i j ((j - i) / 2)
  exact (Array.perm_iff_toList_perm.mp this).trans v
theorem tail3_pw (O : Ord lt n) {p : Array Nat} (v : Valid n p) {m : Nat} {Q : Nat × Array Nat → Prop} (h1 : 1 ≤ m) (h2 : m ≤ n) (dn : Dn lt p m) (h : ∀ m' p', 1 ≤ m' → m' ≤ n → Valid n p' → Up lt p' m' → Q (m', p')) : pw lt n (kas_tail3 m n p) Q := by
  unfold kas_tail3
  refine pw_bind _ (asc_pw O (rev_valid v 0 m) (n - m) m h1 (by omega) ?_ fun m' h3 h4 h5 _ => h m' _ (by omega) (by omega) (rev_valid v 0 m) h5)
  intro k h3 h4
  rw [rev_gp (by rw [v.size]; exact h2) (by omega), rev_gp (by rw [v.size]; exact h2) h4]
  have := dn (m - 1 - (k - 1)) (by omega) (by omega)
  rw [show m - 1 - (k - 1) - 1 = m - 1 - k by omega] at this
  exact this
theorem count_pw (O : Ord lt n) (hn : 2 ≤ n) {p : Array Nat} (v : Valid n p) {Q : Nat × Array Nat → Prop} (h : ∀ m' p', 1 ≤ m' → m' ≤ n → Valid n p' → Up lt p' m' → Q (m', p')) : pw lt n (kas_count n p) Q := by
  unfold kas_count
  refine pw_bind _ (asc_pw O v (n - 1) 1 (Nat.le_refl _) (by omega) (fun k h1 h2 => by omega) fun m h1 h2 up hm => ?_)
  by_cases e1 : m = n
  · rw [if_pos (by rw [e1]; exact beq_self_eq_true _)]
    exact h m p h1 (by omega) v up
  · rw [if_neg (by simpa using e1)]
    by_cases e2 : m > 1
    · rw [if_pos e2]
      refine ⟨v.lt (by omega), v.lt (by omega), ?_⟩
      rw [show lt (p.getD 0 0) (p.getD (m - 1) 0) = true from up_lt O up (m - 1) (by omega) (by omega)]
      simp only [if_true]
      exact h m p h1 (by omega) v up
    · rw [if_neg e2]
      have em : m = 1 := by omega
      subst em
      unfold kas_descPart
      refine pw_bind _ (desc_pw O v (n - (1 + 1)) (1 + 1) (by omega) (by omega) ?_ fun m h3 h4 h5 => ?_)
      · intro k h3 h4
        have ek : k = 1 := by omega
        subst ek
        rcases hm with q | q
        · omega
        · exact q
      · have h6 : 1 ≤ m := by omega
        have h7 : m ≤ n := by omega
        dsimp only
        rw [if_neg (by simp)]
        exact tail3_pw O v h6 h7 h5 h
theorem place_pw (O : Ord lt n) {p : Array Nat} (v : Valid n p) {k : Nat} (hk : k < n) (up : Up lt p k) {Q : Nat → Prop} (h : ∀ l, l ≤ k → (∀ i, i < l → lt (gp p i) (gp p k) = true) → (∀ i, l ≤ i → i < k → lt (gp p k) (gp p i) = true) → Q l) :
    ∀ (f l r : Nat), r - l ≤ f → l ≤ r → r ≤ k → (∀ i, i < l → lt (gp p i) (gp p k) = true) → (∀ i, r ≤ i → i < k → lt (gp p k) (gp p i) = true) → pw lt n (kas_place p k f l r) Q := by
  intro f
  induction f with
  | zero =>
    intro l r h1 h2 h3 h4 h5
    exact h l (by omega) h4 fun i h6 h7 => h5 i (by omega) h7
  | succ f ih =>
    intro l r h1 h2 h3 h4 h5
    unfold kas_place
    by_cases e : l ≥ r
    · rw [if_pos e]
      exact h l (by omega) h4 fun i h6 h7 => h5 i (by omega) h7
    · rw [if_neg e]
      refine ⟨v.lt hk, v.lt (by omega), ?_⟩
      cases c : lt (gp p k) (gp p ((l + r) / 2)) with
      | true =>
        dsimp only
        rw [if_pos rfl]
        refine ih l ((l + r) / 2) (by omega) (by omega) (by omega) h4 fun i h6 h7 => ?_
        by_cases q : i = (l + r) / 2
        · rw [q]; exact c
        · exact O.tr _ _ _ c (up_lt O up i (by omega) h7)
      | false =>
        dsimp only
        rw [if_neg (by simp)]
        have c2 := O.tot _ _ (v.lt hk) (v.lt (by omega)) (v.inj hk (by omega) (by omega)) c
        refine ih ((l + r) / 2 + 1) r (by omega) (by omega) h3 (fun i h6 => ?_) h5
        by_cases q : i = (l + r) / 2
        · rw [q]; exact c2
        · exact O.tr _ _ _ (up_lt O up ((l + r) / 2) (by omega) (by omega)) c2
theorem bubble_gp {p : Array Nat} {k l i : Nat} (hk : k < p.size) (hl : l ≤ k) (hi : i < p.size) : gp (bubble p k (k - l)) i = if i = l then gp p k else if l < i ∧ i ≤ k then gp p (i - 1) else gp p i := by
  refine gp_of ?_
  rw [getElem?_bubble hk (k - l) (by omega)]
  have e : k - (k - l) = l := by omega
  rw [e]
  by_cases e1 : i = l
  · rw [if_pos e1, if_pos e1]
    exact gp_get hk
  · rw [if_neg e1, if_neg e1]
    by_cases e2 : l < i ∧ i ≤ k
    · rw [if_pos e2, if_pos e2]
      exact gp_get (by omega)
    · rw [if_neg e2, if_neg e2]
      exact gp_get hi
theorem bin_pw (O : Ord lt n) {Q : Array Nat → Prop} (h : ∀ p, Valid n p → Up lt p n → Q p) : ∀ (f : Nat) (p : Array Nat) (k : Nat), k + f = n → 1 ≤ k → Valid n p → Up lt p k → pw lt n (kas_bin f p k) Q := by
  intro f
  induction f with
  | zero =>
    intro p k h1 h2 v up
    have e : k = n := by omega
    subst e
    exact h p v up
  | succ f ih =>
    intro p k h1 h2 v up
    unfold kas_bin
    refine pw_bind _ (place_pw O v (by omega) up (fun l h3 h4 h5 => ?_) k 0 k (by omega) (Nat.zero_le _) (Nat.le_refl _) (fun i h => by omega) (fun i h h' => by omega))
    have hs := v.size
    refine ih _ (k + 1) (by omega) (by omega) ((Array.perm_iff_toList_perm.mp (bubble_perm p k (k - l))).trans v) ?_
    intro i h6 h7
    rw [bubble_gp (by omega) h3 (by omega), bubble_gp (by omega) h3 (by omega)]
    by_cases e1 : i = l
    · subst e1
      rw [if_neg (by omega), if_neg (by omega), if_pos rfl]
      exact h4 (i - 1) (by omega)
    · by_cases e2 : i - 1 = l
      · rw [if_pos e2, if_neg e1, if_pos (by omega), e2]
        exact h5 l (Nat.le_refl _) (by omega)
      · rw [if_neg e2, if_neg e1]
        by_cases e3 : l < i
        · rw [if_pos (by omega), if_pos (by omega)]
          exact up (i - 1) (by omega) (by omega)
        · rw [if_neg (by omega), if_neg (by omega)]
          exact up i h6 (by omega)
theorem sort_pw (O : Ord lt n) (hn : 2 ≤ n) : pw lt n (kas_sort n) (fun p => Valid n p ∧ Up lt p n) := by
  unfold kas_sort
  refine pw_bind _ (count_pw O hn (by unfold Valid; simp) fun m p h1 h2 v up => ?_)
  dsimp only
  split
  · rw [show max m 1 = m by omega]
    exact bin_pw O (fun p v up => ⟨v, up⟩) (n - m) p m (by omega) h1 v up
  · have e : m = n := by omega
    subst e
    exact ⟨v, up⟩
theorem up_pairwise (O : Ord lt n) {p : Array Nat} (v : Valid n p) (up : Up lt p n) : p.toList.Pairwise fun i j => lt i j = true := by
  rw [List.pairwise_iff_getElem]
  intro i j hi hj hij
  have hs := v.size
  simp only [Array.length_toList] at hi hj
  have e1 : p.toList[i] = gp p i := by simp [gp, Array.getD, hi]
  have e2 : p.toList[j] = gp p j := by simp [gp, Array.getD, hj]
  rw [e1, e2]
  exact up_lt O up j hij (by omega)
end
end Mine
end
section
open PySem PySem.W PySem.W.X PyProof.Rows
set_option Elab.async false
set_option maxRecDepth 100000
set_option maxHeartbeats 4000000
namespace Mine
open PySem.SeqAt
section
variable {prog : Program} {w : World} {A : Around} {E : Value → Shared → Prop} {s : Shared} {h₀ : Heap} {L pl : Addr} {m : Str → Option Value} {news : List (Addr × Obj)} {its : List It} {n : Nat}
theorem key_lt_its {x y : It} {C : Bool → Shared → Prop} (hx : s.heap.get? x.a = some x.obj) (hy : s.heap.get? y.a = some y.obj) (h : C (x.lt y) s) : wpAny (model prog w) A (keyLt' (tuples' true) x.v y.v) C E s := by
  refine kat_lt hx rfl hy rfl ?_
  show KatLex prog w A true _ C [(.int x.t x.tt, .int y.t y.tt), (.int x.k x.tk, .int y.k y.tk)] 0 s
  refine kat_cons (EqAt.int_int _ _ _ _ prog w _ _ ?_)
  by_cases e1 : x.t = y.t
  · rw [show (x.t == y.t) = true by simp [e1]]
    refine kat_yes (kat_cons (EqAt.int_int _ _ _ _ prog w _ _ ?_))
    by_cases e2 : x.k = y.k
    · rw [show (x.k == y.k) = true by simp [e2]]
      refine kat_yes (kat_nil ?_)
      rw [show x.lt y = false by simp [It.lt, e1, e2]] at h
      exact h
    · rw [show (x.k == y.k) = false by simp [e2]]
      refine kat_no (kat_one _ _ (PyProof.Rows.lt_int ?_))
      show C _ s
      rw [show x.lt y = decide (x.k < y.k) by simp [It.lt, e1]] at h
      exact h
  · rw [show (x.t == y.t) = false by simp [e1]]
    refine kat_no (oneLt_int ?_)
    rw [show x.lt y = decide (x.t < y.t) by simp [It.lt, e1]] at h
    exact h
theorem tups_its {h : Heap} : ∀ its : List It, (∀ x ∈ its, h.get? x.a = some x.obj) → KatTups h (its.map It.v) (its.map fun x => Value.int x.t x.tt)
  | [], _ => .nil
  | x :: r, hm => .cons (hm x (.head _)) rfl rfl rfl (tups_its r fun y hy => hm y (.tail _ hy))
theorem getD_its {i : Nat} (h : i < its.length) : (its.map It.v).getD i Value.none = (getI its i).v := by simp [getI, h]
theorem sorted_its {Q : Value → Shared → Prop} (F : Fr h₀ L s.heap m) (N : News h₀ L s.heap news) (hm : (pl, W.listOf (its.map It.v).toArray n) ∈ news) (hmem : ∀ x ∈ its, (x.a, x.obj) ∈ news) (h2 : 2 ≤ its.length) (h64 : its.length < 64)
    (hd : ∀ i j, i < its.length → j < its.length → i ≠ j → (getI its i).key ≠ (getI its j).key)
    (h : ∀ D c h' (out : List It), out.Perm its → out.Pairwise It.le → Fr h₀ L h' m → News h₀ L h' ((D, W.listOf (out.map It.v).toArray c) :: news) → (∀ q ∈ news, q.1 < D) → Q (.ref D) { s with heap := h' }) :
    wpAny (model prog w) A (call (.builtin "sorted") [.ref pl]) Q E s := by
  have hl : s.heap.IsList pl (its.map It.v).toArray := ⟨_, (N _ hm).1, rfl, n, rfl⟩
  refine kat_sorted F N hl (by rw [List.length_map]; exact h2) (by rw [List.length_map]; exact h64) ?_
  intro D e1 h' F' N' hlt
  have hN : ∀ x ∈ its, h'.get? x.a = some x.obj := fun x hx => (N' _ (.tail _ (hmem x hx))).1
  refine kat_kind (T := .type "int") (tups_its its hN) (by rw [List.length_map]; omega) (fun v hv => ?_) (by decide) ?_
  · obtain ⟨x, _, rfl⟩ := List.mem_map.mp hv
    exact Looks.now
  · rw [List.length_map]
    have O : Ord (fun i j => (getI its i).lt (getI its j)) its.length := by
      refine ⟨fun i j hi hj hne e => ?_, fun i j k a b => ?_, fun i j a => ?_⟩
      · have := hd i j hi hj hne
        have e' : ¬ ((getI its i).lt (getI its j) = true) := by simp [e]
        rw [lt_iff] at e' ⊢
        unfold It.key at this
        have t3 : ¬ ((getI its i).t = (getI its j).t ∧ (getI its i).k = (getI its j).k) := fun q => this (Prod.ext q.1 q.2)
        omega
      · rw [lt_iff] at a b ⊢
        omega
      · rw [lt_iff] at a
        have : ¬ ((getI its j).lt (getI its i) = true) := by rw [lt_iff]; omega
        simpa using this
    refine pw_kas (lt := fun i j => (getI its i).lt (getI its j)) (n := its.length) (Q := fun p => Valid its.length p ∧ Up (fun i j => (getI its i).lt (getI its j)) p its.length) ?_ ?_ _ (sort_pw O h2)
    · intro i j C hi hj hC
      unfold kas_ask
      rw [getD_its hi, getD_its hj]
      exact key_lt_its (hN _ (getI_mem hi)) (hN _ (getI_mem hj)) hC
    · rintro p ⟨v, up⟩
      have eo : (p.toList.map fun i => (its.map It.v).getD i Value.none) = (p.toList.map fun i => getI its i).map It.v := by
        rw [List.map_map]
        refine List.map_congr_left fun i hi => ?_
        exact getD_its (List.mem_range.mp (v.mem_iff.mp hi))
      rw [eo]
      have hp : (p.toList.map fun i => getI its i).Perm its := by
        have := List.Perm.map (fun i => getI its i) v
        refine this.trans ?_
        have e : (List.range its.length).map (fun i => getI its i) = its := by
          apply List.ext_getElem?
          intro i
          rw [List.getElem?_map]
          by_cases q : i < its.length
          · rw [List.getElem?_range q, getI_get q]; rfl
          · rw [List.getElem?_eq_none (by simpa using q), List.getElem?_eq_none (by simpa using q)]; rfl
        rw [e]
      refine KasFin.intro F' N' (UpdF.head fun q hq => Nat.ne_of_lt (hlt q hq)) fun h9 c F9 N9 => h D c h9 _ hp ?_ F9 N9 hlt
      rw [List.pairwise_map]
      exact (up_pairwise O v up).imp fun {a b} q => le_of_lt' q
end
end Mine
end
section
open PySem PySem.W PySem.W.X PyProof.Rows
set_option Elab.async false
set_option maxRecDepth 100000
set_option maxHeartbeats 4000000
namespace Mine
def pick (d : Int) (o a : Bool) : Bool := if d = 0 then o || a else if d = 1 then o && !a else if d = 2 then o != a else a
def newB (old asked : List Bool) (d : Int) : List Bool := (List.range 12).map fun p => pick d (old.getD p false) (asked.getD p false)
def stepH (os : List Od) (hs : List (List Bool)) (k : Nat) : List (List Bool) := match os[k]? with
  | some o => hs.set o.w.toNat (newB (hs.getD o.w.toNat []) (bitsOf o.m 12) o.d)
  | none => hs
def kindCh (w : Nat) : Nat := [45, 100, 108].getD w 0
def rowTT (hs : List (List Bool)) (w : Nat) : List Nat := [kindCh w] ++ sgs (fun i => (hs.getD w []).getD i false) 3 ++ [32, 97 + w]
def stepT (os : List Od) (st : List (List Bool) × List (List Nat)) (k : Nat) : List (List Bool) × List (List Nat) := (stepH os st.1 k, st.2 ++ [rowTT (stepH os st.1 k) (wOf os k)])
def begun3 : List Int := [33184, 17385, 44543]
def runT (os : List Od) (ks : List Nat) : List (List Bool) × List (List Nat) := ks.foldl (stepT os) (begun3.map (bitsOf · 12), [])
theorem runT_snoc (os : List Od) (ks : List Nat) (k : Nat) : runT os (ks ++ [k]) = stepT os (runT os ks) k := by simp [runT, List.foldl_append]
/-- a list of rights at an address -/
structure Rt where
  a : Addr
  bs : List Bool
  n : Nat
def Rt.obj (r : Rt) : Obj := W.listOf (r.bs.map Value.bool).toArray r.n
def Rt.v (r : Rt) : Value := .ref r.a
def Rt.p (r : Rt) : Addr × Obj := (r.a, r.obj)
end Mine
end
section
open PySem PySem.W PySem.W.X PyProof.Rows
set_option Elab.async false
set_option maxRecDepth 100000
set_option maxHeartbeats 4000000
namespace Mine
section
variable {prog : Program} {w : World} {A : Around} {E : Value → Shared → Prop} {s : Shared} {h₀ g : Heap} {L ta : Addr} {m : Str → Option Value} {news : List (Addr × Obj)} {items : Array Value} {u : Tok}
theorem t_from {value slice : PySem.Expr} {Q : Value → Shared → Prop} (hg : s.heap = g.push { cls := .type "slice", data := .fields #[.int 1 u, .none, .none] }) (F : Fr h₀ L g m) (N : News h₀ L g news) (ht : IsTup g ta items) (h1 : 1 ≤ items.size) (hz : items.size ≤ 100)
    (h : ∀ p h', Fr h₀ L h' m → News h₀ L h' ((p, ({ cls := .type "tuple", data := .seq (items.toList.drop 1).toArray } : Obj)) :: news) → (∀ q ∈ news, q.1 < p) → Q (.ref p) { s with heap := h' })
    (hs : subscripted slice false (.ref ta) (.ref g.objs.size) = operate [.ref g.objs.size, .ref ta] (getItem (.ref ta) (.ref g.objs.size)) := by with_unfolding_all rfl) :
    wpAny (model prog w) A (subscriptTail value slice (.ref ta) (.ref g.objs.size)) Q E s := by
  have ht' : s.heap.IsTuple ta items := by rw [hg]; exact ht.push _
  have F' : Fr h₀ L s.heap m := by rw [hg]; exact F.push _
  have N' : News h₀ L s.heap news := by rw [hg]; exact N.grown fun _ _ e => Heap.get?_push_of_some _ e
  have hsl : s.heap.IsSliceOf g.objs.size (.int ((1 : Nat) : Int) u) .none .none := by rw [hg]; exact Heap.IsSliceOf.new g _ _ _
  refine tail_any ht'.typeIs PySem.F.slot_tuple_getitem.lookup (getItem_tuple_from ht' hsl (Nat.le_refl _) h1 ?_ (by rw [sizeLine_eq]; omega)) hs
  exact h _ _ (F'.push _) (fun p hp => by
    rcases List.mem_cons.mp hp with rfl | hp
    · exact ⟨Heap.get?_push_size _ rfl, Nat.ne_of_gt F'.ns.lt, next_is_new F'⟩
    · exact (N'.grown fun _ _ e => Heap.get?_push_of_some _ e) p hp) fun q hq => Heap.lt_size (N' q hq).1
end
end Mine
end
theorem Mine.offM14 : True := by w_top off; trivial
section
open PySem PySem.W PySem.W.X PyProof.Rows
set_option Elab.async false
set_option maxRecDepth 100000
set_option maxHeartbeats 8000000
namespace Mine
theorem fill14 (w : World) (h : Heap) : (hd.heap_39 w.params).In h → model Challenge.rw_of0033_01.row.prog w = model Challenge.rw_of0033_01.row.prog w := by
  k_fill
  intro _
  rfl
theorem keys_ne {its : List It} {os : List Od} (hkey : its.map It.key = (List.range os.length).map (keyOf os)) {i j : Nat} (hi : i < its.length) (hj : j < its.length) (hne : i ≠ j) : (getI its i).key ≠ (getI its j).key := by
  have hl : its.length = os.length := by simpa using congrArg List.length hkey
  have key : ∀ i, i < its.length → (getI its i).key = keyOf os i := fun i hi => by
    have e1 : (its.map It.key)[i]? = some (getI its i).key := by rw [List.getElem?_map, getI_get hi]; rfl
    rw [hkey, List.getElem?_map, List.getElem?_range (by omega)] at e1
    exact (Option.some.inj e1).symm
  rw [key i hi, key j hj]
  intro e
  have := congrArg Prod.snd e
  simp only [keyOf] at this
  omega
theorem pick_get {d : Int} {dn : Nat} (hdn : d = (dn : Int)) (h4 : dn < 4) (b0 b1 : Bool) : [Value.bool (b0 || b1), Value.bool (b0 && !b1), Value.bool (b0 != b1), Value.bool b1][dn]? = some (.bool (pick d b0 b1)) := by
  subst hdn
  rcases dn with _ | _ | _ | _ | dn
  · rfl
  · rfl
  · rfl
  · rfl
  · omega
theorem row_str2 {sg : List Nat} {w : Int} {wn : Nat} (h : w = (wn : Int)) (h3 : wn < 3) : Txt.item (Str.ofString "-dl") w ++ (⟨sg.toArray⟩ : Str) ++ Str.ofString " " ++ Txt.item (Str.ofString "abc") w = ⟨([kindCh wn] ++ sg ++ [32, 97 + wn]).toArray⟩ := by
  have e0 : Txt.item (Str.ofString "-dl") w = ⟨#[kindCh wn]⟩ := by
    subst h
    rcases wn with _ | _ | _ | _
    · decide +kernel
    · decide +kernel
    · decide +kernel
    · omega
  have e1 : Txt.item (Str.ofString "-dl") w ++ (⟨sg.toArray⟩ : Str) = ⟨([kindCh wn] ++ sg).toArray⟩ := by
    rw [e0]
    show Str.mk _ = Str.mk _
    congr 1
    show #[kindCh wn] ++ sg.toArray = _
    simp
  rw [e1]
  exact row_str h h3
structure TS where
  ph : Addr
  hs : List Rt
  kh : Nat
  rows : List (List Nat × Tok)
  kr : Nat
  oa : Obj
  ob : Obj
  oc : Obj
  od : Obj
  oe : Obj
  og : Obj
def toldLed (D16 pr L1 : Addr) (out : List It) (c16 : Nat) (o7 : Obj) (more3 : List (Addr × Obj)) (c : TS) : List (Addr × Obj) := (D16, W.listOf (out.map It.v).toArray c16) :: (pr, W.listOf (c.rows.map strV).toArray c.kr) :: (c.ph, W.listOf (c.hs.map Rt.v).toArray c.kh) :: (L1 + 1 + 1 + 1 + 1 + 1 + 1 + 1, c.oa) :: (L1 + 1 + 1 + 1 + 1 + 1 + 1, c.ob) :: (L1 + 1 + 1 + 1 + 1 + 1, c.oc) :: (L1 + 1 + 1 + 1 + 1, c.od) :: (L1 + 1 + 1 + 1, c.oe) :: (L1 + 1 + 1, c.og) :: (L1 + 1, o7) :: (c.hs.map Rt.p ++ more3)
structure Far7 (x L1 : Nat) : Prop where
  f1 : @Ne Nat x (L1 + 1)
  f2 : @Ne Nat x (L1 + 1 + 1)
  f3 : @Ne Nat x (L1 + 1 + 1 + 1)
  f4 : @Ne Nat x (L1 + 1 + 1 + 1 + 1)
  f5 : @Ne Nat x (L1 + 1 + 1 + 1 + 1 + 1)
  f6 : @Ne Nat x (L1 + 1 + 1 + 1 + 1 + 1 + 1)
  f7 : @Ne Nat x (L1 + 1 + 1 + 1 + 1 + 1 + 1 + 1)
structure Far (x pr L1 : Nat) : Prop where
  f0 : @Ne Nat x pr
  f : Far7 x L1
structure toldInv (os : List Od) (out : List It) (pr L1 : Addr) (i : Nat) (c : TS) : Prop where
  q1 : c.hs.length = 3
  q2 : (∀ r ∈ c.hs, r.bs.length = 12)
  q3 : (c.hs.map (·.bs), c.rows.map (·.1)) = runT os ((out.take i).map (·.k.toNat))
  q4 : c.rows.length = i
  q5 : c.og.data = .cell (some (.ref c.ph))
  q6 : (∃ v, c.oa.data = .cell v)
  q7 : (∃ v, c.ob.data = .cell v)
  q8 : (∃ v, c.oc.data = .cell v)
  q9 : (∃ v, c.od.data = .cell v)
  q10 : (∃ v, c.oe.data = .cell v)
  q11 : (Far c.ph pr L1)
  q12 : (∀ r ∈ c.hs, Far r.a pr L1)
section
variable {h₀ h' : Heap} {L I C D : Addr} {m : Str → Option Value} {s₁ : Shared} {oI oC oD : Obj} {S : List (Addr × Obj) → Prop} {r : Value → List (Addr × Obj) → Prop} {tk : Nat} {c1 c2 c3 c4 c5 c6 c7 new : Addr × Obj} {more : List (Addr × Obj)} {y : Value}
theorem comp7_end (F : Fr h₀ L h' m) (N : News h₀ L h' (new :: (I, oI) :: (C, oC) :: (D, oD) :: c1 :: c2 :: c3 :: c4 :: c5 :: c6 :: c7 :: more))
    (off : LCg.Off3 I C D (c1 :: c2 :: c3 :: c4 :: c5 :: c6 :: c7 :: more)) (hne : ∀ q ∈ (I, oI) :: (C, oC) :: (D, oD) :: c1 :: c2 :: c3 :: c4 :: c5 :: c6 :: c7 :: more, q.1 ≠ new.1)
    (hS : S (c1 :: c2 :: c3 :: c4 :: c5 :: c6 :: c7 :: new :: more)) (hr : r y (c1 :: c2 :: c3 :: c4 :: c5 :: c6 :: c7 :: new :: more)) :
    LCg.CompEnd h₀ L m s₁ I oI C oC D oD S r y { s₁ with heap := h', toks := tk } := by
  refine LCg.CompEnd.intro F N (c1 :: c2 :: c3 :: c4 :: c5 :: c6 :: c7 :: new :: more) ?_ ?_ hS hr
  · intro p hp
    rcases List.mem_cons.mp hp with e | hp
    · rw [e]; exact .tail _ (.head _)
    rcases List.mem_cons.mp hp with e | hp
    · rw [e]; exact .tail _ (.tail _ (.head _))
    rcases List.mem_cons.mp hp with e | hp
    · rw [e]; exact .tail _ (.tail _ (.tail _ (.head _)))
    rcases List.mem_cons.mp hp with e | hp
    · rw [e]; exact .tail _ (.tail _ (.tail _ (.tail _ (.head _))))
    rcases List.mem_cons.mp hp with e | hp
    · rw [e]; exact .tail _ (.tail _ (.tail _ (.tail _ (.tail _ (.head _)))))
    rcases List.mem_cons.mp hp with e | hp
    · rw [e]; exact .tail _ (.tail _ (.tail _ (.tail _ (.tail _ (.tail _ (.head _))))))
    rcases List.mem_cons.mp hp with e | hp
    · rw [e]; exact .tail _ (.tail _ (.tail _ (.tail _ (.tail _ (.tail _ (.tail _ (.head _)))))))
    rcases List.mem_cons.mp hp with e | hp
    · rw [e]; exact .tail _ (.tail _ (.tail _ (.tail _ (.tail _ (.tail _ (.tail _ (.tail _ (.head _))))))))
    rcases List.mem_cons.mp hp with e | hp
    · rw [e]; exact .tail _ (.tail _ (.tail _ (.tail _ (.tail _ (.tail _ (.tail _ (.tail _ (.tail _ (.head _)))))))))
    rcases List.mem_cons.mp hp with e | hp
    · rw [e]; exact .tail _ (.tail _ (.tail _ (.tail _ (.tail _ (.tail _ (.tail _ (.tail _ (.tail _ (.tail _ (.head _))))))))))
    rcases List.mem_cons.mp hp with e | hp
    · rw [e]; exact .head _
    · exact .tail _ (.tail _ (.tail _ (.tail _ (.tail _ (.tail _ (.tail _ (.tail _ (.tail _ (.tail _ (.tail _ hp))))))))))
  · exact ⟨off.1, off.2.1, off.2.2.1, off.2.2.2.1, off.2.2.2.2.1, off.2.2.2.2.2.1, off.2.2.2.2.2.2.1, ⟨Ne.symm (hne _ (.head _)), Ne.symm (hne _ (.tail _ (.head _))), Ne.symm (hne _ (.tail _ (.tail _ (.head _))))⟩, off.2.2.2.2.2.2.2⟩
theorem off3_mid {pre : List (Addr × Obj)} (hn : (@Ne Nat new.1 I) ∧ (@Ne Nat new.1 C) ∧ (@Ne Nat new.1 D)) (off : LCg.Off3 I C D (pre ++ more)) : LCg.Off3 I C D (pre ++ new :: more) := by
  induction pre with
  | nil => exact ⟨hn, off⟩
  | cons a r ih => exact ⟨off.1, ih off.2⟩
theorem comp_endL (pre : List (Addr × Obj)) (F : Fr h₀ L h' m) (N : News h₀ L h' (new :: (I, oI) :: (C, oC) :: (D, oD) :: (pre ++ more)))
    (off : LCg.Off3 I C D (pre ++ more)) (hne : ∀ q ∈ (I, oI) :: (C, oC) :: (D, oD) :: (pre ++ more), q.1 ≠ new.1)
    (hS : S (pre ++ new :: more)) (hr : r y (pre ++ new :: more)) :
    LCg.CompEnd h₀ L m s₁ I oI C oC D oD S r y { s₁ with heap := h', toks := tk } := by
  refine LCg.CompEnd.intro F N (pre ++ new :: more) ?_ (off3_mid ⟨Ne.symm (hne _ (.head _)), Ne.symm (hne _ (.tail _ (.head _))), Ne.symm (hne _ (.tail _ (.tail _ (.head _))))⟩ off) hS hr
  intro p hp
  rcases List.mem_cons.mp hp with e | hp
  · rw [e]; exact .tail _ (.head _)
  rcases List.mem_cons.mp hp with e | hp
  · rw [e]; exact .tail _ (.tail _ (.head _))
  rcases List.mem_cons.mp hp with e | hp
  · rw [e]; exact .tail _ (.tail _ (.tail _ (.head _)))
  rcases List.mem_append.mp hp with hp | hp
  · exact .tail _ (.tail _ (.tail _ (.tail _ (List.mem_append_left _ hp))))
  rcases List.mem_cons.mp hp with e | hp
  · rw [e]; exact .head _
  · exact .tail _ (.tail _ (.tail _ (.tail _ (List.mem_append_right _ hp))))
theorem news_row {a b c d e f : Addr × Obj} {tl : List (Addr × Obj)} (N : News h₀ L h' (a :: b :: c :: d :: e :: f :: tl)) : News h₀ L h' (e :: d :: a :: b :: tl) := by
  intro p hp
  rcases List.mem_cons.mp hp with q | hp
  · rw [q]; exact N _ (.tail _ (.tail _ (.tail _ (.tail _ (.head _)))))
  rcases List.mem_cons.mp hp with q | hp
  · rw [q]; exact N _ (.tail _ (.tail _ (.tail _ (.head _))))
  rcases List.mem_cons.mp hp with q | hp
  · rw [q]; exact N _ (.head _)
  rcases List.mem_cons.mp hp with q | hp
  · rw [q]; exact N _ (.tail _ (.head _))
  · exact N _ (.tail _ (.tail _ (.tail _ (.tail _ (.tail _ (.tail _ hp))))))
theorem news_fin {a b d e : Addr × Obj} {hp more3 own : List (Addr × Obj)} (N : News h₀ L h' (e :: d :: a :: b :: c1 :: c2 :: c3 :: c4 :: c5 :: c6 :: c7 :: more)) (h1 : ∀ p ∈ hp, p = b ∨ p ∈ more) (h2 : ∀ p ∈ more3, p ∈ more) (h3 : ∀ p ∈ own, p ∈ more) :
    News h₀ L h' ((d :: e :: a :: c1 :: c2 :: c3 :: c4 :: c5 :: c6 :: c7 :: (hp ++ more3)) ++ own) := by
  have key : ∀ p ∈ more, p ∈ (e :: d :: a :: b :: c1 :: c2 :: c3 :: c4 :: c5 :: c6 :: c7 :: more) := fun p hp => .tail _ (.tail _ (.tail _ (.tail _ (.tail _ (.tail _ (.tail _ (.tail _ (.tail _ (.tail _ (.tail _ hp))))))))))
  intro p hp
  rcases List.mem_append.mp hp with hp | hp
  · rcases List.mem_cons.mp hp with q | hp
    · rw [q]; exact N _ (.tail _ (.head _))
    rcases List.mem_cons.mp hp with q | hp
    · rw [q]; exact N _ (.head _)
    rcases List.mem_cons.mp hp with q | hp
    · rw [q]; exact N _ (.tail _ (.tail _ (.head _)))
    rcases List.mem_cons.mp hp with q | hp
    · rw [q]; exact N _ (.tail _ (.tail _ (.tail _ (.tail _ (.head _)))))
    rcases List.mem_cons.mp hp with q | hp
    · rw [q]; exact N _ (.tail _ (.tail _ (.tail _ (.tail _ (.tail _ (.head _))))))
    rcases List.mem_cons.mp hp with q | hp
    · rw [q]; exact N _ (.tail _ (.tail _ (.tail _ (.tail _ (.tail _ (.tail _ (.head _)))))))
    rcases List.mem_cons.mp hp with q | hp
    · rw [q]; exact N _ (.tail _ (.tail _ (.tail _ (.tail _ (.tail _ (.tail _ (.tail _ (.head _))))))))
    rcases List.mem_cons.mp hp with q | hp
    · rw [q]; exact N _ (.tail _ (.tail _ (.tail _ (.tail _ (.tail _ (.tail _ (.tail _ (.tail _ (.head _)))))))))
    rcases List.mem_cons.mp hp with q | hp
    · rw [q]; exact N _ (.tail _ (.tail _ (.tail _ (.tail _ (.tail _ (.tail _ (.tail _ (.tail _ (.tail _ (.head _))))))))))
    rcases List.mem_cons.mp hp with q | hp
    · rw [q]; exact N _ (.tail _ (.tail _ (.tail _ (.tail _ (.tail _ (.tail _ (.tail _ (.tail _ (.tail _ (.tail _ (.head _)))))))))))
    rcases List.mem_append.mp hp with hp | hp
    · rcases h1 p hp with q | q
      · rw [q]; exact N _ (.tail _ (.tail _ (.tail _ (.head _))))
      · exact N _ (key p q)
    · exact N _ (key p (h2 p hp))
  · exact N _ (key p (h3 p hp))
theorem news_under7 (N : News h₀ L h' (new :: c1 :: c2 :: c3 :: c4 :: c5 :: c6 :: c7 :: more)) : News h₀ L h' (c1 :: c2 :: c3 :: c4 :: c5 :: c6 :: c7 :: new :: more) := by
  intro p hp
  rcases List.mem_cons.mp hp with e | hp
  · rw [e]; exact N _ (.tail _ (.head _))
  rcases List.mem_cons.mp hp with e | hp
  · rw [e]; exact N _ (.tail _ (.tail _ (.head _)))
  rcases List.mem_cons.mp hp with e | hp
  · rw [e]; exact N _ (.tail _ (.tail _ (.tail _ (.head _))))
  rcases List.mem_cons.mp hp with e | hp
  · rw [e]; exact N _ (.tail _ (.tail _ (.tail _ (.tail _ (.head _)))))
  rcases List.mem_cons.mp hp with e | hp
  · rw [e]; exact N _ (.tail _ (.tail _ (.tail _ (.tail _ (.tail _ (.head _))))))
  rcases List.mem_cons.mp hp with e | hp
  · rw [e]; exact N _ (.tail _ (.tail _ (.tail _ (.tail _ (.tail _ (.tail _ (.head _)))))))
  rcases List.mem_cons.mp hp with e | hp
  · rw [e]; exact N _ (.tail _ (.tail _ (.tail _ (.tail _ (.tail _ (.tail _ (.tail _ (.head _))))))))
  rcases List.mem_cons.mp hp with e | hp
  · rw [e]; exact N _ (.head _)
  · exact N _ (.tail _ (.tail _ (.tail _ (.tail _ (.tail _ (.tail _ (.tail _ (.tail _ hp))))))))
end
section
local macro_rules | `(tactic| walk_at "eval ListComp") => `(tactic| refine Stop.out ?_)
local macro_rules | `(tactic| walk_at "exec For") => `(tactic| refine Stop.out ?_)
local macro_rules | `(tactic| walk_at "exec For Tuple Call") => `(tactic| refine Stop.out ?_)
local macro_rules | `(tactic| walk_at "exec For Tuple Call cons nil") => `(tactic| refine Stop.out ?_)
local macro_rules | `(tactic| walk_at "pyIter ref") => `(tactic| refine Stop.out ?_)
local macro_rules | `(tactic| walk_at "FPost") => `(tactic| (dsimp only [FPost]))
local macro_rules | `(tactic| walk_at "FEnd") => `(tactic| refine Stop.out ?_)
local macro_rules | `(tactic| walk_at "newList") => `(tactic| refine Stop.out ?_)
local macro_rules | `(tactic| walk_at "newTuple") => `(tactic| refine Stop.out ?_)
local macro_rules | `(tactic| walk_at "call ref") => `(tactic| ((rename Mark => kM9); refine Stop.out ?_))
local macro_rules | `(tactic| k_all) => `(tactic| with_reducible assumption)
local macro_rules | `(tactic| walk_at "subscriptTail Name Name ref int") => `(tactic| refine Stop.out ?_)
local macro_rules | `(tactic| walk_at "subscriptTail List Name ref int") => `(tactic| refine Stop.out ?_)
local macro_rules | `(tactic| walk_at "subscriptTail List Name") => `(tactic| refine Stop.out ?_)
local macro_rules | `(tactic| walk_at "subscriptTail") => `(tactic| ((with_reducible show wpAny _ _ (subscriptTail _ _ (Value.ref _) (Value.int _ _)) _ _ _); refine Stop.out ?_))
local macro_rules | `(tactic| walk_at "CompSrc") => `(tactic| refine Stop.out ?_)
local macro_rules | `(tactic| walk_at "CompEnd") => `(tactic| refine Stop.out ?_)
local macro_rules | `(tactic| walk_at "call builtin:sorted") => `(tactic| refine Stop.out ?_)
theorem told_call (w : World) (mean : ExcName → Option Value) (mg mb : Str → Option Value)
  (gd : Option (List Code)) (cn : Str) (cs : Scope) (a : Addr) (ccd : Value) (cl : List (Str × Addr)) (outer : List Env) (A₀ : Around) (base h₀ : Heap) (L : Addr) (m : Str → Option Value) (s : Shared) (Q E : Value → Shared → Prop)
  (po : Addr) (os : List Od) (n : Nat) (rest : List (Addr × Obj)) (hlen : os.length < 64) (hlen2 : 2 ≤ os.length) (hok : ∀ o ∈ os, OdOK o)
  (B : Below A₀ base outer h₀) (F : Fr h₀ L s.heap m) (X : (hd.heap_39 w.params).In h₀) (N : News h₀ L s.heap rest) (hm : (po, W.listOf (os.map Od.v).toArray n) ∈ rest) (hmo : ∀ o ∈ os, (o.a, o.obj) ∈ rest) (T : TopAt mean mg mb h₀) (hk : cs.kind = .function)
  (ret : ∀ (p : Addr) (h' : Heap) (tk' k : Nat) (rows : List (List Nat × Tok)) (ks : List Nat), InOrder os ks → rows.map (·.1) = (runT os ks).2 → (∀ q ∈ rest, q.1 ≠ p) → Fr h₀ L h' m → News h₀ L h' ((p, W.listOf (rows.map strV).toArray k) :: rest) → Q (.ref p) { s with heap := h', toks := tk' }) :
  wpAny (model Challenge.rw_of0033_01.row.prog w) (ktrTop 302 7 gd cn cs L a ccd cl outer) (call (.ref 212) [.ref po]) Q E s := by
  refine wpAny_call ?_
  k_dflt (refine' code_defC ?k1 ?k2 ?k3 ?k4 ?k5 ?kA ?kF ?kK ?k6 ?k7 ?k8 ?k9 ?kB ?kD ?_ ?c2 ?c3 ?c4; (case kA => exact rfl); (case kF => exact rfl); (case kK => assumption); (case k1 => k_asm); (case k2 => k_asm); (case k3 => k_asm); (case k4 => k_asm); (case k5 => k_asm); (case k6 => k_is); (case k7 => k_is); (case k8 => ktr_room); (case k9 => exact BindsTo.of_eq rfl); (case kB => exact rfl); (case kD => decide +kernel); (case c2 => exact rfl); (case c3 => exact rfl); (case c4 => exact rfl); k_whole; intro g1 L1 h1 tk1 cells1 FG1 F1 N1 Y1 B1 X1 T1 l1)
  k_dflt (k_cells Y1)
  rename_i o1 o2 o3 o4 o5 o6 o7 d1 d2 d3 d4 d5 d6 d7
  simp only [List.cons_append, List.nil_append] at N1
  replace d1 : o1.data = .cell none := d1
  replace d2 : o2.data = .cell none := d2
  replace d3 : o3.data = .cell none := d3
  replace d4 : o4.data = .cell none := d4
  replace d5 : o5.data = .cell none := d5
  replace d6 : o6.data = .cell none := d6
  replace d7 : o7.data = .cell (some (.ref po)) := d7
  dsimp only
  k_steps
  unfold Stop
  rename Fr _ _ _ _ => F2
  k_dflt (refine LCg.ListComp_U (F₀ := F2) (by with_unfolding_all rfl) (by decide) (by rfl) (by decide) (by rfl) ?_)
  k_steps
  unfold Stop
  rename Fr _ _ _ _ => F3
  rename News _ _ _ _ => N3
  refine newList_K F3 N3 ?_
  intro pm h4 F4 N4 hlt4
  have a1 : (∀ q ∈ rest, @LT.lt Nat _ q.1 (L1 + 1)) ∧ @LT.lt Nat _ (L1 + 1 + 1 + 1 + 1 + 1 + 1 + 1) pm := ⟨fun q hq => Nat.lt_of_lt_of_le (l1 q hq) (by omega), hlt4 _ (.head _)⟩
  clear hlt4 F3 N3 F2
  k_steps
  unfold Stop
  rename Fr _ _ _ _ => F5
  rename News _ _ _ _ => N5
  refine LCg.CompSrc.ledger (by rfl) F5 (news_under7 N5) (.tail _ (.tail _ (.tail _ (.tail _ (.tail _ (.tail _ (.tail _ (.head _)))))))) (by rw [sizeLine_eq]; exact Nat.le_of_ble_eq_true rfl) ?_
  intro g6
  refine rest_inv (n := 3) (fun i ys nw => ∃ rs : List Rt, ys = rs.map Rt.v ∧ rs.map (·.bs) = (begun3.take i).map (bitsOf · 12) ∧ (∀ r ∈ rs, Far7 r.a L1) ∧ nw = (L1 + 1 + 1 + 1 + 1 + 1 + 1 + 1, o1) :: (L1 + 1 + 1 + 1 + 1 + 1 + 1, o2) :: (L1 + 1 + 1 + 1 + 1 + 1, o3) :: (L1 + 1 + 1 + 1 + 1, o4) :: (L1 + 1 + 1 + 1, o5) :: (L1 + 1 + 1, o6) :: (L1 + 1, o7) :: (rs.reverse.map Rt.p ++ _ :: rest)) ?_ ?_ ⟨[], rfl, rfl, (fun _ h => nomatch h), rfl⟩
  · rintro i ys nw v I oI C oC D m2 h7 tk7 E7 hi ⟨rs, hy, hb, hne, rfl⟩ hv hC hx F7 N7 off ne
    obtain ⟨md, tm, rfl, hmd, hm0⟩ : ∃ md tm, v = .int md tm ∧ begun3[i]? = some md ∧ 0 ≤ md := by
      rcases i with _ | _ | _ | i
      · exact ⟨_, _, (Option.some.inj hv).symm, rfl, by decide⟩
      · exact ⟨_, _, (Option.some.inj hv).symm, rfl, by decide⟩
      · exact ⟨_, _, (Option.some.inj hv).symm, rfl, by decide⟩
      · exact absurd hi (by omega)
    clear F5 N5
    generalize hmore : rs.reverse.map Rt.p ++ _ :: rest = more at N7 off
    have mk : Mark := trivial
    k_steps
    unfold Stop
    rename Fr _ _ _ _ => F8
    rename News _ _ _ _ => N8
    k_dflt refine rights_call w mean mg mb _ _ _ _ _ _ _ _ _ _ _ _ _ _ _ _ _ md tm _ hm0 B1 F8 X1 N8 T1 rfl (by ktr_room) (by ktr_units) ?_
    intro p9 h9 tk9 n9 hp9 F9 N9
    clear F8 N8
    k_steps
    unfold Stop
    refine comp7_end F9 N9 off hp9 ?_ ⟨rs ++ [⟨p9, bitsOf md 12, n9⟩], ?_, ?_, ?_, ?_⟩
    · rw [← hmore]
      exact .inr ⟨_, (.tail _ (.tail _ (.tail _ (.tail _ (.tail _ (.tail _ (.tail _ (.tail _ (List.mem_append_right _ (.head _)))))))))), rfl, 0, rfl⟩
    · rw [hy, List.map_append]; rfl
    · rw [List.map_append, hb, List.take_add_one, hmd, List.map_append]; rfl
    · intro r hr
      rcases List.mem_append.mp hr with hr | hr
      · exact hne r hr
      · rw [List.mem_singleton.mp hr]
        exact ⟨Ne.symm (hp9 _ (.tail _ (.tail _ (.tail _ (.tail _ (.tail _ (.tail _ (.tail _ (.tail _ (.tail _ (.head _))))))))))), Ne.symm (hp9 _ (.tail _ (.tail _ (.tail _ (.tail _ (.tail _ (.tail _ (.tail _ (.tail _ (.head _)))))))))), Ne.symm (hp9 _ (.tail _ (.tail _ (.tail _ (.tail _ (.tail _ (.tail _ (.tail _ (.head _))))))))), Ne.symm (hp9 _ (.tail _ (.tail _ (.tail _ (.tail _ (.tail _ (.tail _ (.head _)))))))), Ne.symm (hp9 _ (.tail _ (.tail _ (.tail _ (.tail _ (.tail _ (.head _))))))), Ne.symm (hp9 _ (.tail _ (.tail _ (.tail _ (.tail _ (.head _)))))), Ne.symm (hp9 _ (.tail _ (.tail _ (.tail _ (.head _)))))⟩
    · rw [List.reverse_append, List.map_append, List.append_assoc, hmore]
      rfl
  · rintro ys nw ⟨rs, hy, hb, hne, rfl⟩
    unfold LCg.FinE
    intro D8 h8 tk8 F8 N8 o8
    clear F5 N5
    obtain ⟨P0, hP0, N8, o8⟩ : ∃ P0 : Addr × Obj, P0.1 = pm ∧ News g1 L1 h8 ((D8, LCg.lst ys) :: (L1 + 1 + 1 + 1 + 1 + 1 + 1 + 1, o1) :: (L1 + 1 + 1 + 1 + 1 + 1 + 1, o2) :: (L1 + 1 + 1 + 1 + 1 + 1, o3) :: (L1 + 1 + 1 + 1 + 1, o4) :: (L1 + 1 + 1 + 1, o5) :: (L1 + 1 + 1, o6) :: (L1 + 1, o7) :: (rs.reverse.map Rt.p ++ P0 :: rest)) ∧ LCg.Off1 D8 ((L1 + 1 + 1 + 1 + 1 + 1 + 1 + 1, o1) :: (L1 + 1 + 1 + 1 + 1 + 1 + 1, o2) :: (L1 + 1 + 1 + 1 + 1 + 1, o3) :: (L1 + 1 + 1 + 1 + 1, o4) :: (L1 + 1 + 1 + 1, o5) :: (L1 + 1 + 1, o6) :: (L1 + 1, o7) :: (rs.reverse.map Rt.p ++ P0 :: rest)) := ⟨_, rfl, N8, o8⟩
    have o9 := off1_mem o8
    clear o8
    have hcs : ∀ p ∈ rs.reverse.map Rt.p ++ P0 :: rest, Far7 p.1 L1 := by
      intro p hp
      rcases List.mem_append.mp hp with hp | hp
      · obtain ⟨r, hr, rfl⟩ := List.mem_map.mp hp
        exact hne r (List.mem_reverse.mp hr)
      · rcases List.mem_cons.mp hp with e | hp
        · rw [e, hP0]
          have := a1.2
          refine ⟨?_, ?_, ?_, ?_, ?_, ?_, ?_⟩ <;> exact Nat.ne_of_gt (Nat.lt_of_le_of_lt (by omega) this)
        · have := a1.1 p hp
          refine ⟨?_, ?_, ?_, ?_, ?_, ?_, ?_⟩ <;> exact Nat.ne_of_lt (Nat.lt_of_lt_of_le this (by omega))
    have hrs : ∀ r ∈ rs, r.p ∈ rs.reverse.map Rt.p ++ P0 :: rest := fun r hr => List.mem_append_left _ (List.mem_map.mpr ⟨r, List.mem_reverse.mpr hr, rfl⟩)
    have hrest : ∀ p ∈ rest, p ∈ rs.reverse.map Rt.p ++ P0 :: rest := fun p hp => List.mem_append_right _ (.tail _ hp)
    have hD8 : ∀ p ∈ rs.reverse.map Rt.p ++ P0 :: rest, p.1 ≠ D8 := fun p hp => o9 p (.tail _ (.tail _ (.tail _ (.tail _ (.tail _ (.tail _ (.tail _ hp)))))))
    generalize rs.reverse.map Rt.p ++ P0 :: rest = more at N8 o9 hcs hrs hrest hD8
    have hc1 : ∀ p ∈ more, p.1 ≠ L1 + 1 := fun p hp => (hcs p hp).1
    have hc2 : ∀ p ∈ more, p.1 ≠ L1 + 1 + 1 := fun p hp => (hcs p hp).2
    have hc3 : ∀ p ∈ more, p.1 ≠ L1 + 1 + 1 + 1 := fun p hp => (hcs p hp).3
    have hc4 : ∀ p ∈ more, p.1 ≠ L1 + 1 + 1 + 1 + 1 := fun p hp => (hcs p hp).4
    have hc5 : ∀ p ∈ more, p.1 ≠ L1 + 1 + 1 + 1 + 1 + 1 := fun p hp => (hcs p hp).5
    have hc6 : ∀ p ∈ more, p.1 ≠ L1 + 1 + 1 + 1 + 1 + 1 + 1 := fun p hp => (hcs p hp).6
    have hc7 : ∀ p ∈ more, p.1 ≠ L1 + 1 + 1 + 1 + 1 + 1 + 1 + 1 := fun p hp => (hcs p hp).7
    clear hcs
    have dg7 : @Ne Nat D8 (L1 + 1 + 1 + 1 + 1 + 1 + 1 + 1) := Ne.symm (o9 _ (.head _))
    have dg6 : @Ne Nat D8 (L1 + 1 + 1 + 1 + 1 + 1 + 1) := Ne.symm (o9 _ (.tail _ (.head _)))
    have dg5 : @Ne Nat D8 (L1 + 1 + 1 + 1 + 1 + 1) := Ne.symm (o9 _ (.tail _ (.tail _ (.head _))))
    have dg4 : @Ne Nat D8 (L1 + 1 + 1 + 1 + 1) := Ne.symm (o9 _ (.tail _ (.tail _ (.tail _ (.head _)))))
    have dg3 : @Ne Nat D8 (L1 + 1 + 1 + 1) := Ne.symm (o9 _ (.tail _ (.tail _ (.tail _ (.tail _ (.head _))))))
    have dg2 : @Ne Nat D8 (L1 + 1 + 1) := Ne.symm (o9 _ (.tail _ (.tail _ (.tail _ (.tail _ (.tail _ (.head _)))))))
    have dg1 : @Ne Nat D8 (L1 + 1) := Ne.symm (o9 _ (.tail _ (.tail _ (.tail _ (.tail _ (.tail _ (.tail _ (.head _))))))))
    clear o9
    have hrl : rs.length = 3 := by simpa [begun3] using congrArg List.length hb
    rw [lst_of (n := 3) (by rw [hy, List.length_map, hrl])] at N8
    subst hy
    k_steps
    unfold Stop
    rename_i o6' F9 N9 d6'
    refine newList_K F9 N9 ?_
    intro pr h10 F10 N10 hlt10
    have e1 : @LT.lt Nat _ (L1 + 1 + 1 + 1 + 1 + 1 + 1 + 1) pr := hlt10 _ (.tail _ (.head _))
    have e2 : @LT.lt Nat _ D8 pr := hlt10 _ (.head _)
    have hcr : ∀ p ∈ more, p.1 ≠ pr := fun p hp' => Nat.ne_of_lt (hlt10 _ (.tail _ (.tail _ (.tail _ (.tail _ (.tail _ (.tail _ (.tail _ (.tail _ hp')))))))))
    clear hlt10 F9 N9
    k_steps
    unfold Stop
    rename Fr _ _ _ _ => F11
    refine For_at F11 ?_ (by walk1)
    k_steps
    unfold Stop
    rename Fr _ _ _ _ => F12
    k_dflt (refine LCg.ListComp_U (F₀ := F12) (by with_unfolding_all rfl) (by decide) (by rfl) (by decide) (by rfl) ?_)
    k_steps
    rename News _ _ _ _ => N12
    refine v_len N12 (.tail _ (.tail _ (.tail _ (.tail _ (.tail _ (.tail _ (.tail _ (.tail _ (.tail _ (hrest _ hm)))))))))) (by simp; omega) ?_
    k_steps
    unfold Stop
    rename IsRange _ _ _ _ _ _ _ _ => R13
    rename Fr _ _ _ _ => F13
    rename News _ _ _ _ => N13
    rw [List.length_map] at R13
    refine LCg.CompSrc.range (n := os.length) (by rfl) F13 N13 R13 (small_one (by omega) (by omega) (by omega) (by omega)) (rangeSize_nat0 _) (by rw [sizeLine_eq]; omega) ?_
    intro g14
    refine rest_inv (fun i ys nw => ∃ its : List It, ys = its.map It.v ∧ its.map It.key = (List.range i).map (keyOf os) ∧ (∀ x ∈ its, (@Ne Nat x.a pr ∧ @Ne Nat x.a D8) ∧ Far7 x.a L1) ∧ nw = (pr, W.listOf #[] 0) :: (D8, W.listOf (List.map Rt.v rs).toArray 3) :: (L1 + 1 + 1 + 1 + 1 + 1 + 1 + 1, o1) :: (L1 + 1 + 1 + 1 + 1 + 1 + 1, o2) :: (L1 + 1 + 1 + 1 + 1 + 1, o3) :: (L1 + 1 + 1 + 1 + 1, o4) :: (L1 + 1 + 1 + 1, o5) :: (L1 + 1 + 1, o6') :: (L1 + 1, o7) :: (pairs its.reverse ++ more)) ?_ ?_ ⟨[], rfl, rfl, (fun _ h => nomatch h), rfl⟩
    · rintro i ys nw v I oI C oC D m2 h15 tk15 E15 hi ⟨its, hy, hkey, hsepx, rfl⟩ hv hC hx F15 N15 off ne
      obtain ⟨tp, rfl⟩ := hv
      clear F13 N13 R13
      have hmore2 : ∀ p ∈ more, p ∈ pairs its.reverse ++ more := fun p hp => List.mem_append_right _ hp
      generalize hmr : pairs its.reverse ++ more = more2 at N15 off hmore2
      obtain ⟨o, ho⟩ : ∃ o, os[i]? = some o := ⟨os[i], by simp [hi]⟩
      have hoi : (os.map Od.v)[i]? = some o.v := by simp [ho]
      have hom : o ∈ os := List.mem_of_getElem? ho
      k_steps
      unfold Stop
      rename News _ _ _ _ => N16
      refine v_sub N16 (.tail _ (.tail _ (.tail _ (.tail _ (.tail _ (.tail _ (.tail _ (.tail _ (.tail _ (.tail _ (.tail _ (.tail _ (hmore2 _ (hrest _ hm)))))))))))))) (i := i) (by omega) hoi (by omega) ?_ (by with_unfolding_all rfl)
      k_steps
      refine t_sub (i := 0) (v := .int o.t o.tt) (its := #[.int o.t o.tt, .int o.d o.td, .int o.w o.tw, .int o.m o.tm]) ⟨o.obj, (N16 _ (.tail _ (.tail _ (.tail _ (.tail _ (.tail _ (.tail _ (.tail _ (.tail _ (.tail _ (.tail _ (.tail _ (.tail _ (hmore2 _ (hrest _ (hmo o hom)))))))))))))))).1, rfl, _, rfl⟩ rfl rfl (by omega) ?_ (by with_unfolding_all rfl)
      k_steps
      unfold Stop
      rename Fr _ _ _ _ => F17
      rename News _ _ _ _ => N17
      refine kup_newTuple F17 N17 ?_ (by kmk_size)
      intro pt h18 F18 N18 hlt18
      k_steps
      unfold Stop
      refine comp_endL (new := (pt, (It.mk pt o.t (0 + (i : Int)) o.tt tp).obj)) [(pr, W.listOf #[] 0), (D8, W.listOf (List.map Rt.v rs).toArray 3), (L1 + 1 + 1 + 1 + 1 + 1 + 1 + 1, o1), (L1 + 1 + 1 + 1 + 1 + 1 + 1, o2), (L1 + 1 + 1 + 1 + 1 + 1, o3), (L1 + 1 + 1 + 1 + 1, o4), (L1 + 1 + 1 + 1, o5), (L1 + 1 + 1, o6'), (L1 + 1, o7)] F18 N18 off (fun q hq => Nat.ne_of_lt (hlt18 q hq)) trivial ⟨its ++ [It.mk pt o.t (0 + (i : Int)) o.tt tp], ?_, ?_, ?_, ?_⟩
      · rw [hy, List.map_append]; rfl
      · rw [List.map_append, hkey, List.range_succ, List.map_append]
        simp [It.key, key_of ho]
      · intro x hx
        rcases List.mem_append.mp hx with hx | hx
        · exact hsepx x hx
        · rw [List.mem_singleton.mp hx]
          exact ⟨⟨Nat.ne_of_gt (hlt18 _ (.tail _ (.tail _ (.tail _ (.head _))))), Nat.ne_of_gt (hlt18 _ (.tail _ (.tail _ (.tail _ (.tail _ (.head _))))))⟩, Nat.ne_of_gt (hlt18 _ (.tail _ (.tail _ (.tail _ (.tail _ (.tail _ (.tail _ (.tail _ (.tail _ (.tail _ (.tail _ (.tail _ (.head _))))))))))))), Nat.ne_of_gt (hlt18 _ (.tail _ (.tail _ (.tail _ (.tail _ (.tail _ (.tail _ (.tail _ (.tail _ (.tail _ (.tail _ (.head _)))))))))))), Nat.ne_of_gt (hlt18 _ (.tail _ (.tail _ (.tail _ (.tail _ (.tail _ (.tail _ (.tail _ (.tail _ (.tail _ (.head _))))))))))), Nat.ne_of_gt (hlt18 _ (.tail _ (.tail _ (.tail _ (.tail _ (.tail _ (.tail _ (.tail _ (.tail _ (.head _)))))))))), Nat.ne_of_gt (hlt18 _ (.tail _ (.tail _ (.tail _ (.tail _ (.tail _ (.tail _ (.tail _ (.head _))))))))), Nat.ne_of_gt (hlt18 _ (.tail _ (.tail _ (.tail _ (.tail _ (.tail _ (.tail _ (.head _)))))))), Nat.ne_of_gt (hlt18 _ (.tail _ (.tail _ (.tail _ (.tail _ (.tail _ (.head _)))))))⟩
      · rw [← hmr]
        unfold pairs
        rw [List.reverse_append, List.map_append, List.append_assoc]
        rfl
    · rintro ys nw ⟨its, hy, hkey, hsepx, rfl⟩
      unfold LCg.FinE
      intro D15 h15 tk15 F15 N15 o15
      clear F13 N13 R13
      have hil : its.length = os.length := by simpa using congrArg List.length hkey
      rw [lst_of (n := os.length) (by rw [hy, List.length_map, hil])] at N15
      subst hy
      k_steps
      unfold Stop
      refine sorted_its F15 N15 (.head _) (fun x hx => (.tail _ (.tail _ (.tail _ (.tail _ (.tail _ (.tail _ (.tail _ (.tail _ (.tail _ (.tail _ (List.mem_append_left _ (List.mem_map.mpr ⟨x, List.mem_reverse.mpr hx, rfl⟩))))))))))))) (by omega) (by omega) (fun i j hi hj hne => keys_ne hkey hi hj hne) ?_
      intro D16 c16 h16 out hp16 hs16 F16 N16 hlt16
      have hkp : (out.map It.key).Perm ((List.range os.length).map (keyOf os)) := hkey ▸ hp16.map It.key
      have g1d : @LT.lt Nat _ (L1 + 1 + 1 + 1 + 1 + 1 + 1 + 1) D16 ∧ @LT.lt Nat _ pr D16 := ⟨hlt16 _ (.tail _ (.tail _ (.tail _ (.head _)))), hlt16 _ (.tail _ (.head _))⟩
      have hm3 : ∀ p ∈ pairs its.reverse ++ more, Far p.1 pr L1 := by
        intro p hp
        rcases List.mem_append.mp hp with hp | hp
        · obtain ⟨x, hx, rfl⟩ := List.mem_map.mp hp
          have z := hsepx x (List.mem_reverse.mp hx)
          exact ⟨z.1.1, z.2⟩
        · exact ⟨hcr p hp, hc1 p hp, hc2 p hp, hc3 p hp, hc4 p hp, hc5 p hp, hc6 p hp, hc7 p hp⟩
      have hits3 : ∀ x ∈ out, (x.a, x.obj) ∈ pairs its.reverse ++ more := fun x hx => List.mem_append_left _ (List.mem_map.mpr ⟨x, List.mem_reverse.mpr (hp16.mem_iff.mp hx), rfl⟩)
      have hrest3 : ∀ p ∈ rest, p ∈ pairs its.reverse ++ more := fun p hp => List.mem_append_right _ (hrest p hp)
      have hrs3 : ∀ r ∈ rs, r.p ∈ pairs its.reverse ++ more := fun r hr => List.mem_append_right _ (hrs r hr)
      clear hlt16 o15 hc1 hc2 hc3 hc4 hc5 hc6 hc7 hcr hD8 F15 N15
      generalize pairs its.reverse ++ more = more3 at N16 hm3 hits3 hrest3 hrs3
      k_steps
      unfold Stop
      rename Fr _ _ _ _ => F17
      rename News _ _ _ _ => N17
      have N18 : News g1 L1 h16 ((D16, W.listOf (out.map It.v).toArray c16) :: (pr, W.listOf #[] 0) :: (D8, W.listOf (List.map Rt.v rs).toArray 3) :: (L1 + 1 + 1 + 1 + 1 + 1 + 1 + 1, o1) :: (L1 + 1 + 1 + 1 + 1 + 1 + 1, o2) :: (L1 + 1 + 1 + 1 + 1 + 1, o3) :: (L1 + 1 + 1 + 1 + 1, o4) :: (L1 + 1 + 1 + 1, o5) :: (L1 + 1 + 1, o6') :: (L1 + 1, o7) :: (rs.map Rt.p ++ more3)) := by
        intro p hp
        rcases List.mem_cons.mp hp with e | hp
        · rw [e]; exact N17 _ (.head _)
        rcases List.mem_cons.mp hp with e | hp
        · rw [e]; exact N17 _ (.tail _ (.tail _ (.head _)))
        rcases List.mem_cons.mp hp with e | hp
        · rw [e]; exact N17 _ (.tail _ (.tail _ (.tail _ (.head _))))
        rcases List.mem_cons.mp hp with e | hp
        · rw [e]; exact N17 _ (.tail _ (.tail _ (.tail _ (.tail _ (.head _)))))
        rcases List.mem_cons.mp hp with e | hp
        · rw [e]; exact N17 _ (.tail _ (.tail _ (.tail _ (.tail _ (.tail _ (.head _))))))
        rcases List.mem_cons.mp hp with e | hp
        · rw [e]; exact N17 _ (.tail _ (.tail _ (.tail _ (.tail _ (.tail _ (.tail _ (.head _)))))))
        rcases List.mem_cons.mp hp with e | hp
        · rw [e]; exact N17 _ (.tail _ (.tail _ (.tail _ (.tail _ (.tail _ (.tail _ (.tail _ (.head _))))))))
        rcases List.mem_cons.mp hp with e | hp
        · rw [e]; exact N17 _ (.tail _ (.tail _ (.tail _ (.tail _ (.tail _ (.tail _ (.tail _ (.tail _ (.head _)))))))))
        rcases List.mem_cons.mp hp with e | hp
        · rw [e]; exact N17 _ (.tail _ (.tail _ (.tail _ (.tail _ (.tail _ (.tail _ (.tail _ (.tail _ (.tail _ (.head _))))))))))
        rcases List.mem_cons.mp hp with e | hp
        · rw [e]; exact N17 _ (.tail _ (.tail _ (.tail _ (.tail _ (.tail _ (.tail _ (.tail _ (.tail _ (.tail _ (.tail _ (.head _)))))))))))
        rcases List.mem_append.mp hp with hp | hp
        · obtain ⟨r, hr, rfl⟩ := List.mem_map.mp hp
          exact N17 _ (.tail _ (.tail _ (.tail _ (.tail _ (.tail _ (.tail _ (.tail _ (.tail _ (.tail _ (.tail _ (.tail _ (hrs3 r hr))))))))))))
        · exact N17 _ (.tail _ (.tail _ (.tail _ (.tail _ (.tail _ (.tail _ (.tail _ (.tail _ (.tail _ (.tail _ (.tail _ hp)))))))))))
      refine iter_list (σ := TS) (toldLed D16 pr L1 out c16 o7 more3) (fun c => [(Str.ofString "rows", .ref pr)]) (toldInv os out pr L1)
        ⟨D8, rs, 3, [], 0, o1, o2, o3, o4, o5, o6'⟩ rfl (fun _ => List.Mem.head _) F17 N18 (by kst_all) ?_ ?_ ?_
      · refine ⟨hrl, ?_, ?_, rfl, d6', ⟨_, d1⟩, ⟨_, d2⟩, ⟨_, d3⟩, ⟨_, d4⟩, ⟨_, d5⟩, ⟨Nat.ne_of_lt e2, dg1, dg2, dg3, dg4, dg5, dg6, dg7⟩, ?_⟩
        · intro r hr
          have z : r.bs ∈ rs.map (·.bs) := List.mem_map.mpr ⟨r, hr, rfl⟩
          rw [hb] at z
          obtain ⟨md, _, e⟩ := List.mem_map.mp z
          rw [← e]; exact bitsOf_len _ _
        · show (rs.map (·.bs), []) = _
          rw [hb]
          rfl
        · intro r hr
          exact hm3 r.p (hrs3 r hr)
      · rintro i v ⟨ph, hs, kh, rows, kr, oa, ob, oc, od, oe, og⟩ u h20 tk20 own hi hv ⟨q1, q2, q3, q4, q5, ⟨va, q6⟩, ⟨vb, q7⟩, ⟨vc, q8⟩, ⟨vd, q9⟩, ⟨ve, q10⟩, q11, q12⟩ hsep F20 N20
        clear F17 N17 N18
        dsimp only [toldLed] at hsep N20
        dsimp only at hsep q1 q2 q3 q4 q5 q6 q7 q8 q9 q10 q11 q12 F20 N20 ⊢
        simp only [List.cons_append, List.append_assoc] at N20
        obtain ⟨qa0, qa1, qa2, qa3, qa4, qa5, qa6, qa7⟩ := q11
        obtain ⟨g1d, g2d⟩ := g1d
        have hmA : ∀ r ∈ hs, r.p ∈ hs.map Rt.p ++ (more3 ++ own) := fun r hr => List.mem_append_left _ (List.mem_map.mpr ⟨r, hr, rfl⟩)
        have hmB : ∀ p ∈ more3, p ∈ hs.map Rt.p ++ (more3 ++ own) := fun p hp => List.mem_append_right _ (List.mem_append_left _ hp)
        have hmC : ∀ p ∈ own, p ∈ hs.map Rt.p ++ (more3 ++ own) := fun p hp => List.mem_append_right _ (List.mem_append_right _ hp)
        have hmN : ∀ p ∈ hs.map Rt.p ++ (more3 ++ own), Far p.1 pr L1 := by
          intro p hp
          rcases List.mem_append.mp hp with hp | hp
          · obtain ⟨r, hr, rfl⟩ := List.mem_map.mp hp
            exact q12 r hr
          · rcases List.mem_append.mp hp with hp | hp
            · exact hm3 p hp
            · exact ⟨hsep p hp _ (.tail _ (.head _)), hsep p hp _ (.tail _ (.tail _ (.tail _ (.tail _ (.tail _ (.tail _ (.tail _ (.tail _ (.tail _ (.head _)))))))))), hsep p hp _ (.tail _ (.tail _ (.tail _ (.tail _ (.tail _ (.tail _ (.tail _ (.tail _ (.head _))))))))), hsep p hp _ (.tail _ (.tail _ (.tail _ (.tail _ (.tail _ (.tail _ (.tail _ (.head _)))))))), hsep p hp _ (.tail _ (.tail _ (.tail _ (.tail _ (.tail _ (.tail _ (.head _))))))), hsep p hp _ (.tail _ (.tail _ (.tail _ (.tail _ (.tail _ (.head _)))))), hsep p hp _ (.tail _ (.tail _ (.tail _ (.tail _ (.head _))))), hsep p hp _ (.tail _ (.tail _ (.tail _ (.head _))))⟩
        generalize hs.map Rt.p ++ (more3 ++ own) = more4 at N20 hmA hmB hmC hmN
        have hcr : ∀ p ∈ more4, p.1 ≠ pr := fun p hp => (hmN p hp).1
        have hc1 : ∀ p ∈ more4, p.1 ≠ L1 + 1 := fun p hp => (hmN p hp).2.1
        have hc2 : ∀ p ∈ more4, p.1 ≠ L1 + 1 + 1 := fun p hp => (hmN p hp).2.2
        have hc3 : ∀ p ∈ more4, p.1 ≠ L1 + 1 + 1 + 1 := fun p hp => (hmN p hp).2.3
        have hc4 : ∀ p ∈ more4, p.1 ≠ L1 + 1 + 1 + 1 + 1 := fun p hp => (hmN p hp).2.4
        have hc5 : ∀ p ∈ more4, p.1 ≠ L1 + 1 + 1 + 1 + 1 + 1 := fun p hp => (hmN p hp).2.5
        have hc6 : ∀ p ∈ more4, p.1 ≠ L1 + 1 + 1 + 1 + 1 + 1 + 1 := fun p hp => (hmN p hp).2.6
        have hc7 : ∀ p ∈ more4, p.1 ≠ L1 + 1 + 1 + 1 + 1 + 1 + 1 + 1 := fun p hp => (hmN p hp).2.7
        obtain ⟨x, hxi, rfl⟩ : ∃ x, out[i]? = some x ∧ v = .ref x.a := by
          have hi' : i < out.length := by simpa using hi
          have e : out[i]? = some out[i] := by simp [hi']
          refine ⟨out[i], e, ?_⟩
          simp [e] at hv
          exact hv.symm
        have hxm : x ∈ out := List.mem_of_getElem? hxi
        obtain ⟨j, hj, o, hjo, hxk, hxt⟩ : ∃ j, j < os.length ∧ ∃ o, os[j]? = some o ∧ x.k = (j : Int) ∧ x.t = o.t := by
          have z : x.key ∈ out.map It.key := List.mem_map.mpr ⟨x, hxm, rfl⟩
          obtain ⟨j, hj, e⟩ := List.mem_map.mp (hkp.mem_iff.mp z)
          have hj' : j < os.length := List.mem_range.mp hj
          have ho : os[j]? = some os[j] := by simp [hj']
          rw [key_of ho] at e
          injection e with e1 e2
          exact ⟨j, hj', os[j], ho, e2.symm, e1.symm⟩
        have hom : o ∈ os := List.mem_of_getElem? hjo
        obtain ⟨k1, k2, k3, k4, k5, k6⟩ := hok o hom
        have hT20 : IsTup h20 x.a #[.int x.t x.tt, .int x.k x.tk] := ⟨x.obj, (N20 _ (.tail _ (.tail _ (.tail _ (.tail _ (.tail _ (.tail _ (.tail _ (.tail _ (.tail _ (.tail _ (hmB _ (hits3 x hxm))))))))))))).1, rfl, _, rfl⟩
        k_steps
        unfold Stop
        rename News _ _ _ _ => N21
        refine v_sub N21 (.tail _ (.tail _ (.tail _ (.tail _ (.tail _ (.tail _ (.tail _ (.tail _ (.tail _ (.tail _ (hmB _ (hrest3 _ hm)))))))))))) (i := j) hxk (v := o.v) (by simp [hjo]) (by omega) ?_ (by with_unfolding_all rfl)
        have hT21 : IsTup _ o.a #[.int o.t o.tt, .int o.d o.td, .int o.w o.tw, .int o.m o.tm] := ⟨o.obj, (N21 _ (.tail _ (.tail _ (.tail _ (.tail _ (.tail _ (.tail _ (.tail _ (.tail _ (.tail _ (.tail _ (hmB _ (hrest3 _ (hmo o hom)))))))))))))).1, rfl, _, rfl⟩
        unfold Od.v
        k_steps
        rename Fr _ _ _ _ => F22
        rename News _ _ _ _ => N22
        refine t_from rfl F22 N22 hT21 (by simp) (by simp) ?_ (by with_unfolding_all rfl)
        intro p23 h23 F23 N23 hlt23
        clear hlt23 hT21 hT20 F22 N22
        have hT23 : IsTup h23 p23 #[.int o.d o.td, .int o.w o.tw, .int o.m o.tm] := ⟨_, (N23 _ (.head _)).1, rfl, _, rfl⟩
        replace N23 := fun p hp => N23 p (.tail _ hp)
        change News g1 L1 h23 _ at N23
        have hwn : ∃ wn : Nat, o.w = (wn : Int) ∧ wn < 3 := ⟨o.w.toNat, by omega, by omega⟩
        obtain ⟨wn, hwn, hwn3⟩ := hwn
        obtain ⟨rw0, hrw⟩ : ∃ z, hs[wn]? = some z := ⟨hs[wn], by simp [q1, hwn3]⟩
        have hrv : (hs.map Rt.v)[wn]? = some rw0.v := by simp [hrw]
        have hrm : rw0 ∈ hs := List.mem_of_getElem? hrw
        have mk : Mark := trivial
        k_steps
        unfold Stop
        rename Fr _ _ _ _ => F24
        rename News _ _ _ _ => N24
        k_dflt refine rights_call w mean mg mb _ _ _ _ _ _ _ _ _ _ _ _ _ _ _ _ _ o.m o.tm _ k6 B1 F24 X1 N24 T1 rfl (by ktr_room) (by ktr_units) ?_
        intro pa h25 tk25 na hpa F25 N25
        have pg0 : @Ne Nat pa pr := Ne.symm (hpa _ (.tail _ (.head _)))
        have pg1 : @Ne Nat pa (L1 + 1) := Ne.symm (hpa _ (.tail _ (.tail _ (.tail _ (.tail _ (.tail _ (.tail _ (.tail _ (.tail _ (.tail _ (.head _)))))))))))
        have pg2 : @Ne Nat pa (L1 + 1 + 1) := Ne.symm (hpa _ (.tail _ (.tail _ (.tail _ (.tail _ (.tail _ (.tail _ (.tail _ (.tail _ (.head _))))))))))
        have pg3 : @Ne Nat pa (L1 + 1 + 1 + 1) := Ne.symm (hpa _ (.tail _ (.tail _ (.tail _ (.tail _ (.tail _ (.tail _ (.tail _ (.head _)))))))))
        have pg4 : @Ne Nat pa (L1 + 1 + 1 + 1 + 1) := Ne.symm (hpa _ (.tail _ (.tail _ (.tail _ (.tail _ (.tail _ (.tail _ (.head _))))))))
        have pg5 : @Ne Nat pa (L1 + 1 + 1 + 1 + 1 + 1) := Ne.symm (hpa _ (.tail _ (.tail _ (.tail _ (.tail _ (.tail _ (.head _)))))))
        have pg6 : @Ne Nat pa (L1 + 1 + 1 + 1 + 1 + 1 + 1) := Ne.symm (hpa _ (.tail _ (.tail _ (.tail _ (.tail _ (.head _))))))
        have pg7 : @Ne Nat pa (L1 + 1 + 1 + 1 + 1 + 1 + 1 + 1) := Ne.symm (hpa _ (.tail _ (.tail _ (.tail _ (.head _)))))
        clear F24 N24 hpa hT23
        k_steps
        unfold Stop
        rename News _ _ _ _ => N26
        refine v_sub N26 (.tail _ (.tail _ (.tail _ (.head _)))) (i := wn) hwn hrv (by omega) ?_ (by with_unfolding_all rfl)
        unfold Rt.v
        k_steps
        unfold Stop
        rename Fr _ _ _ _ => F27
        k_dflt (refine LCg.ListComp_U (F₀ := F27) (by with_unfolding_all rfl) (by decide) (by rfl) (by decide) (by rfl) ?_)
        k_steps
        unfold Stop
        rename IsRange _ _ _ _ _ _ _ _ => R28
        rename Fr _ _ _ _ => F28
        rename News _ _ _ _ => N28
        refine LCg.CompSrc.range (n := 12) (by rfl) F28 N28 R28 (by decide) (by decide) (by decide) ?_
        intro g29
        refine rest_inv (fun i ys nw => ys = ((newB rw0.bs (bitsOf o.m 12) o.d).take i).map Value.bool ∧ nw = _) ?_ ?_ ⟨rfl, rfl⟩
        · rintro i' ys nw v I oI C oC D m2 h30 tk30 E30 hi' ⟨hy, rfl⟩ hv hC hx F30 N30 off ne
          obtain ⟨tp, rfl⟩ := hv
          clear F28 N28 R28
          have hOld : (rw0.bs.map Value.bool)[i']? = some (.bool (rw0.bs.getD i' false)) := by
            have := q2 rw0 hrm
            simp [List.getD, hi', this]
          have hAsk : ((bitsOf o.m 12).map Value.bool)[i']? = some (.bool ((bitsOf o.m 12).getD i' false)) := by
            have := bitsOf_len o.m 12
            simp [List.getD, hi', this]
          have hstep : ((newB rw0.bs (bitsOf o.m 12) o.d).take (i' + 1)).map Value.bool = ((newB rw0.bs (bitsOf o.m 12) o.d).take i').map Value.bool ++ [.bool (pick o.d (rw0.bs.getD i' false) ((bitsOf o.m 12).getD i' false))] := by
            have e : (newB rw0.bs (bitsOf o.m 12) o.d)[i']? = some (pick o.d (rw0.bs.getD i' false) ((bitsOf o.m 12).getD i' false)) := by
              unfold newB
              rw [List.getElem?_map, List.getElem?_range hi']
              rfl
            rw [List.take_add_one, e, List.map_append]
            rfl
          generalize rw0.bs.getD i' false = b0 at hOld hstep
          generalize (bitsOf o.m 12).getD i' false = b1 at hAsk hstep
          obtain ⟨dn, hdn, hdn4⟩ : ∃ dn : Nat, o.d = (dn : Int) ∧ dn < 4 := ⟨o.d.toNat, by omega, by omega⟩
          cases b0 <;> cases b1
          -- [A
          all_goals k_steps
          all_goals (iterate 8 (try (unfold Stop; rename News _ _ _ _ => N31; (first | refine v_sub N31 (.tail _ (.tail _ (.tail _ (.tail _ (.tail _ (.tail _ (.tail _ (.tail _ (.tail _ (.tail _ (.tail _ (.tail _ (.tail _ (.tail _ (hmA rw0 hrm))))))))))))))) (i := i') (by omega) hOld (by omega) ?_ (by with_unfolding_all rfl) | refine v_sub N31 (.tail _ (.tail _ (.tail _ (.head _)))) (i := i') (by omega) hAsk (by omega) ?_ (by with_unfolding_all rfl)); k_steps)))
          all_goals (unfold Stop; rename Fr _ _ _ _ => F33; rename News _ _ _ _ => N33; refine newList_K F33 N33 ?_; intro pl h34 F34 N34 hlt34; clear hlt34 F33 N33)
          all_goals k_steps
          · unfold Stop
            rename Fr _ _ _ _ => F35
            rename News _ _ _ _ => N35
            refine v_sub N35 (.head _) (i := dn) hdn (pick_get hdn hdn4 false false) (by omega) ?_ (by with_unfolding_all rfl)
            k_steps
            unfold Stop
            refine LCg.CompEnd.intro F35 N35 _ (fun p hp => .tail _ hp) off trivial ⟨?_, rfl⟩
            rw [hy, hstep]
          · unfold Stop
            rename Fr _ _ _ _ => F35
            rename News _ _ _ _ => N35
            refine v_sub N35 (.head _) (i := dn) hdn (pick_get hdn hdn4 false true) (by omega) ?_ (by with_unfolding_all rfl)
            k_steps
            unfold Stop
            refine LCg.CompEnd.intro F35 N35 _ (fun p hp => .tail _ hp) off trivial ⟨?_, rfl⟩
            rw [hy, hstep]
          · unfold Stop
            rename Fr _ _ _ _ => F35
            rename News _ _ _ _ => N35
            refine v_sub N35 (.head _) (i := dn) hdn (pick_get hdn hdn4 true false) (by omega) ?_ (by with_unfolding_all rfl)
            k_steps
            unfold Stop
            refine LCg.CompEnd.intro F35 N35 _ (fun p hp => .tail _ hp) off trivial ⟨?_, rfl⟩
            rw [hy, hstep]
          · unfold Stop
            rename Fr _ _ _ _ => F35
            rename News _ _ _ _ => N35
            refine v_sub N35 (.head _) (i := dn) hdn (pick_get hdn hdn4 true true) (by omega) ?_ (by with_unfolding_all rfl)
            k_steps
            unfold Stop
            refine LCg.CompEnd.intro F35 N35 _ (fun p hp => .tail _ hp) off trivial ⟨?_, rfl⟩
            rw [hy, hstep]
          -- A]
        · rintro ys nw ⟨hy, rfl⟩
          unfold LCg.FinE
          intro D31 h31 tk31 F31 N31 o31
          clear F28 N28 R28
          have o32 := off1_mem o31
          clear o31
          have hnl : (newB rw0.bs (bitsOf o.m 12) o.d).length = 12 := by simp [newB]
          rw [List.take_of_length_le (by rw [hnl]; exact Nat.le_refl _)] at hy
          have ng0 : @Ne Nat D31 pr := Ne.symm (o32 _ (.tail _ (.tail _ (.head _))))
          have ng1 : @Ne Nat D31 (L1 + 1) := Ne.symm (o32 _ (.tail _ (.tail _ (.tail _ (.tail _ (.tail _ (.tail _ (.tail _ (.tail _ (.tail _ (.tail _ (.head _))))))))))))
          have ng2 : @Ne Nat D31 (L1 + 1 + 1) := Ne.symm (o32 _ (.tail _ (.tail _ (.tail _ (.tail _ (.tail _ (.tail _ (.tail _ (.tail _ (.tail _ (.head _)))))))))))
          have ng3 : @Ne Nat D31 (L1 + 1 + 1 + 1) := Ne.symm (o32 _ (.tail _ (.tail _ (.tail _ (.tail _ (.tail _ (.tail _ (.tail _ (.tail _ (.head _))))))))))
          have ng4 : @Ne Nat D31 (L1 + 1 + 1 + 1 + 1) := Ne.symm (o32 _ (.tail _ (.tail _ (.tail _ (.tail _ (.tail _ (.tail _ (.tail _ (.head _)))))))))
          have ng5 : @Ne Nat D31 (L1 + 1 + 1 + 1 + 1 + 1) := Ne.symm (o32 _ (.tail _ (.tail _ (.tail _ (.tail _ (.tail _ (.tail _ (.head _))))))))
          have ng6 : @Ne Nat D31 (L1 + 1 + 1 + 1 + 1 + 1 + 1) := Ne.symm (o32 _ (.tail _ (.tail _ (.tail _ (.tail _ (.tail _ (.head _)))))))
          have ng7 : @Ne Nat D31 (L1 + 1 + 1 + 1 + 1 + 1 + 1 + 1) := Ne.symm (o32 _ (.tail _ (.tail _ (.tail _ (.tail _ (.head _))))))
          have hno : ∀ p ∈ more4, p.1 ≠ D31 := fun p hp => o32 p (.tail _ (.tail _ (.tail _ (.tail _ (.tail _ (.tail _ (.tail _ (.tail _ (.tail _ (.tail _ (.tail _ hp)))))))))))
          clear o32
          rw [lst_of (n := 12) (by rw [hy, List.length_map, hnl])] at N31
          subst hy
          obtain ⟨nb, hnb⟩ : ∃ nb, nb = newB rw0.bs (bitsOf o.m 12) o.d := ⟨_, rfl⟩
          rw [← hnb] at N31 hnl
          k_steps
          unfold Stop
          rename Fr _ _ _ _ => F33
          k_dflt (refine LCg.ListComp_U (F₀ := F33) (by with_unfolding_all rfl) (by decide) (by rfl) (by decide) (by rfl) ?_)
          k_steps
          unfold Stop
          rename IsRange _ _ _ _ _ _ _ _ => R34
          rename Fr _ _ _ _ => F34
          rename News _ _ _ _ => N34
          refine LCg.CompSrc.range (n := 3) (by rfl) F34 N34 R34 (by decide) (by decide) (by decide) ?_
          intro g35
          refine rest_inv (fun i ys nw => ys = ((hs.set wn ⟨D31, nb, 12⟩).take i).map Rt.v ∧ nw = _) ?_ ?_ ⟨rfl, rfl⟩
          · rintro i' ys nw v I oI C oC D m2 h36 tk36 E36 hi' ⟨hy, rfl⟩ hv hC hx F36 N36 off ne
            obtain ⟨tp, rfl⟩ := hv
            clear F34 N34 R34
            -- [B
            obtain ⟨ri, hri⟩ : ∃ z, hs[i']? = some z := ⟨hs[i'], by simp [q1, hi']⟩
            have hriv : (hs.map Rt.v)[i']? = some ri.v := by simp [hri]
            have hstep : ∀ z, (hs.set wn ⟨D31, nb, 12⟩)[i']? = some z → ((hs.set wn ⟨D31, nb, 12⟩).take (i' + 1)).map Rt.v = ((hs.set wn ⟨D31, nb, 12⟩).take i').map Rt.v ++ [z.v] := fun z hz => by
              rw [List.take_add_one, hz, List.map_append]; rfl
            k_steps
            · unfold Stop
              rename 0 + (i' : Int) = o.w => hiw
              have hiw' : wn = i' := by omega
              refine LCg.CompEnd.intro F36 N36 _ (fun p hp => hp) off trivial ⟨?_, rfl⟩
              rw [hy, hstep ⟨D31, nb, 12⟩ (by subst hiw'; simp [q1, hwn3])]
              rfl
            · unfold Stop
              rename ¬ (0 + (i' : Int) = o.w) => hiw
              refine v_sub N36 (.tail _ (.tail _ (.tail _ (.tail _ (.tail _ (.tail _ (.tail _ (.head _)))))))) (i := i') (by omega) hriv (by omega) ?_ (by with_unfolding_all rfl)
              k_steps
              unfold Stop
              refine LCg.CompEnd.intro F36 N36 _ (fun p hp => hp) off trivial ⟨?_, rfl⟩
              rw [hy, hstep ri (by rw [List.getElem?_set_ne (by omega)]; exact hri)]
            -- B]
          · rintro ys nw ⟨hy, rfl⟩
            unfold LCg.FinE
            intro D37 h37 tk37 F37 N37 o37
            clear F34 N34 R34
            have o38 := off1_mem o37
            clear o37
            rw [List.take_of_length_le (by simp [q1])] at hy
            have mg0 : @Ne Nat D37 pr := Ne.symm (o38 _ (.tail _ (.tail _ (.tail _ (.head _)))))
            have mg1 : @Ne Nat D37 (L1 + 1) := Ne.symm (o38 _ (.tail _ (.tail _ (.tail _ (.tail _ (.tail _ (.tail _ (.tail _ (.tail _ (.tail _ (.tail _ (.tail _ (.head _)))))))))))))
            have mg2 : @Ne Nat D37 (L1 + 1 + 1) := Ne.symm (o38 _ (.tail _ (.tail _ (.tail _ (.tail _ (.tail _ (.tail _ (.tail _ (.tail _ (.tail _ (.tail _ (.head _))))))))))))
            have mg3 : @Ne Nat D37 (L1 + 1 + 1 + 1) := Ne.symm (o38 _ (.tail _ (.tail _ (.tail _ (.tail _ (.tail _ (.tail _ (.tail _ (.tail _ (.tail _ (.head _)))))))))))
            have mg4 : @Ne Nat D37 (L1 + 1 + 1 + 1 + 1) := Ne.symm (o38 _ (.tail _ (.tail _ (.tail _ (.tail _ (.tail _ (.tail _ (.tail _ (.tail _ (.head _))))))))))
            have mg5 : @Ne Nat D37 (L1 + 1 + 1 + 1 + 1 + 1) := Ne.symm (o38 _ (.tail _ (.tail _ (.tail _ (.tail _ (.tail _ (.tail _ (.tail _ (.head _)))))))))
            have mg6 : @Ne Nat D37 (L1 + 1 + 1 + 1 + 1 + 1 + 1) := Ne.symm (o38 _ (.tail _ (.tail _ (.tail _ (.tail _ (.tail _ (.tail _ (.head _))))))))
            have mg7 : @Ne Nat D37 (L1 + 1 + 1 + 1 + 1 + 1 + 1 + 1) := Ne.symm (o38 _ (.tail _ (.tail _ (.tail _ (.tail _ (.tail _ (.head _)))))))
            have hmo4 : ∀ p ∈ more4, p.1 ≠ D37 := fun p hp => o38 p (.tail _ (.tail _ (.tail _ (.tail _ (.tail _ (.tail _ (.tail _ (.tail _ (.tail _ (.tail _ (.tail _ (.tail _ hp))))))))))))
            clear o38
            rw [lst_of (n := 3) (by rw [hy, List.length_map, List.length_set, q1])] at N37
            subst hy
            k_steps
            unfold Stop
            rename Fr _ _ _ _ => F39
            rename News _ _ _ _ => N39
            k_dflt refine signs_call w mean mg mb _ _ _ _ _ _ _ _ _ _ _ _ _ _ _ _ _ D31 nb 12 _ hnl B1 F39 X1 N39 (.tail _ (.head _)) T1 rfl (by ktr_room) (by ktr_units) ?_
            intro t40 h40 tk40 F40 N40
            clear F39 N39
            k_steps
            rename Fr g1 _ _ _ => F41
            rename News g1 _ _ _ => N41
            rw [row_str2 hwn hwn3]
            refine row_append F41 (news_row N41) ?_ (by have h77 := hp16.length_eq; have h78 : i < out.length := by simpa using hi
                                                        omega) ?_
            · intro p hp'
              rcases List.mem_cons.mp hp' with e | hp'
              · rw [e]; exact Nat.ne_of_gt g2d
              rcases List.mem_cons.mp hp' with e | hp'
              · rw [e]; exact mg0
              rcases List.mem_cons.mp hp' with e | hp'
              · rw [e]; exact ng0
              rcases List.mem_cons.mp hp' with e | hp'
              · rw [e]; exact Nat.ne_of_lt e1
              rcases List.mem_cons.mp hp' with e | hp'
              · rw [e]; exact Nat.ne_of_lt (Nat.lt_of_le_of_lt (Nat.le_succ _) e1)
              rcases List.mem_cons.mp hp' with e | hp'
              · rw [e]; exact Nat.ne_of_lt (Nat.lt_of_le_of_lt (Nat.le_succ _) (Nat.lt_of_le_of_lt (Nat.le_succ _) e1))
              rcases List.mem_cons.mp hp' with e | hp'
              · rw [e]; exact Nat.ne_of_lt (Nat.lt_of_le_of_lt (Nat.le_succ _) (Nat.lt_of_le_of_lt (Nat.le_succ _) (Nat.lt_of_le_of_lt (Nat.le_succ _) e1)))
              rcases List.mem_cons.mp hp' with e | hp'
              · rw [e]; exact Nat.ne_of_lt (Nat.lt_of_le_of_lt (Nat.le_succ _) (Nat.lt_of_le_of_lt (Nat.le_succ _) (Nat.lt_of_le_of_lt (Nat.le_succ _) (Nat.lt_of_le_of_lt (Nat.le_succ _) e1))))
              rcases List.mem_cons.mp hp' with e | hp'
              · rw [e]; exact Nat.ne_of_lt (Nat.lt_of_le_of_lt (Nat.le_succ _) (Nat.lt_of_le_of_lt (Nat.le_succ _) (Nat.lt_of_le_of_lt (Nat.le_succ _) (Nat.lt_of_le_of_lt (Nat.le_succ _) (Nat.lt_of_le_of_lt (Nat.le_succ _) e1)))))
              rcases List.mem_cons.mp hp' with e | hp'
              · rw [e]; exact Nat.ne_of_lt (Nat.lt_of_le_of_lt (Nat.le_succ _) (Nat.lt_of_le_of_lt (Nat.le_succ _) (Nat.lt_of_le_of_lt (Nat.le_succ _) (Nat.lt_of_le_of_lt (Nat.le_succ _) (Nat.lt_of_le_of_lt (Nat.le_succ _) (Nat.lt_of_le_of_lt (Nat.le_succ _) e1))))))
              · exact hcr p hp'
            intro h42 F42 N42
            clear F41 N41
            k_steps
            unfold Stop
            have hset : ∀ r ∈ hs.set wn ⟨D31, nb, 12⟩, r ∈ hs ∨ r = ⟨D31, nb, 12⟩ := fun r hr => List.mem_or_eq_of_mem_set hr
            refine fend ⟨D37, hs.set wn ⟨D31, nb, 12⟩, 3, rows ++ [([kindCh wn] ++ sgs (fun i => nb.getD i false) 3 ++ [32, 97 + wn], _)], kr + 1, _, _, _, _, _, _⟩ F42
              (news_fin (hp := (hs.set wn ⟨D31, nb, 12⟩).map Rt.p) (more3 := more3) (own := own) N42 ?_ hmB hmC) ?_ (by kst_all) ?_
            · intro p hp'
              obtain ⟨r, hr, rfl⟩ := List.mem_map.mp hp'
              rcases hset r hr with z | z
              · exact .inr (hmA r z)
              · rw [z]; exact .inl rfl
            · dsimp only [toldLed]
              intro p hp' q hq
              rcases List.mem_cons.mp hq with e | hq
              · rw [e]; exact hsep p hp' _ (.head _)
              rcases List.mem_cons.mp hq with e | hq
              · rw [e]; exact hcr p (hmC p hp')
              rcases List.mem_cons.mp hq with e | hq
              · rw [e]; exact hmo4 p (hmC p hp')
              rcases List.mem_cons.mp hq with e | hq
              · rw [e]; exact hc7 p (hmC p hp')
              rcases List.mem_cons.mp hq with e | hq
              · rw [e]; exact hc6 p (hmC p hp')
              rcases List.mem_cons.mp hq with e | hq
              · rw [e]; exact hc5 p (hmC p hp')
              rcases List.mem_cons.mp hq with e | hq
              · rw [e]; exact hc4 p (hmC p hp')
              rcases List.mem_cons.mp hq with e | hq
              · rw [e]; exact hc3 p (hmC p hp')
              rcases List.mem_cons.mp hq with e | hq
              · rw [e]; exact hc2 p (hmC p hp')
              rcases List.mem_cons.mp hq with e | hq
              · rw [e]; exact hc1 p (hmC p hp')
              rcases List.mem_append.mp hq with hq | hq
              · obtain ⟨r, hr, rfl⟩ := List.mem_map.mp hq
                rcases hset r hr with z | z
                · exact hsep p hp' _ (.tail _ (.tail _ (.tail _ (.tail _ (.tail _ (.tail _ (.tail _ (.tail _ (.tail _ (.tail _ (List.mem_append_left _ (List.mem_map.mpr ⟨r, z, rfl⟩))))))))))))
                · rw [z]; exact hno p (hmC p hp')
              · exact hsep p hp' _ (.tail _ (.tail _ (.tail _ (.tail _ (.tail _ (.tail _ (.tail _ (.tail _ (.tail _ (.tail _ (List.mem_append_right _ hq)))))))))))
            · refine ⟨?_, ?_, ?_, ?_, by assumption, ⟨_, by assumption⟩, ⟨_, by assumption⟩, ⟨_, by assumption⟩, ⟨_, by assumption⟩, ⟨_, by assumption⟩, ⟨mg0, mg1, mg2, mg3, mg4, mg5, mg6, mg7⟩, ?_⟩
              · dsimp only
                rw [List.length_set, q1]
              · dsimp only
                intro r hr
                rcases hset r hr with z | z
                · exact q2 r z
                · rw [z]; exact hnl
              · dsimp only
                have e1 : x.k.toNat = j := by omega
                have e2 : o.w.toNat = wn := by omega
                rw [List.take_add_one, hxi, List.map_append, List.map_append]
                show _ = runT os ((out.take i).map (·.k.toNat) ++ [x.k.toNat])
                rw [runT_snoc, ← q3, e1]
                have e3 : (hs.map (·.bs)).getD wn [] = rw0.bs := by simp [hrw]
                have e4 : stepH os (hs.map (·.bs)) j = (hs.set wn ⟨D31, nb, 12⟩).map (·.bs) := by
                  unfold stepH
                  rw [hjo]
                  dsimp only
                  rw [e2, e3, ← hnb, List.map_set]
                have e5 : wOf os j = wn := by unfold wOf; rw [hjo]; exact e2
                have e6 : ((hs.set wn ⟨D31, nb, 12⟩).map (·.bs)).getD wn [] = nb := by simp [q1, hwn3]
                unfold stepT
                dsimp only
                rw [e4, e5]
                unfold rowTT
                rw [e6]
                rfl
              · dsimp only
                rw [List.length_append, q4]
                rfl
              · dsimp only
                intro r hr
                rcases hset r hr with z | z
                · exact q12 r z
                · rw [z]; exact ⟨ng0, ng1, ng2, ng3, ng4, ng5, ng6, ng7⟩
      · rintro ⟨ph, hs, kh, rows, kr, oa, ob, oc, od, oe, og⟩ u h20 tk20 ⟨q1, q2, q3, q4, q5, ⟨va, q6⟩, ⟨vb, q7⟩, ⟨vc, q8⟩, ⟨vd, q9⟩, ⟨ve, q10⟩, q11, q12⟩ F20 N20
        clear F17 N17 N18
        dsimp only [toldLed] at N20
        dsimp only at q1 q2 q3 q4 q5 q6 q7 q8 q9 q10 q11 q12 F20 N20 ⊢
        have hmr : ∀ p ∈ rest, p ∈ hs.map Rt.p ++ more3 := fun p hp => List.mem_append_right _ (hrest3 p hp)
        generalize hs.map Rt.p ++ more3 = more4 at N20 hmr
        k_steps
        rename Fr h₀ _ _ _ => F21
        rename News h₀ _ _ _ => N21
        rw [List.take_of_length_le (by simp)] at q3
        refine ret pr _ _ kr rows (out.map (·.k.toNat)) (ks_of hkp hs16) (congrArg Prod.snd q3) (fun q hq => (hm3 q (hrest3 q hq)).1) F21 (fun p hp' => ?_)
        rcases List.mem_cons.mp hp' with e | hp'
        · rw [e]; exact N21 _ (.tail _ (.head _))
        · exact N21 _ (.tail _ (.tail _ (.tail _ (.tail _ (.tail _ (.tail _ (.tail _ (.tail _ (.tail _ (.tail _ (hmr p hp')))))))))))
end
end Mine
end
section
open PySem PySem.W PySem.W.X PyProof.Rows
set_option Elab.async false
set_option maxRecDepth 100000
set_option maxHeartbeats 4000000
namespace Mine
/-- a comprehension's source, a list, with a floor T under the tokens -/
inductive SrcT (T : Nat) (prog : Program) (w : World) (A : Around) (h₀ : Heap) (L : Addr) (m : Str → Option Value) (env : Env) (elt : Expr) (x : Str) (scope : Scope) (cl : List (Str × Addr)) (Q : Value → Shared → Prop) (xv : Value) (s₁ : Shared) : Prop where
  | mk (ax : Addr) (its : Array Value) (news : List (Addr × Obj)) (J : Nat → List Value → List (Addr × Obj) → Prop)
    (q1 : xv = .ref ax)
    (q2 : A.handled = none)
    (q3 : Fr h₀ L s₁.heap m)
    (q4 : News h₀ L s₁.heap news)
    (q5 : T ≤ s₁.toks)
    (q6 : its.size ≤ sizeLine)
    (q7 : LCg.SrcAt h₀ ax its news)
    (q8 : J 0 [] news)
    (q9 : ∀ i ys nw v I oI C oC D m₂ h tk (E' : Value → Shared → Prop), i < its.size → its[i]? = some v → T ≤ tk → J i ys nw → LCg.NsObj oC m₂ → m₂ x = some v → Fr h₀ L h m → News h₀ L h ((I, oI) :: (C, oC) :: (D, LCg.lst ys) :: nw) → LCg.Off3 I C D nw → ((@Ne Nat I C) ∧ (@Ne Nat I D) ∧ (@Ne Nat C D)) →
      wpAny (model prog w) A (eval elt (compEnvC scope cl C env)) (LCg.CompEnd h₀ L m { s₁ with heap := h, toks := tk } I oI C oC D (LCg.lst ys) (LCg.SrcAt h₀ ax its) (fun y nw' => J (i + 1) (ys ++ [y]) nw')) E' { s₁ with heap := h, toks := tk })
    (q10 : ∀ ys nw D h tk, J its.size ys nw → T ≤ tk → Fr h₀ L h m → News h₀ L h ((D, LCg.lst ys) :: nw) → LCg.Off1 D nw → Q (.ref D) { s₁ with heap := h, toks := tk })
inductive CInv (T : Nat) (h₀ : Heap) (L : Addr) (m : Str → Option Value) (σ₀ : Shared) (its : Array Value) (ax I C D : Addr) (J : Nat → List Value → List (Addr × Obj) → Prop) (k : Nat) (s' : Shared) : Prop where
  | mk (h' : Heap) (tk i : Nat) (ys : List Value) (m' : Str → Option Value) (nw : List (Addr × Obj)) (e : s' = ⟨h', σ₀.gens, σ₀.drawn, tk, σ₀.os⟩) (q1 : T ≤ tk) (q2 : i ≤ its.size) (q3 : k = its.size + 1 - i) (q4 : ys.length = i) (q5 : h'.IsListIter I ax i ∧ h'.IsList ax its) (q6 : Fr h₀ L h' m) (q7 : h'.Ns C m') (q8 : News h₀ L h' ((D, LCg.lst ys) :: nw)) (q9 : LCg.Off3 I C D nw) (q10 : LCg.SrcAt h₀ ax its nw) (q11 : J i ys nw)
theorem comp_T {prog : Program} {w : World} {A : Around} {E : Value → Shared → Prop} {s : Shared} {h₀ : Heap} {L : Addr} {m : Str → Option Value} {env : Env} {elt iter : Expr} {x : Str} {px : Pos} {scope : Scope} {cl : List (Str × Addr)} {pos : Pos} {Q : Value → Shared → Prop} (T : Nat) (_F₀ : Fr h₀ L s.heap m)
    (hclos : closureFor scope env = pure cl) (hcell : ∀ y ∈ scope.names, y.2 ≠ .cell) (hkind : scope.kind = .function)
    (hnames : ∀ y ∈ scope.names, y.2 = .local → scope.names.lookup y.1 = some .local) (hx : scope.names.lookup x = some .local)
    (h : wpAny (model prog w) A (eval iter env) (SrcT T prog w A h₀ L m env elt x scope cl Q) E s)
    (hs : ∀ x, foldedSetIterable iter env x = pure x := by intro _; rfl) :
    wpAny (model prog w) A (eval (.ListComp elt [⟨.Name x px, iter, [], 0⟩] scope pos) env) Q E s := by
  rw [eval_ListComp]
  refine wpAny_comprehension_free (use := none) rfl hs hclos hkind hnames (wpAny_mono h (fun xv s₁ q => ?_) fun _ _ e => e)
  obtain ⟨ax, its, news, J, rfl, hh, F, N, hT, hsz, S, hJ, turn, fin⟩ := q
  have hl := S.list F.keep N
  have hax : ax < s₁.heap.objs.size := by obtain ⟨_, e, _⟩ := hl; exact Heap.lt_size e
  refine wpAny_pyIter_list hl ?_
  obtain ⟨hp, gs, dr, tks, osx⟩ := s₁
  dsimp only at *
  -- the addresses: the iterator, the new list, the comprehension's frame
  obtain ⟨g, hg⟩ : ∃ g, g = hp.push { cls := .type "list_iterator", data := .fields #[.ref ax, .int 0 0] } := ⟨_, rfl⟩
  rw [← hg]
  have zg : g.objs.size = hp.objs.size + 1 := by rw [hg, Heap.size_push]
  have upg : ∀ b o, hp.get? b = some o → g.get? b = some o := fun b o e => by rw [hg]; exact Heap.get?_push_of_some _ e
  refine wpAny_newObj_type (wpAny_newFunctionEnv hcell (by intro y hy; simp at hy) (fun h₁ ns₁ sb₁ => ?_) hkind)
  dsimp only at ns₁ sb₁ ⊢
  obtain ⟨g2, hg2⟩ : ∃ g2, g2 = g.push { cls := .type "list", dict := none, data := .seq ([] : List Value).toArray } := ⟨_, rfl⟩
  rw [← hg2] at ns₁ sb₁ ⊢
  have zg2 : g2.objs.size = hp.objs.size + 2 := by rw [hg2, Heap.size_push, zg]
  have up2 : ∀ b o, g.get? b = some o → g2.get? b = some o := fun b o e => by rw [hg2]; exact Heap.get?_push_of_some _ e
  have hI2 : g.get? hp.objs.size = some { cls := .type "list_iterator", data := .fields #[.ref ax, .int 0 0] } := by rw [hg]; exact Heap.get?_push_size _ rfl
  have hD2 : g2.get? g.objs.size = some (LCg.lst []) := by rw [hg2]; exact Heap.get?_push_size _ rfl
  generalize hI : hp.objs.size = I at *
  generalize hD : g.objs.size = D at *
  generalize hC : g2.objs.size = C at *
  have eD : D = I + 1 := zg
  have eC : C = I + 2 := zg2
  have IC : @Ne Nat I C := by omega
  have ID : @Ne Nat I D := by omega
  have CD : @Ne Nat C D := by omega
  have low : ∀ b, @LT.lt Nat _ b I → (@Ne Nat b I) ∧ (@Ne Nat b C) ∧ (@Ne Nat b D) := fun b hb => ⟨Nat.ne_of_lt hb, by intro e; omega, by intro e; omega⟩
  have keep₁ : ∀ b o, b ≠ C → g2.get? b = some o → h₁.get? b = some o := fun b o hb e => sb₁.extBut b o hb (Heap.get?_push_of_some _ e)
  have old₁ : ∀ b o, hp.get? b = some o → h₁.get? b = some o := fun b o e => keep₁ b o (low b (hI ▸ Heap.lt_size e)).2.1 (up2 b o (upg b o e))
  have new₀ : ∀ b, @LE.le Nat _ I b → h₀.get? b = none := fun b hb => fresh_out F b (by rw [hI]; exact hb)
  have I0 : h₀.get? I = none := new₀ I (Nat.le_refl _)
  have D0 : h₀.get? D = none := new₀ D (by omega)
  have C0 : h₀.get? C = none := new₀ C (by omega)
  have hLI : @LT.lt Nat _ L I := hI ▸ F.ns.lt
  have IL := Ne.symm (low L hLI).1
  have CL := Ne.symm (low L hLI).2.1
  have DL := Ne.symm (low L hLI).2.2
  have offN : ∀ p ∈ news, (@Ne Nat p.1 I) ∧ (@Ne Nat p.1 C) ∧ (@Ne Nat p.1 D) := fun p hp' => low p.1 (hI ▸ Heap.lt_size (N p hp').1)
  have st₁ : h₁.IsListIter I ax 0 := ⟨_, keep₁ _ _ IC (up2 _ _ hI2), rfl, rfl⟩
  have li₁ : h₁.IsList ax its := S.list (fun b o e => old₁ b o (F.keep b o e)) (N.grown old₁)
  have W := Walks.list (prog := prog) (w := w) hh I ax (Nat.ne_of_lt (hI ▸ hax)) its
  have loop : ∀ s₃ : Shared, s₃ = ⟨h₁, gs, dr, tks + ([] : List (Str × Value)).length, osx⟩ → codeAny (model prog w) A (.compLoop (.ListComp elt [⟨.Name x px, iter, [], 0⟩] scope pos) 0 (.ref I) (.ref D) (compEnvC scope cl C env)) (compPost (model prog w) A E none Q (.ref D) C) s₃ := by
    rintro s₃ rfl
    refine codeAny_compLoop_tests
      (CInv T h₀ L m ⟨hp, gs, dr, tks, osx⟩ its ax I C D J) ?_ (its.size + 1)
      ⟨h₁, _, 0, [], _, news, rfl, hT, Nat.zero_le _, rfl, rfl, ⟨st₁, li₁⟩, F.keeps old₁, ns₁, fun p hp' => ?_, LCg.Off3.of offN, S, hJ⟩
    · rintro k s' ⟨h', tk, i, ys, m', nw, rfl, hTk, hi, rfl, hyl, st', F', nC, N', off', S', J'⟩
      have off3 := off'.mem
      refine wpAny_with (T := T) hTk ?_
      by_cases hlt : i < its.size
      · refine W.item i _ _ _ hlt st' fun v h₂ tk₂ hv st₂ k₂ hT2 => ?_
        have nC₂ : h₂.Ns C m' := nC.at' fun o e => k₂ _ o (by simpa using Ne.symm IC) e
        refine wpAny_assign_Name (wpAny_storeName_local (lookup_relabel_local hx) nC₂ (fun h₃ n₃ s₃ => ?_) (by simp [compEnvC, relabel, hkind]))
        refine wpAny_tests_nil ?_
        simp only [if_true]
        replace s₃ : Heap.SameBut C h₂ h₃ := s₃
        obtain ⟨oI, eI⟩ : ∃ oI, h₃.get? I = some oI := by
          obtain ⟨o, e, _⟩ := st₂.1
          exact ⟨o, s₃.extBut _ _ IC e⟩
        obtain ⟨oC, eC', hoC⟩ := LCg.ns_obj n₃
        have F₃ : Fr h₀ L h₃ m := (LCg.fr_but F' k₂ (Ne.symm IL) I0).change s₃ CL C0
        have N₂ : News h₀ L h₂ ((D, LCg.lst ys) :: nw) := LCg.news_but N' k₂ fun p hp' => by
          rcases List.mem_cons.mp hp' with rfl | hp'
          · exact Ne.symm ID
          · exact (off3 p hp').1
        have N₃ : News h₀ L h₃ ((I, oI) :: (C, oC) :: (D, LCg.lst ys) :: nw) := fun p hp' => by
          rcases List.mem_cons.mp hp' with rfl | hp'
          · exact ⟨eI, IL, I0⟩
          rcases List.mem_cons.mp hp' with rfl | hp'
          · exact ⟨eC', CL, C0⟩
          refine ⟨s₃.extBut _ _ ?_ (N₂ p hp').1, (N₂ p hp').2⟩
          rcases List.mem_cons.mp hp' with rfl | hp'
          · exact Ne.symm CD
          · exact (off3 p hp').2.1
        refine wpAny_with (T := T) (Nat.le_succ_of_le hT2) (wpAny_mono (turn i ys nw v I oI C oC D _ h₃ _ _ hlt hv (Nat.le_succ_of_le hT2) J' hoC (by simp) F₃ N₃ off' ⟨IC, ID, CD⟩) (fun y s₄ q₄ => ?_) fun _ _ e => e)
        obtain ⟨h₄, tk₄, nw₄, rfl, F₄, N₄, off₄, S₄, J₄⟩ := q₄
        intro hT4
        have N₄' : News h₀ L h₄ nw₄ := fun p hp' => N₄ p (.tail _ (.tail _ (.tail _ hp')))
        have st₄ : h₄.IsListIter I ax (i + 1) ∧ h₄.IsList ax its := by
          refine ⟨?_, S₄.list F₄.keep N₄'⟩
          obtain ⟨o, e, r⟩ := st₂.1
          have e3 := s₃.extBut _ _ IC e
          rw [eI] at e3
          cases e3
          exact ⟨oI, (N₄ _ (.head _)).1, r⟩
        refine append_at (hsz := by show ys.toArray.size ≤ sizeLine; rw [List.size_toArray, hyl]; exact Nat.le_trans hi hsz) (N₄ (D, LCg.lst ys) (.tail _ (.tail _ (.head _)))).1 fun h₅ s₅ hD₅ => ?_
        have off4 := off₄.mem
        have axD : ax ≠ D := by
          intro e
          obtain ⟨o, q1, q2, n, q3⟩ := hl
          exact absurd (hI ▸ Heap.lt_size q1 : @LT.lt Nat _ ax I) (by rw [e, eD]; exact Nat.not_lt.mpr (Nat.le_succ _))
        refine ⟨its.size + 1 - (i + 1), by omega, h₅, tk₄, i + 1, ys ++ [y], _, nw₄, rfl, hT4, hlt, rfl, by rw [List.length_append, List.length_singleton, hyl], ⟨?_, ?_⟩, F₄.change s₅ DL D0, (hoC.ns (N₄ _ (.tail _ (.head _))).1).sameBut s₅ CD, fun p hp' => ?_, off₄, S₄, J₄⟩
        · obtain ⟨o, e, r⟩ := st₄.1
          exact ⟨o, s₅.extBut _ _ ID e, r⟩
        · obtain ⟨o, e, r⟩ := st₄.2
          exact ⟨o, s₅.extBut _ _ axD e, r⟩
        · rcases List.mem_cons.mp hp' with rfl | hp'
          · exact ⟨hD₅.trans (congrArg some (LCg.lst_snoc ys y)), DL, D0⟩
          · exact ⟨s₅.extBut _ _ (off4 p hp').2.2 (N₄' p hp').1, (N₄' p hp').2⟩
      · obtain rfl : i = its.size := Nat.le_antisymm hi (Nat.not_lt.mp hlt)
        refine W.done _ _ _ st' fun h₂ tk₂ k₂ hT2 => ?_
        have F₂ := LCg.fr_but F' k₂ (Ne.symm IL) I0
        have N₂ : News h₀ L h₂ ((D, LCg.lst ys) :: nw) := LCg.news_but N' k₂ fun p hp' => by
          rcases List.mem_cons.mp hp' with rfl | hp'
          · exact Ne.symm ID
          · exact (off3 p hp').1
        refine ⟨m', nC.at' fun o e => k₂ _ o (by simpa using Ne.symm IC) e, fun h'' s'' => fin ys nw D h'' tk₂ J' hT2 (F₂.change s'' CL C0) (fun p hp' => ?_) off'.one⟩
        refine ⟨s''.extBut _ _ ?_ (N₂ p hp').1, (N₂ p hp').2⟩
        rcases List.mem_cons.mp hp' with rfl | hp'
        · exact Ne.symm CD
        · exact (off3 p hp').2.1
    · rcases List.mem_cons.mp hp' with rfl | hp'
      · exact ⟨keep₁ _ _ (Ne.symm CD) hD2, DL, D0⟩
      · exact ⟨old₁ _ _ (N p hp').1, (N p hp').2⟩
  exact codeAny_compStart_list (loop _ rfl) (W.self 0 _ _ _ ⟨st₁, li₁⟩ (loop _ rfl))
end Mine
end
section
open PySem PySem.W PySem.W.X PyProof.Rows
set_option Elab.async false
set_option maxRecDepth 100000
set_option maxHeartbeats 4000000
namespace Mine
mutual
theorem eqv_refl : ∀ d : PyData, d.canLay0 = true → PyData.eqv d d = true
  | .none, _ => by rw [PyData.eqv]
  | .bool b, _ => by rw [PyData.eqv]; exact beq_self_eq_true b
  | .int i, _ => by rw [PyData.eqv]; exact beq_self_eq_true i
  | .str x, _ => by rw [PyData.eqv]; exact beq_self_eq_true x
  | .list xs, h => by rw [PyData.eqv]; exact eqvAll_refl xs (by simpa [PyData.canLay0] using h)
  | .tuple xs, h => by rw [PyData.eqv]; exact eqvAll_refl xs (by simpa [PyData.canLay0] using h)
  | .dict _, h => by simp [PyData.canLay0] at h
theorem eqvAll_refl : ∀ ds : List PyData, PyData.canLayAll0 ds = true → PyData.eqvAll ds ds = true
  | [], _ => by rw [PyData.eqvAll]
  | d :: ds, h => by
    rw [PyData.canLayAll0, Bool.and_eq_true] at h
    rw [PyData.eqvAll, eqv_refl d h.1, eqvAll_refl ds h.2]
    rfl
end
theorem lay_all {ds : List PyData} (h : ∀ d ∈ ds, d.canLay0 = true ∧ d.depth ≤ 1) : PyData.canLayAll0 ds = true ∧ PyData.depthAll ds ≤ 1 := by
  induction ds with
  | nil => exact ⟨by rw [PyData.canLayAll0], by rw [PyData.depthAll]; omega⟩
  | cons d ds ih =>
    have h1 := h d (.head _)
    have h2 := ih fun e he => h e (.tail _ he)
    rw [PyData.canLayAll0, PyData.depthAll]
    exact ⟨by rw [h1.1, h2.1]; rfl, by omega⟩
section
variable {prog : Program} {w : World} {A : Around} {E : Value → Shared → Prop} {s : Shared} {h₀ : Heap} {L a b : Addr} {news : List (Addr × Obj)} {xs ys : List Value} {ka kb : Nat} {ds : List PyData} {Q : Value → Shared → Prop} {as bs : List Addr}
theorem shape_all (h : ∀ d ∈ ds, d.canLay0 = true ∧ d.depth ≤ 1) : SeqAt.shaped (.list ds) = true := by
  have z := lay_all h
  unfold SeqAt.shaped
  rw [show PyData.canLay0 (.list ds) = true by rw [PyData.canLay0]; exact z.1, Bool.true_and]
  exact decide_eq_true (by rw [PyData.depth]; omega)
theorem ne_same (N : News h₀ L s.heap news) (ma : (a, W.listOf xs.toArray ka) ∈ news) (mb : (b, W.listOf ys.toArray kb) ∈ news) (ra : ReadsAll s.heap xs ds as) (rb : ReadsAll s.heap ys ds bs) (h : ∀ d ∈ ds, d.canLay0 = true ∧ d.depth ≤ 1) (hu : A.units + 64 < cLine)
    (hq : Q (.bool false) s) : wpAny (model prog w) A (compareOp .NotEq (.ref a) (.ref b)) Q E s := by
  refine ne_dataH (reads_list_at (N _ ma).1 rfl rfl (by simpa using ra)) (reads_list_at (N _ mb).1 rfl rfl (by simpa using rb)) (shape_all h) (shape_all h) hu ?_
  rw [eqv_refl (.list ds) (by rw [PyData.canLay0]; exact (lay_all h).1)]
  exact hq
theorem eq_same (N : News h₀ L s.heap news) (ma : (a, W.listOf xs.toArray ka) ∈ news) (mb : (b, W.listOf ys.toArray kb) ∈ news) (ra : ReadsAll s.heap xs ds as) (rb : ReadsAll s.heap ys ds bs) (h : ∀ d ∈ ds, d.canLay0 = true ∧ d.depth ≤ 1) (hu : A.units + 64 < cLine)
    (hq : Q (.bool true) s) : wpAny (model prog w) A (compareOp .Eq (.ref a) (.ref b)) Q E s := by
  refine eq_dataH (reads_list_at (N _ ma).1 rfl rfl (by simpa using ra)) (reads_list_at (N _ mb).1 rfl rfl (by simpa using rb)) (shape_all h) (shape_all h) hu ?_
  rw [eqv_refl (.list ds) (by rw [PyData.canLay0]; exact (lay_all h).1)]
  exact hq
end
def txD (t : List Nat) : PyData := .str ⟨t.toArray⟩
theorem reads_rows (h : Heap) : ∀ rows : List (List Nat × Tok), ∃ as, ReadsAll h (rows.map strV) ((rows.map (·.1)).map txD) as
  | [] => ⟨_, .nil⟩
  | r :: rows => let ⟨as, q⟩ := reads_rows h rows; ⟨_, .cons (.str _ _) q⟩
theorem lay_tx {t : List Nat} (h : ∀ c ∈ t, c < 128) : (txD t).canLay0 = true ∧ (txD t).depth ≤ 1 := by
  unfold txD
  refine ⟨?_, by rw [PyData.depth]; omega⟩
  rw [PyData.canLay0]
  unfold PyData.strOk
  simp only [List.all_toArray, List.all_eq_true]
  intro c hc
  have := h c hc
  simp only [decide_eq_true_eq]
  omega
/-- the four words of a row, a tuple at an address -/
structure Cn where
  r : Nat
  w : Nat
  x : Nat
  s : Bool
structure Tp where
  a : Addr
  c : Cn
  t1 : Tok
  t2 : Tok
  t3 : Tok
def Tp.v (t : Tp) : Value := .ref t.a
def Tp.obj (t : Tp) : Obj := { cls := .type "tuple", data := .seq #[.int (t.c.r : Int) t.t1, .int (t.c.w : Int) t.t2, .int (t.c.x : Int) t.t3, .bool t.c.s] }
def Tp.p (t : Tp) : Addr × Obj := (t.a, t.obj)
def Cn.d (c : Cn) : PyData := .tuple [.int (c.r : Int), .int (c.w : Int), .int (c.x : Int), .bool c.s]
theorem reads_tps (h : Heap) : ∀ ts : List Tp, (∀ t ∈ ts, h.get? t.a = some t.obj) → ∃ as, ReadsAll h (ts.map Tp.v) ((ts.map (·.c)).map Cn.d) as
  | [], _ => ⟨_, .nil⟩
  | t :: ts, hm => let ⟨as, q⟩ := reads_tps h ts fun u hu => hm u (.tail _ hu); ⟨_, .cons (reads_tuple_at (hm t (.head _)) rfl rfl (.cons (.int _ _) (.cons (.int _ _) (.cons (.int _ _) (.cons (.bool _) .nil))))) q⟩
theorem lay_cn (c : Cn) : c.d.canLay0 = true ∧ c.d.depth ≤ 1 := by
  unfold Cn.d
  simp [PyData.canLay0, PyData.canLayAll0, PyData.depth, PyData.depthAll]
def plD (o : Option Nat) : PyData := match o with | some i => .int (i : Int) | none => .none
theorem lay_pl (o : Option Nat) : (plD o).canLay0 = true ∧ (plD o).depth ≤ 1 := by
  cases o <;> simp [plD, PyData.canLay0, PyData.depth]
theorem reads_pls (h : Heap) {vs : List Value} {ts : List (List Nat)} (hv : vs.length = ts.length) (hp : ∀ (i : Nat) v t, vs[i]? = some v → ts[i]? = some t → placeV ⟨t.toArray⟩ v) : ∃ as, ReadsAll h vs (ts.map fun t => plD (placeOf ⟨t.toArray⟩)) as := by
  induction vs generalizing ts with
  | nil => cases ts with
    | nil => exact ⟨_, .nil⟩
    | cons _ _ => simp at hv
  | cons v vs ih => cases ts with
    | nil => simp at hv
    | cons t ts =>
      obtain ⟨as, q⟩ := ih (ts := ts) (by simpa using hv) fun i v' t' h1 h2 => hp (i + 1) v' t' (by simpa using h1) (by simpa using h2)
      have z := hp 0 v t rfl rfl
      unfold placeV at z
      show ∃ as, ReadsAll h (v :: vs) (plD (placeOf ⟨t.toArray⟩) :: _) as
      cases e : placeOf ⟨t.toArray⟩ with
      | none =>
        rw [e] at z
        simp only at z
        rw [z]; exact ⟨_, .cons .none q⟩
      | some i =>
        rw [e] at z
        obtain ⟨tk, rfl⟩ := z
        exact ⟨_, .cons (.int _ _) q⟩
end Mine
end
section
open PySem PySem.W PySem.W.X PyProof.Rows
set_option Elab.async false
set_option maxRecDepth 100000
set_option maxHeartbeats 4000000
namespace Mine
theorem bits_nat (M : Nat) : bitsOf (M : Int) 12 = (List.range 12).map fun k => M.testBit k := by
  unfold bitsOf
  refine List.map_congr_left fun k _ => ?_
  have e : ((2 : Int) ^ k) = ((2 ^ k : Nat) : Int) := by simp
  rw [e, Int.fdiv_eq_ediv_of_nonneg _ (Int.natCast_nonneg _), Int.fmod_eq_emod_of_nonneg _ (by omega), Nat.testBit_eq_decide_div_mod_eq]
  have e2 : ((M : Int) / ((2 ^ k : Nat) : Int)) = ((M / 2 ^ k : Nat) : Int) := by simp
  rw [e2]
  have e3 : (((M / 2 ^ k : Nat) : Int) % 2) = ((M / 2 ^ k % 2 : Nat) : Int) := by simp
  rw [e3]
  rcases Nat.mod_two_eq_zero_or_one (M / 2 ^ k) with q | q <;> rw [q] <;> rfl
theorem bits_get (M k : Nat) (h : k < 12) : (bitsOf (M : Int) 12).getD k false = M.testBit k := by
  rw [bits_nat]
  simp [List.getD, h]
theorem and_nat (M e : Nat) : Builtin.bitAnd (M : Int) (e : Int) = ((M &&& e : Nat) : Int) := by
  rw [bitAnd_pp (by omega) (by omega)]; simp
theorem fit2 {i : Nat} (hi : i ≠ 0) (M j k : Nat) {a : Addr} {t t' : Tok} {c : Nat} : fits i (M : Int) ⟨a, ((2 ^ j ||| 2 ^ k : Nat) : Int), t, c, t'⟩ = (M.testBit j && M.testBit k) := by
  unfold fits
  rw [if_neg hi]
  dsimp only
  rw [and_nat]
  have key : (M &&& (2 ^ j ||| 2 ^ k) = 2 ^ j ||| 2 ^ k) ↔ (M.testBit j = true ∧ M.testBit k = true) := by
    constructor
    · intro h
      have h1 := congrArg (fun x => x.testBit j) h
      have h2 := congrArg (fun x => x.testBit k) h
      simp only [Nat.testBit_and, Nat.testBit_or, Nat.testBit_two_pow_self, Bool.true_or, Bool.or_true, Bool.and_true] at h1 h2
      exact ⟨h1, h2⟩
    · rintro ⟨h1, h2⟩
      apply Nat.eq_of_testBit_eq
      intro q
      simp only [Nat.testBit_and, Nat.testBit_or, Nat.testBit_two_pow]
      by_cases e1 : j = q
      · subst e1; simp [h1]
      · by_cases e2 : k = q
        · subst e2; simp [h2]
        · simp [e1, e2]
  rw [Bool.eq_iff_iff]
  simp only [beq_iff_eq, Bool.and_eq_true]
  rw [← key]
  constructor
  · intro h; exact Int.ofNat_inj.mp h
  · intro h; rw [h]
theorem fit1 {i : Nat} (hi : i ≠ 0) (M k : Nat) {a : Addr} {t t' : Tok} {c : Nat} : fits i (M : Int) ⟨a, ((2 ^ k : Nat) : Int), t, c, t'⟩ = M.testBit k := by
  have := fit2 (a := a) (t := t) (t' := t') (c := c) hi M k k
  rwa [Nat.or_self, Bool.and_self] at this
theorem sign1 {i : Nat} (hi : i ≠ 0) (M k : Nat) {a : Addr} {t t' : Tok} {c : Nat} : sign i (M : Int) [⟨a, ((2 ^ k : Nat) : Int), t, c, t'⟩] = if M.testBit k = true then c else 45 := by
  unfold sign
  rw [List.find?_cons, fit1 hi]
  cases M.testBit k <;> simp [hi]
theorem sign3 {i : Nat} (hi : i ≠ 0) (M j k : Nat) {a1 a2 a3 : Addr} {t1 t2 t3 u1 u2 u3 : Tok} {c1 c2 c3 : Nat} :
    sign i (M : Int) [⟨a1, ((2 ^ j ||| 2 ^ k : Nat) : Int), t1, c1, u1⟩, ⟨a2, ((2 ^ j : Nat) : Int), t2, c2, u2⟩, ⟨a3, ((2 ^ k : Nat) : Int), t3, c3, u3⟩] = if M.testBit j = true then (if M.testBit k = true then c1 else c2) else (if M.testBit k = true then c3 else 45) := by
  unfold sign
  rw [List.find?_cons, fit2 hi M j k, List.find?_cons, fit1 hi, List.find?_cons, fit1 hi]
  cases M.testBit j <;> cases M.testBit k <;> simp [hi]
theorem sign0 {M w : Nat} (hw : w < 3) (hK : M &&& 61440 = [32768, 16384, 40960].getD w 0) : sign 0 (M : Int) (row 0) = kindCh w := by
  have e : Builtin.bitAnd (M : Int) 61440 = (([32768, 16384, 40960].getD w 0 : Nat) : Int) := by
    have := and_nat M 61440
    rw [hK] at this
    exact this
  unfold sign fits
  simp only [if_true]
  rw [e]
  rcases w with _ | _ | _ | w
  · rfl
  · rfl
  · rfl
  · omega
theorem signs_nat {M w : Nat} (hw : w < 3) (hK : M &&& 61440 = [32768, 16384, 40960].getD w 0) : signsTo (M : Int) 10 = kindCh w :: sgs (fun i => M.testBit i) 3 := by
  show [sign 0 (M : Int) (row 0), sign 1 (M : Int) (row 1), sign 2 (M : Int) (row 2), sign 3 (M : Int) (row 3), sign 4 (M : Int) (row 4), sign 5 (M : Int) (row 5), sign 6 (M : Int) (row 6), sign 7 (M : Int) (row 7), sign 8 (M : Int) (row 8), sign 9 (M : Int) (row 9)] = _
  rw [sign0 hw hK]
  rw [show sign 1 (M : Int) (row 1) = _ from sign1 (by decide) M 8, show sign 2 (M : Int) (row 2) = _ from sign1 (by decide) M 7, show sign 3 (M : Int) (row 3) = _ from sign3 (by decide) M 11 6,
    show sign 4 (M : Int) (row 4) = _ from sign1 (by decide) M 5, show sign 5 (M : Int) (row 5) = _ from sign1 (by decide) M 4, show sign 6 (M : Int) (row 6) = _ from sign3 (by decide) M 10 3,
    show sign 7 (M : Int) (row 7) = _ from sign1 (by decide) M 2, show sign 8 (M : Int) (row 8) = _ from sign1 (by decide) M 1, show sign 9 (M : Int) (row 9) = _ from sign3 (by decide) M 9 0]
  rfl
end Mine
end
section
open PySem PySem.W PySem.W.X PyProof.Rows
set_option Elab.async false
set_option maxRecDepth 100000
set_option maxHeartbeats 4000000
namespace Mine
theorem half_add {a b c : Nat} (h : a / 2 + b / 2 = c / 2) (g : a % 2 + b % 2 = c % 2) : a + b = c := by
  rw [← Nat.div_add_mod a 2, ← Nat.div_add_mod b 2, ← Nat.div_add_mod c 2, ← h, ← g, Nat.mul_add]
  exact Nat.add_add_add_comm _ _ _ _
theorem xor_and_add (M : Nat) : ∀ X : Nat, (M ^^^ X) + (M &&& X) = M ||| X := by
  induction M using Nat.strongRecOn with
  | _ M ih =>
    intro X
    by_cases h : M = 0
    · subst h; simp
    · have ih' := ih (M / 2) (Nat.div_lt_self (Nat.pos_of_ne_zero h) (by decide)) (X / 2)
      rw [← Nat.xor_div_two, ← Nat.and_div_two, ← Nat.or_div_two] at ih'
      refine half_add ih' ?_
      have m1 := @Nat.xor_mod_two_pow M X 1
      have m2 := @Nat.and_mod_two_pow M X 1
      have m3 := @Nat.or_mod_two_pow M X 1
      rw [Nat.pow_one] at m1 m2 m3
      rw [m1, m2, m3]
      rcases Nat.mod_two_eq_zero_or_one M with a | a <;> rcases Nat.mod_two_eq_zero_or_one X with b | b <;> rw [a, b] <;> rfl
theorem or_nat (M X : Nat) : Builtin.bitOr (M : Int) (X : Int) = ((M ||| X : Nat) : Int) := by
  rw [bitOr_and, and_nat]
  have h := xor_and_add M X
  have h2 : (M ||| X) + (M &&& X) = M + X := by
    have := bitOr_and (M : Int) (X : Int)
    unfold Builtin.bitOr at this
    rw [bitAnd_nn (by unfold Builtin.bitNot; omega) (by unfold Builtin.bitNot; omega), and_nat] at this
    have e : ∀ Y : Nat, (Builtin.bitNot (Builtin.bitNot (Y : Int))).toNat = Y := fun Y => by unfold Builtin.bitNot; omega
    rw [e, e] at this
    unfold Builtin.bitNot at this
    omega
  omega
theorem xor_nat (M X : Nat) : Builtin.bitXor (M : Int) (X : Int) = ((M ^^^ X : Nat) : Int) := by
  show Builtin.bitOr _ _ - Builtin.bitAnd _ _ = _
  rw [or_nat, and_nat]
  have := xor_and_add M X
  omega
def chgN (M : Nat) (d : Int) (X : Nat) : Nat := if d = 0 then M ||| X else if d = 1 then M ^^^ (M &&& X) else if d = 2 then M ^^^ X else (M &&& 61440) ||| X
theorem chg_nat (M : Nat) (d : Int) (X : Nat) : chg (M : Int) d (X : Int) = ((chgN M d X : Nat) : Int) := by
  unfold chg chgN
  split
  · exact or_nat M X
  split
  · rw [bitAnd_not, and_nat]
    have h := xor_and_add M (M &&& X)
    have e1 : M &&& (M &&& X) = M &&& X := by rw [← Nat.and_assoc, Nat.and_self]
    have e2 : M ||| (M &&& X) = M := by
      apply Nat.eq_of_testBit_eq
      intro i
      simp only [Nat.testBit_or, Nat.testBit_and]
      cases M.testBit i <;> simp
    rw [e1, e2] at h
    omega
  split
  · exact xor_nat M X
  · have := and_nat M 61440
    rw [show Builtin.bitAnd (M : Int) 61440 = ((M &&& 61440 : Nat) : Int) from this]
    exact or_nat _ X
theorem b61440 (k : Nat) : Nat.testBit 61440 k = (decide (12 ≤ k) && decide (k < 16)) := by
  by_cases h : k < 16
  · have e : ∀ k : Fin 16, Nat.testBit 61440 k.1 = (decide (12 ≤ k.1) && decide (k.1 < 16)) := by decide
    exact e ⟨k, h⟩
  · rw [Nat.testBit_lt_two_pow (Nat.lt_of_lt_of_le (show 61440 < 2 ^ 16 by decide) (Nat.pow_le_pow_right (by decide) (Nat.le_of_not_lt h))), decide_eq_false h, Bool.and_false]
theorem chg_bit (M X : Nat) (d : Int) (k : Nat) (hk : k < 12) : (chgN M d X).testBit k = pick d (M.testBit k) (X.testBit k) := by
  unfold chgN pick
  split
  · simp [Nat.testBit_or]
  split
  · simp only [Nat.testBit_xor, Nat.testBit_and]
    cases M.testBit k <;> cases X.testBit k <;> rfl
  split
  · simp only [Nat.testBit_xor]
  · simp only [Nat.testBit_or, Nat.testBit_and, b61440]
    have : decide (12 ≤ k) = false := by simp; omega
    rw [this]; simp
theorem chg_high {M X : Nat} {d : Int} (hX : X < 4096) : chgN M d X &&& 61440 = M &&& 61440 := by
  apply Nat.eq_of_testBit_eq
  intro k
  simp only [Nat.testBit_and, b61440]
  by_cases hk : 12 ≤ k
  · have hx : X.testBit k = false := Nat.testBit_lt_two_pow (Nat.lt_of_lt_of_le hX (show 2 ^ 12 ≤ 2 ^ k from Nat.pow_le_pow_right (by decide) hk))
    unfold chgN
    split
    · simp [Nat.testBit_or, hx]
    split
    · simp [Nat.testBit_xor, Nat.testBit_and, hx]
    split
    · simp [Nat.testBit_xor, hx]
    · simp only [Nat.testBit_or, Nat.testBit_and, b61440, hx]
      cases M.testBit k <;> simp
  · have : decide (12 ≤ k) = false := by simp; omega
    rw [this]; simp
theorem chg_bits (M X : Nat) (d : Int) : bitsOf (chg (M : Int) d (X : Int)) 12 = newB (bitsOf (M : Int) 12) (bitsOf (X : Int) 12) d := by
  rw [chg_nat, bits_nat]
  unfold newB
  refine List.map_congr_left fun k hk => ?_
  have hk' := List.mem_range.mp hk
  rw [bits_get M k hk', bits_get X k hk', chg_bit M X d k hk']
end Mine
end
section
open PySem PySem.W PySem.W.X PyProof.Rows
set_option Elab.async false
set_option maxRecDepth 100000
set_option maxHeartbeats 4000000
namespace Mine
def OdM (o : Od) : Prop := ∃ x : Int, Od.of x o
theorem mask_cases (x : Int) : maskOf x ∈ [448, 56, 7, 292, 146, 73, 3584, 1032] := by
  unfold maskOf
  have h1 : (0 : Int) ≤ (x.fdiv 12).fmod 8 := Int.fmod_nonneg_of_pos _ (by decide)
  have h2 : (x.fdiv 12).fmod 8 < 8 := Int.fmod_lt_of_pos _ (by decide)
  generalize (x.fdiv 12).fmod 8 = k at h1 h2
  obtain ⟨n, rfl⟩ : ∃ n : Nat, k = (n : Int) := ⟨k.toNat, by omega⟩
  have h3 : n < 8 := by omega
  rw [Int.toNat_natCast]
  rcases n with _ | _ | _ | _ | _ | _ | _ | _ | n
  all_goals first | decide | omega
theorem OdM.ok {o : Od} (h : OdM o) : OdOK o := by
  obtain ⟨x, h1, h2, h3, h4⟩ := h
  have m1 : ∀ (a b : Int), 0 < b → 0 ≤ a.fmod b := fun a b hb => Int.fmod_nonneg_of_pos a hb
  have m2 : ∀ (a b : Int), 0 < b → a.fmod b < b := fun a b hb => Int.fmod_lt_of_pos a hb
  refine ⟨by rw [h1]; exact m1 _ _ (by decide), by rw [h2]; exact m1 _ _ (by decide), by rw [h2]; exact m2 _ _ (by decide), by rw [h3]; exact m1 _ _ (by decide), by rw [h3]; exact m2 _ _ (by decide), ?_⟩
  rw [h4]
  have := mask_cases x
  simp only [List.mem_cons, List.not_mem_nil, or_false] at this
  omega
theorem rows_len (os : List Od) (ks : List Nat) : (runR os ks).2.length = ks.length := by
  have key : ∀ (ks : List Nat) (st : List Int × List (List Nat)), (ks.foldl (stepR os) st).2.length = st.2.length + ks.length := by
    intro ks
    induction ks with
    | nil => intro st; rfl
    | cons k ks ih => intro st; rw [List.foldl_cons, ih]; simp [stepR]; omega
  have := key ks ([33184, 17385, 44543], [])
  simpa [runR] using this
theorem mask_nat {o : Od} (h : OdM o) : ∃ X : Nat, o.m = (X : Int) ∧ X < 4096 := by
  obtain ⟨x, _, _, _, h4⟩ := h
  have := mask_cases x
  rw [← h4] at this
  simp only [List.mem_cons, List.not_mem_nil, or_false] at this
  exact ⟨o.m.toNat, by omega, by omega⟩
def kinds : List Nat := [32768, 16384, 40960]
/-- what holds between the two readings -/
structure Both (st : List Int × List (List Nat)) (ht : List (List Bool) × List (List Nat)) (Ms : List Nat) : Prop where
  ms : st.1 = Ms.map fun N : Nat => (N : Int)
  len : Ms.length = 3
  kind : ∀ (w M : Nat), Ms[w]? = some M → M &&& 61440 = kinds.getD w 0
  hs : ht.1 = st.1.map (bitsOf · 12)
  rows : ht.2 = st.2
  asc : ∀ t ∈ st.2, t.length ≤ 12 ∧ ∀ c ∈ t, c < 128
theorem sgs_small (b : Nat → Bool) : (sgs b 3).length = 9 ∧ ∀ c ∈ sgs b 3, c < 128 := by
  refine ⟨rfl, ?_⟩
  intro c hc
  simp only [sgs, sg3, List.mem_append, List.mem_cons, List.not_mem_nil, or_false] at hc
  rcases hc with ((h | h | h) | (h | h | h)) | (h | h | h) <;> rw [h] <;> (repeat' split) <;> decide
theorem row_both {w M : Nat} (hw : w < 3) (hK : M &&& 61440 = kinds.getD w 0) : signsTo (M : Int) 10 ++ [32, 97 + w] = [kindCh w] ++ sgs (fun i => (bitsOf (M : Int) 12).getD i false) 3 ++ [32, 97 + w] := by
  have e : sgs (fun i => (bitsOf (M : Int) 12).getD i false) 3 = sgs (fun i => M.testBit i) 3 := by
    simp only [sgs, sg3]
    simp only [bits_get M 0 (by decide), bits_get M 1 (by decide), bits_get M 2 (by decide), bits_get M 3 (by decide), bits_get M 4 (by decide), bits_get M 5 (by decide), bits_get M 6 (by decide), bits_get M 7 (by decide), bits_get M 8 (by decide), bits_get M 9 (by decide), bits_get M 10 (by decide), bits_get M 11 (by decide), Nat.reduceSub]
  rw [e, signs_nat hw hK]
  rfl
theorem both_step {os : List Od} (hok : ∀ o ∈ os, OdM o) {st : List Int × List (List Nat)} {ht : List (List Bool) × List (List Nat)} {Ms : List Nat} (B : Both st ht Ms) {k : Nat} (hk : k < os.length) : ∃ Ms', Both (stepR os st k) (stepT os ht k) Ms' := by
  obtain ⟨o, ho⟩ : ∃ o, os[k]? = some o := ⟨os[k], by simp [hk]⟩
  have hom := hok o (List.mem_of_getElem? ho)
  obtain ⟨k1, k2, k3, k4, k5, k6⟩ := hom.ok
  obtain ⟨X, hX, hX4⟩ := mask_nat hom
  obtain ⟨w, hw⟩ : ∃ w : Nat, o.w = (w : Int) := ⟨o.w.toNat, by omega⟩
  have hw3 : w < 3 := by omega
  have e2 : o.w.toNat = w := by omega
  obtain ⟨M, hM⟩ : ∃ M, Ms[w]? = some M := ⟨Ms[w]'(by rw [B.len]; exact hw3), by simp [B.len, hw3]⟩
  have hMs : w < Ms.length := by rw [B.len]; exact hw3
  have em : st.1.getD w 0 = (M : Int) := by rw [B.ms]; simp [hM]
  have eh : ht.1.getD w [] = bitsOf (M : Int) 12 := by rw [B.hs, B.ms]; simp [hM]
  have sM : stepM os st.1 k = (Ms.set w (chgN M o.d X)).map fun N : Nat => (N : Int) := by
    unfold stepM
    rw [ho]
    dsimp only
    rw [e2, em, hX, chg_nat, B.ms, List.map_set]
  have sH : stepH os ht.1 k = (stepM os st.1 k).map (bitsOf · 12) := by
    unfold stepH stepM
    rw [ho]
    dsimp only
    rw [e2, em, eh, hX, ← chg_bits, B.hs, List.map_set]
  have hkind : ∀ (v N : Nat), (Ms.set w (chgN M o.d X))[v]? = some N → N &&& 61440 = kinds.getD v 0 := fun v N hv => by
    by_cases q : w = v
    · subst q
      rw [List.getElem?_set_self hMs] at hv
      cases hv
      rw [chg_high hX4]
      exact B.kind w M hM
    · rw [List.getElem?_set_ne q] at hv
      exact B.kind v N hv
  have ew : wOf os k = w := by unfold wOf; rw [ho]; exact e2
  have er : rowTx (stepM os st.1 k) w = rowTT (stepH os ht.1 k) w := by
    have g1 : (stepM os st.1 k).getD w 0 = ((chgN M o.d X : Nat) : Int) := by rw [sM]; simp [hMs]
    have g2 : (stepH os ht.1 k).getD w [] = bitsOf ((chgN M o.d X : Nat) : Int) 12 := by rw [sH, sM]; simp [hMs]
    unfold rowTx rowTT
    rw [g1, g2]
    exact row_both hw3 (hkind w _ (List.getElem?_set_self hMs))
  refine ⟨Ms.set w (chgN M o.d X), ⟨sM, by rw [List.length_set, B.len], hkind, sH, ?_, ?_⟩⟩
  · unfold stepT stepR
    dsimp only
    rw [B.rows, ew, er]
  · unfold stepR
    dsimp only
    intro t ht'
    rcases List.mem_append.mp ht' with q | q
    · exact B.asc t q
    · rw [List.mem_singleton.mp q, ew, er]
      unfold rowTT
      have z := sgs_small (fun i => ((stepH os ht.1 k).getD w []).getD i false)
      refine ⟨by rw [List.length_append, List.length_append, z.1]; exact Nat.le_refl 12, ?_⟩
      intro c hc
      simp only [List.mem_append, List.mem_cons, List.not_mem_nil, or_false] at hc
      rcases hc with (hc | hc) | (hc | hc)
      · rw [hc]
        rcases w with _ | _ | _ | w
        · decide
        · decide
        · decide
        · omega
      · exact z.2 c hc
      · omega
      · omega
theorem both_run {os : List Od} (hok : ∀ o ∈ os, OdM o) : ∀ (ks : List Nat), (∀ k ∈ ks, k < os.length) → ∃ Ms, Both (runR os ks) (runT os ks) Ms := by
  have key : ∀ (ks : List Nat) (st : List Int × List (List Nat)) (ht : List (List Bool) × List (List Nat)) (Ms : List Nat), (∀ k ∈ ks, k < os.length) → Both st ht Ms → ∃ Ms', Both (ks.foldl (stepR os) st) (ks.foldl (stepT os) ht) Ms' := by
    intro ks
    induction ks with
    | nil => intro st ht Ms _ B; exact ⟨Ms, B⟩
    | cons k ks ih =>
      intro st ht Ms hk B
      obtain ⟨Ms', B'⟩ := both_step hok B (hk k (.head _))
      exact ih _ _ Ms' (fun j hj => hk j (.tail _ hj)) B'
  intro ks hk
  refine key ks _ _ [33184, 17385, 44543] hk ⟨rfl, rfl, ?_, rfl, rfl, (fun _ h => nomatch h)⟩
  intro w M h
  rcases w with _ | _ | _ | w
  · cases h; decide
  · cases h; decide
  · cases h; decide
  · simp at h
theorem rows_same {os : List Od} (hok : ∀ o ∈ os, OdM o) {ks : List Nat} (h : InOrder os ks) : (runT os ks).2 = (runR os ks).2 := by
  obtain ⟨Ms, B⟩ := both_run hok ks fun k hk => List.mem_range.mp (h.1.mem_iff.mp hk)
  exact B.rows
theorem rows_ascii {os : List Od} (hok : ∀ o ∈ os, OdM o) {ks : List Nat} (h : InOrder os ks) : ∀ t ∈ (runR os ks).2, t.length ≤ 12 ∧ ∀ c ∈ t, c < 128 := by
  obtain ⟨Ms, B⟩ := both_run hok ks fun k hk => List.mem_range.mp (h.1.mem_iff.mp hk)
  exact B.asc
end Mine
end
section
open PySem PySem.W PySem.W.X PyProof.Rows
set_option Elab.async false
set_option maxRecDepth 100000
set_option maxHeartbeats 4000000
namespace Mine
theorem cnt_countP (c : Nat) : ∀ l : List Nat, PyProof.Rows.cnt c l = ((l.countP (· == c) : Nat) : Int)
  | [] => rfl
  | n :: l => by
    rw [PyProof.Rows.cnt_cons, cnt_countP c l, List.countP_cons]
    by_cases e : n = c
    · simp [e]; omega
    · simp [e]
theorem count_tx (t : List Nat) (c : Nat) : Txt.count ⟨t.toArray⟩ (one c) = ((t.countP (· == c) : Nat) : Int) := by
  have := count_cnt ⟨t.toArray⟩ c
  rw [cnt_countP] at this
  exact this
theorem place_occ (x : Str) : (∃ i rest, placeOf x = some i ∧ Builtin.Str.occurrences x (one 45) 0 x.length 1 = i :: rest) ∨ (placeOf x = none ∧ Builtin.Str.occurrences x (one 45) 0 x.length 1 = []) := by
  have at1 : ∀ k, StrLaws.At x (one 45) x.length k ↔ x.cps[k]? = some 45 := fun k => by
    rw [← Array.getElem?_toList]; exact StrLaws.subAt_one x 45 k
  rw [StrLaws.occ_eq]
  rcases StrLaws.occ_first x (one 45) x.length 1 (Nat.le_refl _) (List.range' 0 (x.length + 1 - 0)) 0 (fun i _ => Nat.zero_le _) with ⟨h0, hn⟩ | ⟨pre, a, post, e, h0, ha, hn⟩
  · refine .inr ⟨place_none fun k hk hc => ?_, by rw [h0]⟩
    have hk' : k < x.length := hk
    exact hn k (by simp [List.mem_range']; omega) ((at1 k).mpr hc)
  · have hpl : placeOf x = some a := place_at ((at1 a).mp ha) fun k hk hc => hn k (StrLaws.range'_split e k hk) ((at1 k).mpr hc)
    rw [← Array.getElem?_toList] at h0
    generalize (forIn (List.range' 0 (x.length + 1 - 0)) ((#[] : Array Nat), 0) (StrLaws.occBody x (one 45) x.length 1)).run.fst.toList = l at h0
    cases l with
    | nil => cases h0
    | cons b r =>
      cases h0
      exact .inl ⟨a, r, hpl, rfl⟩
theorem place_no {x : Str} (h : (Builtin.Str.occurrences x (one 45) 0 x.length 1).isEmpty = true) : placeV x .none := by
  unfold placeV
  rcases place_occ x with ⟨i, r, h1, h2⟩ | ⟨h1, h2⟩
  · rw [h2] at h; cases h
  · rw [h1]
theorem place_yes {x : Str} {t : Tok} (h : (Builtin.Str.occurrences x (one 45) 0 x.length 1).isEmpty = false) : placeV x (.int (Txt.find x (one 45)) t) := by
  unfold placeV
  rcases place_occ x with ⟨i, r, h1, h2⟩ | ⟨h1, h2⟩
  · rw [h1]
    refine ⟨t, ?_⟩
    unfold Txt.find
    rw [h2]
  · rw [h2] at h; cases h
end Mine
end
theorem Mine.offM15 : True := by w_top off; trivial
section
open PySem PySem.W PySem.W.X PyProof.Rows
set_option Elab.async false
set_option maxRecDepth 100000
set_option maxHeartbeats 8000000
namespace Mine
def cntOf (t : List Nat) : Cn := ⟨t.countP (· == 114), t.countP (· == 119), t.countP (· == 120), !(Builtin.Str.occurrences ⟨t.toArray⟩ (Str.ofString "s") 0 (⟨t.toArray⟩ : Str).length 1).isEmpty⟩
theorem place_callU (w : World) (mean : ExcName → Option Value) (mg mb : Str → Option Value)
  (un : Nat) (gd : Option (List Code)) (cn : Str) (cs : Scope) (a : Addr) (ccd : Value) (A₀ : Around) (base h₀ : Heap) (L : Addr) (m : Str → Option Value) (s : Shared) (Q E : Value → Shared → Prop)
  (x : Str) (tx : Tok) (news : List (Addr × Obj))
  (B : Below A₀ base [] h₀) (XB : (hd.heap_39 w.params).In base) (TB : TopAt mean mg mb base) (F : Fr h₀ L s.heap m) (X : (hd.heap_39 w.params).In h₀) (N : News h₀ L s.heap news) (T : TopAt mean mg mb h₀) (hk : cs.kind = .function)
  (hasc : x.cps.all (· < 128) = true) (hx : x.cps.size < 1000) (hpos : 0 < s.toks) (hun : un ≤ 20)
  (ret : ∀ v h' tk', placeV x v → Fr h₀ L h' m → News h₀ L h' news → Q v { s with heap := h', toks := tk' }) :
  wpAny (model Challenge.rw_of0033_01.row.prog w) (ktrTop 302 un gd cn cs L a ccd [] []) (call (.ref 219) [.str x tx]) Q E s :=
  wpAny_units_le (A := ktrTop 302 20 gd cn cs L a ccd [] []) (place_call w mean mg mb gd cn cs a ccd A₀ base h₀ L m s Q E x tx news B XB TB F X N T hk hasc hx hpos ret) hun
theorem ints_pairs {vs : List Value} {ns : List Int} (h : IntsAre vs ns) : ∃ xs : List (Int × Tok), vs = xs.map (fun x => Value.int x.1 x.2) ∧ xs.map (·.1) = ns := by
  induction h with
  | nil => exact ⟨[], rfl, rfl⟩
  | cons n t _ ih =>
    obtain ⟨xs, e1, e2⟩ := ih
    exact ⟨(n, t) :: xs, by rw [e1]; rfl, by rw [← e2]; rfl⟩
section
local macro_rules | `(tactic| walk_at "execs cons") => `(tactic| refine wpAny_execs_cons ?_)
local macro_rules | `(tactic| walk_at "execs nil") => `(tactic| refine wpAny_execs_nil ?_)
local macro_rules | `(tactic| walk_at "eval ListComp") => `(tactic| refine Stop.out ?_)
local macro_rules | `(tactic| walk_at "SrcT") => `(tactic| refine Stop.out ?_)
local macro_rules | `(tactic| walk_at "CompEnd") => `(tactic| refine Stop.out ?_)
local macro_rules | `(tactic| walk_at "call ref") => `(tactic| ((rename Mark => kM9); refine Stop.out ?_))
local macro_rules | `(tactic| walk_at "newTuple") => `(tactic| refine Stop.out ?_)
local macro_rules | `(tactic| walk_at "compareOp NotEq ref ref") => `(tactic| refine Stop.out ?_)
local macro_rules | `(tactic| walk_at "compareOp Eq ref ref") => `(tactic| refine Stop.out ?_)
theorem law_holds : Challenge.rw_of0033_01.Holds := hd (by
  have mk : Mark := trivial
  k_go0
  (all_goals try k_fold)
  k_steps
  unfold Stop
  rename Below _ _ _ _ => B1
  rename Frag.In _ _ => X1
  rename Top _ _ _ _ _ _ => T1
  rename Fr _ _ _ _ => F1
  rename News _ _ _ _ => N1
  rename IntsAre _ ([289, 53, 106, 15, 200] ++ _) => hI1
  obtain ⟨xs, rfl, hxs⟩ := ints_pairs hI1
  rename List Int => ws
  have hxl : xs.length ≤ 11 ∧ 5 ≤ xs.length := by
    have := congrArg List.length hxs
    simp only [List.length_map, List.length_append, List.length_take, List.length_cons, List.length_nil] at this
    omega
  refine wpAny_with (T := 1) (by dsimp only; omega) ?_
  k_dflt refine orders_call _ _ _ _ _ _ _ _ _ _ _ _ _ _ _ _ _ _ _ _ _ _ xs 0 _ (by omega) B1 F1 X1 N1 (.head _) T1 rfl (by ktr_room) (by ktr_units) ?_
  intro po h2 tk2 k2 os hos1 hos2 hpo1 hpo2 F2 N2 hT2
  dsimp only at hT2
  have hodm : ∀ o ∈ os, OdM o := fun o ho => by
    obtain ⟨i, hi⟩ := List.getElem?_of_mem ho
    have hil : i < xs.length := by
      have := (List.getElem?_eq_some_iff.mp hi).1
      omega
    exact ⟨_, hos2 i xs[i] o (by simp [hil]) hi⟩
  obtain ⟨more, hmo, N2⟩ : ∃ more : List (Addr × Obj), (∀ o ∈ os, (o.a, o.obj) ∈ more) ∧ News _ _ h2 ((po, W.listOf (os.map Od.v).toArray k2) :: more) := ⟨_, fun o ho => List.mem_append_left _ (List.mem_map.mpr ⟨o, ho, rfl⟩), N2⟩
  clear F1 N1 hpo1 hpo2 hos2
  k_steps
  unfold Stop
  rename Fr _ _ _ _ => F3
  rename News _ _ _ _ => N3
  refine wpAny_with (T := 1) (by dsimp only; omega) ?_
  k_dflt refine done_call _ _ _ _ _ _ _ _ _ _ _ _ _ _ _ _ _ _ _ po os k2 _ (by omega) (fun o ho => (hodm o ho).ok) B1 F3 X1 N3 (.head _) (fun o ho => .tail _ (hmo o ho)) T1 rfl ?_
  intro pd h4 tk4 k4 rows1 ks1 hks1 hrows1 hpd F4 N4 hT4
  dsimp only at hT4
  clear F3 N3
  k_steps
  unfold Stop
  rename Fr _ _ _ _ => F5
  rename News _ _ _ _ => N5
  refine wpAny_with (T := 1) (by dsimp only; omega) ?_
  k_dflt refine told_call _ _ _ _ _ _ _ _ _ _ _ _ _ _ _ _ _ _ _ po os k2 _ (by omega) (by omega) (fun o ho => (hodm o ho).ok) B1 F5 X1 N5 (.tail _ (.head _)) (fun o ho => .tail _ (.tail _ (hmo o ho))) T1 rfl ?_
  intro pt h6 tk6 k6 rows2 ks2 hks2 hrows2 hpt F6 N6 hT6
  dsimp only at hT6
  clear F5 N5
  have hkk : ks2 = ks1 := order_unique hks2 hks1
  subst hkk
  rw [rows_same hodm hks1] at hrows2
  have hasc := rows_ascii hodm hks1
  have hl11 : (runR os ks2).2.length ≤ 11 := by
    rw [rows_len]
    have := hks1.1.length_eq
    rw [List.length_range] at this
    omega
  generalize (runR os ks2).2 = texts at hrows1 hrows2 hasc hl11
  have hr1l : rows1.length ≤ 11 := by rw [← List.length_map (f := (·.1)), hrows1]; exact hl11
  have hr2l : rows2.length ≤ 11 := by rw [← List.length_map (f := (·.1)), hrows2]; exact hl11
  clear hpd hpt
  k_steps
  unfold Stop
  rename News _ _ _ _ => N7
  obtain ⟨as1, ra1⟩ := reads_rows _ rows1
  obtain ⟨as2, ra2⟩ := reads_rows _ rows2
  rw [hrows1] at ra1
  rw [hrows2] at ra2
  have hlay : ∀ d ∈ texts.map txD, d.canLay0 = true ∧ d.depth ≤ 1 := fun d hd => by
    obtain ⟨t, ht, rfl⟩ := List.mem_map.mp hd
    exact lay_tx (hasc t ht).2
  refine ne_same N7 (.tail _ (.head _)) (.head _) ra1 ra2 hlay (by ktr_units) ?_
  clear ra1 ra2 hlay
  k_steps
  unfold Stop
  rename Fr _ _ _ _ => F8
  k_dflt (refine comp_T 1 F8 (by with_unfolding_all rfl) (by decide) (by rfl) (by decide) (by rfl) ?_)
  k_steps
  unfold Stop
  rename Fr _ _ _ _ => F9
  rename News _ _ _ _ => N9
  refine ⟨pd, (rows1.map strV).toArray, _, fun i ys nw => ∃ ts : List Tp, ys = ts.map Tp.v ∧ ts.map (·.c) = (texts.take i).map cntOf ∧ nw = _ :: _ :: _ :: (ts.reverse.map Tp.p ++ more), rfl, rfl, F9, N9, (by dsimp only; omega), (by rw [sizeLine_eq]; simp; omega), .inr ⟨_, .tail _ (.head _), rfl, k4, rfl⟩, ⟨[], rfl, rfl, rfl⟩, ?_, ?_⟩
  · rintro i ys nw v I oI C oC D m2 h10 tk10 E10 hi hv hT10 ⟨ts, hy, hts, rfl⟩ hC hx F10 N10 off ne
    clear F9 N9
    obtain ⟨tx, tkx, hri, rfl, htx⟩ : ∃ tx tkx, rows1[i]? = some (tx, tkx) ∧ v = .str ⟨tx.toArray⟩ tkx ∧ texts[i]? = some tx := by
      have hi' : i < rows1.length := by simpa using hi
      have e : rows1[i]? = some rows1[i] := by simp [hi']
      refine ⟨rows1[i].1, rows1[i].2, e, ?_, ?_⟩
      · simp [e] at hv
        exact hv.symm
      · rw [← hrows1, List.getElem?_map, e]; rfl
    have hat := hasc tx (List.mem_of_getElem? htx)
    have hax : (⟨tx.toArray⟩ : Str).cps.all (· < 128) = true := by
      show tx.toArray.all _ = true
      simp only [List.all_toArray, List.all_eq_true]
      intro c hc
      have := hat.2 c hc
      simpa using this
    have hlx : (⟨tx.toArray⟩ : Str).cps.size < 1000 := by
      show tx.toArray.size < 1000
      have := hat.1
      simp; omega
    generalize hmr : ts.reverse.map Tp.p ++ more = more2 at N10 off
    have mk : Mark := trivial
    k_steps
    unfold Stop
    rename Fr _ _ _ _ => F11
    rename News _ _ _ _ => N11
    rw [show Str.ofString "r" = one 114 by decide +kernel]
    refine wpAny_with (T := 1) (Nat.le_add_left _ _) ?_
    k_dflt refine countOf_call _ _ _ _ _ _ _ _ _ _ _ _ _ _ _ _ _ _ _ _ _ ⟨tx.toArray⟩ 114 _ _ _ B1 F11 X1 N11 T1 rfl (by ktr_room) (by ktr_units) hax hlx (Nat.ne_of_gt hT10) (Nat.lt_succ_self _) ?_
    intro tc1 h11 tk11 F12 N12 hT11
    dsimp only at hT11
    clear F11 N11
    k_steps
    unfold Stop
    rename Fr _ _ _ _ => F11
    rename News _ _ _ _ => N11
    rw [show Str.ofString "w" = one 119 by decide +kernel]
    refine wpAny_with (T := 1) (Nat.le_add_left _ _) ?_
    k_dflt refine countOf_call _ _ _ _ _ _ _ _ _ _ _ _ _ _ _ _ _ _ _ _ _ ⟨tx.toArray⟩ 119 _ _ _ B1 F11 X1 N11 T1 rfl (by ktr_room) (by ktr_units) hax hlx (Nat.ne_of_gt hT11) (Nat.lt_succ_self _) ?_
    intro tc2 h12 tk12 F12 N12 hT12
    dsimp only at hT12
    clear F11 N11
    k_steps
    unfold Stop
    rename Fr _ _ _ _ => F11
    rename News _ _ _ _ => N11
    rw [show Str.ofString "x" = one 120 by decide +kernel]
    refine wpAny_with (T := 1) (Nat.le_add_left _ _) ?_
    k_dflt refine countOf_call _ _ _ _ _ _ _ _ _ _ _ _ _ _ _ _ _ _ _ _ _ ⟨tx.toArray⟩ 120 _ _ _ B1 F11 X1 N11 T1 rfl (by ktr_room) (by ktr_units) hax hlx (Nat.ne_of_gt hT12) (Nat.lt_succ_self _) ?_
    intro tc3 h13 tk13 F12 N12 hT13
    dsimp only at hT13
    clear F11 N11
    repeat (rename Mark => mk; clear mk)
    k_steps
    unfold Stop
    rename Fr _ _ _ _ => F14
    rename News _ _ _ _ => N14
    refine kup_newTuple F14 N14 ?_ (by kmk_size)
    intro p15 h15 F15 N15 hlt15
    k_steps
    unfold Stop
    refine comp_endL (new := (⟨p15, cntOf tx, tc1, tc2, tc3⟩ : Tp).p) [(pt, W.listOf (rows2.map strV).toArray k6), (pd, W.listOf (rows1.map strV).toArray k4), (po, W.listOf (os.map Od.v).toArray k2)] F15 N15 off (fun q hq => Nat.ne_of_lt (hlt15 q hq)) (.inr ⟨_, .tail _ (.head _), rfl, k4, rfl⟩) ⟨ts ++ [⟨p15, cntOf tx, tc1, tc2, tc3⟩], ?_, ?_, ?_⟩
    · rw [hy, List.map_append]; rfl
    · rw [List.map_append, hts, List.take_add_one, htx, List.map_append]; rfl
    · rw [← hmr, List.reverse_append, List.map_append, List.append_assoc]; rfl
  · rintro ys nw D16 h16 tk16 ⟨ts, hy, hts, rfl⟩ hT16 F16 N16 o16
    clear F9 N9 o16
    have htm : ∀ t ∈ ts, t.p ∈ ts.reverse.map Tp.p ++ more := fun t ht => List.mem_append_left _ (List.mem_map.mpr ⟨t, List.mem_reverse.mpr ht, rfl⟩)
    generalize ts.reverse.map Tp.p ++ more = more3 at N16 htm
    rw [lst_of (n := ys.length) rfl] at N16
    subst hy
    rw [List.take_of_length_le (by simp [← hrows1])] at hts
    k_steps
    unfold Stop
    rename Fr _ _ _ _ => F17
    k_dflt (refine comp_T 1 F17 (by with_unfolding_all rfl) (by decide) (by rfl) (by decide) (by rfl) ?_)
    k_steps
    unfold Stop
    rename Fr _ _ _ _ => F18
    rename News _ _ _ _ => N18
    refine ⟨pt, (rows2.map strV).toArray, _, fun i ys nw => ∃ us : List Tp, ys = us.map Tp.v ∧ us.map (·.c) = (texts.take i).map cntOf ∧ nw = _ :: _ :: _ :: _ :: (us.reverse.map Tp.p ++ more3), rfl, rfl, F18, N18, hT16, (by rw [sizeLine_eq]; simp; omega), .inr ⟨_, .tail _ (.head _), rfl, k6, rfl⟩, ⟨[], rfl, rfl, rfl⟩, ?_, ?_⟩
    · rintro i ys nw v I oI C oC D m2 h20 tk20 E20 hi hv hT20 ⟨us, hy, hus, rfl⟩ hC hx F20 N20 off ne
      clear F18 N18
      obtain ⟨tx, tkx, hri, rfl, htx⟩ : ∃ tx tkx, rows2[i]? = some (tx, tkx) ∧ v = .str ⟨tx.toArray⟩ tkx ∧ texts[i]? = some tx := by
        have hi' : i < rows2.length := by simpa using hi
        have e : rows2[i]? = some rows2[i] := by simp [hi']
        refine ⟨rows2[i].1, rows2[i].2, e, ?_, ?_⟩
        · simp [e] at hv
          exact hv.symm
        · rw [← hrows2, List.getElem?_map, e]; rfl
      have hat := hasc tx (List.mem_of_getElem? htx)
      have hlx : (⟨tx.toArray⟩ : Str).length ≤ 12 := by
        show tx.toArray.size ≤ 12
        simpa using hat.1
      generalize hmr : us.reverse.map Tp.p ++ more3 = more4 at N20 off
      k_steps
      unfold Stop
      rename Fr _ _ _ _ => F21
      rename News _ _ _ _ => N21
      rw [show Str.ofString "r" = one 114 by decide +kernel, show Str.ofString "w" = one 119 by decide +kernel, show Str.ofString "x" = one 120 by decide +kernel, count_tx, count_tx, count_tx]
      refine kup_newTuple F21 N21 ?_ (by kmk_size)
      intro p22 h22 F22 N22 hlt22
      k_steps
      unfold Stop
      refine comp_endL (new := (⟨p22, cntOf tx, _, _, _⟩ : Tp).p) [(D16, W.listOf (ts.map Tp.v).toArray (ts.map Tp.v).length), (pt, W.listOf (rows2.map strV).toArray k6), (pd, W.listOf (rows1.map strV).toArray k4), (po, W.listOf (os.map Od.v).toArray k2)] F22 N22 off (fun q hq => Nat.ne_of_lt (hlt22 q hq)) (.inr ⟨_, .tail _ (.head _), rfl, k6, rfl⟩) ⟨us ++ [⟨p22, cntOf tx, tk20 + 1, tk20 + 1 + 1 + 1, tk20 + 1 + 1 + 1 + 1 + 1⟩], ?_, ?_, ?_⟩
      · rw [hy, List.map_append]; rfl
      · rw [List.map_append, hus, List.take_add_one, htx, List.map_append]; rfl
      · rw [← hmr, List.reverse_append, List.map_append, List.append_assoc]; rfl
    · rintro ys nw D23 h23 tk23 ⟨us, hy, hus, rfl⟩ hT23 F23 N23 o23
      clear F18 N18 o23
      have hum : ∀ t ∈ us, t.p ∈ us.reverse.map Tp.p ++ more3 := fun t ht => List.mem_append_left _ (List.mem_map.mpr ⟨t, List.mem_reverse.mpr ht, rfl⟩)
      have htm' : ∀ t ∈ ts, t.p ∈ us.reverse.map Tp.p ++ more3 := fun t ht => List.mem_append_right _ (htm t ht)
      generalize us.reverse.map Tp.p ++ more3 = more5 at N23 hum htm'
      rw [lst_of (n := ys.length) rfl] at N23
      subst hy
      rw [List.take_of_length_le (by simp [← hrows2])] at hus
      k_steps
      unfold Stop
      rename News _ _ _ _ => N24
      obtain ⟨as3, ra3⟩ := reads_tps _ ts fun t ht => (N24 _ (.tail _ (.tail _ (.tail _ (.tail _ (.tail _ (htm' t ht))))))).1
      obtain ⟨as4, ra4⟩ := reads_tps _ us fun t ht => (N24 _ (.tail _ (.tail _ (.tail _ (.tail _ (.tail _ (hum t ht))))))).1
      rw [hts] at ra3
      rw [hus] at ra4
      refine ne_same N24 (.tail _ (.head _)) (.head _) ra3 ra4 (fun d hd => by obtain ⟨c, _, rfl⟩ := List.mem_map.mp hd; exact lay_cn c) (by ktr_units) ?_
      clear ra3 ra4
      k_steps
      unfold Stop
      rename Fr _ _ _ _ => F25
      k_dflt (refine comp_T 1 F25 (by with_unfolding_all rfl) (by decide) (by rfl) (by decide) (by rfl) ?_)
      k_steps
      unfold Stop
      rename Fr _ _ _ _ => F26
      rename News _ _ _ _ => N26
      refine ⟨pd, (rows1.map strV).toArray, _, fun i ys nw => (ys.length = i ∧ ∀ (k : Nat) v t, ys[k]? = some v → texts[k]? = some t → placeV ⟨t.toArray⟩ v) ∧ nw = _, rfl, rfl, F26, N26, hT23, (by rw [sizeLine_eq]; simp; omega), .inr ⟨_, .tail _ (.tail _ (.tail _ (.head _))), rfl, k4, rfl⟩, ⟨⟨rfl, fun k v t h => by simp at h⟩, rfl⟩, ?_, ?_⟩
      · rintro i ys nw v I oI C oC D m2 h30 tk30 E30 hi hv hT30 ⟨⟨hyl, hyp⟩, rfl⟩ hC hx F30 N30 off ne
        clear F26 N26
        obtain ⟨tx, tkx, hri, rfl, htx⟩ : ∃ tx tkx, rows1[i]? = some (tx, tkx) ∧ v = .str ⟨tx.toArray⟩ tkx ∧ texts[i]? = some tx := by
          have hi' : i < rows1.length := by simpa using hi
          have e : rows1[i]? = some rows1[i] := by simp [hi']
          refine ⟨rows1[i].1, rows1[i].2, e, ?_, ?_⟩
          · simp [e] at hv
            exact hv.symm
          · rw [← hrows1, List.getElem?_map, e]; rfl
        have hat := hasc tx (List.mem_of_getElem? htx)
        have hax : (⟨tx.toArray⟩ : Str).cps.all (· < 128) = true := by
          show tx.toArray.all _ = true
          simp only [List.all_toArray, List.all_eq_true]
          intro c hc
          have := hat.2 c hc
          simpa using this
        have hlx : (⟨tx.toArray⟩ : Str).cps.size < 1000 := by
          show tx.toArray.size < 1000
          have := hat.1
          simp; omega
        have mk : Mark := trivial
        k_steps
        unfold Stop
        rename Fr _ _ _ _ => F31
        rename News _ _ _ _ => N31
        k_dflt refine place_callU _ _ _ _ _ _ _ _ _ _ _ _ _ _ _ _ _ _ ⟨tx.toArray⟩ tkx _ B1 X1 T1 F31 X1 N31 T1 rfl hax hlx hT30 (show 7 ≤ 20 by decide) ?_
        intro v32 h32 tk32 hv32 F32 N32
        clear F31 N31
        k_steps
        unfold Stop
        refine LCg.CompEnd.intro F32 N32 _ (fun p hp => hp) off (.inr ⟨_, .tail _ (.tail _ (.tail _ (.head _))), rfl, k4, rfl⟩) ⟨⟨?_, ?_⟩, rfl⟩
        · rw [List.length_append, hyl]; rfl
        · intro k v t h1 h2
          rcases Nat.lt_trichotomy k i with q | q | q
          · rw [List.getElem?_append_left (by omega)] at h1
            exact hyp k v t h1 h2
          · subst q
            rw [List.getElem?_append_right (by omega), hyl, Nat.sub_self] at h1
            rw [htx] at h2
            cases h1
            cases h2
            exact hv32
          · rw [List.getElem?_eq_none (by simp; omega)] at h1
            cases h1
      · rintro ys nw D33 h33 tk33 ⟨⟨hyl, hyp⟩, rfl⟩ hT33 F33 N33 o33
        clear F26 N26 o33
        rw [lst_of (n := ys.length) rfl] at N33
        k_steps
        unfold Stop
        rename Fr _ _ _ _ => F34
        k_dflt (refine comp_T 1 F34 (by with_unfolding_all rfl) (by decide) (by rfl) (by decide) (by rfl) ?_)
        k_steps
        unfold Stop
        rename Fr _ _ _ _ => F35
        rename News _ _ _ _ => N35
        refine ⟨pt, (rows2.map strV).toArray, _, fun i zs nw => (zs.length = i ∧ ∀ (k : Nat) v t, zs[k]? = some v → texts[k]? = some t → placeV ⟨t.toArray⟩ v) ∧ nw = _, rfl, rfl, F35, N35, hT33, (by rw [sizeLine_eq]; simp; omega), .inr ⟨_, .tail _ (.tail _ (.tail _ (.head _))), rfl, k6, rfl⟩, ⟨⟨rfl, fun k v t h => by simp at h⟩, rfl⟩, ?_, ?_⟩
        · rintro i zs nw v I oI C oC D m2 h40 tk40 E40 hi hv hT40 ⟨⟨hzl, hzp⟩, rfl⟩ hC hx F40 N40 off ne
          clear F35 N35
          obtain ⟨tx, tkx, hri, rfl, htx⟩ : ∃ tx tkx, rows2[i]? = some (tx, tkx) ∧ v = .str ⟨tx.toArray⟩ tkx ∧ texts[i]? = some tx := by
            have hi' : i < rows2.length := by simpa using hi
            have e : rows2[i]? = some rows2[i] := by simp [hi']
            refine ⟨rows2[i].1, rows2[i].2, e, ?_, ?_⟩
            · simp [e] at hv
              exact hv.symm
            · rw [← hrows2, List.getElem?_map, e]; rfl
          have hzend : ∀ v, placeV ⟨tx.toArray⟩ v → (zs ++ [v]).length = i + 1 ∧ ∀ (k : Nat) v' t, (zs ++ [v])[k]? = some v' → texts[k]? = some t → placeV ⟨t.toArray⟩ v' := by
            intro v hv32
            refine ⟨by rw [List.length_append, hzl]; rfl, ?_⟩
            intro k v' t h1 h2
            rcases Nat.lt_trichotomy k i with q | q | q
            · rw [List.getElem?_append_left (by omega)] at h1
              exact hzp k v' t h1 h2
            · subst q
              rw [List.getElem?_append_right (by omega), hzl, Nat.sub_self] at h1
              rw [htx] at h2
              cases h1
              cases h2
              exact hv32
            · rw [List.getElem?_eq_none (by simp; omega)] at h1
              cases h1
          have e45 : Str.ofString "-" = one 45 := by decide +kernel
          k_steps
          · unfold Stop
            rename (Builtin.Str.occurrences _ _ _ _ _).isEmpty = true => hne
            rw [e45] at hne
            exact LCg.CompEnd.intro F40 N40 _ (fun p hp => hp) off (.inr ⟨_, .tail _ (.tail _ (.tail _ (.head _))), rfl, k6, rfl⟩) ⟨hzend _ (place_no hne), rfl⟩
          · rename (Builtin.Str.occurrences _ _ _ _ _).isEmpty = true => hne
            rename (Builtin.Str.occurrences _ _ _ _ _).isEmpty = false => hne2
            rw [hne] at hne2
            cases hne2
          · unfold Stop
            rename (Builtin.Str.occurrences _ _ _ _ _).isEmpty = false => hne
            rw [e45] at hne ⊢
            exact LCg.CompEnd.intro F40 N40 _ (fun p hp => hp) off (.inr ⟨_, .tail _ (.tail _ (.tail _ (.head _))), rfl, k6, rfl⟩) ⟨hzend _ (place_yes hne), rfl⟩
        · rintro zs nw D43 h43 tk43 ⟨⟨hzl, hzp⟩, rfl⟩ hT43 F43 N43 o43
          clear F35 N35 o43
          rw [lst_of (n := zs.length) rfl] at N43
          have e1 : ys.length = texts.length := by rw [hyl, ← hrows1]; simp
          have e2 : zs.length = texts.length := by rw [hzl, ← hrows2]; simp
          k_steps
          unfold Stop
          rename News _ _ _ _ => N44
          obtain ⟨as5, ra5⟩ := reads_pls _ e1 hyp
          obtain ⟨as6, ra6⟩ := reads_pls _ e2 hzp
          refine eq_same N44 (.tail _ (.head _)) (.head _) ra5 ra6 (fun d hd => by obtain ⟨c, _, rfl⟩ := List.mem_map.mp hd; exact lay_pl _) (by ktr_units) ?_
          k_steps)
end
end Mine
end
set_option maxHeartbeats 4000000 in
theorem PySem.Challenge.cw_of0033_01_holds : PySem.Challenge.rw_of0033_01.Holds :=
  Mine.law_holds

import PyProof.Rows.All
import Wide.All
import OpenK.AllK
import Wide.FinOn
import PySem.Challenge.RW_ik0114_01
set_option Elab.async false
section
open PySem PySem.W PyProof.Rows
set_option maxRecDepth 100000
set_option maxHeartbeats 8000000
namespace Mine
lay_quick PySem.Challenge.pw_ik0114_01
/-- the statements that the walk takes as they are written -/
def kept : Program := PySem.W.view PySem.Challenge.pw_ik0114_01 [0, 2, 3, 4, 5, 8, 9, 11, 12, 13, 14, 16, 17]
/-- the opening is the library's own; what is left is the run of the text, told by the twins -/
theorem left_boot {p p' q : Program} {loose : List Str} {Xt : Shared → Bool} {α : Type} {Yf : Shared → α} {Ya : World → α} {N : Nat} (hp : p = p') (e : opening p = plainProg p.main.scope.names) (hN : Nat.ble 600 N = true) (f : ∀ s, fenceModules? p s = some s)
    (run : ∀ (w : World) (os : OsState), (match (boot_heap w.params).isNs mainGlobals && (Array.mk ([] : List GenState)).size == 0 with
      | true => (PySem.W.Fast.tw14082659384304107361 PySem.W.Fast.tw14364793385576792824 p' w (boot_heap w.params).objs.size ((boot_heap w.params).nsMap mainGlobals "__annotations__") N ⟨boot_heap w.params, Array.mk [], boot_drawn, boot_toks, os⟩ (topStub p')).bind fun s₁ => match staticsOk (importedModules p'.main.body) (boot_heap w.params) s₁.heap && namesBound p' s₁.heap && gensDone s₁ && laidKept (boot_heap w.params) s₁.heap with
        | true => some (PySem.W.Fast.tw4187177175401517315 q loose (importedModules p'.main.body) Xt true s₁, Yf s₁)
        | false => none
      | false => none) = some (openGood q loose, Ya w)) : LeftO p q loose Xt Yf Ya N := fun w => by
  subst hp
  obtain ⟨⟨h, gs, d, k, os⟩, e1, e2⟩ := Option.map_eq_some_iff.mp (boot_open e hN f w)
  obtain ⟨rfl, rfl, rfl, rfl⟩ : h = boot_heap w.params ∧ gs = Array.mk [] ∧ d = boot_drawn ∧ k = boot_toks := by simpa using e2
  have r := run w os
  rw [← PySem.W.Fast.te14082659384304107361, ← PySem.W.Fast.te14364793385576792824, ← PySem.W.Fast.te4187177175401517315] at r
  unfold openEnds
  rw [e1]
  show (topFrom treeTable p w N _).map _ = _
  unfold topFrom
  dsimp only
  generalize ((boot_heap w.params).isNs mainGlobals && (Array.mk ([] : List GenState)).size == 0) = b at r ⊢
  cases b with
  | false => exact r
  | true =>
    dsimp only at r ⊢
    generalize topRun treeTable p w _ _ N _ _ = x at r ⊢
    cases x with
    | none => exact r
    | some s =>
      dsimp only [Option.bind] at r ⊢
      generalize (staticsOk (importedModules p.main.body) (boot_heap w.params) s.heap && namesBound p s.heap && gensDone s && laidKept (boot_heap w.params) s.heap) = c at r ⊢
      cases c with
      | false => exact r
      | true => exact r
local macro_rules | `(tactic| o_head $H) => do
  let hw := Lean.mkIdent `hw
  let hc := Lean.mkIdent `hc
  `(tactic| (refine holds_open (q := Mine.kept) (loose := [Str.ofString "_deduplicate", Str.ofString "_tuplegetter", Str.ofString "Mismatch", Str.ofString "_Mismatch"]) (Xt := fun s => xlAt Mine.kept [] s && recOk (RowW.records PySem.Challenge.rw_ik0114_01.row.toRowW) s) (XP := XL Mine.kept []) (Yf := Hook.obs $H) (Ya := Hook.val $H) (YP := Hook.says $H) (N := 3688) (left_boot PySem.W.Fast.te7654979873100575242 (by kernel_rfl) (by decide) (fun s => by kernel_rfl) (fun w os => by kernel_rfl)) (Hook.of $H) (Hook.keeps $H) (fun s e => xl_of s (Bool.and_eq_true_iff.mp e).1) XL.keeps (by rfl) (by rfl) (by rfl) (fun s e => recFacts_of (Bool.and_eq_true_iff.mp e).2) (by rfl) (by assumption) (by decide +kernel) ⟨rfl, rfl, rfl, rfl, rfl, by decide +kernel⟩ ?$hw ?$hc))
open_top hd for PySem.Challenge.rw_ik0114_01
end Mine
end
section
open PySem PySem.W PySem.Calls PyProof.Rows
set_option maxRecDepth 100000
set_option maxHeartbeats 4000000
namespace Mine
open PySem.MeetsSeq PySem.MeetsSeq2 PySem.MeetsSeq3 PySem.SeqAt PySem.AutoSeq1 PySem.SeqRoads2

theorem lt_loop2 (l b : Addr) (items items2 : Array Value) (n n2 : Nat) (dd dd2 : Option Addr) (sl sl2 : Array (Option Value)) (h1 : items.size = 2) (h2 : items2.size = 2) :
    Meets (Builtin.«list.__eq__.loop» ⟨[.ref l, .ref b, rawInt (2 : Nat), rawInt (0 : Nat)], []⟩)
      (fun _ R s => s.heap.get? l = some { cls := .type "list", dict := dd, data := .seq items n, slots := sl } ∧ s.heap.get? b = some { cls := .type "list", dict := dd2, data := .seq items2 n2, slots := sl2 } ∧
        R (.ok (.ret (.bool false))) s) := by
  intro prog w A R s h
  obtain ⟨hp, g, d, tk, os⟩ := s; obtain ⟨hl, hb, h⟩ := h
  wp_walk using wpAny_loadPart' hl, wpAny_loadPart' hb
  have hi1 : items[((2 : Nat) : Int).toNat]? = none := by simp; omega
  have hi2 : items2[((2 : Nat) : Int).toNat]? = none := by simp; omega
  rw [hi1, hi2]
  wp_walk using wpAny_loadPart' hl, wpAny_loadPart' hb
  show R (.ok (.ret (.bool (decide (items.size < items2.size))))) _
  rw [h1, h2]
  exact h

theorem lt_step (l b : Addr) (items items2 : Array Value) (n n2 : Nat) (dd dd2 : Option Addr) (sl sl2 : Array (Option Value)) (i : Nat) (x y : Int) (t u : Tok) (h1 : items[i]? = some (.int x t)) (h2 : items2[i]? = some (.int y u)) (S : PySem.Spec)
    (hn : x = y → Meets (Builtin.«list.__eq__.loop» ⟨[.ref l, .ref b, rawInt ((i + 1 : Nat) : Int), rawInt (0 : Nat)], []⟩) S) :
    Meets (Builtin.«list.__eq__.loop» ⟨[.ref l, .ref b, rawInt (i : Int), rawInt (0 : Nat)], []⟩)
      (fun A R s => s.heap.get? l = some { cls := .type "list", dict := dd, data := .seq items n, slots := sl } ∧ s.heap.get? b = some { cls := .type "list", dict := dd2, data := .seq items2 n2, slots := sl2 } ∧
        (x = y → S A R s) ∧ (x ≠ y → R (.ok (.ret (.bool (decide (x < y))))) s)) := by
  intro prog w A R s h
  obtain ⟨hp, g, d, tk, os⟩ := s; obtain ⟨hl, hb, he, hne⟩ := h
  wp_walk using wpAny_loadPart' hl, wpAny_loadPart' hb
  have hi1 : items[((i : Nat) : Int).toNat]? = some (.int x t) := by simpa using h1
  have hi2 : items2[((i : Nat) : Int).toNat]? = some (.int y u) := by simpa using h2
  have hc : ((i : Int) + 1) = ((i + 1 : Nat) : Int) := by push_cast; rfl
  rw [hi1, hi2]
  refine wpAny_bind (EqAt.int_int x t y u prog w _ _ ?_)
  by_cases hs : x = y
  · have : (x == y) = true := by simpa using hs
    rw [this]
    wp_walk
    rw [hc]
    exact ⟨plainId_quiet plain_eq_loop _, codeAny_builtin entry_eq_loop (by
      rw [Around.under_plainId plain_eq_loop _]
      exact hn hs prog w A R _ (he hs))⟩
  · have : (x == y) = false := by simpa using hs
    rw [this]
    wp_walk using wpAny_loadPart' hl, wpAny_loadPart' hb
    rw [hi1, hi2]
    refine wpAny_bind (wpAny_lt_int ?_)
    wp_walk
    exact hne hs

theorem list_lt2 (l b : Addr) (items items2 : Array Value) (n n2 : Nat) (dd dd2 : Option Addr) (sl sl2 : Array (Option Value)) (p1 s1 p2 s2 : Int) (t1 u1 t2 u2 : Tok) (e1 : items = #[.int p1 t1, .int s1 u1]) (e2 : items2 = #[.int p2 t2, .int s2 u2]) :
    Meets (Builtin.«list.__lt__» ⟨[.ref l, .ref b], []⟩)
      (fun _ R s => s.heap.get? l = some { cls := .type "list", dict := dd, data := .seq items n, slots := sl } ∧ s.heap.get? b = some { cls := .type "list", dict := dd2, data := .seq items2 n2, slots := sl2 } ∧
        R (.ok (.ret (.bool (decide (p1 < p2 ∨ p1 = p2 ∧ s1 < s2))))) s) := by
  intro prog w A R s h
  obtain ⟨hp, g, d, tk, os⟩ := s; obtain ⟨hl, hb, h⟩ := h
  have f3 := AutoSeq1.sub_list_list
  wp_walk using wpAny_loadPart' hl, wpAny_loadPart' hb
  refine ⟨plainId_quiet plain_eq_loop _, codeAny_builtin entry_eq_loop ?_⟩
  rw [Around.under_plainId plain_eq_loop _]
  refine lt_step l b items items2 n n2 dd dd2 sl sl2 0 p1 p2 t1 t2 (by rw [e1]; rfl) (by rw [e2]; rfl) _ (fun _ => lt_step l b items items2 n n2 dd dd2 sl sl2 1 s1 s2 u1 u2 (by rw [e1]; rfl) (by rw [e2]; rfl) _ (fun _ => lt_loop2 l b items items2 n n2 dd dd2 sl sl2 (by rw [e1]; rfl) (by rw [e2]; rfl))) prog w A R _ ⟨hl, hb, fun hp => ⟨hl, hb, fun hs => ⟨hl, hb, ?_⟩, fun hs => ?_⟩, fun hp => ?_⟩
  · have : decide (p1 < p2 ∨ p1 = p2 ∧ s1 < s2) = false := by subst hp; subst hs; simp
    rw [this] at h; exact h
  · have : decide (p1 < p2 ∨ p1 = p2 ∧ s1 < s2) = decide (s1 < s2) := by subst hp; simp
    rw [this] at h; exact h
  · have : decide (p1 < p2 ∨ p1 = p2 ∧ s1 < s2) = decide (p1 < p2) := by simp [hp]
    rw [this] at h; exact h

/-- a point: a list of two ints, at its own place in the ledger -/
structure It where
  a : Addr
  p : Int
  s : Int
  tp : Tok
  ts : Tok
  n : Nat
abbrev It.obj (z : It) : Obj := listOf #[.int z.p z.tp, .int z.s z.ts] z.n
abbrev It.ent (z : It) : Addr × Obj := (z.a, z.obj)
abbrev refs (zs : List It) : List Value := zs.map fun z => .ref z.a
def It.lt (x y : It) : Bool := decide (x.p < y.p ∨ x.p = y.p ∧ x.s < y.s)

section
variable {prog : Program} {w : World} {A : Around} {E : Value → Shared → Prop} {s : Shared} {h₀ : Heap} {L : Addr} {m : Str → Option Value} {news : List (Addr × Obj)}
theorem lt_items {x y : It} {Q : Value → Shared → Prop} (N : News h₀ L s.heap news) (hx : x.ent ∈ news) (hy : y.ent ∈ news) (hu : A.units < cLine) (h : Q (.bool (x.lt y)) s) :
    wpAny (model prog w) A (compareOp .Lt (.ref x.a) (.ref y.a)) Q E s := by
  have ho := (N _ hx).1
  have ho2 := (N _ hy).1
  exact cmp_ofLt (richCompare_meets_room (op := .Lt) ⟨_, ho, rfl⟩ ⟨_, ho2, rfl⟩ F.slot_list_lt F.entry_list_lt (F.args_list_lt_2 _ _) (list_lt2 x.a y.a _ _ x.n y.n none none _ _ x.p x.s y.p y.s x.tp x.ts y.tp y.ts rfl rfl)
    ⟨ho, ho2, show Value.bool _ ≠ Value.notImplemented ∧ Q (.bool _) s from ⟨(fun x => nomatch x), h⟩⟩ hu)

/-- reading an item of a list of the ledger -/
theorem item_led {value slice : PySem.Expr} {D : Addr} {vs : List Value} {n : Nat} {k : Int} {u : Tok} {v : Value} {Q : Value → Shared → Prop} (N : News h₀ L s.heap news) (hm : (D, listOf vs.toArray n) ∈ news) (h0 : 0 ≤ k) (hfit : k < 2 ^ 63) (hx : vs[k.toNat]? = some v) (h : Q v s)
    (hs : subscripted slice false (.ref D) (.int k u) = operate [.ref D, .int k u] (getItem (.ref D) (.int k u)) := by with_unfolding_all rfl) (hg : ∀ r, letTemporaryGo value (.ref D) r = pure () := by intro _; with_unfolding_all rfl) :
    wpAny (model prog w) A (subscriptTail value slice (.ref D) (.int k u)) Q E s :=
  kim_list N hm rfl rfl h0 hfit hx h hs hg

/-- storing an item into a list of the ledger -/
theorem set_led {D : Addr} {vs : List Value} {n : Nat} {k : Int} {t : Tok} {x : Value} {news' : List (Addr × Obj)} {Q : Unit → Shared → Prop} (F : Fr h₀ L s.heap m) (N : News h₀ L s.heap news) (U : Upd D (listOf vs.toArray n) (listOf (vs.set k.toNat x).toArray n) news news') (h0 : 0 ≤ k) (h1 : k < vs.length) (hfit : k < 2 ^ 63)
    (h : ∀ h', Fr h₀ L h' m → News h₀ L h' news' → Q () { s with heap := h' }) :
    wpAny (model prog w) A (setItem (.ref D) (.int k t) x) Q E s := by
  obtain ⟨pre, post, rfl, rfl, a, b⟩ := U.split
  have z := N (D, listOf vs.toArray n) (List.mem_append.mpr (.inr (.head _)))
  have hs : vs.toArray.size = vs.length := List.size_toArray ..
  refine ki_setAt z.1 h0 hfit (by omega) (h _ (F.change (Heap.SameBut.update ..) z.2.1 z.2.2) (ki_turn _ N a b ?_ ?_))
  · show vs.toArray.setIfInBounds k.toNat x = (vs.set k.toNat x).toArray
    apply Array.toList_inj.mp
    simp
  · simp

theorem item_items {value slice : PySem.Expr} {D : Addr} {zs : List It} {rest : List (Addr × Obj)} {n k : Nat} {u : Tok} {y : It} {Q : Value → Shared → Prop} (N : News h₀ L s.heap ((D, listOf (refs zs).toArray n) :: rest)) (hl : zs.length < 2 ^ 20) (hx : zs[k]? = some y) (h : Q (.ref y.a) s)
    (hs : subscripted slice false (.ref D) (.int k u) = operate [.ref D, .int k u] (getItem (.ref D) (.int k u)) := by with_unfolding_all rfl) (hg : ∀ r, letTemporaryGo value (.ref D) r = pure () := by intro _; with_unfolding_all rfl) :
    wpAny (model prog w) A (subscriptTail value slice (.ref D) (.int k u)) Q E s :=
  have hk : k < zs.length := (List.getElem?_eq_some_iff.mp hx).1
  item_led N (.head _) (by omega) (by omega) (by simp [hx]) h hs hg
theorem set_items {D : Addr} {zs : List It} {rest : List (Addr × Obj)} {n k : Nat} {t : Tok} {y : It} {Q : Unit → Shared → Prop} (F : Fr h₀ L s.heap m) (N : News h₀ L s.heap ((D, listOf (refs zs).toArray n) :: rest)) (hoff : ∀ q ∈ rest, q.1 ≠ D) (hl : zs.length < 2 ^ 20) (hk : k < zs.length)
    (h : ∀ h', Fr h₀ L h' m → News h₀ L h' ((D, listOf (refs (zs.set k y)).toArray n) :: rest) → Q () { s with heap := h' }) :
    wpAny (model prog w) A (setItem (.ref D) (.int k t) (.ref y.a)) Q E s := by
  refine set_led F N (.head hoff) (by omega) (by simp; omega) (by omega) fun h' F' N' => h h' F' ?_
  have : (refs zs).set (k : Int).toNat (.ref y.a) = refs (zs.set k y) := by simp [List.map_set]
  rw [this] at N'
  exact N'

theorem isL {D : Addr} {vs : List Value} {n : Nat} (N : News h₀ L s.heap news) (hm : (D, listOf vs.toArray n) ∈ news) : s.heap.IsList D vs.toArray := ⟨_, (N _ hm).1, rfl, n, rfl⟩
theorem len_led {D : Addr} {vs : List Value} {n k : Nat} {Q : Value → Shared → Prop} (N : News h₀ L s.heap news) (hm : (D, listOf vs.toArray n) ∈ news) (hk : vs.length = k) (hfit : k < 2 ^ 62) (h : Q (.int (k : Int) (s.toks + 1)) { s with toks := s.toks + 1 + 1 }) :
    wpAny (model prog w) A (call (.builtin "len") [.ref D]) Q E s :=
  len_list (isL N hm) (by rw [List.size_toArray]; omega) (by rw [List.size_toArray, hk]; exact h)
theorem truthy_led {D : Addr} {vs : List Value} {n k : Nat} {Q : Bool → Shared → Prop} (N : News h₀ L s.heap news) (hm : (D, listOf vs.toArray n) ∈ news) (hk : vs.length = k) (hfit : k < 2 ^ 62) (h : Q (decide (0 < k)) { s with toks := s.toks + 1 + 1 }) :
    wpAny (model prog w) A (truthy (.ref D)) Q E s :=
  wpAny_truthy_list (isL N hm) (by rw [List.size_toArray]; omega) (by
    have e : (!vs.toArray.isEmpty) = decide (0 < k) := by
      subst hk; cases vs <;> simp
    rw [e]; exact h)
theorem append_led {D : Addr} {vs : List Value} {n : Nat} {x : Value} {news' : List (Addr × Obj)} {Q : Value → Shared → Prop} (F : Fr h₀ L s.heap m) (N : News h₀ L s.heap news) (U : Upd D (listOf vs.toArray n) (listOf (vs ++ [x]).toArray (n + 1)) news news') (hl : vs.length < 2 ^ 20)
    (h : ∀ h', Fr h₀ L h' m → News h₀ L h' news' → Q .none { s with heap := h' }) : wpAny (model prog w) A (call (.builtin "list.append") [.ref D, x]) Q E s :=
  append_K F N (by rw [show vs.toArray.push x = (vs ++ [x]).toArray by simp]; exact U) h (by rw [List.size_toArray, PySem.sizeLine_eq]; omega)
theorem pop_led {D : Addr} {vs : List Value} {n : Nat} {x : Value} {news' : List (Addr × Obj)} {Q : Value → Shared → Prop} (F : Fr h₀ L s.heap m) (N : News h₀ L s.heap news) (U : Upd D (listOf (vs ++ [x]).toArray n) (listOf vs.toArray (n + 1)) news news') (hl : vs.length < 2 ^ 20)
    (h : ∀ h', Fr h₀ L h' m → News h₀ L h' news' → Q x { s with heap := h' }) : wpAny (model prog w) A (call (.builtin "list.pop") [.ref D]) Q E s :=
  kl_pop F N (p := vs) (y := x) (by simpa using kpa_last x vs) U (by simp [PySem.sizeLine_eq]; omega) h

theorem item_itemsI {value slice : PySem.Expr} {D : Addr} {zs : List It} {rest : List (Addr × Obj)} {n j : Nat} {k : Int} {u : Tok} {y : It} {Q : Value → Shared → Prop} (N : News h₀ L s.heap ((D, listOf (refs zs).toArray n) :: rest)) (hl : zs.length < 2 ^ 20) (hj : k = (j : Int)) (hx : zs[j]? = some y) (h : Q (.ref y.a) s)
    (hs : subscripted slice false (.ref D) (.int k u) = operate [.ref D, .int k u] (getItem (.ref D) (.int k u)) := by with_unfolding_all rfl) (hg : ∀ r, letTemporaryGo value (.ref D) r = pure () := by intro _; with_unfolding_all rfl) :
    wpAny (model prog w) A (subscriptTail value slice (.ref D) (.int k u)) Q E s := by
  subst hj
  exact item_items N hl hx h hs hg
theorem set_itemsI {D : Addr} {zs : List It} {rest : List (Addr × Obj)} {n j : Nat} {k : Int} {t : Tok} {y : It} {Q : Unit → Shared → Prop} (F : Fr h₀ L s.heap m) (N : News h₀ L s.heap ((D, listOf (refs zs).toArray n) :: rest)) (hoff : ∀ q ∈ rest, q.1 ≠ D) (hl : zs.length < 2 ^ 20) (hj : k = (j : Int)) (hk : j < zs.length)
    (h : ∀ h', Fr h₀ L h' m → News h₀ L h' ((D, listOf (refs (zs.set j y)).toArray n) :: rest) → Q () { s with heap := h' }) :
    wpAny (model prog w) A (setItem (.ref D) (.int k t) (.ref y.a)) Q E s := by
  subst hj
  exact set_items F N hoff hl hk h

theorem any_ints (t : Int) : ∀ {vs : List Value} {ns : List Int}, IntsAre vs ns → (vs.any fun y => match y with | .int i _ => i == t | _ => false) = decide (t ∈ ns)
  | _, _, .nil => by simp
  | _, _, .cons n u (vs := vs) (ns := ns) h => by
    rw [List.any_cons, any_ints t h]
    by_cases hn : n = t
    · subst hn; simp
    · simp only [List.mem_cons]
      have h1 : (n == t) = false := by simpa using hn
      have h2 : ¬ t = n := fun e => hn e.symm
      simp [h1, h2]
theorem notIn_led {D : Addr} {vs : List Value} {ns : List Int} {n : Nat} {t : Int} {u : Tok} {Q : Value → Shared → Prop} (N : News h₀ L s.heap news) (hm : (D, listOf vs.toArray n) ∈ news) (hi : IntsAre vs ns) (h : Q (.bool (!decide (t ∈ ns))) s) :
    wpAny (model prog w) A (compareOp .NotIn (.int t u) (.ref D)) Q E s := by
  refine notIn_listAt (fun y => match y with | .int i _ => i == t | _ => false) (isL N hm) ?_ ?_
  · intro y hy
    have hy' : y ∈ vs := by simpa using hy
    obtain ⟨k, hk, rfl⟩ := List.getElem_of_mem hy'
    obtain ⟨i, hi2⟩ : ∃ i, ns[k]? = some i := ⟨_, List.getElem?_eq_getElem (by rw [← hi.length]; exact hk)⟩
    obtain ⟨tt, ht⟩ := hi.get k i hi2
    rw [List.getElem?_eq_getElem hk] at ht
    rw [Option.some.inj ht]
    exact EqAt.int_int i tt t u
  · have : vs.toArray.any (fun y => match y with | .int i _ => i == t | _ => false) = decide (t ∈ ns) := by rw [List.any_toArray]; exact any_ints t hi
    rw [this]; exact h
theorem ints_append {x : Int} {u : Tok} : ∀ {vs : List Value} {ns : List Int}, IntsAre vs ns → IntsAre (vs ++ [.int x u]) (ns ++ [x])
  | _, _, .nil => .cons x u .nil
  | _, _, .cons n t h => .cons n t (ints_append h)

theorem ints_erase : ∀ {vs : List Value} {ns : List Int}, IntsAre vs ns → ∀ j, IntsAre (vs.eraseIdx j) (ns.eraseIdx j)
  | _, _, .nil, _ => .nil
  | _, _, .cons _ _ h, 0 => h
  | _, _, .cons n t h, j + 1 => .cons n t (ints_erase h j)
theorem erase_at {x : Int} : ∀ {ns : List Int}, x ∈ ns → ∃ j, j < ns.length ∧ ns[j]? = some x ∧ (∀ i y, i < j → ns[i]? = some y → y ≠ x) ∧ ns.erase x = ns.eraseIdx j
  | [], h => nomatch h
  | a :: r, h => by
    by_cases e : a = x
    · subst e
      exact ⟨0, by simp, rfl, fun i y hi => absurd hi (Nat.not_lt_zero _), by simp⟩
    · obtain ⟨j, h1, h2, h3, h4⟩ := erase_at (ns := r) ((List.mem_cons.mp h).resolve_left fun e' => e e'.symm)
      refine ⟨j + 1, by simpa using h1, by simpa using h2, ?_, ?_⟩
      · intro i y hi hy
        cases i with
        | zero => simp at hy; rw [← hy]; exact e
        | succ i => exact h3 i y (by omega) (by simpa using hy)
      · rw [List.erase_cons_tail (by simpa using e), h4]; rfl
theorem remove_led {D : Addr} {vs : List Value} {ns : List Int} {n : Nat} {t : Int} {u : Tok} {rest : List (Addr × Obj)} {Q : Value → Shared → Prop} (F : Fr h₀ L s.heap m) (N : News h₀ L s.heap ((D, listOf vs.toArray n) :: rest)) (hoff : ∀ q ∈ rest, q.1 ≠ D) (hi : IntsAre vs ns) (ht : t ∈ ns) (hl : ns.length < 2 ^ 20)
    (h : ∀ h' us, Fr h₀ L h' m → News h₀ L h' ((D, listOf us.toArray (n + 1)) :: rest) → IntsAre us (ns.erase t) → Q .none { s with heap := h' }) :
    wpAny (model prog w) A (call (.builtin "list.remove") [.ref D, .int t u]) Q E s := by
  obtain ⟨j, h1, h2, h3, h4⟩ := erase_at ht
  have z := N (D, listOf vs.toArray n) (.head _)
  have hlen := hi.length
  have hjv : j < vs.toArray.size := by simp; omega
  have at_ : ∀ i (hi2 : i < vs.toArray.size) y, ns[i]? = some y → (match vs.toArray[i] with | .int k _ => k == t | _ => false) = (y == t) := by
    intro i hi2 y hy
    obtain ⟨tt, ht2⟩ := hi.get i y hy
    have : vs.toArray[i] = .int y tt := by
      have h9 : vs[i]? = some vs.toArray[i] := by simp
      rw [ht2] at h9; exact (Option.some.inj h9).symm
    rw [this]
  refine call_meets PySem.F.slot_list_remove ⟨_, z.1, rfl⟩ PySem.F.entry_list_remove (PySem.F.args_list_remove_2 _ _) (list_remove D vs.toArray n (.int t u) (fun y => match y with | .int k _ => k == t | _ => false) ?_ j hjv ?_ ?_ (by simp [PySem.sizeLine_eq]; omega)) ⟨z.1, h _ (vs.eraseIdx j) (F.change (Heap.SameBut.update ..) z.2.1 z.2.2) ?_ ?_⟩
  · intro y hy
    have hy' : y ∈ vs := by simpa using hy
    obtain ⟨k, hk, rfl⟩ := List.getElem_of_mem hy'
    obtain ⟨i, hi2⟩ : ∃ i, ns[k]? = some i := ⟨_, List.getElem?_eq_getElem (by rw [← hi.length]; exact hk)⟩
    obtain ⟨tt, htt⟩ := hi.get k i hi2
    rw [List.getElem?_eq_getElem hk] at htt
    rw [Option.some.inj htt]
    exact EqGives.int i t tt u
  · rw [at_ j hjv t h2]; simp
  · intro i hi2 hij
    have hin : i < ns.length := by omega
    rw [at_ i hi2 ns[i] (List.getElem?_eq_getElem hin)]
    have := h3 i ns[i] hij (List.getElem?_eq_getElem hin)
    simpa using this
  · refine kl_turn (pre := []) _ N (fun _ h => nomatch h) hoff ?_ ?_
    · apply Array.toList_inj.mp
      simp [Array.eraseIdxIfInBounds, show j < vs.length by omega]
    · have : j < vs.length := by omega
      simp [List.length_eraseIdx, this]; omega
  · rw [h4]; exact ints_erase hi j

theorem ints_of_all : ∀ (vs : List Value), (∀ v ∈ vs, ∃ (i : Int) (t : Tok), v = .int i t) → ∃ ns, IntsAre vs ns
  | [], _ => ⟨[], .nil⟩
  | v :: r, h => by
    obtain ⟨i, t, rfl⟩ := h v (.head _)
    obtain ⟨ns, hn⟩ := ints_of_all r fun u hu => h u (.tail _ hu)
    exact ⟨i :: ns, .cons i t hn⟩
theorem ints_mem {vs : List Value} {ns : List Int} (hi : IntsAre vs ns) {v : Value} (hv : v ∈ vs) : ∃ (i : Int) (t : Tok), v = .int i t := by
  obtain ⟨k, hk, rfl⟩ := List.getElem_of_mem hv
  obtain ⟨i, hi2⟩ : ∃ i, ns[k]? = some i := ⟨_, List.getElem?_eq_getElem (by rw [← hi.length]; exact hk)⟩
  obtain ⟨tt, htt⟩ := hi.get k i hi2
  rw [List.getElem?_eq_getElem hk] at htt
  exact ⟨i, tt, Option.some.inj htt⟩
theorem slice3_led {value slice : PySem.Expr} {l : Addr} {vs : List Value} {ns : List Int} {vl vu vk : Value} {lo hi st : Option Int} {ops : List Value} {Q : Value → Shared → Prop} (F : Fr h₀ L s.heap m) (N : News h₀ L s.heap news) (hl : s.heap.IsList l vs.toArray) (hi' : IntsAre vs ns) (pl : IsPart vl lo) (pu : IsPart vu hi) (pk : IsPart vk st) (h0 : st ≠ some 0) (hz : vs.length < 2 ^ 20)
    (h : ∀ D ws ms h', Fr h₀ L h' m → News h₀ L h' ((D, listOf (List.toArray ws) 0) :: news) → (∀ p ∈ news, p.1 < D) → IntsAre ws ms → Q (.ref D) { s with heap := h' })
    (hs : subscripted slice false (.ref l) (.ref s.heap.objs.size) = operate ops (getItem (.ref l) (.ref s.heap.objs.size)) := by with_unfolding_all rfl)
    (ht : ∀ r, letTemporaryGo value (.ref l) r = pure () := by intro _; with_unfolding_all rfl) :
    wpAny (model prog w) A (subscriptTail value slice (.ref l) (.ref s.heap.objs.size)) Q E { s with heap := s.heap.push { cls := .type "slice", data := .fields #[vl, vu, vk] } } := by
  refine slice_list3 F N hl pl pu pk h0 (fun h' F' N' => ?_) hs ht (by rw [List.size_toArray, PySem.sizeLine_eq]; omega)
  obtain ⟨ms, hms⟩ := ints_of_all (slicePick vs.toArray lo hi st).toList (by
    intro v hv
    simp only [slicePick, List.mem_filterMap] at hv
    obtain ⟨k, _, hk⟩ := hv
    have : v ∈ vs := by
      have := Array.mem_of_getElem? hk
      simpa using this
    exact ints_mem hi' this)
  refine h _ (slicePick vs.toArray lo hi st).toList ms h' F' ?_ (fun p hp => Nat.lt_succ_of_lt (Heap.lt_size (N p hp).1)) hms
  rw [Array.toArray_toList]
  exact N'

theorem frB {h₀ h : Heap} {L : Addr} {m₁ : Str → Option Value} {ps : List (Str × Value)} (F : Fr h₀ L h m₁) (h1 : ∀ p ∈ ps, m₁ p.1 = some p.2) : Fr h₀ L h (kstB m₁ ps) := by
  have : kstB m₁ ps = m₁ := funext fun y => kstB_eq h1 fun _ => rfl
  rw [this]; exact F
theorem frBx {h₀ h : Heap} {L : Addr} {m₁ : Str → Option Value} {x : Str} {v : Option Value} {ps : List (Str × Value)} (F : Fr h₀ L h (fun y => if y = x then v else m₁ y)) (h1 : ∀ p ∈ ps, m₁ p.1 = some p.2) : Fr h₀ L h (fun y => if y = x then v else kstB m₁ ps y) := by
  have : kstB m₁ ps = m₁ := funext fun y => kstB_eq h1 fun _ => rfl
  rw [this]; exact F
end
end Mine
end
section
open PySem PySem.W PySem.Calls PyProof.Rows
set_option maxRecDepth 100000
set_option maxHeartbeats 8000000
set_option pp.deepTerms.threshold 6
theorem Mine.warmS1 (w : World) : (model PySem.Challenge.rw_ik0114_01.row.prog w, Mine.hd.heap_39 w.params) = (model PySem.Challenge.rw_ik0114_01.row.prog w, Mine.hd.heap_39 w.params) := by
  k_fill
  rfl
local macro_rules | `(tactic| walk_at "eval Name") => `(tactic| k_dflt (refine' ld ?k1 ?k2 ?_; (case k1 => k_asm); (case k2 => exact rfl); k_whole))
local macro_rules | `(tactic| walk_at "execs cons") => `(tactic| ((with_reducible refine wpAny_execs_cons ?_); (try dsimp only)))
local macro_rules | `(tactic| walk_at "exec Assign") => `(tactic| ((with_reducible show wpAny _ _ (exec (PySem.Stmt.Assign [PySem.Expr.Name _ _] _ _) _) _ _ _); (with_reducible refine wpAny_Assign_Name ?_)))
namespace Mine

noncomputable def sdL (x : It) : Nat → List It → Nat → List It
  | 0, zs, q => zs.set q x
  | f + 1, zs, q => if q = 0 then zs.set q x else
      match zs[(q - 1) / 2]? with
      | none => zs
      | some par => if x.lt par then sdL x f (zs.set q par) ((q - 1) / 2) else zs.set q x
theorem siftdown_ct {w : World} {A A₀ : Around} {env : Env} {outer : List Env} {base h₀ : Heap} {L : Addr} {m : Str → Option Value} {s : Shared} {p : Program} {loose : List Str} {mean : ExcName → Option Value} {mg mb : Str → Option Value} {Q E : Value → Shared → Prop}
    (B : Below A₀ base outer h₀) (F : Fr h₀ L s.heap m) (X : (Mine.hd.heap_39 w.params).In h₀) (T : Top p loose mean mg mb h₀) (hA : A.frames = some (env :: outer)) (hf : env.frame = some L) (hke : env.scope.kind = .function) (hh : A.handled = none)
    {lh : Addr} {rest : List (Addr × Obj)} {zs : List It} {x : It} {pos : Nat} {n : Nat} {t0 tp : Tok} (N : News h₀ L s.heap ((lh, listOf (refs zs).toArray n) :: rest))
    (hd : A.depth + 2 < recursionLimit) (hu : A.units + 20 < cLine)
    (hoff : ∀ q ∈ rest, q.1 ≠ lh) (hz : ∀ z ∈ zs, z.ent ∈ rest) (hxx : zs[pos]? = some x) (hl : zs.length < 2 ^ 20)
    (ret : ∀ h' tk', Fr h₀ L h' m → News h₀ L h' ((lh, listOf (refs (sdL x zs.length zs pos)).toArray n) :: rest) → Q .none { s with heap := h', toks := tk' }) :
    wpAny (model PySem.Challenge.rw_ik0114_01.row.prog w) A (call (.ref 42) [.ref lh, .int 0 t0, .int pos tp]) Q E s := by
  have hpos : pos < zs.length := (List.getElem?_eq_some_iff.mp hxx).1
  have hxm : x ∈ zs := List.mem_of_getElem? hxx
  refine wpAny_call ?_
  refine' code_def ?k1 ?k2 ?k3 ?k4 ?k5 ?kA ?kF ?kK ?k6 ?k7 ?k8 ?k9 ?kB ?_ ?c2 ?c3 ?c4 ?c5
  case k1 => exact B
  case k2 => exact F
  case k3 => exact X
  case k4 => exact N
  case k5 => exact T
  case kA => exact hA
  case kF => exact hf
  case kK => exact hke
  case k6 => k_is
  case k7 => k_is
  case k8 => show A.depth < _; omega
  case k9 => exact BindsTo.of_eq rfl
  case kB => exact locs rfl
  case c2 => exact rfl
  case c3 => exact rfl
  case c4 => exact rfl
  case c5 => decide
  intro g' L' h' FG' F' N' B' X' T'
  try dsimp only
  try k_fold
  (repeat' ((fail_if_success (first | (with_reducible show InvEndG _ _ _ _ _ _) | (with_reducible show wpAny _ _ (PySem.call (PySem.Value.ref _) _) _ _ _) | (with_reducible show wpAny _ _ (PySem.call (PySem.Value.builtin _) _) _ _ _) | (with_reducible show wpAny _ _ (PySem.call (PySem.Value.type _) _) _ _ _) | (with_reducible show wpAny _ _ (subscriptTail _ _ (PySem.Value.ref _) _) _ _ _) | (with_reducible show wpAny _ _ (setItem (PySem.Value.ref _) _ _) _ _ _) | (with_reducible show wpAny _ _ (compareOp _ (PySem.Value.ref _) _) _ _ _) | (with_reducible show wpAny _ _ (compareOp _ _ (PySem.Value.ref _)) _ _ _) | (with_reducible show wpAny _ _ (binaryOp PySem.Operator.Mod _ _) _ _ _) | (with_reducible show wpAny _ _ (truthy (PySem.Value.ref _)) _ _ _) | (with_reducible show wpAny _ _ (exec (PySem.Stmt.While _ _ _ _) _) _ _ _) | (with_reducible show wpAny _ _ (exec (PySem.Stmt.For (PySem.Expr.Tuple _ _ _) _ _ _ _ _) _) _ _ _) | (with_reducible show wpAny _ _ (pyIter _) _ _ _))); (first | walk1 | (k_unfold; (try dsimp only)) | (dsimp only; walk1) | ((try dsimp only); (with_reducible show WhileStep2 _ _ _ _ _ _ PySem.Flow.brk _); dsimp only [WhileStep2]) | fail "no step")))
  refine item_items N' hl hxx ?_
  (repeat' ((fail_if_success (first | (with_reducible show InvEndG _ _ _ _ _ _) | (with_reducible show wpAny _ _ (PySem.call (PySem.Value.ref _) _) _ _ _) | (with_reducible show wpAny _ _ (PySem.call (PySem.Value.builtin _) _) _ _ _) | (with_reducible show wpAny _ _ (PySem.call (PySem.Value.type _) _) _ _ _) | (with_reducible show wpAny _ _ (subscriptTail _ _ (PySem.Value.ref _) _) _ _ _) | (with_reducible show wpAny _ _ (setItem (PySem.Value.ref _) _ _) _ _ _) | (with_reducible show wpAny _ _ (compareOp _ (PySem.Value.ref _) _) _ _ _) | (with_reducible show wpAny _ _ (compareOp _ _ (PySem.Value.ref _)) _ _ _) | (with_reducible show wpAny _ _ (binaryOp PySem.Operator.Mod _ _) _ _ _) | (with_reducible show wpAny _ _ (truthy (PySem.Value.ref _)) _ _ _) | (with_reducible show wpAny _ _ (exec (PySem.Stmt.While _ _ _ _) _) _ _ _) | (with_reducible show wpAny _ _ (exec (PySem.Stmt.For (PySem.Expr.Tuple _ _ _) _ _ _ _ _) _) _ _ _) | (with_reducible show wpAny _ _ (pyIter _) _ _ _))); (first | walk1 | (k_unfold; (try dsimp only)) | (dsimp only; walk1) | ((try dsimp only); (with_reducible show WhileStep2 _ _ _ _ _ _ PySem.Flow.brk _); dsimp only [WhileStep2]) | fail "no step")))
  (rename Fr _ _ _ _ => F1)
  (rename News _ _ _ _ => N1)
  refine While_inv2 (n₀ := pos) (fun k m₁ nx => ∃ (zs' : List It) (q : Nat) (tq : Tok), k = q ∧ nx = (lh, listOf (refs zs').toArray n) :: rest ∧
    (∀ e ∈ ([(Str.ofString "heap", .ref lh), (Str.ofString "startpos", .int 0 t0), (Str.ofString "pos", .int q tq), (Str.ofString "newitem", .ref x.a)] : List (Str × Value)), m₁ e.1 = some e.2) ∧
    zs'.length = zs.length ∧ (∀ z ∈ zs', z.ent ∈ rest) ∧ q < zs.length ∧ ∃ f, q ≤ f ∧ sdL x f zs' q = sdL x zs.length zs pos) F1 N1 ?start ?turn ?hE
  case hE => first | passes_own | with_unfolding_all passes_own
  case start =>
    refine ⟨zs, pos, tp, rfl, rfl, ?_, rfl, hz, hpos, _, Nat.le_of_lt hpos, rfl⟩
    kst_all
  case turn =>
    clear F1 N1
    rintro q0 m1 _ h1 tk1 F1 N1 ⟨zs', _, tq, rfl, rfl, hps, hlen, hz', hq, f, hfq, hsd⟩
    have F2 := frB F1 hps
    clear F1
    dsimp only [kstB] at F2
    (repeat' ((fail_if_success (first | (with_reducible show InvEndG _ _ _ _ _ _) | (with_reducible show wpAny _ _ (PySem.call (PySem.Value.ref _) _) _ _ _) | (with_reducible show wpAny _ _ (PySem.call (PySem.Value.builtin _) _) _ _ _) | (with_reducible show wpAny _ _ (PySem.call (PySem.Value.type _) _) _ _ _) | (with_reducible show wpAny _ _ (subscriptTail _ _ (PySem.Value.ref _) _) _ _ _) | (with_reducible show wpAny _ _ (setItem (PySem.Value.ref _) _ _) _ _ _) | (with_reducible show wpAny _ _ (compareOp _ (PySem.Value.ref _) _) _ _ _) | (with_reducible show wpAny _ _ (compareOp _ _ (PySem.Value.ref _)) _ _ _) | (with_reducible show wpAny _ _ (binaryOp PySem.Operator.Mod _ _) _ _ _) | (with_reducible show wpAny _ _ (truthy (PySem.Value.ref _)) _ _ _) | (with_reducible show wpAny _ _ (exec (PySem.Stmt.While _ _ _ _) _) _ _ _) | (with_reducible show wpAny _ _ (exec (PySem.Stmt.For (PySem.Expr.Tuple _ _ _) _ _ _ _ _) _) _ _ _) | (with_reducible show wpAny _ _ (pyIter _) _ _ _))); (first | walk1 | (k_unfold; (try dsimp only)) | (dsimp only; walk1) | ((try dsimp only); (with_reducible show WhileStep2 _ _ _ _ _ _ PySem.Flow.brk _); dsimp only [WhileStep2]) | fail "no step")))
    · have e2 : ((q0 : Int) - 1).fdiv (2 ^ Int.toNat 1) = (((q0 - 1) / 2 : Nat) : Int) := by
        rw [show ((2 : Int) ^ Int.toNat 1) = 2 from rfl, Int.fdiv_eq_ediv_of_nonneg _ (by decide)]; omega
      rw [e2]
      have hpp : (q0 - 1) / 2 < zs'.length := by omega
      generalize hpq : (q0 - 1) / 2 = pq at *
      obtain ⟨par, hpar⟩ : ∃ par, zs'[pq]? = some par := ⟨_, List.getElem?_eq_getElem hpp⟩
      have hparm : par ∈ zs' := List.mem_of_getElem? hpar
      ((rename Fr _ _ _ _ => F2); (rename News _ _ _ _ => N2))
      rw [e2] at F2
      refine item_items N2 (by omega) hpar ?_
      (repeat' ((fail_if_success (first | (with_reducible show InvEndG _ _ _ _ _ _) | (with_reducible show wpAny _ _ (PySem.call (PySem.Value.ref _) _) _ _ _) | (with_reducible show wpAny _ _ (PySem.call (PySem.Value.builtin _) _) _ _ _) | (with_reducible show wpAny _ _ (PySem.call (PySem.Value.type _) _) _ _ _) | (with_reducible show wpAny _ _ (subscriptTail _ _ (PySem.Value.ref _) _) _ _ _) | (with_reducible show wpAny _ _ (setItem (PySem.Value.ref _) _ _) _ _ _) | (with_reducible show wpAny _ _ (compareOp _ (PySem.Value.ref _) _) _ _ _) | (with_reducible show wpAny _ _ (compareOp _ _ (PySem.Value.ref _)) _ _ _) | (with_reducible show wpAny _ _ (binaryOp PySem.Operator.Mod _ _) _ _ _) | (with_reducible show wpAny _ _ (truthy (PySem.Value.ref _)) _ _ _) | (with_reducible show wpAny _ _ (exec (PySem.Stmt.While _ _ _ _) _) _ _ _) | (with_reducible show wpAny _ _ (exec (PySem.Stmt.For (PySem.Expr.Tuple _ _ _) _ _ _ _ _) _) _ _ _) | (with_reducible show wpAny _ _ (pyIter _) _ _ _))); (first | walk1 | (k_unfold; (try dsimp only)) | (dsimp only; walk1) | ((try dsimp only); (with_reducible show WhileStep2 _ _ _ _ _ _ PySem.Flow.brk _); dsimp only [WhileStep2]) | fail "no step")))
      ((rename Fr _ _ _ _ => F2); (rename News _ _ _ _ => N2))
      refine lt_items N2 (List.mem_cons_of_mem _ (hz _ hxm)) (List.mem_cons_of_mem _ (hz' _ hparm)) (by show A.units + 3 < _; omega) ?_
      obtain ⟨f, rfl⟩ : ∃ g, f = g + 1 := ⟨f - 1, by omega⟩
      have hq0 : q0 ≠ 0 := by omega
      rw [sdL, if_neg hq0, hpq, hpar] at hsd
      dsimp only at hsd
      (repeat' ((fail_if_success (first | (with_reducible show InvEndG _ _ _ _ _ _) | (with_reducible show wpAny _ _ (PySem.call (PySem.Value.ref _) _) _ _ _) | (with_reducible show wpAny _ _ (PySem.call (PySem.Value.builtin _) _) _ _ _) | (with_reducible show wpAny _ _ (PySem.call (PySem.Value.type _) _) _ _ _) | (with_reducible show wpAny _ _ (subscriptTail _ _ (PySem.Value.ref _) _) _ _ _) | (with_reducible show wpAny _ _ (setItem (PySem.Value.ref _) _ _) _ _ _) | (with_reducible show wpAny _ _ (compareOp _ (PySem.Value.ref _) _) _ _ _) | (with_reducible show wpAny _ _ (compareOp _ _ (PySem.Value.ref _)) _ _ _) | (with_reducible show wpAny _ _ (binaryOp PySem.Operator.Mod _ _) _ _ _) | (with_reducible show wpAny _ _ (truthy (PySem.Value.ref _)) _ _ _) | (with_reducible show wpAny _ _ (exec (PySem.Stmt.While _ _ _ _) _) _ _ _) | (with_reducible show wpAny _ _ (exec (PySem.Stmt.For (PySem.Expr.Tuple _ _ _) _ _ _ _ _) _) _ _ _) | (with_reducible show wpAny _ _ (pyIter _) _ _ _))); (first | walk1 | (k_unfold; (try dsimp only)) | (dsimp only; walk1) | ((try dsimp only); (with_reducible show WhileStep2 _ _ _ _ _ _ PySem.Flow.brk _); dsimp only [WhileStep2]) | fail "no step")))
      · (rename x.lt par = true => hlt)
        ((rename Fr _ _ _ _ => F2); (rename News _ _ _ _ => N2))
        refine set_items F2 N2 hoff (by omega) (by omega) ?_
        intro h' F2 N2
        (repeat' ((fail_if_success (first | (with_reducible show InvEndG _ _ _ _ _ _) | (with_reducible show wpAny _ _ (PySem.call (PySem.Value.ref _) _) _ _ _) | (with_reducible show wpAny _ _ (PySem.call (PySem.Value.builtin _) _) _ _ _) | (with_reducible show wpAny _ _ (PySem.call (PySem.Value.type _) _) _ _ _) | (with_reducible show wpAny _ _ (subscriptTail _ _ (PySem.Value.ref _) _) _ _ _) | (with_reducible show wpAny _ _ (setItem (PySem.Value.ref _) _ _) _ _ _) | (with_reducible show wpAny _ _ (compareOp _ (PySem.Value.ref _) _) _ _ _) | (with_reducible show wpAny _ _ (compareOp _ _ (PySem.Value.ref _)) _ _ _) | (with_reducible show wpAny _ _ (binaryOp PySem.Operator.Mod _ _) _ _ _) | (with_reducible show wpAny _ _ (truthy (PySem.Value.ref _)) _ _ _) | (with_reducible show wpAny _ _ (exec (PySem.Stmt.While _ _ _ _) _) _ _ _) | (with_reducible show wpAny _ _ (exec (PySem.Stmt.For (PySem.Expr.Tuple _ _ _) _ _ _ _ _) _) _ _ _) | (with_reducible show wpAny _ _ (pyIter _) _ _ _))); (first | walk1 | (k_unfold; (try dsimp only)) | (dsimp only; walk1) | ((try dsimp only); (with_reducible show WhileStep2 _ _ _ _ _ _ PySem.Flow.brk _); dsimp only [WhileStep2]) | fail "no step")))
        (try dsimp only)
        ((rename Fr _ _ _ _ => F2); (rename News _ _ _ _ => N2))
        rw [if_pos hlt] at hsd
        refine' ⟨_, _, _, _, pq, rfl, F2, N2, by omega, zs'.set q0 par, pq, _, rfl, rfl, ?ps, by simp [hlen], ?mem, by omega, f, by omega, hsd⟩
        case ps => kst_all
        case mem =>
          intro z hz2
          rcases List.mem_or_eq_of_mem_set hz2 with h9 | h9
          · exact hz' z h9
          · rw [h9]; exact hz' _ hparm
      · (rename x.lt par = false => hlt)
        ((rename Fr _ _ _ _ => F2); (rename News _ _ _ _ => N2))
        refine set_items F2 N2 hoff (by omega) (by omega) ?_
        intro h' F2 N2
        (repeat' ((fail_if_success (first | (with_reducible show InvEndG _ _ _ _ _ _) | (with_reducible show wpAny _ _ (PySem.call (PySem.Value.ref _) _) _ _ _) | (with_reducible show wpAny _ _ (PySem.call (PySem.Value.builtin _) _) _ _ _) | (with_reducible show wpAny _ _ (PySem.call (PySem.Value.type _) _) _ _ _) | (with_reducible show wpAny _ _ (subscriptTail _ _ (PySem.Value.ref _) _) _ _ _) | (with_reducible show wpAny _ _ (setItem (PySem.Value.ref _) _ _) _ _ _) | (with_reducible show wpAny _ _ (compareOp _ (PySem.Value.ref _) _) _ _ _) | (with_reducible show wpAny _ _ (compareOp _ _ (PySem.Value.ref _)) _ _ _) | (with_reducible show wpAny _ _ (binaryOp PySem.Operator.Mod _ _) _ _ _) | (with_reducible show wpAny _ _ (truthy (PySem.Value.ref _)) _ _ _) | (with_reducible show wpAny _ _ (exec (PySem.Stmt.While _ _ _ _) _) _ _ _) | (with_reducible show wpAny _ _ (exec (PySem.Stmt.For (PySem.Expr.Tuple _ _ _) _ _ _ _ _) _) _ _ _) | (with_reducible show wpAny _ _ (pyIter _) _ _ _))); (first | walk1 | (k_unfold; (try dsimp only)) | (dsimp only; walk1) | ((try dsimp only); (with_reducible show WhileStep2 _ _ _ _ _ _ PySem.Flow.brk _); dsimp only [WhileStep2]) | fail "no step")))
        rw [if_neg (by rw [hlt]; decide)] at hsd
        rw [← hsd] at ret
        exact ret _ _ (by assumption) (by assumption)
    · ((rename Fr _ _ _ _ => F2); (rename News _ _ _ _ => N2))
      have hq0 : q0 = 0 := by omega
      refine set_items F2 N2 hoff (by omega) (by omega) ?_
      intro h' F2 N2
      (repeat' ((fail_if_success (first | (with_reducible show InvEndG _ _ _ _ _ _) | (with_reducible show wpAny _ _ (PySem.call (PySem.Value.ref _) _) _ _ _) | (with_reducible show wpAny _ _ (PySem.call (PySem.Value.builtin _) _) _ _ _) | (with_reducible show wpAny _ _ (PySem.call (PySem.Value.type _) _) _ _ _) | (with_reducible show wpAny _ _ (subscriptTail _ _ (PySem.Value.ref _) _) _ _ _) | (with_reducible show wpAny _ _ (setItem (PySem.Value.ref _) _ _) _ _ _) | (with_reducible show wpAny _ _ (compareOp _ (PySem.Value.ref _) _) _ _ _) | (with_reducible show wpAny _ _ (compareOp _ _ (PySem.Value.ref _)) _ _ _) | (with_reducible show wpAny _ _ (binaryOp PySem.Operator.Mod _ _) _ _ _) | (with_reducible show wpAny _ _ (truthy (PySem.Value.ref _)) _ _ _) | (with_reducible show wpAny _ _ (exec (PySem.Stmt.While _ _ _ _) _) _ _ _) | (with_reducible show wpAny _ _ (exec (PySem.Stmt.For (PySem.Expr.Tuple _ _ _) _ _ _ _ _) _) _ _ _) | (with_reducible show wpAny _ _ (pyIter _) _ _ _))); (first | walk1 | (k_unfold; (try dsimp only)) | (dsimp only; walk1) | ((try dsimp only); (with_reducible show WhileStep2 _ _ _ _ _ _ PySem.Flow.brk _); dsimp only [WhileStep2]) | fail "no step")))
      subst hq0
      have e9 : zs'.set 0 x = sdL x zs.length zs pos := by
        rw [← hsd]; cases f <;> simp [sdL]
      rw [← e9] at ret
      exact ret _ _ (by assumption) (by assumption)
end Mine
end
section
open PySem PySem.W PySem.Calls PyProof.Rows
set_option maxRecDepth 100000
set_option maxHeartbeats 8000000
set_option pp.deepTerms.threshold 6
theorem Mine.warmS2 (w : World) : (model PySem.Challenge.rw_ik0114_01.row.prog w, Mine.hd.heap_39 w.params) = (model PySem.Challenge.rw_ik0114_01.row.prog w, Mine.hd.heap_39 w.params) := by
  k_fill
  rfl
local macro_rules | `(tactic| walk_at "eval Name") => `(tactic| k_dflt (refine' ld ?k1 ?k2 ?_; (case k1 => k_asm); (case k2 => exact rfl); k_whole))
local macro_rules | `(tactic| walk_at "execs cons") => `(tactic| ((with_reducible refine wpAny_execs_cons ?_); (try dsimp only)))
local macro_rules | `(tactic| walk_at "exec Assign") => `(tactic| ((with_reducible show wpAny _ _ (exec (PySem.Stmt.Assign [PySem.Expr.Name _ _] _ _) _) _ _ _); (with_reducible refine wpAny_Assign_Name ?_)))
namespace Mine
/-- which child goes up -/
def suPick (zs : List It) (q : Nat) : Nat :=
  match zs[2 * q + 1]?, zs[2 * q + 2]? with
  | some a, some b => if a.lt b then 2 * q + 1 else 2 * q + 2
  | _, _ => 2 * q + 1
noncomputable def suL : Nat → List It → Nat → List It × Nat
  | 0, zs, q => (zs, q)
  | f + 1, zs, q => match zs[suPick zs q]? with
    | some y => suL f (zs.set q y) (suPick zs q)
    | none => (zs, q)
noncomputable def suAll (zs : List It) (x : It) : List It :=
  let r := suL zs.length zs 0
  sdL x (r.1.set r.2 x).length (r.1.set r.2 x) r.2

theorem suL_len : ∀ (f : Nat) (zs : List It) (q : Nat), (suL f zs q).1.length = zs.length
  | 0, _, _ => rfl
  | f + 1, zs, q => by
    unfold suL
    split
    · rw [suL_len f]; simp
    · rfl
theorem suL_mem : ∀ (f : Nat) (zs : List It) (q : Nat), ∀ z ∈ (suL f zs q).1, z ∈ zs
  | 0, _, _ => fun _ h => h
  | f + 1, zs, q => by
    unfold suL
    split
    · rename_i y hy
      intro z hz
      rcases List.mem_or_eq_of_mem_set (suL_mem f _ _ z hz) with h | h
      · exact h
      · rw [h]; exact List.mem_of_getElem? hy
    · exact fun _ h => h
theorem suL_end {f : Nat} {zs : List It} {q : Nat} (h : zs.length ≤ 2 * q + 1) : suL f zs q = (zs, q) := by
  cases f with
  | zero => rfl
  | succ f =>
    have e1 : zs[2 * q + 1]? = none := List.getElem?_eq_none h
    have e2 : zs[2 * q + 2]? = none := List.getElem?_eq_none (by omega)
    have e3 : suPick zs q = 2 * q + 1 := by unfold suPick; rw [e1]
    unfold suL; rw [e3, e1]
theorem suPick_last {zs : List It} {q : Nat} (h : zs.length ≤ 2 * q + 2) : suPick zs q = 2 * q + 1 := by
  have e2 : zs[2 * q + 2]? = none := List.getElem?_eq_none (by omega)
  unfold suPick; rw [e2]; split <;> simp_all
theorem suPick_two {zs : List It} {q : Nat} {a b : It} (ha : zs[2 * q + 1]? = some a) (hb : zs[2 * q + 2]? = some b) : suPick zs q = if a.lt b then 2 * q + 1 else 2 * q + 2 := by
  unfold suPick; rw [ha, hb]

theorem suL_step {f : Nat} {zs : List It} {q c : Nat} {y : It} (h : suPick zs q = c) (hy : zs[c]? = some y) : suL (f + 1) zs q = suL f (zs.set q y) c := by
  show (match zs[suPick zs q]? with | some y => suL f (zs.set q y) (suPick zs q) | none => (zs, q)) = _
  rw [h, hy]

theorem siftup_ct {w : World} {A A₀ : Around} {env : Env} {outer : List Env} {base h₀ : Heap} {L : Addr} {m : Str → Option Value} {s : Shared} {p : Program} {loose : List Str} {mean : ExcName → Option Value} {mg mb : Str → Option Value} {Q E : Value → Shared → Prop}
    (B : Below A₀ base outer h₀) (F : Fr h₀ L s.heap m) (X : (Mine.hd.heap_39 w.params).In h₀) (T : Top p loose mean mg mb h₀) (hA : A.frames = some (env :: outer)) (hf : env.frame = some L) (hke : env.scope.kind = .function) (hh : A.handled = none)
    {lh : Addr} {rest : List (Addr × Obj)} {zs : List It} {x : It} {n : Nat} {t0 : Tok} (N : News h₀ L s.heap ((lh, listOf (refs zs).toArray n) :: rest))
    (hd : A.depth + 5 < recursionLimit) (hu : A.units + 40 < cLine)
    (hoff : ∀ q ∈ rest, q.1 ≠ lh) (hz : ∀ z ∈ zs, z.ent ∈ rest) (hxx : zs[0]? = some x) (hl : zs.length < 2 ^ 19)
    (ret : ∀ h' tk', Fr h₀ L h' m → News h₀ L h' ((lh, listOf (refs (suAll zs x)).toArray n) :: rest) → Q .none { s with heap := h', toks := tk' }) :
    wpAny (model PySem.Challenge.rw_ik0114_01.row.prog w) A (call (.ref 49) [.ref lh, .int 0 t0]) Q E s := by
  have hxm : x ∈ zs := List.mem_of_getElem? hxx
  refine wpAny_call ?_
  refine' code_def ?k1 ?k2 ?k3 ?k4 ?k5 ?kA ?kF ?kK ?k6 ?k7 ?k8 ?k9 ?kB ?_ ?c2 ?c3 ?c4 ?c5
  case k1 => exact B
  case k2 => exact F
  case k3 => exact X
  case k4 => exact N
  case k5 => exact T
  case kA => exact hA
  case kF => exact hf
  case kK => exact hke
  case k6 => k_is
  case k7 => k_is
  case k8 => show A.depth < _; omega
  case k9 => exact BindsTo.of_eq rfl
  case kB => exact locs rfl
  case c2 => exact rfl
  case c3 => exact rfl
  case c4 => exact rfl
  case c5 => decide
  intro g' L' h' FG' F' N' B' X' T'
  try dsimp only
  try k_fold
  (repeat' ((fail_if_success (first | (with_reducible show InvEndG _ _ _ _ _ _) | (with_reducible show wpAny _ _ (PySem.call (PySem.Value.ref _) _) _ _ _) | (with_reducible show wpAny _ _ (PySem.call (PySem.Value.builtin _) _) _ _ _) | (with_reducible show wpAny _ _ (PySem.call (PySem.Value.type _) _) _ _ _) | (with_reducible show wpAny _ _ (subscriptTail _ _ (PySem.Value.ref _) _) _ _ _) | (with_reducible show wpAny _ _ (setItem (PySem.Value.ref _) _ _) _ _ _) | (with_reducible show wpAny _ _ (compareOp _ (PySem.Value.ref _) _) _ _ _) | (with_reducible show wpAny _ _ (compareOp _ _ (PySem.Value.ref _)) _ _ _) | (with_reducible show wpAny _ _ (binaryOp PySem.Operator.Mod _ _) _ _ _) | (with_reducible show wpAny _ _ (truthy (PySem.Value.ref _)) _ _ _) | (with_reducible show wpAny _ _ (exec (PySem.Stmt.While _ _ _ _) _) _ _ _) | (with_reducible show wpAny _ _ (exec (PySem.Stmt.For (PySem.Expr.Tuple _ _ _) _ _ _ _ _) _) _ _ _) | (with_reducible show wpAny _ _ (pyIter _) _ _ _))); (first | walk1 | (k_unfold; (try dsimp only)) | (dsimp only; walk1) | ((try dsimp only); (with_reducible show WhileStep2 _ _ _ _ _ _ PySem.Flow.brk _); dsimp only [WhileStep2]) | fail "no step")))
  have hlen : (refs zs).length = zs.length := List.length_map ..
  refine len_led N' (.head _) hlen (by omega) ?_
  (repeat' ((fail_if_success (first | (with_reducible show InvEndG _ _ _ _ _ _) | (with_reducible show wpAny _ _ (PySem.call (PySem.Value.ref _) _) _ _ _) | (with_reducible show wpAny _ _ (PySem.call (PySem.Value.builtin _) _) _ _ _) | (with_reducible show wpAny _ _ (PySem.call (PySem.Value.type _) _) _ _ _) | (with_reducible show wpAny _ _ (subscriptTail _ _ (PySem.Value.ref _) _) _ _ _) | (with_reducible show wpAny _ _ (setItem (PySem.Value.ref _) _ _) _ _ _) | (with_reducible show wpAny _ _ (compareOp _ (PySem.Value.ref _) _) _ _ _) | (with_reducible show wpAny _ _ (compareOp _ _ (PySem.Value.ref _)) _ _ _) | (with_reducible show wpAny _ _ (binaryOp PySem.Operator.Mod _ _) _ _ _) | (with_reducible show wpAny _ _ (truthy (PySem.Value.ref _)) _ _ _) | (with_reducible show wpAny _ _ (exec (PySem.Stmt.While _ _ _ _) _) _ _ _) | (with_reducible show wpAny _ _ (exec (PySem.Stmt.For (PySem.Expr.Tuple _ _ _) _ _ _ _ _) _) _ _ _) | (with_reducible show wpAny _ _ (pyIter _) _ _ _))); (first | walk1 | (k_unfold; (try dsimp only)) | (dsimp only; walk1) | ((try dsimp only); (with_reducible show WhileStep2 _ _ _ _ _ _ PySem.Flow.brk _); dsimp only [WhileStep2]) | fail "no step")))
  ((rename Fr _ _ _ _ => F2); (rename News _ _ _ _ => N2))
  refine item_items (k := 0) N2 (by omega) hxx ?_
  (repeat' ((fail_if_success (first | (with_reducible show InvEndG _ _ _ _ _ _) | (with_reducible show wpAny _ _ (PySem.call (PySem.Value.ref _) _) _ _ _) | (with_reducible show wpAny _ _ (PySem.call (PySem.Value.builtin _) _) _ _ _) | (with_reducible show wpAny _ _ (PySem.call (PySem.Value.type _) _) _ _ _) | (with_reducible show wpAny _ _ (subscriptTail _ _ (PySem.Value.ref _) _) _ _ _) | (with_reducible show wpAny _ _ (setItem (PySem.Value.ref _) _ _) _ _ _) | (with_reducible show wpAny _ _ (compareOp _ (PySem.Value.ref _) _) _ _ _) | (with_reducible show wpAny _ _ (compareOp _ _ (PySem.Value.ref _)) _ _ _) | (with_reducible show wpAny _ _ (binaryOp PySem.Operator.Mod _ _) _ _ _) | (with_reducible show wpAny _ _ (truthy (PySem.Value.ref _)) _ _ _) | (with_reducible show wpAny _ _ (exec (PySem.Stmt.While _ _ _ _) _) _ _ _) | (with_reducible show wpAny _ _ (exec (PySem.Stmt.For (PySem.Expr.Tuple _ _ _) _ _ _ _ _) _) _ _ _) | (with_reducible show wpAny _ _ (pyIter _) _ _ _))); (first | walk1 | (k_unfold; (try dsimp only)) | (dsimp only; walk1) | ((try dsimp only); (with_reducible show WhileStep2 _ _ _ _ _ _ PySem.Flow.brk _); dsimp only [WhileStep2]) | fail "no step")))
  ((rename Fr _ _ _ _ => F2); (rename News _ _ _ _ => N2))
  refine While_inv2 (n₀ := zs.length) (fun k m₁ nx => ∃ (zs' : List It) (q : Nat) (tq tc te : Tok) (c pp : Int), k = zs.length - q ∧ nx = (lh, listOf (refs zs').toArray n) :: rest ∧
    (∀ e ∈ ([(Str.ofString "heap", .ref lh), (Str.ofString "startpos", .int 0 t0), (Str.ofString "newitem", .ref x.a), (Str.ofString "endpos", .int zs.length te), (Str.ofString "pos", .int pp tq), (Str.ofString "childpos", .int c tc)] : List (Str × Value)), m₁ e.1 = some e.2) ∧
    c = 2 * (q : Int) + 1 ∧ pp = (q : Int) ∧ zs'.length = zs.length ∧ (∀ z ∈ zs', z.ent ∈ rest) ∧ q < zs.length ∧ ∃ f, zs.length - q ≤ f ∧ suL f zs' q = suL zs.length zs 0) F2 N2 ?start ?turn ?hE
  case hE => first | passes_own | with_unfolding_all passes_own
  case start =>
    have hpos : 0 < zs.length := (List.getElem?_eq_some_iff.mp hxx).1
    refine' ⟨zs, 0, _, _, _, _, _, rfl, rfl, (by kst_all), by omega, by omega, rfl, hz, hpos, zs.length, by omega, rfl⟩
  case turn =>
    clear F2 N2
    rintro k0 m1 _ h1 tk1 F1 N1 ⟨zs', q0, tq, tc, te, c, pp, hk0, rfl, hps, hc, hpp, hlen', hz', hq, f, hf1, hsu⟩
    have F2 := frB F1 hps
    clear F1
    dsimp only [kstB] at F2
    (repeat' ((fail_if_success (first | (with_reducible show InvEndG _ _ _ _ _ _) | (with_reducible show wpAny _ _ (PySem.call (PySem.Value.ref _) _) _ _ _) | (with_reducible show wpAny _ _ (PySem.call (PySem.Value.builtin _) _) _ _ _) | (with_reducible show wpAny _ _ (PySem.call (PySem.Value.type _) _) _ _ _) | (with_reducible show wpAny _ _ (subscriptTail _ _ (PySem.Value.ref _) _) _ _ _) | (with_reducible show wpAny _ _ (setItem (PySem.Value.ref _) _ _) _ _ _) | (with_reducible show wpAny _ _ (compareOp _ (PySem.Value.ref _) _) _ _ _) | (with_reducible show wpAny _ _ (compareOp _ _ (PySem.Value.ref _)) _ _ _) | (with_reducible show wpAny _ _ (binaryOp PySem.Operator.Mod _ _) _ _ _) | (with_reducible show wpAny _ _ (truthy (PySem.Value.ref _)) _ _ _) | (with_reducible show wpAny _ _ (exec (PySem.Stmt.While _ _ _ _) _) _ _ _) | (with_reducible show wpAny _ _ (exec (PySem.Stmt.For (PySem.Expr.Tuple _ _ _) _ _ _ _ _) _) _ _ _) | (with_reducible show wpAny _ _ (pyIter _) _ _ _))); (first | walk1 | (k_unfold; (try dsimp only)) | (dsimp only; walk1) | ((try dsimp only); (with_reducible show WhileStep2 _ _ _ _ _ _ PySem.Flow.brk _); dsimp only [WhileStep2]) | fail "no step")))
    · -- two children
      obtain ⟨a, ha⟩ : ∃ a, zs'[2 * q0 + 1]? = some a := ⟨_, List.getElem?_eq_getElem (by omega)⟩
      obtain ⟨b, hb⟩ : ∃ b, zs'[2 * q0 + 2]? = some b := ⟨_, List.getElem?_eq_getElem (by omega)⟩
      ((rename Fr _ _ _ _ => F2); (rename News _ _ _ _ => N2))
      refine item_itemsI N2 (by omega) (j := 2 * q0 + 1) (by omega) ha ?_
      (repeat' ((fail_if_success (first | (with_reducible show InvEndG _ _ _ _ _ _) | (with_reducible show wpAny _ _ (PySem.call (PySem.Value.ref _) _) _ _ _) | (with_reducible show wpAny _ _ (PySem.call (PySem.Value.builtin _) _) _ _ _) | (with_reducible show wpAny _ _ (PySem.call (PySem.Value.type _) _) _ _ _) | (with_reducible show wpAny _ _ (subscriptTail _ _ (PySem.Value.ref _) _) _ _ _) | (with_reducible show wpAny _ _ (setItem (PySem.Value.ref _) _ _) _ _ _) | (with_reducible show wpAny _ _ (compareOp _ (PySem.Value.ref _) _) _ _ _) | (with_reducible show wpAny _ _ (compareOp _ _ (PySem.Value.ref _)) _ _ _) | (with_reducible show wpAny _ _ (binaryOp PySem.Operator.Mod _ _) _ _ _) | (with_reducible show wpAny _ _ (truthy (PySem.Value.ref _)) _ _ _) | (with_reducible show wpAny _ _ (exec (PySem.Stmt.While _ _ _ _) _) _ _ _) | (with_reducible show wpAny _ _ (exec (PySem.Stmt.For (PySem.Expr.Tuple _ _ _) _ _ _ _ _) _) _ _ _) | (with_reducible show wpAny _ _ (pyIter _) _ _ _))); (first | walk1 | (k_unfold; (try dsimp only)) | (dsimp only; walk1) | ((try dsimp only); (with_reducible show WhileStep2 _ _ _ _ _ _ PySem.Flow.brk _); dsimp only [WhileStep2]) | fail "no step")))
      ((rename Fr _ _ _ _ => F2); (rename News _ _ _ _ => N2))
      refine item_itemsI N2 (by omega) (j := 2 * q0 + 2) (by omega) hb ?_
      (repeat' ((fail_if_success (first | (with_reducible show InvEndG _ _ _ _ _ _) | (with_reducible show wpAny _ _ (PySem.call (PySem.Value.ref _) _) _ _ _) | (with_reducible show wpAny _ _ (PySem.call (PySem.Value.builtin _) _) _ _ _) | (with_reducible show wpAny _ _ (PySem.call (PySem.Value.type _) _) _ _ _) | (with_reducible show wpAny _ _ (subscriptTail _ _ (PySem.Value.ref _) _) _ _ _) | (with_reducible show wpAny _ _ (setItem (PySem.Value.ref _) _ _) _ _ _) | (with_reducible show wpAny _ _ (compareOp _ (PySem.Value.ref _) _) _ _ _) | (with_reducible show wpAny _ _ (compareOp _ _ (PySem.Value.ref _)) _ _ _) | (with_reducible show wpAny _ _ (binaryOp PySem.Operator.Mod _ _) _ _ _) | (with_reducible show wpAny _ _ (truthy (PySem.Value.ref _)) _ _ _) | (with_reducible show wpAny _ _ (exec (PySem.Stmt.While _ _ _ _) _) _ _ _) | (with_reducible show wpAny _ _ (exec (PySem.Stmt.For (PySem.Expr.Tuple _ _ _) _ _ _ _ _) _) _ _ _) | (with_reducible show wpAny _ _ (pyIter _) _ _ _))); (first | walk1 | (k_unfold; (try dsimp only)) | (dsimp only; walk1) | ((try dsimp only); (with_reducible show WhileStep2 _ _ _ _ _ _ PySem.Flow.brk _); dsimp only [WhileStep2]) | fail "no step")))
      ((rename Fr _ _ _ _ => F2); (rename News _ _ _ _ => N2))
      refine lt_items N2 (List.mem_cons_of_mem _ (hz' _ (List.mem_of_getElem? ha))) (List.mem_cons_of_mem _ (hz' _ (List.mem_of_getElem? hb))) (by show A.units + 3 < _; omega) ?_
      (repeat' ((fail_if_success (first | (with_reducible show InvEndG _ _ _ _ _ _) | (with_reducible show wpAny _ _ (PySem.call (PySem.Value.ref _) _) _ _ _) | (with_reducible show wpAny _ _ (PySem.call (PySem.Value.builtin _) _) _ _ _) | (with_reducible show wpAny _ _ (PySem.call (PySem.Value.type _) _) _ _ _) | (with_reducible show wpAny _ _ (subscriptTail _ _ (PySem.Value.ref _) _) _ _ _) | (with_reducible show wpAny _ _ (setItem (PySem.Value.ref _) _ _) _ _ _) | (with_reducible show wpAny _ _ (compareOp _ (PySem.Value.ref _) _) _ _ _) | (with_reducible show wpAny _ _ (compareOp _ _ (PySem.Value.ref _)) _ _ _) | (with_reducible show wpAny _ _ (binaryOp PySem.Operator.Mod _ _) _ _ _) | (with_reducible show wpAny _ _ (truthy (PySem.Value.ref _)) _ _ _) | (with_reducible show wpAny _ _ (exec (PySem.Stmt.While _ _ _ _) _) _ _ _) | (with_reducible show wpAny _ _ (exec (PySem.Stmt.For (PySem.Expr.Tuple _ _ _) _ _ _ _ _) _) _ _ _) | (with_reducible show wpAny _ _ (pyIter _) _ _ _))); (first | walk1 | (k_unfold; (try dsimp only)) | (dsimp only; walk1) | ((try dsimp only); (with_reducible show WhileStep2 _ _ _ _ _ _ PySem.Flow.brk _); dsimp only [WhileStep2]) | fail "no step")))
      · (rename a.lt b = true => hlt)
        have hpk : suPick zs' q0 = 2 * q0 + 1 := by rw [suPick_two ha hb, if_pos hlt]
        generalize hc1 : 2 * q0 + 1 = c1 at *
        have hy := ha
        generalize a = y at hy
        ((rename Fr _ _ _ _ => F2); (rename News _ _ _ _ => N2))
        refine item_itemsI N2 (by omega) (j := c1) (by omega) hy ?_
        (repeat' ((fail_if_success (first | (with_reducible show InvEndG _ _ _ _ _ _) | (with_reducible show wpAny _ _ (PySem.call (PySem.Value.ref _) _) _ _ _) | (with_reducible show wpAny _ _ (PySem.call (PySem.Value.builtin _) _) _ _ _) | (with_reducible show wpAny _ _ (PySem.call (PySem.Value.type _) _) _ _ _) | (with_reducible show wpAny _ _ (subscriptTail _ _ (PySem.Value.ref _) _) _ _ _) | (with_reducible show wpAny _ _ (setItem (PySem.Value.ref _) _ _) _ _ _) | (with_reducible show wpAny _ _ (compareOp _ (PySem.Value.ref _) _) _ _ _) | (with_reducible show wpAny _ _ (compareOp _ _ (PySem.Value.ref _)) _ _ _) | (with_reducible show wpAny _ _ (binaryOp PySem.Operator.Mod _ _) _ _ _) | (with_reducible show wpAny _ _ (truthy (PySem.Value.ref _)) _ _ _) | (with_reducible show wpAny _ _ (exec (PySem.Stmt.While _ _ _ _) _) _ _ _) | (with_reducible show wpAny _ _ (exec (PySem.Stmt.For (PySem.Expr.Tuple _ _ _) _ _ _ _ _) _) _ _ _) | (with_reducible show wpAny _ _ (pyIter _) _ _ _))); (first | walk1 | (k_unfold; (try dsimp only)) | (dsimp only; walk1) | ((try dsimp only); (with_reducible show WhileStep2 _ _ _ _ _ _ PySem.Flow.brk _); dsimp only [WhileStep2]) | fail "no step")))
        ((rename Fr _ _ _ _ => F2); (rename News _ _ _ _ => N2))
        refine set_itemsI F2 N2 hoff (by omega) hpp (by omega) ?_
        intro h' F2 N2
        (repeat' ((fail_if_success (first | (with_reducible show InvEndG _ _ _ _ _ _) | (with_reducible show wpAny _ _ (PySem.call (PySem.Value.ref _) _) _ _ _) | (with_reducible show wpAny _ _ (PySem.call (PySem.Value.builtin _) _) _ _ _) | (with_reducible show wpAny _ _ (PySem.call (PySem.Value.type _) _) _ _ _) | (with_reducible show wpAny _ _ (subscriptTail _ _ (PySem.Value.ref _) _) _ _ _) | (with_reducible show wpAny _ _ (setItem (PySem.Value.ref _) _ _) _ _ _) | (with_reducible show wpAny _ _ (compareOp _ (PySem.Value.ref _) _) _ _ _) | (with_reducible show wpAny _ _ (compareOp _ _ (PySem.Value.ref _)) _ _ _) | (with_reducible show wpAny _ _ (binaryOp PySem.Operator.Mod _ _) _ _ _) | (with_reducible show wpAny _ _ (truthy (PySem.Value.ref _)) _ _ _) | (with_reducible show wpAny _ _ (exec (PySem.Stmt.While _ _ _ _) _) _ _ _) | (with_reducible show wpAny _ _ (exec (PySem.Stmt.For (PySem.Expr.Tuple _ _ _) _ _ _ _ _) _) _ _ _) | (with_reducible show wpAny _ _ (pyIter _) _ _ _))); (first | walk1 | (k_unfold; (try dsimp only)) | (dsimp only; walk1) | ((try dsimp only); (with_reducible show WhileStep2 _ _ _ _ _ _ PySem.Flow.brk _); dsimp only [WhileStep2]) | fail "no step")))
        (try dsimp only)
        ((rename Fr _ _ _ _ => F2); (rename News _ _ _ _ => N2))
        obtain ⟨f, rfl⟩ : ∃ g, f = g + 1 := ⟨f - 1, by omega⟩
        rw [suL_step hpk hy] at hsu
        refine ⟨_, _, _, _, zs.length - c1, rfl, F2, N2, by omega, zs'.set q0 y, c1, _, _, _, _, _, rfl, rfl, (by kst_all), by omega, by omega, by simp [hlen'], ?_, by omega, f, by omega, hsu⟩
        intro z hz2
        rcases List.mem_or_eq_of_mem_set hz2 with h9 | h9
        · exact hz' z h9
        · rw [h9]; exact hz' _ (List.mem_of_getElem? hy)
      · (rename a.lt b = false => hlt)
        have hpk : suPick zs' q0 = 2 * q0 + 2 := by rw [suPick_two ha hb, if_neg (by rw [hlt]; decide)]
        generalize hc1 : 2 * q0 + 2 = c1 at *
        have hy := hb
        generalize b = y at hy
        ((rename Fr _ _ _ _ => F2); (rename News _ _ _ _ => N2))
        refine item_itemsI N2 (by omega) (j := c1) (by omega) hy ?_
        (repeat' ((fail_if_success (first | (with_reducible show InvEndG _ _ _ _ _ _) | (with_reducible show wpAny _ _ (PySem.call (PySem.Value.ref _) _) _ _ _) | (with_reducible show wpAny _ _ (PySem.call (PySem.Value.builtin _) _) _ _ _) | (with_reducible show wpAny _ _ (PySem.call (PySem.Value.type _) _) _ _ _) | (with_reducible show wpAny _ _ (subscriptTail _ _ (PySem.Value.ref _) _) _ _ _) | (with_reducible show wpAny _ _ (setItem (PySem.Value.ref _) _ _) _ _ _) | (with_reducible show wpAny _ _ (compareOp _ (PySem.Value.ref _) _) _ _ _) | (with_reducible show wpAny _ _ (compareOp _ _ (PySem.Value.ref _)) _ _ _) | (with_reducible show wpAny _ _ (binaryOp PySem.Operator.Mod _ _) _ _ _) | (with_reducible show wpAny _ _ (truthy (PySem.Value.ref _)) _ _ _) | (with_reducible show wpAny _ _ (exec (PySem.Stmt.While _ _ _ _) _) _ _ _) | (with_reducible show wpAny _ _ (exec (PySem.Stmt.For (PySem.Expr.Tuple _ _ _) _ _ _ _ _) _) _ _ _) | (with_reducible show wpAny _ _ (pyIter _) _ _ _))); (first | walk1 | (k_unfold; (try dsimp only)) | (dsimp only; walk1) | ((try dsimp only); (with_reducible show WhileStep2 _ _ _ _ _ _ PySem.Flow.brk _); dsimp only [WhileStep2]) | fail "no step")))
        ((rename Fr _ _ _ _ => F2); (rename News _ _ _ _ => N2))
        refine set_itemsI F2 N2 hoff (by omega) hpp (by omega) ?_
        intro h' F2 N2
        (repeat' ((fail_if_success (first | (with_reducible show InvEndG _ _ _ _ _ _) | (with_reducible show wpAny _ _ (PySem.call (PySem.Value.ref _) _) _ _ _) | (with_reducible show wpAny _ _ (PySem.call (PySem.Value.builtin _) _) _ _ _) | (with_reducible show wpAny _ _ (PySem.call (PySem.Value.type _) _) _ _ _) | (with_reducible show wpAny _ _ (subscriptTail _ _ (PySem.Value.ref _) _) _ _ _) | (with_reducible show wpAny _ _ (setItem (PySem.Value.ref _) _ _) _ _ _) | (with_reducible show wpAny _ _ (compareOp _ (PySem.Value.ref _) _) _ _ _) | (with_reducible show wpAny _ _ (compareOp _ _ (PySem.Value.ref _)) _ _ _) | (with_reducible show wpAny _ _ (binaryOp PySem.Operator.Mod _ _) _ _ _) | (with_reducible show wpAny _ _ (truthy (PySem.Value.ref _)) _ _ _) | (with_reducible show wpAny _ _ (exec (PySem.Stmt.While _ _ _ _) _) _ _ _) | (with_reducible show wpAny _ _ (exec (PySem.Stmt.For (PySem.Expr.Tuple _ _ _) _ _ _ _ _) _) _ _ _) | (with_reducible show wpAny _ _ (pyIter _) _ _ _))); (first | walk1 | (k_unfold; (try dsimp only)) | (dsimp only; walk1) | ((try dsimp only); (with_reducible show WhileStep2 _ _ _ _ _ _ PySem.Flow.brk _); dsimp only [WhileStep2]) | fail "no step")))
        (try dsimp only)
        ((rename Fr _ _ _ _ => F2); (rename News _ _ _ _ => N2))
        obtain ⟨f, rfl⟩ : ∃ g, f = g + 1 := ⟨f - 1, by omega⟩
        rw [suL_step hpk hy] at hsu
        refine ⟨_, _, _, _, zs.length - c1, rfl, F2, N2, by omega, zs'.set q0 y, c1, _, _, _, _, _, rfl, rfl, (by kst_all), by omega, by omega, by simp [hlen'], ?_, by omega, f, by omega, hsu⟩
        intro z hz2
        rcases List.mem_or_eq_of_mem_set hz2 with h9 | h9
        · exact hz' z h9
        · rw [h9]; exact hz' _ (List.mem_of_getElem? hy)
    · -- one child
      obtain ⟨y, hy⟩ : ∃ a, zs'[2 * q0 + 1]? = some a := ⟨_, List.getElem?_eq_getElem (by omega)⟩
      have hpk : suPick zs' q0 = 2 * q0 + 1 := suPick_last (by omega)
      generalize hc1 : 2 * q0 + 1 = c1 at *
      ((rename Fr _ _ _ _ => F2); (rename News _ _ _ _ => N2))
      refine item_itemsI N2 (by omega) (j := c1) (by omega) hy ?_
      (repeat' ((fail_if_success (first | (with_reducible show InvEndG _ _ _ _ _ _) | (with_reducible show wpAny _ _ (PySem.call (PySem.Value.ref _) _) _ _ _) | (with_reducible show wpAny _ _ (PySem.call (PySem.Value.builtin _) _) _ _ _) | (with_reducible show wpAny _ _ (PySem.call (PySem.Value.type _) _) _ _ _) | (with_reducible show wpAny _ _ (subscriptTail _ _ (PySem.Value.ref _) _) _ _ _) | (with_reducible show wpAny _ _ (setItem (PySem.Value.ref _) _ _) _ _ _) | (with_reducible show wpAny _ _ (compareOp _ (PySem.Value.ref _) _) _ _ _) | (with_reducible show wpAny _ _ (compareOp _ _ (PySem.Value.ref _)) _ _ _) | (with_reducible show wpAny _ _ (binaryOp PySem.Operator.Mod _ _) _ _ _) | (with_reducible show wpAny _ _ (truthy (PySem.Value.ref _)) _ _ _) | (with_reducible show wpAny _ _ (exec (PySem.Stmt.While _ _ _ _) _) _ _ _) | (with_reducible show wpAny _ _ (exec (PySem.Stmt.For (PySem.Expr.Tuple _ _ _) _ _ _ _ _) _) _ _ _) | (with_reducible show wpAny _ _ (pyIter _) _ _ _))); (first | walk1 | (k_unfold; (try dsimp only)) | (dsimp only; walk1) | ((try dsimp only); (with_reducible show WhileStep2 _ _ _ _ _ _ PySem.Flow.brk _); dsimp only [WhileStep2]) | fail "no step")))
      ((rename Fr _ _ _ _ => F2); (rename News _ _ _ _ => N2))
      refine set_itemsI F2 N2 hoff (by omega) hpp (by omega) ?_
      intro h' F2 N2
      (repeat' ((fail_if_success (first | (with_reducible show InvEndG _ _ _ _ _ _) | (with_reducible show wpAny _ _ (PySem.call (PySem.Value.ref _) _) _ _ _) | (with_reducible show wpAny _ _ (PySem.call (PySem.Value.builtin _) _) _ _ _) | (with_reducible show wpAny _ _ (PySem.call (PySem.Value.type _) _) _ _ _) | (with_reducible show wpAny _ _ (subscriptTail _ _ (PySem.Value.ref _) _) _ _ _) | (with_reducible show wpAny _ _ (setItem (PySem.Value.ref _) _ _) _ _ _) | (with_reducible show wpAny _ _ (compareOp _ (PySem.Value.ref _) _) _ _ _) | (with_reducible show wpAny _ _ (compareOp _ _ (PySem.Value.ref _)) _ _ _) | (with_reducible show wpAny _ _ (binaryOp PySem.Operator.Mod _ _) _ _ _) | (with_reducible show wpAny _ _ (truthy (PySem.Value.ref _)) _ _ _) | (with_reducible show wpAny _ _ (exec (PySem.Stmt.While _ _ _ _) _) _ _ _) | (with_reducible show wpAny _ _ (exec (PySem.Stmt.For (PySem.Expr.Tuple _ _ _) _ _ _ _ _) _) _ _ _) | (with_reducible show wpAny _ _ (pyIter _) _ _ _))); (first | walk1 | (k_unfold; (try dsimp only)) | (dsimp only; walk1) | ((try dsimp only); (with_reducible show WhileStep2 _ _ _ _ _ _ PySem.Flow.brk _); dsimp only [WhileStep2]) | fail "no step")))
      (try dsimp only)
      ((rename Fr _ _ _ _ => F2); (rename News _ _ _ _ => N2))
      obtain ⟨f, rfl⟩ : ∃ g, f = g + 1 := ⟨f - 1, by omega⟩
      rw [suL_step hpk hy] at hsu
      refine ⟨_, _, _, _, zs.length - c1, rfl, F2, N2, by omega, zs'.set q0 y, c1, _, _, _, _, _, rfl, rfl, (by kst_all), by omega, by omega, by simp [hlen'], ?_, by omega, f, by omega, hsu⟩
      intro z hz2
      rcases List.mem_or_eq_of_mem_set hz2 with h9 | h9
      · exact hz' z h9
      · rw [h9]; exact hz' _ (List.mem_of_getElem? hy)
    · -- none
      ((rename Fr _ _ _ _ => F2); (rename News _ _ _ _ => N2))
      have hrun : suL f zs' q0 = (zs', q0) := suL_end (by omega)
      rw [hrun] at hsu
      refine set_itemsI F2 N2 hoff (by omega) hpp (by omega) ?_
      intro h' F2 N2
      (repeat' ((fail_if_success (first | (with_reducible show InvEndG _ _ _ _ _ _) | (with_reducible show wpAny _ _ (PySem.call (PySem.Value.ref _) _) _ _ _) | (with_reducible show wpAny _ _ (PySem.call (PySem.Value.builtin _) _) _ _ _) | (with_reducible show wpAny _ _ (PySem.call (PySem.Value.type _) _) _ _ _) | (with_reducible show wpAny _ _ (subscriptTail _ _ (PySem.Value.ref _) _) _ _ _) | (with_reducible show wpAny _ _ (setItem (PySem.Value.ref _) _ _) _ _ _) | (with_reducible show wpAny _ _ (compareOp _ (PySem.Value.ref _) _) _ _ _) | (with_reducible show wpAny _ _ (compareOp _ _ (PySem.Value.ref _)) _ _ _) | (with_reducible show wpAny _ _ (binaryOp PySem.Operator.Mod _ _) _ _ _) | (with_reducible show wpAny _ _ (truthy (PySem.Value.ref _)) _ _ _) | (with_reducible show wpAny _ _ (exec (PySem.Stmt.While _ _ _ _) _) _ _ _) | (with_reducible show wpAny _ _ (exec (PySem.Stmt.For (PySem.Expr.Tuple _ _ _) _ _ _ _ _) _) _ _ _) | (with_reducible show wpAny _ _ (pyIter _) _ _ _))); (first | walk1 | (k_unfold; (try dsimp only)) | (dsimp only; walk1) | ((try dsimp only); (with_reducible show WhileStep2 _ _ _ _ _ _ PySem.Flow.brk _); dsimp only [WhileStep2]) | fail "no step")))
      ((rename Fr _ _ _ _ => F2); (rename News _ _ _ _ => N2))
      have hmem : ∀ z ∈ zs'.set q0 x, z.ent ∈ rest := by
        intro z hz2
        rcases List.mem_or_eq_of_mem_set hz2 with h9 | h9
        · exact hz' z h9
        · rw [h9]; exact hz _ hxm
      subst hpp
      refine' siftdown_ct ?kB F2 ?kX ?kT ?kA ?kf ?kk ?kh N2 ?kd ?ku hoff hmem ?kx ?kl ?_
      ((case kB => assumption); (case kX => assumption); (case kT => assumption); (case kA => (dsimp only [Around.deeper]; rw [hA]; exact rfl)); (case kf => exact rfl); (case kk => exact rfl); (case kh => exact hh); (case kd => (dsimp only [Around.deeper]; omega)); (case ku => (dsimp only [Around.deeper]; omega)))
      case kx => exact (List.getElem?_set_self (by omega))
      case kl => simp only [List.length_set]; omega
      intro h' tk' F2 N2
      have e9 : sdL x (zs'.set q0 x).length (zs'.set q0 x) q0 = suAll zs x := by
        unfold suAll; rw [← hsu]
      rw [e9] at N2
      (repeat' ((fail_if_success (first | (with_reducible show InvEndG _ _ _ _ _ _) | (with_reducible show wpAny _ _ (PySem.call (PySem.Value.ref _) _) _ _ _) | (with_reducible show wpAny _ _ (PySem.call (PySem.Value.builtin _) _) _ _ _) | (with_reducible show wpAny _ _ (PySem.call (PySem.Value.type _) _) _ _ _) | (with_reducible show wpAny _ _ (subscriptTail _ _ (PySem.Value.ref _) _) _ _ _) | (with_reducible show wpAny _ _ (setItem (PySem.Value.ref _) _ _) _ _ _) | (with_reducible show wpAny _ _ (compareOp _ (PySem.Value.ref _) _) _ _ _) | (with_reducible show wpAny _ _ (compareOp _ _ (PySem.Value.ref _)) _ _ _) | (with_reducible show wpAny _ _ (binaryOp PySem.Operator.Mod _ _) _ _ _) | (with_reducible show wpAny _ _ (truthy (PySem.Value.ref _)) _ _ _) | (with_reducible show wpAny _ _ (exec (PySem.Stmt.While _ _ _ _) _) _ _ _) | (with_reducible show wpAny _ _ (exec (PySem.Stmt.For (PySem.Expr.Tuple _ _ _) _ _ _ _ _) _) _ _ _) | (with_reducible show wpAny _ _ (pyIter _) _ _ _))); (first | walk1 | (k_unfold; (try dsimp only)) | (dsimp only; walk1) | ((try dsimp only); (with_reducible show WhileStep2 _ _ _ _ _ _ PySem.Flow.brk _); dsimp only [WhileStep2]) | fail "no step")))
      exact ret _ _ (by assumption) (by assumption)
end Mine
end
section
open PySem PySem.W PySem.Calls PyProof.Rows
set_option maxRecDepth 100000
set_option maxHeartbeats 8000000
set_option pp.deepTerms.threshold 6
theorem Mine.warmS3 (w : World) : (model PySem.Challenge.rw_ik0114_01.row.prog w, Mine.hd.heap_39 w.params) = (model PySem.Challenge.rw_ik0114_01.row.prog w, Mine.hd.heap_39 w.params) := by
  k_fill
  rfl
local macro_rules | `(tactic| walk_at "eval Name") => `(tactic| k_dflt (refine' ld ?k1 ?k2 ?_; (case k1 => k_asm); (case k2 => exact rfl); k_whole))
local macro_rules | `(tactic| walk_at "execs cons") => `(tactic| ((with_reducible refine wpAny_execs_cons ?_); (try dsimp only)))
local macro_rules | `(tactic| walk_at "exec Assign") => `(tactic| ((with_reducible show wpAny _ _ (exec (PySem.Stmt.Assign [PySem.Expr.Name _ _] _ _) _) _ _ _); (with_reducible refine wpAny_Assign_Name ?_)))
namespace Mine
noncomputable def hpush (zs : List It) (x : It) : List It := sdL x (zs ++ [x]).length (zs ++ [x]) zs.length
noncomputable def hpop (zs : List It) (x : It) : It × List It :=
  match zs with
  | [] => (x, [])
  | y :: r => (y, suAll (x :: r) x)

theorem heappush_ct {w : World} {A A₀ : Around} {env : Env} {outer : List Env} {base h₀ : Heap} {L : Addr} {m : Str → Option Value} {s : Shared} {p : Program} {loose : List Str} {mean : ExcName → Option Value} {mg mb : Str → Option Value} {Q E : Value → Shared → Prop}
    (B : Below A₀ base outer h₀) (F : Fr h₀ L s.heap m) (X : (Mine.hd.heap_39 w.params).In h₀) (T : Top p loose mean mg mb h₀) (hA : A.frames = some (env :: outer)) (hf : env.frame = some L) (hke : env.scope.kind = .function) (hh : A.handled = none)
    {lh : Addr} {rest : List (Addr × Obj)} {zs : List It} {x : It} {n : Nat} (N : News h₀ L s.heap ((lh, listOf (refs zs).toArray n) :: rest))
    (hd : A.depth + 5 < recursionLimit) (hu : A.units + 40 < cLine)
    (hoff : ∀ q ∈ rest, q.1 ≠ lh) (hz : ∀ z ∈ zs, z.ent ∈ rest) (hx : x.ent ∈ rest) (hl : zs.length < 2 ^ 18)
    (ret : ∀ h' tk', Fr h₀ L h' m → News h₀ L h' ((lh, listOf (refs (hpush zs x)).toArray (n + 1)) :: rest) → Q .none { s with heap := h', toks := tk' }) :
    wpAny (model PySem.Challenge.rw_ik0114_01.row.prog w) A (call (.ref 28) [.ref lh, .ref x.a]) Q E s := by
  have hlen : (refs zs).length = zs.length := List.length_map ..
  have hlen2 : (refs (zs ++ [x])).length = zs.length + 1 := by simp
  refine wpAny_call ?_
  refine' code_def ?k1 ?k2 ?k3 ?k4 ?k5 ?kA ?kF ?kK ?k6 ?k7 ?k8 ?k9 ?kB ?_ ?c2 ?c3 ?c4 ?c5
  case k1 => exact B
  case k2 => exact F
  case k3 => exact X
  case k4 => exact N
  case k5 => exact T
  case kA => exact hA
  case kF => exact hf
  case kK => exact hke
  case k6 => k_is
  case k7 => k_is
  case k8 => show A.depth < _; omega
  case k9 => exact BindsTo.of_eq rfl
  case kB => exact locs rfl
  case c2 => exact rfl
  case c3 => exact rfl
  case c4 => exact rfl
  case c5 => decide
  intro g' L' h' FG' F' N' B' X' T'
  try dsimp only
  try k_fold
  (repeat' ((fail_if_success (first | (with_reducible show InvEndG _ _ _ _ _ _) | (with_reducible show wpAny _ _ (PySem.call (PySem.Value.ref _) _) _ _ _) | (with_reducible show wpAny _ _ (PySem.call (PySem.Value.builtin _) _) _ _ _) | (with_reducible show wpAny _ _ (PySem.call (PySem.Value.type _) _) _ _ _) | (with_reducible show wpAny _ _ (subscriptTail _ _ (PySem.Value.ref _) _) _ _ _) | (with_reducible show wpAny _ _ (setItem (PySem.Value.ref _) _ _) _ _ _) | (with_reducible show wpAny _ _ (compareOp _ (PySem.Value.ref _) _) _ _ _) | (with_reducible show wpAny _ _ (compareOp _ _ (PySem.Value.ref _)) _ _ _) | (with_reducible show wpAny _ _ (binaryOp PySem.Operator.Mod _ _) _ _ _) | (with_reducible show wpAny _ _ (truthy (PySem.Value.ref _)) _ _ _) | (with_reducible show wpAny _ _ (exec (PySem.Stmt.While _ _ _ _) _) _ _ _) | (with_reducible show wpAny _ _ (exec (PySem.Stmt.For (PySem.Expr.Tuple _ _ _) _ _ _ _ _) _) _ _ _) | (with_reducible show wpAny _ _ (pyIter _) _ _ _))); (first | walk1 | (k_unfold; (try dsimp only)) | (dsimp only; walk1) | ((try dsimp only); (with_reducible show WhileStep2 _ _ _ _ _ _ PySem.Flow.brk _); dsimp only [WhileStep2]) | fail "no step")))
  have e : refs zs ++ [.ref x.a] = refs (zs ++ [x]) := by simp
  refine append_led F' N' (.head hoff) (by omega) ?_
  intro h' F2 N2
  rw [e] at N2
  (repeat' ((fail_if_success (first | (with_reducible show InvEndG _ _ _ _ _ _) | (with_reducible show wpAny _ _ (PySem.call (PySem.Value.ref _) _) _ _ _) | (with_reducible show wpAny _ _ (PySem.call (PySem.Value.builtin _) _) _ _ _) | (with_reducible show wpAny _ _ (PySem.call (PySem.Value.type _) _) _ _ _) | (with_reducible show wpAny _ _ (subscriptTail _ _ (PySem.Value.ref _) _) _ _ _) | (with_reducible show wpAny _ _ (setItem (PySem.Value.ref _) _ _) _ _ _) | (with_reducible show wpAny _ _ (compareOp _ (PySem.Value.ref _) _) _ _ _) | (with_reducible show wpAny _ _ (compareOp _ _ (PySem.Value.ref _)) _ _ _) | (with_reducible show wpAny _ _ (binaryOp PySem.Operator.Mod _ _) _ _ _) | (with_reducible show wpAny _ _ (truthy (PySem.Value.ref _)) _ _ _) | (with_reducible show wpAny _ _ (exec (PySem.Stmt.While _ _ _ _) _) _ _ _) | (with_reducible show wpAny _ _ (exec (PySem.Stmt.For (PySem.Expr.Tuple _ _ _) _ _ _ _ _) _) _ _ _) | (with_reducible show wpAny _ _ (pyIter _) _ _ _))); (first | walk1 | (k_unfold; (try dsimp only)) | (dsimp only; walk1) | ((try dsimp only); (with_reducible show WhileStep2 _ _ _ _ _ _ PySem.Flow.brk _); dsimp only [WhileStep2]) | fail "no step")))
  ((rename Fr _ _ _ _ => F2); (rename News _ _ _ _ => N2))
  refine len_led N2 (.head _) hlen2 (by omega) ?_
  (repeat' ((fail_if_success (first | (with_reducible show InvEndG _ _ _ _ _ _) | (with_reducible show wpAny _ _ (PySem.call (PySem.Value.ref _) _) _ _ _) | (with_reducible show wpAny _ _ (PySem.call (PySem.Value.builtin _) _) _ _ _) | (with_reducible show wpAny _ _ (PySem.call (PySem.Value.type _) _) _ _ _) | (with_reducible show wpAny _ _ (subscriptTail _ _ (PySem.Value.ref _) _) _ _ _) | (with_reducible show wpAny _ _ (setItem (PySem.Value.ref _) _ _) _ _ _) | (with_reducible show wpAny _ _ (compareOp _ (PySem.Value.ref _) _) _ _ _) | (with_reducible show wpAny _ _ (compareOp _ _ (PySem.Value.ref _)) _ _ _) | (with_reducible show wpAny _ _ (binaryOp PySem.Operator.Mod _ _) _ _ _) | (with_reducible show wpAny _ _ (truthy (PySem.Value.ref _)) _ _ _) | (with_reducible show wpAny _ _ (exec (PySem.Stmt.While _ _ _ _) _) _ _ _) | (with_reducible show wpAny _ _ (exec (PySem.Stmt.For (PySem.Expr.Tuple _ _ _) _ _ _ _ _) _) _ _ _) | (with_reducible show wpAny _ _ (pyIter _) _ _ _))); (first | walk1 | (k_unfold; (try dsimp only)) | (dsimp only; walk1) | ((try dsimp only); (with_reducible show WhileStep2 _ _ _ _ _ _ PySem.Flow.brk _); dsimp only [WhileStep2]) | fail "no step")))
  ((rename Fr _ _ _ _ => F2); (rename News _ _ _ _ => N2))
  have ei : ((zs.length + 1 : Nat) : Int) - 1 = (zs.length : Int) := by omega
  rw [ei]
  have hmem : ∀ z ∈ zs ++ [x], z.ent ∈ rest := by
    intro z hz2
    rcases List.mem_append.mp hz2 with h9 | h9
    · exact hz z h9
    · rw [List.mem_singleton.mp h9]; exact hx
  refine' siftdown_ct ?kB F2 ?kX ?kT ?kA ?kf ?kk ?kh N2 ?kd ?ku hoff hmem ?kx ?kl ?_
  ((case kB => assumption); (case kX => assumption); (case kT => assumption); (case kA => (dsimp only [Around.deeper]; rw [hA]; exact rfl)); (case kf => exact rfl); (case kk => exact rfl); (case kh => exact hh); (case kd => (dsimp only [Around.deeper]; omega)); (case ku => (dsimp only [Around.deeper]; omega)))
  case kx => exact (List.getElem?_concat_length ..)
  case kl => simp; omega
  intro h' tk' F2 N2
  (repeat' ((fail_if_success (first | (with_reducible show InvEndG _ _ _ _ _ _) | (with_reducible show wpAny _ _ (PySem.call (PySem.Value.ref _) _) _ _ _) | (with_reducible show wpAny _ _ (PySem.call (PySem.Value.builtin _) _) _ _ _) | (with_reducible show wpAny _ _ (PySem.call (PySem.Value.type _) _) _ _ _) | (with_reducible show wpAny _ _ (subscriptTail _ _ (PySem.Value.ref _) _) _ _ _) | (with_reducible show wpAny _ _ (setItem (PySem.Value.ref _) _ _) _ _ _) | (with_reducible show wpAny _ _ (compareOp _ (PySem.Value.ref _) _) _ _ _) | (with_reducible show wpAny _ _ (compareOp _ _ (PySem.Value.ref _)) _ _ _) | (with_reducible show wpAny _ _ (binaryOp PySem.Operator.Mod _ _) _ _ _) | (with_reducible show wpAny _ _ (truthy (PySem.Value.ref _)) _ _ _) | (with_reducible show wpAny _ _ (exec (PySem.Stmt.While _ _ _ _) _) _ _ _) | (with_reducible show wpAny _ _ (exec (PySem.Stmt.For (PySem.Expr.Tuple _ _ _) _ _ _ _ _) _) _ _ _) | (with_reducible show wpAny _ _ (pyIter _) _ _ _))); (first | walk1 | (k_unfold; (try dsimp only)) | (dsimp only; walk1) | ((try dsimp only); (with_reducible show WhileStep2 _ _ _ _ _ _ PySem.Flow.brk _); dsimp only [WhileStep2]) | fail "no step")))
  exact ret _ _ (by assumption) (by assumption)

theorem heappop_ct {w : World} {A A₀ : Around} {env : Env} {outer : List Env} {base h₀ : Heap} {L : Addr} {m : Str → Option Value} {s : Shared} {p : Program} {loose : List Str} {mean : ExcName → Option Value} {mg mb : Str → Option Value} {Q E : Value → Shared → Prop}
    (B : Below A₀ base outer h₀) (F : Fr h₀ L s.heap m) (X : (Mine.hd.heap_39 w.params).In h₀) (T : Top p loose mean mg mb h₀) (hA : A.frames = some (env :: outer)) (hf : env.frame = some L) (hke : env.scope.kind = .function) (hh : A.handled = none)
    {lh : Addr} {rest : List (Addr × Obj)} {zs : List It} {x : It} {n : Nat} (N : News h₀ L s.heap ((lh, listOf (refs (zs ++ [x])).toArray n) :: rest))
    (hd : A.depth + 8 < recursionLimit) (hu : A.units + 60 < cLine)
    (hoff : ∀ q ∈ rest, q.1 ≠ lh) (hz : ∀ z ∈ zs, z.ent ∈ rest) (hx : x.ent ∈ rest) (hl : zs.length < 2 ^ 18)
    (ret : ∀ h' tk', Fr h₀ L h' m → News h₀ L h' ((lh, listOf (refs (hpop zs x).2).toArray (n + 1)) :: rest) → Q (.ref (hpop zs x).1.a) { s with heap := h', toks := tk' }) :
    wpAny (model PySem.Challenge.rw_ik0114_01.row.prog w) A (call (.ref 35) [.ref lh]) Q E s := by
  have hlen : (refs zs).length = zs.length := List.length_map ..
  refine wpAny_call ?_
  refine' code_def ?k1 ?k2 ?k3 ?k4 ?k5 ?kA ?kF ?kK ?k6 ?k7 ?k8 ?k9 ?kB ?_ ?c2 ?c3 ?c4 ?c5
  case k1 => exact B
  case k2 => exact F
  case k3 => exact X
  case k4 => exact N
  case k5 => exact T
  case kA => exact hA
  case kF => exact hf
  case kK => exact hke
  case k6 => k_is
  case k7 => k_is
  case k8 => show A.depth < _; omega
  case k9 => exact BindsTo.of_eq rfl
  case kB => exact locs rfl
  case c2 => exact rfl
  case c3 => exact rfl
  case c4 => exact rfl
  case c5 => decide
  intro g' L' h' FG' F' N' B' X' T'
  try dsimp only
  try k_fold
  (repeat' ((fail_if_success (first | (with_reducible show InvEndG _ _ _ _ _ _) | (with_reducible show wpAny _ _ (PySem.call (PySem.Value.ref _) _) _ _ _) | (with_reducible show wpAny _ _ (PySem.call (PySem.Value.builtin _) _) _ _ _) | (with_reducible show wpAny _ _ (PySem.call (PySem.Value.type _) _) _ _ _) | (with_reducible show wpAny _ _ (subscriptTail _ _ (PySem.Value.ref _) _) _ _ _) | (with_reducible show wpAny _ _ (setItem (PySem.Value.ref _) _ _) _ _ _) | (with_reducible show wpAny _ _ (compareOp _ (PySem.Value.ref _) _) _ _ _) | (with_reducible show wpAny _ _ (compareOp _ _ (PySem.Value.ref _)) _ _ _) | (with_reducible show wpAny _ _ (binaryOp PySem.Operator.Mod _ _) _ _ _) | (with_reducible show wpAny _ _ (truthy (PySem.Value.ref _)) _ _ _) | (with_reducible show wpAny _ _ (exec (PySem.Stmt.While _ _ _ _) _) _ _ _) | (with_reducible show wpAny _ _ (exec (PySem.Stmt.For (PySem.Expr.Tuple _ _ _) _ _ _ _ _) _) _ _ _) | (with_reducible show wpAny _ _ (pyIter _) _ _ _))); (first | walk1 | (k_unfold; (try dsimp only)) | (dsimp only; walk1) | ((try dsimp only); (with_reducible show WhileStep2 _ _ _ _ _ _ PySem.Flow.brk _); dsimp only [WhileStep2]) | fail "no step")))
  dsimp only
  have e : refs (zs ++ [x]) = refs zs ++ [.ref x.a] := by simp
  rw [e] at N'
  refine pop_led F' N' (.head hoff) (by omega) ?_
  intro h' F2 N2
  (repeat' ((fail_if_success (first | (with_reducible show InvEndG _ _ _ _ _ _) | (with_reducible show wpAny _ _ (PySem.call (PySem.Value.ref _) _) _ _ _) | (with_reducible show wpAny _ _ (PySem.call (PySem.Value.builtin _) _) _ _ _) | (with_reducible show wpAny _ _ (PySem.call (PySem.Value.type _) _) _ _ _) | (with_reducible show wpAny _ _ (subscriptTail _ _ (PySem.Value.ref _) _) _ _ _) | (with_reducible show wpAny _ _ (setItem (PySem.Value.ref _) _ _) _ _ _) | (with_reducible show wpAny _ _ (compareOp _ (PySem.Value.ref _) _) _ _ _) | (with_reducible show wpAny _ _ (compareOp _ _ (PySem.Value.ref _)) _ _ _) | (with_reducible show wpAny _ _ (binaryOp PySem.Operator.Mod _ _) _ _ _) | (with_reducible show wpAny _ _ (truthy (PySem.Value.ref _)) _ _ _) | (with_reducible show wpAny _ _ (exec (PySem.Stmt.While _ _ _ _) _) _ _ _) | (with_reducible show wpAny _ _ (exec (PySem.Stmt.For (PySem.Expr.Tuple _ _ _) _ _ _ _ _) _) _ _ _) | (with_reducible show wpAny _ _ (pyIter _) _ _ _))); (first | walk1 | (k_unfold; (try dsimp only)) | (dsimp only; walk1) | ((try dsimp only); (with_reducible show WhileStep2 _ _ _ _ _ _ PySem.Flow.brk _); dsimp only [WhileStep2]) | fail "no step")))
  ((rename Fr _ _ _ _ => F2); (rename News _ _ _ _ => N2))
  refine truthy_led N2 (.head _) hlen (by omega) ?_
  (repeat' ((fail_if_success (first | (with_reducible show InvEndG _ _ _ _ _ _) | (with_reducible show wpAny _ _ (PySem.call (PySem.Value.ref _) _) _ _ _) | (with_reducible show wpAny _ _ (PySem.call (PySem.Value.builtin _) _) _ _ _) | (with_reducible show wpAny _ _ (PySem.call (PySem.Value.type _) _) _ _ _) | (with_reducible show wpAny _ _ (subscriptTail _ _ (PySem.Value.ref _) _) _ _ _) | (with_reducible show wpAny _ _ (setItem (PySem.Value.ref _) _ _) _ _ _) | (with_reducible show wpAny _ _ (compareOp _ (PySem.Value.ref _) _) _ _ _) | (with_reducible show wpAny _ _ (compareOp _ _ (PySem.Value.ref _)) _ _ _) | (with_reducible show wpAny _ _ (binaryOp PySem.Operator.Mod _ _) _ _ _) | (with_reducible show wpAny _ _ (truthy (PySem.Value.ref _)) _ _ _) | (with_reducible show wpAny _ _ (exec (PySem.Stmt.While _ _ _ _) _) _ _ _) | (with_reducible show wpAny _ _ (exec (PySem.Stmt.For (PySem.Expr.Tuple _ _ _) _ _ _ _ _) _) _ _ _) | (with_reducible show wpAny _ _ (pyIter _) _ _ _))); (first | walk1 | (k_unfold; (try dsimp only)) | (dsimp only; walk1) | ((try dsimp only); (with_reducible show WhileStep2 _ _ _ _ _ _ PySem.Flow.brk _); dsimp only [WhileStep2]) | fail "no step")))
  · (rename 0 < zs.length => hne)
    obtain ⟨y, r, rfl⟩ : ∃ y r, zs = y :: r := by cases zs with | nil => simp at hne | cons y r => exact ⟨y, r, rfl⟩
    ((rename Fr _ _ _ _ => F2); (rename News _ _ _ _ => N2))
    refine item_itemsI N2 (by omega) (j := 0) rfl (y := y) rfl ?_
    (repeat' ((fail_if_success (first | (with_reducible show InvEndG _ _ _ _ _ _) | (with_reducible show wpAny _ _ (PySem.call (PySem.Value.ref _) _) _ _ _) | (with_reducible show wpAny _ _ (PySem.call (PySem.Value.builtin _) _) _ _ _) | (with_reducible show wpAny _ _ (PySem.call (PySem.Value.type _) _) _ _ _) | (with_reducible show wpAny _ _ (subscriptTail _ _ (PySem.Value.ref _) _) _ _ _) | (with_reducible show wpAny _ _ (setItem (PySem.Value.ref _) _ _) _ _ _) | (with_reducible show wpAny _ _ (compareOp _ (PySem.Value.ref _) _) _ _ _) | (with_reducible show wpAny _ _ (compareOp _ _ (PySem.Value.ref _)) _ _ _) | (with_reducible show wpAny _ _ (binaryOp PySem.Operator.Mod _ _) _ _ _) | (with_reducible show wpAny _ _ (truthy (PySem.Value.ref _)) _ _ _) | (with_reducible show wpAny _ _ (exec (PySem.Stmt.While _ _ _ _) _) _ _ _) | (with_reducible show wpAny _ _ (exec (PySem.Stmt.For (PySem.Expr.Tuple _ _ _) _ _ _ _ _) _) _ _ _) | (with_reducible show wpAny _ _ (pyIter _) _ _ _))); (first | walk1 | (k_unfold; (try dsimp only)) | (dsimp only; walk1) | ((try dsimp only); (with_reducible show WhileStep2 _ _ _ _ _ _ PySem.Flow.brk _); dsimp only [WhileStep2]) | fail "no step")))
    ((rename Fr _ _ _ _ => F2); (rename News _ _ _ _ => N2))
    refine set_itemsI F2 N2 hoff (by omega) (j := 0) rfl (by simp) ?_
    intro h' F2 N2
    rw [show (y :: r).set 0 x = x :: r from rfl] at N2
    (repeat' ((fail_if_success (first | (with_reducible show InvEndG _ _ _ _ _ _) | (with_reducible show wpAny _ _ (PySem.call (PySem.Value.ref _) _) _ _ _) | (with_reducible show wpAny _ _ (PySem.call (PySem.Value.builtin _) _) _ _ _) | (with_reducible show wpAny _ _ (PySem.call (PySem.Value.type _) _) _ _ _) | (with_reducible show wpAny _ _ (subscriptTail _ _ (PySem.Value.ref _) _) _ _ _) | (with_reducible show wpAny _ _ (setItem (PySem.Value.ref _) _ _) _ _ _) | (with_reducible show wpAny _ _ (compareOp _ (PySem.Value.ref _) _) _ _ _) | (with_reducible show wpAny _ _ (compareOp _ _ (PySem.Value.ref _)) _ _ _) | (with_reducible show wpAny _ _ (binaryOp PySem.Operator.Mod _ _) _ _ _) | (with_reducible show wpAny _ _ (truthy (PySem.Value.ref _)) _ _ _) | (with_reducible show wpAny _ _ (exec (PySem.Stmt.While _ _ _ _) _) _ _ _) | (with_reducible show wpAny _ _ (exec (PySem.Stmt.For (PySem.Expr.Tuple _ _ _) _ _ _ _ _) _) _ _ _) | (with_reducible show wpAny _ _ (pyIter _) _ _ _))); (first | walk1 | (k_unfold; (try dsimp only)) | (dsimp only; walk1) | ((try dsimp only); (with_reducible show WhileStep2 _ _ _ _ _ _ PySem.Flow.brk _); dsimp only [WhileStep2]) | fail "no step")))
    ((rename Fr _ _ _ _ => F2); (rename News _ _ _ _ => N2))
    have hmem : ∀ z ∈ x :: r, z.ent ∈ rest := by
      intro z hz2
      rcases List.mem_cons.mp hz2 with h9 | h9
      · rw [h9]; exact hx
      · exact hz z (List.mem_cons_of_mem _ h9)
    refine' siftup_ct ?kB F2 ?kX ?kT ?kA ?kf ?kk ?kh N2 ?kd ?ku hoff hmem ?kx ?kl ?_
    ((case kB => assumption); (case kX => assumption); (case kT => assumption); (case kA => (dsimp only [Around.deeper]; rw [hA]; exact rfl)); (case kf => exact rfl); (case kk => exact rfl); (case kh => exact hh); (case kd => (dsimp only [Around.deeper]; omega)); (case ku => (dsimp only [Around.deeper]; omega)))
    case kx => rfl
    case kl => simp only [List.length_cons] at hl ⊢; omega
    intro h' tk' F2 N2
    (repeat' ((fail_if_success (first | (with_reducible show InvEndG _ _ _ _ _ _) | (with_reducible show wpAny _ _ (PySem.call (PySem.Value.ref _) _) _ _ _) | (with_reducible show wpAny _ _ (PySem.call (PySem.Value.builtin _) _) _ _ _) | (with_reducible show wpAny _ _ (PySem.call (PySem.Value.type _) _) _ _ _) | (with_reducible show wpAny _ _ (subscriptTail _ _ (PySem.Value.ref _) _) _ _ _) | (with_reducible show wpAny _ _ (setItem (PySem.Value.ref _) _ _) _ _ _) | (with_reducible show wpAny _ _ (compareOp _ (PySem.Value.ref _) _) _ _ _) | (with_reducible show wpAny _ _ (compareOp _ _ (PySem.Value.ref _)) _ _ _) | (with_reducible show wpAny _ _ (binaryOp PySem.Operator.Mod _ _) _ _ _) | (with_reducible show wpAny _ _ (truthy (PySem.Value.ref _)) _ _ _) | (with_reducible show wpAny _ _ (exec (PySem.Stmt.While _ _ _ _) _) _ _ _) | (with_reducible show wpAny _ _ (exec (PySem.Stmt.For (PySem.Expr.Tuple _ _ _) _ _ _ _ _) _) _ _ _) | (with_reducible show wpAny _ _ (pyIter _) _ _ _))); (first | walk1 | (k_unfold; (try dsimp only)) | (dsimp only; walk1) | ((try dsimp only); (with_reducible show WhileStep2 _ _ _ _ _ _ PySem.Flow.brk _); dsimp only [WhileStep2]) | fail "no step")))
    exact ret _ _ (by assumption) (by assumption)
  · (rename ¬ 0 < zs.length => hne)
    obtain rfl : zs = [] := by cases zs with | nil => rfl | cons y r => simp at hne
    exact ret _ _ (by assumption) (by assumption)
end Mine
end
section
open PySem PySem.W PySem.Calls PyProof.Rows
set_option maxRecDepth 100000
set_option maxHeartbeats 8000000
set_option pp.deepTerms.threshold 6
theorem Mine.warmS4 (w : World) : (model PySem.Challenge.rw_ik0114_01.row.prog w, Mine.hd.heap_39 w.params) = (model PySem.Challenge.rw_ik0114_01.row.prog w, Mine.hd.heap_39 w.params) := by
  k_fill
  rfl
local macro_rules | `(tactic| walk_at "eval Name") => `(tactic| k_dflt (refine' ld ?k1 ?k2 ?_; (case k1 => k_asm); (case k2 => exact rfl); k_whole))
local macro_rules | `(tactic| walk_at "execs cons") => `(tactic| ((with_reducible refine wpAny_execs_cons ?_); (try dsimp only)))
local macro_rules | `(tactic| walk_at "exec Assign") => `(tactic| ((with_reducible show wpAny _ _ (exec (PySem.Stmt.Assign [PySem.Expr.Name _ _] _ _) _) _ _ _); (with_reducible refine wpAny_Assign_Name ?_)))
namespace Mine
def dedupF (acc : List Int) (t : Int) : List Int := if t ∈ acc then acc else acc ++ [t]
def dedup (ns : List Int) : List Int := ns.foldl dedupF []

theorem dedup_take {ns : List Int} {i : Nat} {t : Int} (h : ns[i]? = some t) : dedup (ns.take (i + 1)) = dedupF (dedup (ns.take i)) t := by
  unfold dedup
  rw [List.take_add_one, h, List.foldl_append]
  rfl
theorem dedup_len (ns : List Int) : (dedup ns).length ≤ ns.length := by
  have : ∀ (ns acc : List Int), (ns.foldl dedupF acc).length ≤ acc.length + ns.length := by
    intro ns
    induction ns with
    | nil => intro acc; simp
    | cons n r ih =>
      intro acc
      rw [List.foldl_cons]
      refine Nat.le_trans (ih _) ?_
      unfold dedupF
      split <;> simp <;> omega
  simpa [dedup] using this ns []

theorem dedup_ct {w : World} {A A₀ : Around} {env : Env} {outer : List Env} {base h₀ : Heap} {L : Addr} {m : Str → Option Value} {s : Shared} {p : Program} {loose : List Str} {mean : ExcName → Option Value} {mg mb : Str → Option Value} {Q E : Value → Shared → Prop}
    (B : Below A₀ base outer h₀) (F : Fr h₀ L s.heap m) (X : (Mine.hd.heap_39 w.params).In h₀) (T : Top p loose mean mg mb h₀) (hA : A.frames = some (env :: outer)) (hf : env.frame = some L) (hke : env.scope.kind = .function) (hh : A.handled = none)
    {la : Addr} {news : List (Addr × Obj)} {vs : List Value} {ns : List Int} {n : Nat} (N : News h₀ L s.heap news) (hm : (la, listOf vs.toArray n) ∈ news) (hi : IntsAre vs ns)
    (hd : A.depth + 2 < recursionLimit) (hu : A.units + 20 < cLine) (hl : ns.length < 2 ^ 18)
    (ret : ∀ r us k h' tk', Fr h₀ L h' m → News h₀ L h' ((r, listOf us.toArray k) :: news) → (∀ q ∈ news, q.1 ≠ r) → IntsAre us (dedup ns) → Q (.ref r) { s with heap := h', toks := tk' }) :
    wpAny (model PySem.Challenge.rw_ik0114_01.row.prog w) A (call (.ref 64) [.ref la]) Q E s := by
  refine wpAny_call ?_
  refine' code_def ?k1 ?k2 ?k3 ?k4 ?k5 ?kA ?kF ?kK ?k6 ?k7 ?k8 ?k9 ?kB ?_ ?c2 ?c3 ?c4 ?c5
  case k1 => exact B
  case k2 => exact F
  case k3 => exact X
  case k4 => exact N
  case k5 => exact T
  case kA => exact hA
  case kF => exact hf
  case kK => exact hke
  case k6 => k_is
  case k7 => k_is
  case k8 => show A.depth < _; omega
  case k9 => exact BindsTo.of_eq rfl
  case kB => exact locs rfl
  case c2 => exact rfl
  case c3 => exact rfl
  case c4 => exact rfl
  case c5 => decide
  intro g' L' h' FG' F' N' B' X' T'
  try dsimp only
  try k_fold
  (repeat' ((fail_if_success (first | (with_reducible show InvEndG _ _ _ _ _ _) | (with_reducible show wpAny _ _ (PySem.call (PySem.Value.ref _) _) _ _ _) | (with_reducible show wpAny _ _ (PySem.call (PySem.Value.builtin _) _) _ _ _) | (with_reducible show wpAny _ _ (PySem.call (PySem.Value.type _) _) _ _ _) | (with_reducible show wpAny _ _ (subscriptTail _ _ (PySem.Value.ref _) _) _ _ _) | (with_reducible show wpAny _ _ (setItem (PySem.Value.ref _) _ _) _ _ _) | (with_reducible show wpAny _ _ (compareOp _ (PySem.Value.ref _) _) _ _ _) | (with_reducible show wpAny _ _ (compareOp _ _ (PySem.Value.ref _)) _ _ _) | (with_reducible show wpAny _ _ (binaryOp PySem.Operator.Mod _ _) _ _ _) | (with_reducible show wpAny _ _ (truthy (PySem.Value.ref _)) _ _ _) | (with_reducible show wpAny _ _ (exec (PySem.Stmt.While _ _ _ _) _) _ _ _) | (with_reducible show wpAny _ _ (exec (PySem.Stmt.For (PySem.Expr.Tuple _ _ _) _ _ _ _ _) _) _ _ _) | (with_reducible show wpAny _ _ (pyIter _) _ _ _))); (first | walk1 | (k_unfold; (try dsimp only)) | (dsimp only; walk1) | ((try dsimp only); (with_reducible show WhileStep2 _ _ _ _ _ _ PySem.Flow.brk _); dsimp only [WhileStep2]) | fail "no step")))
  ((rename Fr _ _ _ _ => F2); (rename News _ _ _ _ => N2))
  (rename IntsAre _ _ => hi)
  (rename ∀ p ∈ news, p.1 < _ => l1)
  rename_i r0 _ _
  refine kdl_iter (fun i m₁ nx => ∃ us k, nx = (r0, listOf us.toArray k) :: news ∧ IntsAre us (dedup (ns.take i)) ∧ (∀ e ∈ ([(Str.ofString "new_unhashable", .ref r0)] : List (Str × Value)), m₁ e.1 = some e.2)) (by exact hh) (.tail _ hm) F2 N2 ⟨[], 0, rfl, .nil, (by kst_all)⟩ ?turn ?done
  case turn =>
    clear F2 N2
    rintro i v m₁ _ h tk own hv ho _ ⟨us, k, rfl, hus, hps⟩ F1 N2
    have F2 := frBx F1 hps
    clear F1
    dsimp only [kstB] at F2
    rw [List.cons_append] at N2
    obtain ⟨t, ht⟩ : ∃ t, ns[i]? = some t := ⟨_, List.getElem?_eq_getElem (by rw [← hi.length]; exact (List.getElem?_eq_some_iff.mp hv).1)⟩
    obtain ⟨tt, htt⟩ := hi.get i t ht
    obtain rfl : v = .int t tt := Option.some.inj (hv.symm.trans htt)
    (repeat' ((fail_if_success (first | (with_reducible show InvEndG _ _ _ _ _ _) | (with_reducible show wpAny _ _ (PySem.call (PySem.Value.ref _) _) _ _ _) | (with_reducible show wpAny _ _ (PySem.call (PySem.Value.builtin _) _) _ _ _) | (with_reducible show wpAny _ _ (PySem.call (PySem.Value.type _) _) _ _ _) | (with_reducible show wpAny _ _ (subscriptTail _ _ (PySem.Value.ref _) _) _ _ _) | (with_reducible show wpAny _ _ (setItem (PySem.Value.ref _) _ _) _ _ _) | (with_reducible show wpAny _ _ (compareOp _ (PySem.Value.ref _) _) _ _ _) | (with_reducible show wpAny _ _ (compareOp _ _ (PySem.Value.ref _)) _ _ _) | (with_reducible show wpAny _ _ (binaryOp PySem.Operator.Mod _ _) _ _ _) | (with_reducible show wpAny _ _ (truthy (PySem.Value.ref _)) _ _ _) | (with_reducible show wpAny _ _ (exec (PySem.Stmt.While _ _ _ _) _) _ _ _) | (with_reducible show wpAny _ _ (exec (PySem.Stmt.For (PySem.Expr.Tuple _ _ _) _ _ _ _ _) _) _ _ _) | (with_reducible show wpAny _ _ (pyIter _) _ _ _))); (first | walk1 | (k_unfold; (try dsimp only)) | (dsimp only; walk1) | ((try dsimp only); (with_reducible show WhileStep2 _ _ _ _ _ _ PySem.Flow.brk _); dsimp only [WhileStep2]) | fail "no step")))
    ((rename Fr _ _ _ _ => F2); (rename News _ _ _ _ => N2))
    refine notIn_led N2 (.head _) hus ?_
    (repeat' ((fail_if_success (first | (with_reducible show InvEndG _ _ _ _ _ _) | (with_reducible show wpAny _ _ (PySem.call (PySem.Value.ref _) _) _ _ _) | (with_reducible show wpAny _ _ (PySem.call (PySem.Value.builtin _) _) _ _ _) | (with_reducible show wpAny _ _ (PySem.call (PySem.Value.type _) _) _ _ _) | (with_reducible show wpAny _ _ (subscriptTail _ _ (PySem.Value.ref _) _) _ _ _) | (with_reducible show wpAny _ _ (setItem (PySem.Value.ref _) _ _) _ _ _) | (with_reducible show wpAny _ _ (compareOp _ (PySem.Value.ref _) _) _ _ _) | (with_reducible show wpAny _ _ (compareOp _ _ (PySem.Value.ref _)) _ _ _) | (with_reducible show wpAny _ _ (binaryOp PySem.Operator.Mod _ _) _ _ _) | (with_reducible show wpAny _ _ (truthy (PySem.Value.ref _)) _ _ _) | (with_reducible show wpAny _ _ (exec (PySem.Stmt.While _ _ _ _) _) _ _ _) | (with_reducible show wpAny _ _ (exec (PySem.Stmt.For (PySem.Expr.Tuple _ _ _) _ _ _ _ _) _) _ _ _) | (with_reducible show wpAny _ _ (pyIter _) _ _ _))); (first | walk1 | (k_unfold; (try dsimp only)) | (dsimp only; walk1) | ((try dsimp only); (with_reducible show WhileStep2 _ _ _ _ _ _ PySem.Flow.brk _); dsimp only [WhileStep2]) | fail "no step")))
    · ((rename Fr _ _ _ _ => F2); (rename News _ _ _ _ => N2))
      refine InvEndG.intro F2 N2 ⟨.tail _ hm, us, k, rfl, ?_, (by kst_all)⟩ ho (fun p hp => ?_) (fun p hp => .tail _ (List.mem_append_right _ hp))
      · rw [dedup_take ht, dedupF, if_pos (by assumption)]; exact hus
      · exact List.mem_append_left own hp
    · ((rename Fr _ _ _ _ => F2); (rename News _ _ _ _ => N2))
      have hr0 : ∀ q ∈ news ++ own, q.1 ≠ r0 := by
        intro q hq
        rcases List.mem_append.mp hq with h9 | h9
        · exact Nat.ne_of_lt (l1 q h9)
        · exact ho q h9 r0 (.head _)
      have hul : us.length < 2 ^ 20 := by
        have h1 := dedup_len (ns.take i)
        have h2 := hus.length
        have h3 : (ns.take i).length ≤ ns.length := by rw [List.length_take]; omega
        omega
      refine append_led F2 N2 (.head hr0) hul ?_
      intro h' F2 N2
      (repeat' ((fail_if_success (first | (with_reducible show InvEndG _ _ _ _ _ _) | (with_reducible show wpAny _ _ (PySem.call (PySem.Value.ref _) _) _ _ _) | (with_reducible show wpAny _ _ (PySem.call (PySem.Value.builtin _) _) _ _ _) | (with_reducible show wpAny _ _ (PySem.call (PySem.Value.type _) _) _ _ _) | (with_reducible show wpAny _ _ (subscriptTail _ _ (PySem.Value.ref _) _) _ _ _) | (with_reducible show wpAny _ _ (setItem (PySem.Value.ref _) _ _) _ _ _) | (with_reducible show wpAny _ _ (compareOp _ (PySem.Value.ref _) _) _ _ _) | (with_reducible show wpAny _ _ (compareOp _ _ (PySem.Value.ref _)) _ _ _) | (with_reducible show wpAny _ _ (binaryOp PySem.Operator.Mod _ _) _ _ _) | (with_reducible show wpAny _ _ (truthy (PySem.Value.ref _)) _ _ _) | (with_reducible show wpAny _ _ (exec (PySem.Stmt.While _ _ _ _) _) _ _ _) | (with_reducible show wpAny _ _ (exec (PySem.Stmt.For (PySem.Expr.Tuple _ _ _) _ _ _ _ _) _) _ _ _) | (with_reducible show wpAny _ _ (pyIter _) _ _ _))); (first | walk1 | (k_unfold; (try dsimp only)) | (dsimp only; walk1) | ((try dsimp only); (with_reducible show WhileStep2 _ _ _ _ _ _ PySem.Flow.brk _); dsimp only [WhileStep2]) | fail "no step")))
      ((rename Fr _ _ _ _ => F2); (rename News _ _ _ _ => N2))
      refine InvEndG.intro F2 N2 (nx := (r0, listOf (us ++ [Value.int t tt]).toArray (k + 1)) :: news) ⟨.tail _ hm, _, _, rfl, ?_, (by kst_all)⟩ ho (fun p hp => ?_) (fun p hp => .tail _ (List.mem_append_right _ hp))
      · rw [dedup_take ht, dedupF, if_neg (by assumption)]; exact ints_append hus
      · exact List.mem_append_left own hp
  case done =>
    clear F2 N2
    rintro m₁ _ h tk ⟨us, k, rfl, hus, hps⟩ F1 N2
    have F2 := frB F1 hps
    clear F1
    dsimp only [kstB] at F2
    (repeat' ((fail_if_success (first | (with_reducible show InvEndG _ _ _ _ _ _) | (with_reducible show wpAny _ _ (PySem.call (PySem.Value.ref _) _) _ _ _) | (with_reducible show wpAny _ _ (PySem.call (PySem.Value.builtin _) _) _ _ _) | (with_reducible show wpAny _ _ (PySem.call (PySem.Value.type _) _) _ _ _) | (with_reducible show wpAny _ _ (subscriptTail _ _ (PySem.Value.ref _) _) _ _ _) | (with_reducible show wpAny _ _ (setItem (PySem.Value.ref _) _ _) _ _ _) | (with_reducible show wpAny _ _ (compareOp _ (PySem.Value.ref _) _) _ _ _) | (with_reducible show wpAny _ _ (compareOp _ _ (PySem.Value.ref _)) _ _ _) | (with_reducible show wpAny _ _ (binaryOp PySem.Operator.Mod _ _) _ _ _) | (with_reducible show wpAny _ _ (truthy (PySem.Value.ref _)) _ _ _) | (with_reducible show wpAny _ _ (exec (PySem.Stmt.While _ _ _ _) _) _ _ _) | (with_reducible show wpAny _ _ (exec (PySem.Stmt.For (PySem.Expr.Tuple _ _ _) _ _ _ _ _) _) _ _ _) | (with_reducible show wpAny _ _ (pyIter _) _ _ _))); (first | walk1 | (k_unfold; (try dsimp only)) | (dsimp only; walk1) | ((try dsimp only); (with_reducible show WhileStep2 _ _ _ _ _ _ PySem.Flow.brk _); dsimp only [WhileStep2]) | fail "no step")))
    rw [List.take_of_length_le (by rw [hi.length]; exact Nat.le_refl _)] at hus
    exact ret _ _ _ _ _ (by assumption) (by assumption) (fun q hq => Nat.ne_of_lt (l1 q hq)) hus
end Mine
end
section
open PySem PySem.W PySem.Calls PyProof.Rows
set_option maxRecDepth 100000
set_option maxHeartbeats 8000000
set_option pp.deepTerms.threshold 6
theorem Mine.warmS5 (w : World) : (model PySem.Challenge.rw_ik0114_01.row.prog w, Mine.hd.heap_39 w.params) = (model PySem.Challenge.rw_ik0114_01.row.prog w, Mine.hd.heap_39 w.params) := by
  k_fill
  rfl
local macro_rules | `(tactic| walk_at "eval Name") => `(tactic| k_dflt (refine' ld ?k1 ?k2 ?_; (case k1 => k_asm); (case k2 => exact rfl); k_whole))
local macro_rules | `(tactic| walk_at "execs cons") => `(tactic| ((with_reducible refine wpAny_execs_cons ?_); (try dsimp only)))
local macro_rules | `(tactic| walk_at "exec Assign") => `(tactic| ((with_reducible show wpAny _ _ (exec (PySem.Stmt.Assign [PySem.Expr.Name _ _] _ _) _) _ _ _); (with_reducible refine wpAny_Assign_Name ?_)))
namespace Mine
def rmAll (ds es : List Int) : List Int := es.foldl (fun t e => t.erase e) ds

theorem rmAll_len : ∀ (ds es : List Int), (rmAll ds es).length ≤ ds.length := by
  intro ds es
  induction es generalizing ds with
  | nil => exact Nat.le_refl _
  | cons e r ih =>
    show (rmAll (ds.erase e) r).length ≤ _
    refine Nat.le_trans (ih _) ?_
    rw [List.length_erase]
    split <;> omega

theorem compare_ct {w : World} {A A₀ : Around} {env : Env} {outer : List Env} {base h₀ : Heap} {L : Addr} {m : Str → Option Value} {s : Shared} {p : Program} {loose : List Str} {mean : ExcName → Option Value} {mg mb : Str → Option Value} {Q E : Value → Shared → Prop}
    (B : Below A₀ base outer h₀) (F : Fr h₀ L s.heap m) (X : (Mine.hd.heap_39 w.params).In h₀) (T : Top p loose mean mg mb h₀) (hA : A.frames = some (env :: outer)) (hf : env.frame = some L) (hke : env.scope.kind = .function) (hh : A.handled = none)
    {la lb : Addr} {news : List (Addr × Obj)} {vs ws : List Value} {ns ms : List Int} {n k : Nat} (N : News h₀ L s.heap news) (hm : (la, listOf vs.toArray n) ∈ news) (hi : IntsAre vs ns) (hm2 : (lb, listOf ws.toArray k) ∈ news) (hi2 : IntsAre ws ms)
    (hd : A.depth + 5 < recursionLimit) (hu : A.units + 40 < cLine) (hl : ns.length < 2 ^ 18) (hl2 : ms.length < 2 ^ 18)
    (hrm : ∀ i e, (dedup ns)[i]? = some e → e ∈ rmAll (dedup ms) ((dedup ns).take i))
    (ret : ∀ h' tk', Fr h₀ L h' m → News h₀ L h' news → Q (.bool (decide (rmAll (dedup ms) (dedup ns) = []))) { s with heap := h', toks := tk' }) :
    wpAny (model PySem.Challenge.rw_ik0114_01.row.prog w) A (call (.ref 71) [.ref la, .ref lb]) Q E s := by
  refine wpAny_call ?_
  refine' code_def ?k1 ?k2 ?k3 ?k4 ?k5 ?kA ?kF ?kK ?k6 ?k7 ?k8 ?k9 ?kB ?_ ?c2 ?c3 ?c4 ?c5
  case k1 => exact B
  case k2 => exact F
  case k3 => exact X
  case k4 => exact N
  case k5 => exact T
  case kA => exact hA
  case kF => exact hf
  case kK => exact hke
  case k6 => k_is
  case k7 => k_is
  case k8 => show A.depth < _; omega
  case k9 => exact BindsTo.of_eq rfl
  case kB => exact locs rfl
  case c2 => exact rfl
  case c3 => exact rfl
  case c4 => exact rfl
  case c5 => decide
  intro g' L' h' FG' F' N' B' X' T'
  try dsimp only
  try k_fold
  (repeat' ((fail_if_success (first | (with_reducible show InvEndG _ _ _ _ _ _) | (with_reducible show wpAny _ _ (PySem.call (PySem.Value.ref _) _) _ _ _) | (with_reducible show wpAny _ _ (PySem.call (PySem.Value.builtin _) _) _ _ _) | (with_reducible show wpAny _ _ (PySem.call (PySem.Value.type _) _) _ _ _) | (with_reducible show wpAny _ _ (subscriptTail _ _ (PySem.Value.ref _) _) _ _ _) | (with_reducible show wpAny _ _ (setItem (PySem.Value.ref _) _ _) _ _ _) | (with_reducible show wpAny _ _ (compareOp _ (PySem.Value.ref _) _) _ _ _) | (with_reducible show wpAny _ _ (compareOp _ _ (PySem.Value.ref _)) _ _ _) | (with_reducible show wpAny _ _ (binaryOp PySem.Operator.Mod _ _) _ _ _) | (with_reducible show wpAny _ _ (truthy (PySem.Value.ref _)) _ _ _) | (with_reducible show wpAny _ _ (exec (PySem.Stmt.While _ _ _ _) _) _ _ _) | (with_reducible show wpAny _ _ (exec (PySem.Stmt.For (PySem.Expr.Tuple _ _ _) _ _ _ _ _) _) _ _ _) | (with_reducible show wpAny _ _ (pyIter _) _ _ _))); (first | walk1 | (k_unfold; (try dsimp only)) | (dsimp only; walk1) | ((try dsimp only); (with_reducible show WhileStep2 _ _ _ _ _ _ PySem.Flow.brk _); dsimp only [WhileStep2]) | fail "no step")))
  ((rename Fr _ _ _ _ => F2); (rename News _ _ _ _ => N2))
  refine' dedup_ct ?kB F2 ?kX ?kT ?kA ?kf ?kk ?kh N2 hm hi ?kd ?ku hl ?_
  ((case kB => assumption); (case kX => assumption); (case kT => assumption); (case kA => (dsimp only [Around.deeper]; rw [hA]; exact rfl)); (case kf => exact rfl); (case kk => exact rfl); (case kh => exact hh); (case kd => (dsimp only [Around.deeper]; omega)); (case ku => (dsimp only [Around.deeper]; omega)))
  intro r1 us1 k1 h' tk' F2 N2 hne1 hu1
  (repeat' ((fail_if_success (first | (with_reducible show InvEndG _ _ _ _ _ _) | (with_reducible show wpAny _ _ (PySem.call (PySem.Value.ref _) _) _ _ _) | (with_reducible show wpAny _ _ (PySem.call (PySem.Value.builtin _) _) _ _ _) | (with_reducible show wpAny _ _ (PySem.call (PySem.Value.type _) _) _ _ _) | (with_reducible show wpAny _ _ (subscriptTail _ _ (PySem.Value.ref _) _) _ _ _) | (with_reducible show wpAny _ _ (setItem (PySem.Value.ref _) _ _) _ _ _) | (with_reducible show wpAny _ _ (compareOp _ (PySem.Value.ref _) _) _ _ _) | (with_reducible show wpAny _ _ (compareOp _ _ (PySem.Value.ref _)) _ _ _) | (with_reducible show wpAny _ _ (binaryOp PySem.Operator.Mod _ _) _ _ _) | (with_reducible show wpAny _ _ (truthy (PySem.Value.ref _)) _ _ _) | (with_reducible show wpAny _ _ (exec (PySem.Stmt.While _ _ _ _) _) _ _ _) | (with_reducible show wpAny _ _ (exec (PySem.Stmt.For (PySem.Expr.Tuple _ _ _) _ _ _ _ _) _) _ _ _) | (with_reducible show wpAny _ _ (pyIter _) _ _ _))); (first | walk1 | (k_unfold; (try dsimp only)) | (dsimp only; walk1) | ((try dsimp only); (with_reducible show WhileStep2 _ _ _ _ _ _ PySem.Flow.brk _); dsimp only [WhileStep2]) | fail "no step")))
  ((rename Fr _ _ _ _ => F2); (rename News _ _ _ _ => N2))
  refine' dedup_ct ?kB F2 ?kX ?kT ?kA ?kf ?kk ?kh N2 (.tail _ hm2) hi2 ?kd ?ku hl2 ?_
  ((case kB => assumption); (case kX => assumption); (case kT => assumption); (case kA => (dsimp only [Around.deeper]; rw [hA]; exact rfl)); (case kf => exact rfl); (case kk => exact rfl); (case kh => exact hh); (case kd => (dsimp only [Around.deeper]; omega)); (case ku => (dsimp only [Around.deeper]; omega)))
  intro r2 us2 k2 h' tk' F2 N2 hne2 hu2
  (repeat' ((fail_if_success (first | (with_reducible show InvEndG _ _ _ _ _ _) | (with_reducible show wpAny _ _ (PySem.call (PySem.Value.ref _) _) _ _ _) | (with_reducible show wpAny _ _ (PySem.call (PySem.Value.builtin _) _) _ _ _) | (with_reducible show wpAny _ _ (PySem.call (PySem.Value.type _) _) _ _ _) | (with_reducible show wpAny _ _ (subscriptTail _ _ (PySem.Value.ref _) _) _ _ _) | (with_reducible show wpAny _ _ (setItem (PySem.Value.ref _) _ _) _ _ _) | (with_reducible show wpAny _ _ (compareOp _ (PySem.Value.ref _) _) _ _ _) | (with_reducible show wpAny _ _ (compareOp _ _ (PySem.Value.ref _)) _ _ _) | (with_reducible show wpAny _ _ (binaryOp PySem.Operator.Mod _ _) _ _ _) | (with_reducible show wpAny _ _ (truthy (PySem.Value.ref _)) _ _ _) | (with_reducible show wpAny _ _ (exec (PySem.Stmt.While _ _ _ _) _) _ _ _) | (with_reducible show wpAny _ _ (exec (PySem.Stmt.For (PySem.Expr.Tuple _ _ _) _ _ _ _ _) _) _ _ _) | (with_reducible show wpAny _ _ (pyIter _) _ _ _))); (first | walk1 | (k_unfold; (try dsimp only)) | (dsimp only; walk1) | ((try dsimp only); (with_reducible show WhileStep2 _ _ _ _ _ _ PySem.Flow.brk _); dsimp only [WhileStep2]) | fail "no step")))
  ((rename Fr _ _ _ _ => F2); (rename News _ _ _ _ => N2))
  have hlu : us2.length < 2 ^ 19 := by have h1 := dedup_len ms; have h2 := hu2.length; omega
  refine list_copyK F2 N2 (isL N2 (.head _)) ?_ (by rw [List.size_toArray, PySem.sizeLine_eq]; omega)
  intro r3 k3 h' F2 N2 l3
  have hR1 : (r1, listOf us1.toArray k1) ∈ (r2, listOf us2.toArray k2) :: (r1, listOf us1.toArray k1) :: news := .tail _ (.head _)
  have hRn : ∀ q ∈ news, q ∈ (r2, listOf us2.toArray k2) :: (r1, listOf us1.toArray k1) :: news := fun q hq => .tail _ (.tail _ hq)
  generalize (r2, listOf us2.toArray k2) :: (r1, listOf us1.toArray k1) :: news = R at N2 hR1 hRn l3
  clear hne1 hne2
  (repeat' ((fail_if_success (first | (with_reducible show InvEndG _ _ _ _ _ _) | (with_reducible show wpAny _ _ (PySem.call (PySem.Value.ref _) _) _ _ _) | (with_reducible show wpAny _ _ (PySem.call (PySem.Value.builtin _) _) _ _ _) | (with_reducible show wpAny _ _ (PySem.call (PySem.Value.type _) _) _ _ _) | (with_reducible show wpAny _ _ (subscriptTail _ _ (PySem.Value.ref _) _) _ _ _) | (with_reducible show wpAny _ _ (setItem (PySem.Value.ref _) _ _) _ _ _) | (with_reducible show wpAny _ _ (compareOp _ (PySem.Value.ref _) _) _ _ _) | (with_reducible show wpAny _ _ (compareOp _ _ (PySem.Value.ref _)) _ _ _) | (with_reducible show wpAny _ _ (binaryOp PySem.Operator.Mod _ _) _ _ _) | (with_reducible show wpAny _ _ (truthy (PySem.Value.ref _)) _ _ _) | (with_reducible show wpAny _ _ (exec (PySem.Stmt.While _ _ _ _) _) _ _ _) | (with_reducible show wpAny _ _ (exec (PySem.Stmt.For (PySem.Expr.Tuple _ _ _) _ _ _ _ _) _) _ _ _) | (with_reducible show wpAny _ _ (pyIter _) _ _ _))); (first | walk1 | (k_unfold; (try dsimp only)) | (dsimp only; walk1) | ((try dsimp only); (with_reducible show WhileStep2 _ _ _ _ _ _ PySem.Flow.brk _); dsimp only [WhileStep2]) | fail "no step")))
  ((rename Fr _ _ _ _ => F2); (rename News _ _ _ _ => N2))
  refine kdl_iter (fun i m₁ nx => ∃ us k, nx = (r3, listOf us.toArray k) :: R ∧ IntsAre us (rmAll (dedup ms) ((dedup ns).take i)) ∧ (∀ e ∈ ([(Str.ofString "t", .ref r3)] : List (Str × Value)), m₁ e.1 = some e.2)) (by exact hh) (.tail _ hR1) F2 N2 ⟨us2, k3, rfl, (by (rename IntsAre us2 _ => h9); exact h9), (by kst_all)⟩ ?turn ?done
  case turn =>
    clear F2 N2
    rintro i v m₁ _ h tk own hv ho _ ⟨us, k, rfl, hus, hps⟩ F1 N2
    have F2 := frBx F1 hps
    clear F1
    dsimp only [kstB] at F2
    rw [List.cons_append] at N2
    obtain ⟨t, ht⟩ : ∃ t, (dedup ns)[i]? = some t := ⟨_, List.getElem?_eq_getElem (by rw [← hu1.length]; exact (List.getElem?_eq_some_iff.mp hv).1)⟩
    obtain ⟨tt, htt⟩ := hu1.get i t ht
    obtain rfl : v = .int t tt := Option.some.inj (hv.symm.trans htt)
    (repeat' ((fail_if_success (first | (with_reducible show InvEndG _ _ _ _ _ _) | (with_reducible show wpAny _ _ (PySem.call (PySem.Value.ref _) _) _ _ _) | (with_reducible show wpAny _ _ (PySem.call (PySem.Value.builtin _) _) _ _ _) | (with_reducible show wpAny _ _ (PySem.call (PySem.Value.type _) _) _ _ _) | (with_reducible show wpAny _ _ (subscriptTail _ _ (PySem.Value.ref _) _) _ _ _) | (with_reducible show wpAny _ _ (setItem (PySem.Value.ref _) _ _) _ _ _) | (with_reducible show wpAny _ _ (compareOp _ (PySem.Value.ref _) _) _ _ _) | (with_reducible show wpAny _ _ (compareOp _ _ (PySem.Value.ref _)) _ _ _) | (with_reducible show wpAny _ _ (binaryOp PySem.Operator.Mod _ _) _ _ _) | (with_reducible show wpAny _ _ (truthy (PySem.Value.ref _)) _ _ _) | (with_reducible show wpAny _ _ (exec (PySem.Stmt.While _ _ _ _) _) _ _ _) | (with_reducible show wpAny _ _ (exec (PySem.Stmt.For (PySem.Expr.Tuple _ _ _) _ _ _ _ _) _) _ _ _) | (with_reducible show wpAny _ _ (pyIter _) _ _ _))); (first | walk1 | (k_unfold; (try dsimp only)) | (dsimp only; walk1) | ((try dsimp only); (with_reducible show WhileStep2 _ _ _ _ _ _ PySem.Flow.brk _); dsimp only [WhileStep2]) | fail "no step")))
    ((rename Fr _ _ _ _ => F2); (rename News _ _ _ _ => N2))
    have hr3 : ∀ q ∈ R ++ own, q.1 ≠ r3 := by
      intro q hq
      rcases List.mem_append.mp hq with h9 | h9
      · exact Nat.ne_of_lt (l3 q h9)
      · exact ho q h9 r3 (.head _)
    have hmem := hrm i t ht
    have hrl := rmAll_len (dedup ms) ((dedup ns).take i)
    have hdl := dedup_len ms
    refine remove_led F2 N2 hr3 hus hmem (by omega) ?_
    intro h' us' F2 N2 hus'
    (repeat' ((fail_if_success (first | (with_reducible show InvEndG _ _ _ _ _ _) | (with_reducible show wpAny _ _ (PySem.call (PySem.Value.ref _) _) _ _ _) | (with_reducible show wpAny _ _ (PySem.call (PySem.Value.builtin _) _) _ _ _) | (with_reducible show wpAny _ _ (PySem.call (PySem.Value.type _) _) _ _ _) | (with_reducible show wpAny _ _ (subscriptTail _ _ (PySem.Value.ref _) _) _ _ _) | (with_reducible show wpAny _ _ (setItem (PySem.Value.ref _) _ _) _ _ _) | (with_reducible show wpAny _ _ (compareOp _ (PySem.Value.ref _) _) _ _ _) | (with_reducible show wpAny _ _ (compareOp _ _ (PySem.Value.ref _)) _ _ _) | (with_reducible show wpAny _ _ (binaryOp PySem.Operator.Mod _ _) _ _ _) | (with_reducible show wpAny _ _ (truthy (PySem.Value.ref _)) _ _ _) | (with_reducible show wpAny _ _ (exec (PySem.Stmt.While _ _ _ _) _) _ _ _) | (with_reducible show wpAny _ _ (exec (PySem.Stmt.For (PySem.Expr.Tuple _ _ _) _ _ _ _ _) _) _ _ _) | (with_reducible show wpAny _ _ (pyIter _) _ _ _))); (first | walk1 | (k_unfold; (try dsimp only)) | (dsimp only; walk1) | ((try dsimp only); (with_reducible show WhileStep2 _ _ _ _ _ _ PySem.Flow.brk _); dsimp only [WhileStep2]) | fail "no step")))
    ((rename Fr _ _ _ _ => F2); (rename News _ _ _ _ => N2))
    refine InvEndG.intro F2 N2 (nx := (r3, listOf us'.toArray (k + 1)) :: R) ⟨.tail _ hR1, us', k + 1, rfl, ?_, (by kst_all)⟩ ho (fun p hp => ?_) (fun p hp => .tail _ (List.mem_append_right _ hp))
    · have e9 : rmAll (dedup ms) ((dedup ns).take (i + 1)) = (rmAll (dedup ms) ((dedup ns).take i)).erase t := by
        unfold rmAll
        rw [List.take_add_one, ht, List.foldl_append]
        rfl
      rw [e9]; exact hus'
    · exact List.mem_append_left own hp
  case done =>
    clear F2 N2
    rintro m₁ _ h tk ⟨us, k, rfl, hus, hps⟩ F1 N2
    have F2 := frB F1 hps
    clear F1
    dsimp only [kstB] at F2
    (repeat' ((fail_if_success (first | (with_reducible show InvEndG _ _ _ _ _ _) | (with_reducible show wpAny _ _ (PySem.call (PySem.Value.ref _) _) _ _ _) | (with_reducible show wpAny _ _ (PySem.call (PySem.Value.builtin _) _) _ _ _) | (with_reducible show wpAny _ _ (PySem.call (PySem.Value.type _) _) _ _ _) | (with_reducible show wpAny _ _ (subscriptTail _ _ (PySem.Value.ref _) _) _ _ _) | (with_reducible show wpAny _ _ (setItem (PySem.Value.ref _) _ _) _ _ _) | (with_reducible show wpAny _ _ (compareOp _ (PySem.Value.ref _) _) _ _ _) | (with_reducible show wpAny _ _ (compareOp _ _ (PySem.Value.ref _)) _ _ _) | (with_reducible show wpAny _ _ (binaryOp PySem.Operator.Mod _ _) _ _ _) | (with_reducible show wpAny _ _ (truthy (PySem.Value.ref _)) _ _ _) | (with_reducible show wpAny _ _ (exec (PySem.Stmt.While _ _ _ _) _) _ _ _) | (with_reducible show wpAny _ _ (exec (PySem.Stmt.For (PySem.Expr.Tuple _ _ _) _ _ _ _ _) _) _ _ _) | (with_reducible show wpAny _ _ (pyIter _) _ _ _))); (first | walk1 | (k_unfold; (try dsimp only)) | (dsimp only; walk1) | ((try dsimp only); (with_reducible show WhileStep2 _ _ _ _ _ _ PySem.Flow.brk _); dsimp only [WhileStep2]) | fail "no step")))
    rw [List.take_of_length_le (by rw [hu1.length]; exact Nat.le_refl _)] at hus
    have hrl := rmAll_len (dedup ms) (dedup ns)
    have hdl := dedup_len ms
    refine truthy_led N2 (.head _) hus.length (by omega) ?_
    have e9 : (!decide (0 < (rmAll (dedup ms) (dedup ns)).length)) = decide (rmAll (dedup ms) (dedup ns) = []) := by
      cases rmAll (dedup ms) (dedup ns) <;> simp
    dsimp only
    rw [e9]
    (repeat' ((fail_if_success (first | (with_reducible show InvEndG _ _ _ _ _ _) | (with_reducible show wpAny _ _ (PySem.call (PySem.Value.ref _) _) _ _ _) | (with_reducible show wpAny _ _ (PySem.call (PySem.Value.builtin _) _) _ _ _) | (with_reducible show wpAny _ _ (PySem.call (PySem.Value.type _) _) _ _ _) | (with_reducible show wpAny _ _ (subscriptTail _ _ (PySem.Value.ref _) _) _ _ _) | (with_reducible show wpAny _ _ (setItem (PySem.Value.ref _) _ _) _ _ _) | (with_reducible show wpAny _ _ (compareOp _ (PySem.Value.ref _) _) _ _ _) | (with_reducible show wpAny _ _ (compareOp _ _ (PySem.Value.ref _)) _ _ _) | (with_reducible show wpAny _ _ (binaryOp PySem.Operator.Mod _ _) _ _ _) | (with_reducible show wpAny _ _ (truthy (PySem.Value.ref _)) _ _ _) | (with_reducible show wpAny _ _ (exec (PySem.Stmt.While _ _ _ _) _) _ _ _) | (with_reducible show wpAny _ _ (exec (PySem.Stmt.For (PySem.Expr.Tuple _ _ _) _ _ _ _ _) _) _ _ _) | (with_reducible show wpAny _ _ (pyIter _) _ _ _))); (first | walk1 | (k_unfold; (try dsimp only)) | (dsimp only; walk1) | ((try dsimp only); (with_reducible show WhileStep2 _ _ _ _ _ _ PySem.Flow.brk _); dsimp only [WhileStep2]) | fail "no step")))
    (rename News h₀ L _ _ => kN)
    exact ret _ _ (by assumption) (fun q hq => kN q (.tail _ (hRn q hq)))
end Mine
end
section
open PySem PySem.W PySem.Calls PyProof.Rows
set_option maxRecDepth 100000
set_option maxHeartbeats 4000000
namespace Mine
theorem typeCall_dict_0 : checkTypeCall "dict" ⟨[], []⟩ = pure () := by kernel_rfl
theorem newCall_dict_0 : checkBuiltinCall "dict.__new__" ⟨[.type "dict"], []⟩ = pure () := by kernel_rfl
abbrev emptyD : Obj := { cls := .type "dict", data := .dict #[] }
def fkObj : Obj := { cls := .type "builtin_function_or_method", data := .fields #[.builtin "dict.fromkeys", .type "dict"] }
theorem entry_fk : entryFor table "dict.fromkeys" = some Builtin.«dict.fromkeys» := entryFor_of_tree (by kernel_rfl)
theorem entry_fkl : entryFor table "dict.fromkeys.loop" = some Builtin.«dict.fromkeys.loop» := entryFor_of_fast (by kernel_rfl)
theorem plain_fkl : plainId "dict.fromkeys.loop" = true := by decide +kernel
theorem plain_fk : plainId "dict.fromkeys" = true := by decide +kernel
theorem type_fk : typeOf (.builtin "dict.fromkeys") = pure (.type "classmethod_descriptor") := by show builtinType _ = _; rw [builtinType_eq_fast]; kernel_rfl
theorem type_dict : isType (.type "dict") = pure true := by first | rfl | kernel_rfl | (unfold isType; rw [isSubtype_type]; kernel_rfl)
theorem owner_fk : (kfb_private% "ownerAndName") "dict.fromkeys" = ("dict", "fromkeys") := by first | decide +kernel | kernel_rfl
theorem check_fk (a : Addr) : checkBoundCall "dict.fromkeys" ⟨[.type "dict", .ref a], []⟩ = pure () := by first | kernel_rfl | rfl
section
variable {prog : Program} {w : World} {M : Model} {A : Around} {E : Value → Shared → Prop} {s : Shared} {K : Frag} {h₀ : Heap} {L : Addr} {m : Str → Option Value} {news : List (Addr × Obj)}

theorem code_dict_new0 {Q₁ : Value → Shared → Prop} (h : Q₁ (.ref s.heap.objs.size) { s with heap := s.heap.push emptyD }) :
    codeAny (model prog w) A (.call (.builtin "dict.__new__") ⟨[.type "dict"], []⟩) (wants Q₁ E) s := by
  refine codeAny_call_builtin PySem.F.kt_plain_dict_new PySem.F.kt_entry_dict_new (wpAny_of_eq newCall_dict_0 ?_)
  have hsub := PySem.F.kt_sub_dict
  have hmro := PySem.F.kt_mro_dict
  obtain ⟨hp, g, d, tk, os⟩ := s
  unfold Builtin.«dict.__new__»
  wp_walk
  exact h
theorem call_dict0 {Q : Value → Shared → Prop} (h : Q (.ref s.heap.objs.size) { s with heap := s.heap.push emptyD }) : wpAny (model prog w) A (call (.type "dict") []) Q E s := by
  refine callType_codes (Q₁ := fun obj s₁ => obj = .ref s.heap.objs.size ∧ s₁ = { s with heap := s.heap.push emptyD }) PySem.F.kt_called_dict typeCall_dict_0 PySem.F.entry_dict_init (code_dict_new0 ⟨rfl, rfl⟩) ?_
  rintro obj s₁ ⟨rfl, rfl⟩
  have hnew : (s.heap.push emptyD).DictOf (PySem.intKind prog w) s.heap.objs.size [] := Heap.DictOf.new s.heap
  refine ⟨hnew.typeIs, PySem.F.args_dict_init_1 _, ?_⟩
  unfold Builtin.«dict.__init__»
  refine wpAny_bind ?_
  unfold Builtin.Dict.selfAndRest
  refine wpAny_bind (wpAny_notOrdered_dict hnew.typeIs ?_)
  show wpAny _ _ (pure (s.heap.objs.size, [])) _ _ _
  refine wpAny_pure ?_
  show wpAny _ _ (Builtin.Dict.addKeywords s.heap.objs.size [] >>= _) _ _ _
  exact wpAny_bind (wpAny_pure (wpAny_pure ⟨rfl, h⟩))

/-- what fromkeys makes of a list of ints -/
def fromK (acc : List (Int × Value)) (ns : List Int) : List (Int × Value) := ns.foldl (fun a n => stored a n .none) acc
theorem stored_len (a : List (Int × Value)) (n : Int) (v : Value) : (stored a n v).length ≤ a.length + 1 := by
  unfold stored; split <;> simp

theorem fk_loop {d it l : Addr} {vs : List Value} {ns : List Int} (hi : IntsAre vs ns) (hdi : d ≠ it) (hdl : l ≠ d) (hil : l ≠ it) (hns : ns.length < 2 ^ 20) : ∀ (k i : Nat) (acc : List (Int × Value)) (A : Around) (R : Result → Shared → Prop) (s : Shared), vs.length - i = k → i ≤ vs.length → acc.length ≤ i → A.handled = none →
    s.heap.IsListIter it l i → s.heap.IsList l vs.toArray → s.heap.DictOf (PySem.intKind prog w) d acc →
    (∀ h' tk, h'.DictOf (PySem.intKind prog w) d (fromK acc (ns.drop i)) → (∀ b o, b ≠ d → b ≠ it → s.heap.get? b = some o → h'.get? b = some o) → R (.ok (.ret (.ref d))) { s with heap := h', toks := tk }) →
    codeAny (model prog w) A (.builtin "dict.fromkeys.loop" ⟨[.ref d, .ref it, .none], []⟩) R s := by
  intro k
  induction k with
  | zero =>
    intro i acc A R s hk hle hacc hh hit hl hd hR
    have hx : vs.toArray[i]? = none := by simp; omega
    have hdrop : ns.drop i = [] := by apply List.drop_of_length_le; rw [← hi.length]; omega
    refine codeAny_builtin entry_fkl ?_
    rw [Around.under_plainId plain_fkl _]
    unfold Builtin.«dict.fromkeys.loop»
    refine wpAny_bind (wpAny_pyNext_list_end (by exact hh) hit hl hx fun h' hs => ?_)
    refine wpAny_pure ?_
    refine hR h' s.toks ?_ (fun b o _ hb e => hs b o hb e)
    rw [hdrop]
    exact hd.extBut hs hdi
  | succ k ih =>
    intro i acc A R s hk hle hacc hh hit hl hd hR
    have hlt : i < vs.length := by omega
    obtain ⟨t, ht⟩ : ∃ t, ns[i]? = some t := ⟨_, List.getElem?_eq_getElem (by rw [← hi.length]; exact hlt)⟩
    obtain ⟨tt, htt⟩ := hi.get i t ht
    have hx : vs.toArray[i]? = some (.int t tt) := by simpa using htt
    have hdrop : ns.drop i = t :: ns.drop (i + 1) := by
      have h9 : i < ns.length := by rw [← hi.length]; exact hlt
      rw [List.drop_eq_getElem_cons h9]
      rw [List.getElem?_eq_getElem h9] at ht
      rw [Option.some.inj ht]
    refine codeAny_builtin entry_fkl ?_
    rw [Around.under_plainId plain_fkl _]
    unfold Builtin.«dict.fromkeys.loop»
    refine wpAny_bind (wpAny_pyNext_list_item hit hl hx fun h1 hit1 hs1 => ?_)
    have hd1 : h1.DictOf (PySem.intKind prog w) d acc := hd.sameBut hs1 hdi
    have hl1 : h1.IsList l vs.toArray := hl.at fun o e => hs1.extBut l o hil e
    refine wpAny_bind (wpAny_typeOf (s := { s with heap := h1 }) hd1.typeIs ?_)
    simp only [beq_self_eq_true, if_true]
    refine wpAny_bind (m := Builtin.Dict.addrOf (.ref d)) (wpAny_pure ?_)
    refine wpAny_bind (wpAny_holding ?_)
    refine wpAny_dictSet_pairs (s := { s with heap := h1 }) (k := t) (by simp [PySem.intKind, Value.isInt]) hd1 (fun h2 hd2 hs2 => ?_) (by rw [PySem.sizeLine_eq]; have := hi.length; omega)
    refine wpAny_pure ⟨plainId_quiet plain_fkl _, ?_⟩
    refine ih (i + 1) _ A R _ (by omega) (by omega) (by have := stored_len acc t .none; omega) hh ?_ ?_ hd2 ?_
    · exact hit1.at fun o e => hs2.extBut it o (fun e => hdi e.symm) e
    · exact hl1.at fun o e => hs2.extBut l o hdl e
    · intro h' tk hd' hk'
      refine hR h' tk ?_ (fun b o h1 h2 e => hk' b o h1 h2 (hs2.extBut b o h1 (hs1.extBut b o h2 e)))
      rw [hdrop]
      exact hd'
theorem fk_new {Q : Value → Shared → Prop} (F : Fr h₀ L s.heap m) (N : News h₀ L s.heap news) {la : Addr} {vs : List Value} {ns : List Int} {n : Nat} (hm : (la, listOf vs.toArray n) ∈ news) (hi : IntsAre vs ns) (hh : A.handled = none) (hns : ns.length < 2 ^ 20)
    (h : ∀ d o h' tk, Fr h₀ L h' m → News h₀ L h' ((d, o) :: news) → (∀ q ∈ news, q.1 < d) → o.IsDictOf (PySem.intKind prog w) (fromK [] ns) → Q (.ref d) { s with heap := h', toks := tk }) :
    wpAny (model prog w) A.in1 (Builtin.«dict.fromkeys» ⟨[.type "dict", .ref la], []⟩)
      (fun fin s' => match fin with | .done f => wants Q E (.ok f) s' | .again c' => c'.quiet = true ∧ codeAny (model prog w) A c' (wants Q E) s') (fun e s' => wants Q E (.error e) s') s := by
  have hL : s.heap.IsList la vs.toArray := ⟨_, (N _ hm).1, rfl, n, rfl⟩
  unfold Builtin.«dict.fromkeys»
  refine wpAny_bind (wpAny_of_eq (a := true) type_dict ?_)
  refine KFB.if_not rfl ?_
  refine wpAny_bind (wpAny_of_eq (a := true) PySem.F.kt_sub_dict ?_)
  refine KFB.if_not rfl ?_
  refine KFB.if_not rfl ?_
  refine wpAny_bind (wpAny_rule ?_)
  refine wpAny_bind (wpAny_pure ?_)
  dsimp only
  refine wpAny_bind (call_dict0 ?_)
  refine wpAny_holding ?_
  have hL2 : (s.heap.push emptyD).IsList la vs.toArray := hL.at fun o e => Heap.get?_push_of_some _ e
  refine wpAny_bind (wpAny_typeOf (s := { s with heap := s.heap.push emptyD }) hL2.typeIs ?_)
  have hD : (s.heap.push emptyD).DictOf (PySem.intKind prog w) s.heap.objs.size [] := Heap.DictOf.new s.heap
  refine wpAny_bind (wpAny_typeOf (s := { s with heap := s.heap.push emptyD }) hD.typeIs ?_)
  refine KFB.if_not rfl ?_
  refine wpAny_bind (wpAny_typeOf (s := { s with heap := s.heap.push emptyD }) hD.typeIs ?_)
  refine KFB.if_not rfl ?_
  refine wpAny_bind (wpAny_pyIter_list (s := { s with heap := s.heap.push emptyD }) hL2 ?_)
  have hla : la < s.heap.objs.size := by obtain ⟨o, ho, _⟩ := hL; exact Heap.lt_size ho
  have hsz : (s.heap.push emptyD).objs.size = s.heap.objs.size + 1 := Heap.size_push ..
  refine wpAny_pure ⟨plainId_quiet plain_fkl _, ?_⟩
  refine fk_loop hi (d := s.heap.objs.size) (it := (s.heap.push emptyD).objs.size) (l := la) (by rw [hsz]; exact Nat.ne_of_lt (Nat.lt_succ_self _)) (Nat.ne_of_lt hla) (by rw [hsz]; exact Nat.ne_of_lt (Nat.lt_succ_of_lt hla)) hns _ 0 [] A _ _ rfl (Nat.zero_le _) (Nat.le_refl _) hh ⟨_, Heap.get?_push_size _ rfl, rfl, rfl⟩ (hL2.at fun o e => Heap.get?_push_of_some _ e) (hD.push _) ?_
  intro h' tk hd hk
  have hk' : ∀ b o, s.heap.get? b = some o → h'.get? b = some o := fun b o e => by
    have hb := Heap.lt_size e
    exact hk b o (Nat.ne_of_lt hb) (by rw [hsz]; exact Nat.ne_of_lt (Nat.lt_succ_of_lt hb)) (Heap.get?_push_of_some _ (Heap.get?_push_of_some _ e))
  obtain ⟨o', ho', hd'⟩ := Heap.dictOf_iff.mp hd
  exact h _ o' h' tk (F.keeps hk') (news_pushed F N hk' ho' rfl) (fun q hq => Heap.lt_size (N q hq).1) hd'

theorem fk_call {Q : Value → Shared → Prop} {x : Addr} (F : Fr h₀ L s.heap m) (N : News h₀ L s.heap news) (hx : (x, fkObj) ∈ news) {la : Addr} {vs : List Value} {ns : List Int} {n : Nat} (hm : (la, listOf vs.toArray n) ∈ news) (hi : IntsAre vs ns) (hh : A.handled = none) (hns : ns.length < 2 ^ 20)
    (h : ∀ d o h' tk, Fr h₀ L h' m → News h₀ L h' ((d, o) :: news) → (∀ q ∈ news, q.1 < d) → o.IsDictOf (PySem.intKind prog w) (fromK [] ns) → Q (.ref d) { s with heap := h', toks := tk }) :
    wpAny (model prog w) A (call (.ref x) [.ref la]) Q E s := by
  refine wpAny_call (codeAny_of_tree ?_)
  show wpAny _ A.in1 (callAny (.ref x) ⟨[.ref la], []⟩) _ _ s
  simp only [callAny]
  refine wpAny_bind (wpAny_load (N _ hx).1 ?_)
  simp only [fkObj, show (Value.type "builtin_function_or_method" == Value.type "method" || Value.type "builtin_function_or_method" == Value.type "builtin_function_or_method" || Value.type "builtin_function_or_method" == Value.type "method-wrapper") = true by decide, if_true]
  refine KFB.if_so (by decide) ?_
  refine wpAny_bind (wpAny_of_eq (a := ()) (check_fk la) ?_)
  refine wpAny_bind (wpAny_pure (wpAny_pure ?_))
  refine ⟨plainId_quiet plain_fk _, codeAny_builtin entry_fk ?_⟩
  rw [Around.under_plainId plain_fk _]
  exact fk_new F N hm hi (by exact hh) hns h

theorem fk_with0 {pos : Pos} {u : Addr} {first : List Value} {args : List (Bool × Sem Value)} {Q : Value → Shared → Prop} (hplain : args.any (·.1) = false)
    (h : wpAny M A (evalArgs (.ref u) true args []) (fun x s₁ => s₁.heap.get? u = some fkObj ∧ wpAny M A (call (.ref u) (first ++ x.pos) x.kw) Q E s₁) E s) : wpAny M A (callWith pos (.ref u) first args []) Q E s := by
  unfold callWith
  refine wpAny_bind (wpAny_holding (wpAny_mono h (fun x s₁ h₁ => wpAny_bind (wpAny_standAt ?_)) fun _ _ x => x))
  obtain ⟨ho, hcall⟩ := h₁
  simp only [hplain, List.any_nil, Bool.or_false]
  refine wpAny_bind (m := keeperOf (.ref u)) ?_
  unfold keeperOf
  refine wpAny_bind (wpAny_load ho ?_)
  simp only [fkObj, show (Value.type "builtin_function_or_method" != Value.type "method") = true by decide, show (Value.type "builtin_function_or_method" == Value.type "builtin_function_or_method" || Value.type "builtin_function_or_method" == Value.type "method-wrapper") = true by decide, if_true]
  refine wpAny_pure ?_
  exact wpAny_bind (wpAny_mono hcall (fun r s₂ hr => wpAny_bind (wpAny_holding (wpAny_point (wpAny_pure hr)))) fun _ _ x => x)
theorem fk_with {pos : Pos} {u : Addr} {first : List Value} {env : Env} {e : PySem.Expr} {rest : List PySem.Expr} {Q : Value → Shared → Prop}
    (h : wpAny M A (spliced (backTo pos (starEach (e :: rest) env))) (fun vs s₁ => s₁.heap.get? u = some fkObj ∧ wpAny M A (call (.ref u) (first ++ vs)) Q E s₁) E s)
    (he : starEach (e :: rest) env = (false, eval e env) :: starEach rest env := by rfl) (hplain : (backTo pos (starEach rest env)).any (·.1) = false := by rfl) :
    wpAny M A (callWith pos (.ref u) first (backTo pos (starEach (e :: rest) env)) []) Q E s := by
  rw [he] at h ⊢
  refine fk_with0 (by show (false || (backTo pos (starEach rest env)).any (·.1)) = false; rw [hplain]; rfl) ?_
  exact evalArgs_plain h

theorem fk_getm {pl : Sem Bool} {Q : Value × List Value → Shared → Prop} (F : Fr h₀ L s.heap m) (N : News h₀ L s.heap news) (X₀ : K.In h₀)
    (e : findCls K (.type "dict") (.type "type") (PySem.Str.ofString "fromkeys") = some (.get (.builtin "classmethod_descriptor.__get__") (.builtin "dict.fromkeys") .none (.type "dict")))
    (h : ∀ x h', Fr h₀ L h' m → News h₀ L h' ((x, fkObj) :: news) → (∀ p ∈ news, p.1 < x) → Q (.ref x, []) { s with heap := h', toks := s.toks + 1 }) :
    wpAny (model prog w) A (getMethod (.type "dict") (PySem.Str.ofString "fromkeys") pl) Q E s := by
  have X := X₀.keeps F.keep
  have hstub : opaqueClassAbove (.type "dict") = pure none := by unfold opaqueClassAbove; dsimp only; rw [show Manifest.isStub "dict" = false by decide +kernel]; rfl
  have ht : typeOf (.type "dict") = pure (.type "type") := by first | rfl | kernel_rfl
  have L0 : Looks (model prog w) s.heap (typeOf (.type "dict")) (.type "type") := Looks.of_pure ht
  have hg : findIn K (.type "type") "__getattribute__" = some (some (.builtin "type.__getattribute__")) := type_tga
  unfold getMethod specialOf
  refine wpAny_bind (wpAny_bind (L0.here ((looks_findIn X hg).here ?_)))
  dsimp only
  rw [if_pos canon_tga]
  refine wpAny_bind (wpAny_mono (Q := fun v => Q (v, [])) (E := E) ?_ (fun _ _ z => wpAny_pure z) fun _ _ z => z)
  have LO : Looks (model prog w) s.heap (opaqueClassAbove (.type "dict")) none := Looks.of_pure hstub
  refine cls_open X LO L0 hg (looks_hook X (r := none) (by rfl)) (by show subIn K _ _ = _; rfl) e ?_
  show wpAny _ _ (holding [.builtin "dict.fromkeys"] (call (.builtin "classmethod_descriptor.__get__") [.builtin "dict.fromkeys", .none, .type "dict"]) >>= fun v => ret v) _ _ _
  refine wpAny_bind (wpAny_holding (wpAny_call_entry KFB.slot_get type_fk KFB.entry_get ?_ (KFB.args_get _ _ _)))
  unfold Builtin.«classmethod_descriptor.__get__»
  refine wpAny_bind (wpAny_of_eq (a := (.builtin "dict.fromkeys", none, some (.type "dict"))) (by first | rfl | kernel_rfl) ?_)
  simp only [owner_fk]
  refine wpAny_bind (wpAny_of_eq (a := .type "dict") rfl ?_)
  refine wpAny_bind (wpAny_of_eq (a := true) type_dict ?_)
  refine KFB.if_not rfl ?_
  refine wpAny_bind (wpAny_of_eq (a := true) PySem.F.kt_sub_dict ?_)
  refine KFB.if_not rfl ?_
  refine wpAny_bind (wpAny_newObj_type (wpAny_pure ⟨_, rfl, wpAny_pure (wpAny_pure (h _ _ (F.push _) (News.push F N _) fun p hp => Heap.lt_size (N p hp).1))⟩))
end
end Mine
end
section
open PySem PySem.W PySem.Calls PyProof.Rows
set_option maxRecDepth 100000
set_option maxHeartbeats 8000000
set_option pp.deepTerms.threshold 6
theorem Mine.warmS6 (w : World) : (model PySem.Challenge.rw_ik0114_01.row.prog w, Mine.hd.heap_39 w.params) = (model PySem.Challenge.rw_ik0114_01.row.prog w, Mine.hd.heap_39 w.params) := by
  k_fill
  rfl
local macro_rules | `(tactic| walk_at "eval Name") => `(tactic| k_dflt (refine' ld ?k1 ?k2 ?_; (case k1 => k_asm); (case k2 => exact rfl); k_whole))
local macro_rules | `(tactic| walk_at "execs cons") => `(tactic| ((with_reducible refine wpAny_execs_cons ?_); (try dsimp only)))
local macro_rules | `(tactic| walk_at "exec Assign") => `(tactic| ((with_reducible show wpAny _ _ (exec (PySem.Stmt.Assign [PySem.Expr.Name _ _] _ _) _) _ _ _); (with_reducible refine wpAny_Assign_Name ?_)))
namespace Mine
theorem fromkeys_ct {w : World} {A A₀ : Around} {env : Env} {outer : List Env} {base h₀ : Heap} {L : Addr} {m : Str → Option Value} {s : Shared} {p : Program} {loose : List Str} {mean : ExcName → Option Value} {mg mb : Str → Option Value} {Q E : Value → Shared → Prop}
    (B : Below A₀ base outer h₀) (F : Fr h₀ L s.heap m) (X : (Mine.hd.heap_39 w.params).In h₀) (T : Top p loose mean mg mb h₀) (hA : A.frames = some (env :: outer)) (hf : env.frame = some L) (hke : env.scope.kind = .function) (hh : A.handled = none)
    {la : Addr} {news : List (Addr × Obj)} {vs : List Value} {ns : List Int} {n : Nat} (N : News h₀ L s.heap news) (hm : (la, listOf vs.toArray n) ∈ news) (hi : IntsAre vs ns)
    (hd : A.depth + 3 < recursionLimit) (hu : A.units + 20 < cLine) (hl : ns.length < 2 ^ 18)
    (ret : ∀ d o h' tk', Fr h₀ L h' m → News h₀ L h' ((d, o) :: news) → (∀ q ∈ news, q.1 < d) → o.IsDictOf (PySem.intKind PySem.Challenge.rw_ik0114_01.row.prog w) (fromK [] ns) → Q (.ref d) { s with heap := h', toks := tk' }) :
    wpAny (model PySem.Challenge.rw_ik0114_01.row.prog w) A (call (.ref 57) [.ref la]) Q E s := by
  refine wpAny_call ?_
  refine' code_def ?k1 ?k2 ?k3 ?k4 ?k5 ?kA ?kF ?kK ?k6 ?k7 ?k8 ?k9 ?kB ?_ ?c2 ?c3 ?c4 ?c5
  case k1 => exact B
  case k2 => exact F
  case k3 => exact X
  case k4 => exact N
  case k5 => exact T
  case kA => exact hA
  case kF => exact hf
  case kK => exact hke
  case k6 => k_is
  case k7 => k_is
  case k8 => show A.depth < _; omega
  case k9 => exact kp_binds (X.keeps F.keep) (fun _ => rfl)
  case kB => exact locs rfl
  case c2 => exact rfl
  case c3 => exact rfl
  case c4 => exact rfl
  case c5 => decide
  intro g' L' h' FG' F' N' B' X' T'
  try dsimp only
  try k_fold
  (repeat' ((fail_if_success (first | (with_reducible show InvEndG _ _ _ _ _ _) | (with_reducible show wpAny _ _ (PySem.call (PySem.Value.ref _) _) _ _ _) | (with_reducible show wpAny _ _ (PySem.call (PySem.Value.builtin _) _) _ _ _) | (with_reducible show wpAny _ _ (PySem.call (PySem.Value.type _) _) _ _ _) | (with_reducible show wpAny _ _ (subscriptTail _ _ (PySem.Value.ref _) _) _ _ _) | (with_reducible show wpAny _ _ (setItem (PySem.Value.ref _) _ _) _ _ _) | (with_reducible show wpAny _ _ (compareOp _ (PySem.Value.ref _) _) _ _ _) | (with_reducible show wpAny _ _ (compareOp _ _ (PySem.Value.ref _)) _ _ _) | (with_reducible show wpAny _ _ (binaryOp PySem.Operator.Mod _ _) _ _ _) | (with_reducible show wpAny _ _ (truthy (PySem.Value.ref _)) _ _ _) | (with_reducible show wpAny _ _ (exec (PySem.Stmt.While _ _ _ _) _) _ _ _) | (with_reducible show wpAny _ _ (exec (PySem.Stmt.For (PySem.Expr.Tuple _ _ _) _ _ _ _ _) _) _ _ _) | (with_reducible show wpAny _ _ (pyIter _) _ _ _))); (first | walk1 | (k_unfold; (try dsimp only)) | (dsimp only; walk1) | ((try dsimp only); (with_reducible show WhileStep2 _ _ _ _ _ _ PySem.Flow.brk _); dsimp only [WhileStep2]) | fail "no step")))
  refine fk_getm F' N' X' (by k_is) ?_
  intro x h' F2 N2 l1
  dsimp only
  refine fk_with ?_
  (repeat' ((fail_if_success (first | (with_reducible show InvEndG _ _ _ _ _ _) | (with_reducible show wpAny _ _ (PySem.call (PySem.Value.ref _) _) _ _ _) | (with_reducible show wpAny _ _ (PySem.call (PySem.Value.builtin _) _) _ _ _) | (with_reducible show wpAny _ _ (PySem.call (PySem.Value.type _) _) _ _ _) | (with_reducible show wpAny _ _ (subscriptTail _ _ (PySem.Value.ref _) _) _ _ _) | (with_reducible show wpAny _ _ (setItem (PySem.Value.ref _) _ _) _ _ _) | (with_reducible show wpAny _ _ (compareOp _ (PySem.Value.ref _) _) _ _ _) | (with_reducible show wpAny _ _ (compareOp _ _ (PySem.Value.ref _)) _ _ _) | (with_reducible show wpAny _ _ (binaryOp PySem.Operator.Mod _ _) _ _ _) | (with_reducible show wpAny _ _ (truthy (PySem.Value.ref _)) _ _ _) | (with_reducible show wpAny _ _ (exec (PySem.Stmt.While _ _ _ _) _) _ _ _) | (with_reducible show wpAny _ _ (exec (PySem.Stmt.For (PySem.Expr.Tuple _ _ _) _ _ _ _ _) _) _ _ _) | (with_reducible show wpAny _ _ (pyIter _) _ _ _))); (first | walk1 | (k_unfold; (try dsimp only)) | (dsimp only; walk1) | ((try dsimp only); (with_reducible show WhileStep2 _ _ _ _ _ _ PySem.Flow.brk _); dsimp only [WhileStep2]) | fail "no step")))
  case refine_1 => (rename News _ _ _ _ => N2); exact (N2 _ (.head _)).1
  ((rename Fr _ _ _ _ => F2); (rename News _ _ _ _ => N2))
  refine fk_call F2 N2 (.head _) (.tail _ hm) (by assumption) (by exact hh) (by omega) ?_
  intro d o h' tk' F2 N2 l2 hd2
  (repeat' ((fail_if_success (first | (with_reducible show InvEndG _ _ _ _ _ _) | (with_reducible show wpAny _ _ (PySem.call (PySem.Value.ref _) _) _ _ _) | (with_reducible show wpAny _ _ (PySem.call (PySem.Value.builtin _) _) _ _ _) | (with_reducible show wpAny _ _ (PySem.call (PySem.Value.type _) _) _ _ _) | (with_reducible show wpAny _ _ (subscriptTail _ _ (PySem.Value.ref _) _) _ _ _) | (with_reducible show wpAny _ _ (setItem (PySem.Value.ref _) _ _) _ _ _) | (with_reducible show wpAny _ _ (compareOp _ (PySem.Value.ref _) _) _ _ _) | (with_reducible show wpAny _ _ (compareOp _ _ (PySem.Value.ref _)) _ _ _) | (with_reducible show wpAny _ _ (binaryOp PySem.Operator.Mod _ _) _ _ _) | (with_reducible show wpAny _ _ (truthy (PySem.Value.ref _)) _ _ _) | (with_reducible show wpAny _ _ (exec (PySem.Stmt.While _ _ _ _) _) _ _ _) | (with_reducible show wpAny _ _ (exec (PySem.Stmt.For (PySem.Expr.Tuple _ _ _) _ _ _ _ _) _) _ _ _) | (with_reducible show wpAny _ _ (pyIter _) _ _ _))); (first | walk1 | (k_unfold; (try dsimp only)) | (dsimp only; walk1) | ((try dsimp only); (with_reducible show WhileStep2 _ _ _ _ _ _ PySem.Flow.brk _); dsimp only [WhileStep2]) | fail "no step")))
  (rename News h₀ L _ _ => kN)
  refine ret d o _ _ (by assumption) (fun q hq => ?_) (fun q hq => l2 q (.tail _ hq)) hd2
  rcases List.mem_cons.mp hq with rfl | hq
  · exact kN _ (.head _)
  · exact kN _ (.tail _ (.tail _ hq))
end Mine
end
section
open PySem PySem.W PySem.Calls PyProof.Rows
set_option maxRecDepth 100000
set_option maxHeartbeats 8000000
set_option pp.deepTerms.threshold 6
theorem Mine.warmS7 (w : World) : (model PySem.Challenge.rw_ik0114_01.row.prog w, Mine.hd.heap_39 w.params) = (model PySem.Challenge.rw_ik0114_01.row.prog w, Mine.hd.heap_39 w.params) := by
  k_fill
  rfl
local macro_rules | `(tactic| walk_at "eval Name") => `(tactic| k_dflt (refine' ld ?k1 ?k2 ?_; (case k1 => k_asm); (case k2 => exact rfl); k_whole))
local macro_rules | `(tactic| walk_at "execs cons") => `(tactic| ((with_reducible refine wpAny_execs_cons ?_); (try dsimp only)))
local macro_rules | `(tactic| walk_at "exec Assign") => `(tactic| ((with_reducible show wpAny _ _ (exec (PySem.Stmt.Assign [PySem.Expr.Name _ _] _ _) _) _ _ _); (with_reducible refine wpAny_Assign_Name ?_)))
namespace Mine
/-- the first n points of the walk by st on a ring of W -/
def pts (W st : Int) (n : Nat) : List Int := (List.range n).map fun (i : Nat) => ((i : Int) * st) % W

theorem pts_len (W st : Int) (n : Nat) : (pts W st n).length = n := by simp [pts]
theorem pts_succ (W st : Int) (n : Nat) : pts W st (n + 1) = pts W st n ++ [((n : Int) * st) % W] := by simp [pts, List.range_succ]
theorem pts_next {W st x : Int} (hW : 0 < W) (i : Nat) (hx : x = ((i : Int) * st) % W) : (x + st).fmod W = (((i + 1 : Nat) : Int) * st) % W := by
  rw [Int.fmod_eq_emod_of_nonneg _ (Int.le_of_lt hW), hx, Int.emod_add_emod]
  congr 1
  push_cast
  rw [Int.add_mul, Int.one_mul]

theorem points_ct {w : World} {A A₀ : Around} {env : Env} {outer : List Env} {base h₀ : Heap} {L : Addr} {m : Str → Option Value} {s : Shared} {p : Program} {loose : List Str} {mean : ExcName → Option Value} {mg mb : Str → Option Value} {Q E : Value → Shared → Prop}
    (B : Below A₀ base outer h₀) (F : Fr h₀ L s.heap m) (X : (Mine.hd.heap_39 w.params).In h₀) (T : Top p loose mean mg mb h₀) (hA : A.frames = some (env :: outer)) (hf : env.frame = some L) (hke : env.scope.kind = .function) (hh : A.handled = none)
    {ls : Addr} {news : List (Addr × Obj)} {vs : List Value} {ns : List Int} (N : News h₀ L s.heap news) (hls : h₀.IsList ls vs.toArray) (hi : IntsAre vs ns)
    (hd : A.depth + 3 < recursionLimit) (hu : A.units + 20 < cLine) (hl : ns.length < 2 ^ 18)
    (ret : ∀ (W st : Int) (n : Nat) tW r us k t c h' tk', 13 ≤ W → W ≤ 52 → 1 ≤ st → st < W → 2 ≤ n → n ≤ 16 → (pts W st n).Nodup → IntsAre us (pts W st n) → Fr h₀ L h' m →
      News h₀ L h' ((t, ({ cls := .type "tuple", data := .seq #[.int W tW, .ref r] c } : Obj)) :: (r, listOf us.toArray k) :: news) → (∀ q ∈ news, q.1 ≠ r) → Q (.ref t) { s with heap := h', toks := tk' }) :
    wpAny (model PySem.Challenge.rw_ik0114_01.row.prog w) A (call (.ref 202) [.ref ls]) Q E s := by
  refine wpAny_call ?_
  refine' code_def ?k1 ?k2 ?k3 ?k4 ?k5 ?kA ?kF ?kK ?k6 ?k7 ?k8 ?k9 ?kB ?_ ?c2 ?c3 ?c4 ?c5
  case k1 => exact B
  case k2 => exact F
  case k3 => exact X
  case k4 => exact N
  case k5 => exact T
  case kA => exact hA
  case kF => exact hf
  case kK => exact hke
  case k6 => k_is
  case k7 => k_is
  case k8 => show A.depth < _; omega
  case k9 => exact BindsTo.of_eq rfl
  case kB => exact locs rfl
  case c2 => exact rfl
  case c3 => exact rfl
  case c4 => exact rfl
  case c5 => decide
  intro g' L' h' FG' F' N' B' X' T'
  try dsimp only
  try k_fold
  have hls' : h'.IsList ls vs.toArray := (hls.at fun o e => F'.keep _ _ (FG'.keep _ _ e))
  (repeat' ((fail_if_success (first | (with_reducible show InvEndG _ _ _ _ _ _) | (with_reducible show wpAny _ _ (PySem.call (PySem.Value.ref _) _) _ _ _) | (with_reducible show wpAny _ _ (PySem.call (PySem.Value.builtin _) _) _ _ _) | (with_reducible show wpAny _ _ (PySem.call (PySem.Value.type _) _) _ _ _) | (with_reducible show wpAny _ _ (subscriptTail _ _ (PySem.Value.ref _) _) _ _ _) | (with_reducible show wpAny _ _ (setItem (PySem.Value.ref _) _ _) _ _ _) | (with_reducible show wpAny _ _ (compareOp _ (PySem.Value.ref _) _) _ _ _) | (with_reducible show wpAny _ _ (compareOp _ _ (PySem.Value.ref _)) _ _ _) | (with_reducible show wpAny _ _ (binaryOp PySem.Operator.Mod _ _) _ _ _) | (with_reducible show wpAny _ _ (truthy (PySem.Value.ref _)) _ _ _) | (with_reducible show wpAny _ _ (exec (PySem.Stmt.While _ _ _ _) _) _ _ _) | (with_reducible show wpAny _ _ (exec (PySem.Stmt.For (PySem.Expr.Tuple _ _ _) _ _ _ _ _) _) _ _ _) | (with_reducible show wpAny _ _ (pyIter _) _ _ _))); (first | walk1 | (k_unfold; (try dsimp only)) | (dsimp only; walk1) | ((try dsimp only); (with_reducible show WhileStep2 _ _ _ _ _ _ PySem.Flow.brk _); dsimp only [WhileStep2]) | fail "no step")))
  refine' kmk_slice_ints ?zF ?zN ?zl ?zp ?zq ?zi ?zm ?zc ?_ ?zs ?zt ?zz
  case zF => k_asm
  case zN => k_asm
  case zl => exact hls'
  case zp => kmk_part
  case zq => kmk_part
  case zi => assumption
  case zm => exact kmk_upto (by assumption) (by decide)
  case zc => exact rfl
  case zs => with_unfolding_all rfl
  case zt => kmk_pure
  case zz => have := hi.length; rw [List.size_toArray, PySem.sizeLine_eq]; omega
  intro D' ws' h' F' N' l0 hI' hC' hL'
  have hws : ws'.length < 2 ^ 19 := by have := hI'.length; omega
  (repeat' ((fail_if_success (first | (with_reducible show InvEndG _ _ _ _ _ _) | (with_reducible show wpAny _ _ (PySem.call (PySem.Value.ref _) _) _ _ _) | (with_reducible show wpAny _ _ (PySem.call (PySem.Value.builtin _) _) _ _ _) | (with_reducible show wpAny _ _ (PySem.call (PySem.Value.type _) _) _ _ _) | (with_reducible show wpAny _ _ (subscriptTail _ _ (PySem.Value.ref _) _) _ _ _) | (with_reducible show wpAny _ _ (setItem (PySem.Value.ref _) _ _) _ _ _) | (with_reducible show wpAny _ _ (compareOp _ (PySem.Value.ref _) _) _ _ _) | (with_reducible show wpAny _ _ (compareOp _ _ (PySem.Value.ref _)) _ _ _) | (with_reducible show wpAny _ _ (binaryOp PySem.Operator.Mod _ _) _ _ _) | (with_reducible show wpAny _ _ (truthy (PySem.Value.ref _)) _ _ _) | (with_reducible show wpAny _ _ (exec (PySem.Stmt.While _ _ _ _) _) _ _ _) | (with_reducible show wpAny _ _ (exec (PySem.Stmt.For (PySem.Expr.Tuple _ _ _) _ _ _ _ _) _) _ _ _) | (with_reducible show wpAny _ _ (pyIter _) _ _ _))); (first | walk1 | (k_unfold; (try dsimp only)) | (dsimp only; walk1) | ((try dsimp only); (with_reducible show WhileStep2 _ _ _ _ _ _ PySem.Flow.brk _); dsimp only [WhileStep2]) | fail "no step")))
  refine' slice3_led ?zF ?zN ?zl ?zi ?zp ?zq ?zk ?z0 ?zz ?_ ?zs ?zt
  case zF => k_asm
  case zN => k_asm
  case zl => exact isL (by k_asm) (by k_mem)
  case zi => assumption
  case zp => kmk_part
  case zq => kmk_part
  case zk => kmk_part
  case z0 => decide
  case zz => omega
  case zs => with_unfolding_all rfl
  case zt => kmk_pure
  intro D1 ws1 ms1 h' F2 N2 l1 hi1
  (repeat' ((fail_if_success (first | (with_reducible show InvEndG _ _ _ _ _ _) | (with_reducible show wpAny _ _ (PySem.call (PySem.Value.ref _) _) _ _ _) | (with_reducible show wpAny _ _ (PySem.call (PySem.Value.builtin _) _) _ _ _) | (with_reducible show wpAny _ _ (PySem.call (PySem.Value.type _) _) _ _ _) | (with_reducible show wpAny _ _ (subscriptTail _ _ (PySem.Value.ref _) _) _ _ _) | (with_reducible show wpAny _ _ (setItem (PySem.Value.ref _) _ _) _ _ _) | (with_reducible show wpAny _ _ (compareOp _ (PySem.Value.ref _) _) _ _ _) | (with_reducible show wpAny _ _ (compareOp _ _ (PySem.Value.ref _)) _ _ _) | (with_reducible show wpAny _ _ (binaryOp PySem.Operator.Mod _ _) _ _ _) | (with_reducible show wpAny _ _ (truthy (PySem.Value.ref _)) _ _ _) | (with_reducible show wpAny _ _ (exec (PySem.Stmt.While _ _ _ _) _) _ _ _) | (with_reducible show wpAny _ _ (exec (PySem.Stmt.For (PySem.Expr.Tuple _ _ _) _ _ _ _ _) _) _ _ _) | (with_reducible show wpAny _ _ (pyIter _) _ _ _))); (first | walk1 | (k_unfold; (try dsimp only)) | (dsimp only; walk1) | ((try dsimp only); (with_reducible show WhileStep2 _ _ _ _ _ _ PySem.Flow.brk _); dsimp only [WhileStep2]) | fail "no step")))
  refine sumK (by exact hh) F2 N2 (isL N2 (.head _)) hi1 ?_
  intro h' tk t' F2 N2
  (repeat' ((fail_if_success (first | (with_reducible show InvEndG _ _ _ _ _ _) | (with_reducible show wpAny _ _ (PySem.call (PySem.Value.ref _) _) _ _ _) | (with_reducible show wpAny _ _ (PySem.call (PySem.Value.builtin _) _) _ _ _) | (with_reducible show wpAny _ _ (PySem.call (PySem.Value.type _) _) _ _ _) | (with_reducible show wpAny _ _ (subscriptTail _ _ (PySem.Value.ref _) _) _ _ _) | (with_reducible show wpAny _ _ (setItem (PySem.Value.ref _) _ _) _ _ _) | (with_reducible show wpAny _ _ (compareOp _ (PySem.Value.ref _) _) _ _ _) | (with_reducible show wpAny _ _ (compareOp _ _ (PySem.Value.ref _)) _ _ _) | (with_reducible show wpAny _ _ (binaryOp PySem.Operator.Mod _ _) _ _ _) | (with_reducible show wpAny _ _ (truthy (PySem.Value.ref _)) _ _ _) | (with_reducible show wpAny _ _ (exec (PySem.Stmt.While _ _ _ _) _) _ _ _) | (with_reducible show wpAny _ _ (exec (PySem.Stmt.For (PySem.Expr.Tuple _ _ _) _ _ _ _ _) _) _ _ _) | (with_reducible show wpAny _ _ (pyIter _) _ _ _))); (first | walk1 | (k_unfold; (try dsimp only)) | (dsimp only; walk1) | ((try dsimp only); (with_reducible show WhileStep2 _ _ _ _ _ _ PySem.Flow.brk _); dsimp only [WhileStep2]) | fail "no step")))
  refine mod_int' (by decide) ?_
  (repeat' ((fail_if_success (first | (with_reducible show InvEndG _ _ _ _ _ _) | (with_reducible show wpAny _ _ (PySem.call (PySem.Value.ref _) _) _ _ _) | (with_reducible show wpAny _ _ (PySem.call (PySem.Value.builtin _) _) _ _ _) | (with_reducible show wpAny _ _ (PySem.call (PySem.Value.type _) _) _ _ _) | (with_reducible show wpAny _ _ (subscriptTail _ _ (PySem.Value.ref _) _) _ _ _) | (with_reducible show wpAny _ _ (setItem (PySem.Value.ref _) _ _) _ _ _) | (with_reducible show wpAny _ _ (compareOp _ (PySem.Value.ref _) _) _ _ _) | (with_reducible show wpAny _ _ (compareOp _ _ (PySem.Value.ref _)) _ _ _) | (with_reducible show wpAny _ _ (binaryOp PySem.Operator.Mod _ _) _ _ _) | (with_reducible show wpAny _ _ (truthy (PySem.Value.ref _)) _ _ _) | (with_reducible show wpAny _ _ (exec (PySem.Stmt.While _ _ _ _) _) _ _ _) | (with_reducible show wpAny _ _ (exec (PySem.Stmt.For (PySem.Expr.Tuple _ _ _) _ _ _ _ _) _) _ _ _) | (with_reducible show wpAny _ _ (pyIter _) _ _ _))); (first | walk1 | (k_unfold; (try dsimp only)) | (dsimp only; walk1) | ((try dsimp only); (with_reducible show WhileStep2 _ _ _ _ _ _ PySem.Flow.brk _); dsimp only [WhileStep2]) | fail "no step")))
  (rename Fr _ _ _ _ => F2)
  obtain ⟨W, hWe⟩ : ∃ z, (13 : Int) + (10 + ms1.sum).fmod 40 = z := ⟨_, rfl⟩
  dsimp only at F2
  rw [hWe] at F2
  have hW : 13 ≤ W ∧ W ≤ 52 := by
    have h1 := Int.fmod_eq_emod_of_nonneg (10 + ms1.sum) (show (0 : Int) ≤ 40 by decide)
    have h2 := Int.emod_nonneg (10 + ms1.sum) (show (40 : Int) ≠ 0 by decide)
    have h3 := Int.emod_lt_of_pos (10 + ms1.sum) (show (0 : Int) < 40 by decide)
    omega
  refine' slice3_led ?zF ?zN ?zl ?zi ?zp ?zq ?zk ?z0 ?zz ?_ ?zs ?zt
  case zF => k_asm
  case zN => k_asm
  case zl => exact isL (by k_asm) (by k_mem)
  case zi => assumption
  case zp => kmk_part
  case zq => kmk_part
  case zk => kmk_part
  case z0 => decide
  case zz => omega
  case zs => with_unfolding_all rfl
  case zt => kmk_pure
  intro D2 ws2 ms2 h' F2 N2 l2 hi2
  (repeat' ((fail_if_success (first | (with_reducible show InvEndG _ _ _ _ _ _) | (with_reducible show wpAny _ _ (PySem.call (PySem.Value.ref _) _) _ _ _) | (with_reducible show wpAny _ _ (PySem.call (PySem.Value.builtin _) _) _ _ _) | (with_reducible show wpAny _ _ (PySem.call (PySem.Value.type _) _) _ _ _) | (with_reducible show wpAny _ _ (subscriptTail _ _ (PySem.Value.ref _) _) _ _ _) | (with_reducible show wpAny _ _ (setItem (PySem.Value.ref _) _ _) _ _ _) | (with_reducible show wpAny _ _ (compareOp _ (PySem.Value.ref _) _) _ _ _) | (with_reducible show wpAny _ _ (compareOp _ _ (PySem.Value.ref _)) _ _ _) | (with_reducible show wpAny _ _ (binaryOp PySem.Operator.Mod _ _) _ _ _) | (with_reducible show wpAny _ _ (truthy (PySem.Value.ref _)) _ _ _) | (with_reducible show wpAny _ _ (exec (PySem.Stmt.While _ _ _ _) _) _ _ _) | (with_reducible show wpAny _ _ (exec (PySem.Stmt.For (PySem.Expr.Tuple _ _ _) _ _ _ _ _) _) _ _ _) | (with_reducible show wpAny _ _ (pyIter _) _ _ _))); (first | walk1 | (k_unfold; (try dsimp only)) | (dsimp only; walk1) | ((try dsimp only); (with_reducible show WhileStep2 _ _ _ _ _ _ PySem.Flow.brk _); dsimp only [WhileStep2]) | fail "no step")))
  refine sumK (by exact hh) F2 N2 (isL N2 (.head _)) hi2 ?_
  intro h' tk t' F2 N2
  (repeat' ((fail_if_success (first | (with_reducible show InvEndG _ _ _ _ _ _) | (with_reducible show wpAny _ _ (PySem.call (PySem.Value.ref _) _) _ _ _) | (with_reducible show wpAny _ _ (PySem.call (PySem.Value.builtin _) _) _ _ _) | (with_reducible show wpAny _ _ (PySem.call (PySem.Value.type _) _) _ _ _) | (with_reducible show wpAny _ _ (subscriptTail _ _ (PySem.Value.ref _) _) _ _ _) | (with_reducible show wpAny _ _ (setItem (PySem.Value.ref _) _ _) _ _ _) | (with_reducible show wpAny _ _ (compareOp _ (PySem.Value.ref _) _) _ _ _) | (with_reducible show wpAny _ _ (compareOp _ _ (PySem.Value.ref _)) _ _ _) | (with_reducible show wpAny _ _ (binaryOp PySem.Operator.Mod _ _) _ _ _) | (with_reducible show wpAny _ _ (truthy (PySem.Value.ref _)) _ _ _) | (with_reducible show wpAny _ _ (exec (PySem.Stmt.While _ _ _ _) _) _ _ _) | (with_reducible show wpAny _ _ (exec (PySem.Stmt.For (PySem.Expr.Tuple _ _ _) _ _ _ _ _) _) _ _ _) | (with_reducible show wpAny _ _ (pyIter _) _ _ _))); (first | walk1 | (k_unfold; (try dsimp only)) | (dsimp only; walk1) | ((try dsimp only); (with_reducible show WhileStep2 _ _ _ _ _ _ PySem.Flow.brk _); dsimp only [WhileStep2]) | fail "no step")))
  refine mod_int' (by omega) ?_
  (repeat' ((fail_if_success (first | (with_reducible show InvEndG _ _ _ _ _ _) | (with_reducible show wpAny _ _ (PySem.call (PySem.Value.ref _) _) _ _ _) | (with_reducible show wpAny _ _ (PySem.call (PySem.Value.builtin _) _) _ _ _) | (with_reducible show wpAny _ _ (PySem.call (PySem.Value.type _) _) _ _ _) | (with_reducible show wpAny _ _ (subscriptTail _ _ (PySem.Value.ref _) _) _ _ _) | (with_reducible show wpAny _ _ (setItem (PySem.Value.ref _) _ _) _ _ _) | (with_reducible show wpAny _ _ (compareOp _ (PySem.Value.ref _) _) _ _ _) | (with_reducible show wpAny _ _ (compareOp _ _ (PySem.Value.ref _)) _ _ _) | (with_reducible show wpAny _ _ (binaryOp PySem.Operator.Mod _ _) _ _ _) | (with_reducible show wpAny _ _ (truthy (PySem.Value.ref _)) _ _ _) | (with_reducible show wpAny _ _ (exec (PySem.Stmt.While _ _ _ _) _) _ _ _) | (with_reducible show wpAny _ _ (exec (PySem.Stmt.For (PySem.Expr.Tuple _ _ _) _ _ _ _ _) _) _ _ _) | (with_reducible show wpAny _ _ (pyIter _) _ _ _))); (first | walk1 | (k_unfold; (try dsimp only)) | (dsimp only; walk1) | ((try dsimp only); (with_reducible show WhileStep2 _ _ _ _ _ _ PySem.Flow.brk _); dsimp only [WhileStep2]) | fail "no step")))
  (rename Fr _ _ _ _ => F2)
  obtain ⟨st, hSe⟩ : ∃ z, (1 : Int) + (8 + ms2.sum).fmod (W - 1) = z := ⟨_, rfl⟩
  dsimp only at F2
  rw [hSe] at F2
  have hS : 1 ≤ st ∧ st < W := by
    have h1 := Int.fmod_eq_emod_of_nonneg (8 + ms2.sum) (show (0 : Int) ≤ W - 1 by omega)
    have h2 := Int.emod_nonneg (8 + ms2.sum) (show W - 1 ≠ 0 by omega)
    have h3 := Int.emod_lt_of_pos (8 + ms2.sum) (show (0 : Int) < W - 1 by omega)
    omega
  refine' slice3_led ?zF ?zN ?zl ?zi ?zp ?zq ?zk ?z0 ?zz ?_ ?zs ?zt
  case zF => k_asm
  case zN => k_asm
  case zl => exact isL (by k_asm) (by k_mem)
  case zi => assumption
  case zp => kmk_part
  case zq => kmk_part
  case zk => kmk_part
  case z0 => decide
  case zz => omega
  case zs => with_unfolding_all rfl
  case zt => kmk_pure
  intro D3 ws3 ms3 h' F2 N2 l3 hi3
  (repeat' ((fail_if_success (first | (with_reducible show InvEndG _ _ _ _ _ _) | (with_reducible show wpAny _ _ (PySem.call (PySem.Value.ref _) _) _ _ _) | (with_reducible show wpAny _ _ (PySem.call (PySem.Value.builtin _) _) _ _ _) | (with_reducible show wpAny _ _ (PySem.call (PySem.Value.type _) _) _ _ _) | (with_reducible show wpAny _ _ (subscriptTail _ _ (PySem.Value.ref _) _) _ _ _) | (with_reducible show wpAny _ _ (setItem (PySem.Value.ref _) _ _) _ _ _) | (with_reducible show wpAny _ _ (compareOp _ (PySem.Value.ref _) _) _ _ _) | (with_reducible show wpAny _ _ (compareOp _ _ (PySem.Value.ref _)) _ _ _) | (with_reducible show wpAny _ _ (binaryOp PySem.Operator.Mod _ _) _ _ _) | (with_reducible show wpAny _ _ (truthy (PySem.Value.ref _)) _ _ _) | (with_reducible show wpAny _ _ (exec (PySem.Stmt.While _ _ _ _) _) _ _ _) | (with_reducible show wpAny _ _ (exec (PySem.Stmt.For (PySem.Expr.Tuple _ _ _) _ _ _ _ _) _) _ _ _) | (with_reducible show wpAny _ _ (pyIter _) _ _ _))); (first | walk1 | (k_unfold; (try dsimp only)) | (dsimp only; walk1) | ((try dsimp only); (with_reducible show WhileStep2 _ _ _ _ _ _ PySem.Flow.brk _); dsimp only [WhileStep2]) | fail "no step")))
  refine sumK (by exact hh) F2 N2 (isL N2 (.head _)) hi3 ?_
  intro h' tk t' F2 N2
  (repeat' ((fail_if_success (first | (with_reducible show InvEndG _ _ _ _ _ _) | (with_reducible show wpAny _ _ (PySem.call (PySem.Value.ref _) _) _ _ _) | (with_reducible show wpAny _ _ (PySem.call (PySem.Value.builtin _) _) _ _ _) | (with_reducible show wpAny _ _ (PySem.call (PySem.Value.type _) _) _ _ _) | (with_reducible show wpAny _ _ (subscriptTail _ _ (PySem.Value.ref _) _) _ _ _) | (with_reducible show wpAny _ _ (setItem (PySem.Value.ref _) _ _) _ _ _) | (with_reducible show wpAny _ _ (compareOp _ (PySem.Value.ref _) _) _ _ _) | (with_reducible show wpAny _ _ (compareOp _ _ (PySem.Value.ref _)) _ _ _) | (with_reducible show wpAny _ _ (binaryOp PySem.Operator.Mod _ _) _ _ _) | (with_reducible show wpAny _ _ (truthy (PySem.Value.ref _)) _ _ _) | (with_reducible show wpAny _ _ (exec (PySem.Stmt.While _ _ _ _) _) _ _ _) | (with_reducible show wpAny _ _ (exec (PySem.Stmt.For (PySem.Expr.Tuple _ _ _) _ _ _ _ _) _) _ _ _) | (with_reducible show wpAny _ _ (pyIter _) _ _ _))); (first | walk1 | (k_unfold; (try dsimp only)) | (dsimp only; walk1) | ((try dsimp only); (with_reducible show WhileStep2 _ _ _ _ _ _ PySem.Flow.brk _); dsimp only [WhileStep2]) | fail "no step")))
  refine mod_int' (by decide) ?_
  (repeat' ((fail_if_success (first | (with_reducible show InvEndG _ _ _ _ _ _) | (with_reducible show wpAny _ _ (PySem.call (PySem.Value.ref _) _) _ _ _) | (with_reducible show wpAny _ _ (PySem.call (PySem.Value.builtin _) _) _ _ _) | (with_reducible show wpAny _ _ (PySem.call (PySem.Value.type _) _) _ _ _) | (with_reducible show wpAny _ _ (subscriptTail _ _ (PySem.Value.ref _) _) _ _ _) | (with_reducible show wpAny _ _ (setItem (PySem.Value.ref _) _ _) _ _ _) | (with_reducible show wpAny _ _ (compareOp _ (PySem.Value.ref _) _) _ _ _) | (with_reducible show wpAny _ _ (compareOp _ _ (PySem.Value.ref _)) _ _ _) | (with_reducible show wpAny _ _ (binaryOp PySem.Operator.Mod _ _) _ _ _) | (with_reducible show wpAny _ _ (truthy (PySem.Value.ref _)) _ _ _) | (with_reducible show wpAny _ _ (exec (PySem.Stmt.While _ _ _ _) _) _ _ _) | (with_reducible show wpAny _ _ (exec (PySem.Stmt.For (PySem.Expr.Tuple _ _ _) _ _ _ _ _) _) _ _ _) | (with_reducible show wpAny _ _ (pyIter _) _ _ _))); (first | walk1 | (k_unfold; (try dsimp only)) | (dsimp only; walk1) | ((try dsimp only); (with_reducible show WhileStep2 _ _ _ _ _ _ PySem.Flow.brk _); dsimp only [WhileStep2]) | fail "no step")))
  ((rename Fr _ _ _ _ => F2); (rename News _ _ _ _ => N2))
  obtain ⟨td, hTe⟩ : ∃ z, (2 : Int) + (6 + ms3.sum).fmod 15 = z := ⟨_, rfl⟩
  dsimp only at F2
  rw [hTe] at F2
  have hT : 2 ≤ td ∧ td ≤ 16 := by
    have h1 := Int.fmod_eq_emod_of_nonneg (6 + ms3.sum) (show (0 : Int) ≤ 15 by decide)
    have h2 := Int.emod_nonneg (6 + ms3.sum) (show (15 : Int) ≠ 0 by decide)
    have h3 := Int.emod_lt_of_pos (6 + ms3.sum) (show (0 : Int) < 15 by decide)
    omega
  (rename _ ∧ _ ∧ _ ∧ _ ∧ AllLt _ _ => lr)
  (rename Addr => r0)
  have lr0 : ∀ q ∈ news, q.1 ≠ r0 := fun q hq => Nat.ne_of_lt (tb_ltOf lr.2.2.2.2 q hq)
  have N3 : News g' L' _ ((r0, listOf ([] : List Value).toArray 0) :: news) := fun q hq => by
    rcases List.mem_cons.mp hq with rfl | hq
    · exact N2 _ (.head _)
    · exact N2 _ (.tail _ (.tail _ (.tail _ (.tail _ (.tail _ hq)))))
  refine While_inv2 (n₀ := td.toNat) (fun k m₁ nx => ∃ (us : List Value) (kk i : Nat) (pl : Int) (tp tw ts tt : Tok), nx = (r0, listOf us.toArray kk) :: news ∧
    (∀ e ∈ ([(Str.ofString "points", .ref r0), (Str.ofString "place", .int pl tp), (Str.ofString "width", .int W tw), (Str.ofString "step", .int st ts), (Str.ofString "told", .int td tt)] : List (Str × Value)), m₁ e.1 = some e.2) ∧
    IntsAre us (pts W st i) ∧ (pts W st i).Nodup ∧ pl = ((i : Int) * st) % W ∧ (i : Int) ≤ td ∧ k = td.toNat - i) F2 N3 ?start ?turn ?hE
  case hE => first | passes_own | with_unfolding_all passes_own
  case start =>
    refine' ⟨[], 0, 0, _, _, _, _, _, rfl, (by kst_all), .nil, (by exact List.nodup_nil), by simp, by omega, by omega⟩
  case turn =>
    clear F2 N2 N3
    rintro k m1 _ h1 tk1 F1 N1 ⟨us, kk, i, pl, tp, tw, ts, tt, rfl, hps, hus, hnd, hpl, hit, hk⟩
    have F2 := frB F1 hps
    clear F1
    dsimp only [kstB] at F2
    (repeat' ((fail_if_success (first | (with_reducible show InvEndG _ _ _ _ _ _) | (with_reducible show wpAny _ _ (PySem.call (PySem.Value.ref _) _) _ _ _) | (with_reducible show wpAny _ _ (PySem.call (PySem.Value.builtin _) _) _ _ _) | (with_reducible show wpAny _ _ (PySem.call (PySem.Value.type _) _) _ _ _) | (with_reducible show wpAny _ _ (subscriptTail _ _ (PySem.Value.ref _) _) _ _ _) | (with_reducible show wpAny _ _ (setItem (PySem.Value.ref _) _ _) _ _ _) | (with_reducible show wpAny _ _ (compareOp _ (PySem.Value.ref _) _) _ _ _) | (with_reducible show wpAny _ _ (compareOp _ _ (PySem.Value.ref _)) _ _ _) | (with_reducible show wpAny _ _ (binaryOp PySem.Operator.Mod _ _) _ _ _) | (with_reducible show wpAny _ _ (truthy (PySem.Value.ref _)) _ _ _) | (with_reducible show wpAny _ _ (exec (PySem.Stmt.While _ _ _ _) _) _ _ _) | (with_reducible show wpAny _ _ (exec (PySem.Stmt.For (PySem.Expr.Tuple _ _ _) _ _ _ _ _) _) _ _ _) | (with_reducible show wpAny _ _ (pyIter _) _ _ _))); (first | walk1 | (k_unfold; (try dsimp only)) | (dsimp only; walk1) | ((try dsimp only); (with_reducible show WhileStep2 _ _ _ _ _ _ PySem.Flow.brk _); dsimp only [WhileStep2]) | fail "no step")))
    have hul : us.length = i := by rw [hus.length, pts_len]
    refine len_led N1 (.head _) hul (by omega) ?_
    (repeat' ((fail_if_success (first | (with_reducible show InvEndG _ _ _ _ _ _) | (with_reducible show wpAny _ _ (PySem.call (PySem.Value.ref _) _) _ _ _) | (with_reducible show wpAny _ _ (PySem.call (PySem.Value.builtin _) _) _ _ _) | (with_reducible show wpAny _ _ (PySem.call (PySem.Value.type _) _) _ _ _) | (with_reducible show wpAny _ _ (subscriptTail _ _ (PySem.Value.ref _) _) _ _ _) | (with_reducible show wpAny _ _ (setItem (PySem.Value.ref _) _ _) _ _ _) | (with_reducible show wpAny _ _ (compareOp _ (PySem.Value.ref _) _) _ _ _) | (with_reducible show wpAny _ _ (compareOp _ _ (PySem.Value.ref _)) _ _ _) | (with_reducible show wpAny _ _ (binaryOp PySem.Operator.Mod _ _) _ _ _) | (with_reducible show wpAny _ _ (truthy (PySem.Value.ref _)) _ _ _) | (with_reducible show wpAny _ _ (exec (PySem.Stmt.While _ _ _ _) _) _ _ _) | (with_reducible show wpAny _ _ (exec (PySem.Stmt.For (PySem.Expr.Tuple _ _ _) _ _ _ _ _) _) _ _ _) | (with_reducible show wpAny _ _ (pyIter _) _ _ _))); (first | walk1 | (k_unfold; (try dsimp only)) | (dsimp only; walk1) | ((try dsimp only); (with_reducible show WhileStep2 _ _ _ _ _ _ PySem.Flow.brk _); dsimp only [WhileStep2]) | fail "no step")))
    · ((rename Fr _ _ _ _ => F2); (rename News _ _ _ _ => N2))
      refine notIn_led N2 (.head _) hus ?_
      (repeat' ((fail_if_success (first | (with_reducible show InvEndG _ _ _ _ _ _) | (with_reducible show wpAny _ _ (PySem.call (PySem.Value.ref _) _) _ _ _) | (with_reducible show wpAny _ _ (PySem.call (PySem.Value.builtin _) _) _ _ _) | (with_reducible show wpAny _ _ (PySem.call (PySem.Value.type _) _) _ _ _) | (with_reducible show wpAny _ _ (subscriptTail _ _ (PySem.Value.ref _) _) _ _ _) | (with_reducible show wpAny _ _ (setItem (PySem.Value.ref _) _ _) _ _ _) | (with_reducible show wpAny _ _ (compareOp _ (PySem.Value.ref _) _) _ _ _) | (with_reducible show wpAny _ _ (compareOp _ _ (PySem.Value.ref _)) _ _ _) | (with_reducible show wpAny _ _ (binaryOp PySem.Operator.Mod _ _) _ _ _) | (with_reducible show wpAny _ _ (truthy (PySem.Value.ref _)) _ _ _) | (with_reducible show wpAny _ _ (exec (PySem.Stmt.While _ _ _ _) _) _ _ _) | (with_reducible show wpAny _ _ (exec (PySem.Stmt.For (PySem.Expr.Tuple _ _ _) _ _ _ _ _) _) _ _ _) | (with_reducible show wpAny _ _ (pyIter _) _ _ _))); (first | walk1 | (k_unfold; (try dsimp only)) | (dsimp only; walk1) | ((try dsimp only); (with_reducible show WhileStep2 _ _ _ _ _ _ PySem.Flow.brk _); dsimp only [WhileStep2]) | fail "no step")))
      · have hi2 : 2 ≤ i := by
          rcases i with _ | _ | i
          · exact absurd (by assumption : pl ∈ pts W st 0) (by simp [pts])
          · have h9 : pl ∈ pts W st 1 := by assumption
            have h8 : pl = st := by rw [hpl, Int.natCast_one, Int.one_mul]; exact Int.emod_eq_of_lt (by omega) hS.2
            simp [pts] at h9
            omega
          · omega
        (rename News h₀ L _ _ => kN)
        exact ret W st i _ _ us kk _ _ _ _ hW.1 hW.2 hS.1 hS.2 hi2 (by omega) hnd hus (by assumption) kN lr0
      · ((rename Fr _ _ _ _ => F2); (rename News _ _ _ _ => N2))
        refine append_led F2 N2 (.head lr0) (by omega) ?_
        intro h' F2 N2
        (repeat' ((fail_if_success (first | (with_reducible show InvEndG _ _ _ _ _ _) | (with_reducible show wpAny _ _ (PySem.call (PySem.Value.ref _) _) _ _ _) | (with_reducible show wpAny _ _ (PySem.call (PySem.Value.builtin _) _) _ _ _) | (with_reducible show wpAny _ _ (PySem.call (PySem.Value.type _) _) _ _ _) | (with_reducible show wpAny _ _ (subscriptTail _ _ (PySem.Value.ref _) _) _ _ _) | (with_reducible show wpAny _ _ (setItem (PySem.Value.ref _) _ _) _ _ _) | (with_reducible show wpAny _ _ (compareOp _ (PySem.Value.ref _) _) _ _ _) | (with_reducible show wpAny _ _ (compareOp _ _ (PySem.Value.ref _)) _ _ _) | (with_reducible show wpAny _ _ (binaryOp PySem.Operator.Mod _ _) _ _ _) | (with_reducible show wpAny _ _ (truthy (PySem.Value.ref _)) _ _ _) | (with_reducible show wpAny _ _ (exec (PySem.Stmt.While _ _ _ _) _) _ _ _) | (with_reducible show wpAny _ _ (exec (PySem.Stmt.For (PySem.Expr.Tuple _ _ _) _ _ _ _ _) _) _ _ _) | (with_reducible show wpAny _ _ (pyIter _) _ _ _))); (first | walk1 | (k_unfold; (try dsimp only)) | (dsimp only; walk1) | ((try dsimp only); (with_reducible show WhileStep2 _ _ _ _ _ _ PySem.Flow.brk _); dsimp only [WhileStep2]) | fail "no step")))
        refine mod_int' (by omega) ?_
        (repeat' ((fail_if_success (first | (with_reducible show InvEndG _ _ _ _ _ _) | (with_reducible show wpAny _ _ (PySem.call (PySem.Value.ref _) _) _ _ _) | (with_reducible show wpAny _ _ (PySem.call (PySem.Value.builtin _) _) _ _ _) | (with_reducible show wpAny _ _ (PySem.call (PySem.Value.type _) _) _ _ _) | (with_reducible show wpAny _ _ (subscriptTail _ _ (PySem.Value.ref _) _) _ _ _) | (with_reducible show wpAny _ _ (setItem (PySem.Value.ref _) _ _) _ _ _) | (with_reducible show wpAny _ _ (compareOp _ (PySem.Value.ref _) _) _ _ _) | (with_reducible show wpAny _ _ (compareOp _ _ (PySem.Value.ref _)) _ _ _) | (with_reducible show wpAny _ _ (binaryOp PySem.Operator.Mod _ _) _ _ _) | (with_reducible show wpAny _ _ (truthy (PySem.Value.ref _)) _ _ _) | (with_reducible show wpAny _ _ (exec (PySem.Stmt.While _ _ _ _) _) _ _ _) | (with_reducible show wpAny _ _ (exec (PySem.Stmt.For (PySem.Expr.Tuple _ _ _) _ _ _ _ _) _) _ _ _) | (with_reducible show wpAny _ _ (pyIter _) _ _ _))); (first | walk1 | (k_unfold; (try dsimp only)) | (dsimp only; walk1) | ((try dsimp only); (with_reducible show WhileStep2 _ _ _ _ _ _ PySem.Flow.brk _); dsimp only [WhileStep2]) | fail "no step")))
        ((rename Fr _ _ _ _ => F2); (rename News _ _ _ _ => N2))
        rw [pts_next (by omega) i hpl] at F2
        refine ⟨_, _, _, _, td.toNat - (i + 1), rfl, F2, N2, by omega, us ++ [.int pl tp], kk + 1, i + 1, _, _, _, _, _, rfl, (by kst_all), ?_, ?_, rfl, by omega, rfl⟩
        · rw [pts_succ, ← hpl]; exact ints_append hus
        · rw [pts_succ, ← hpl, List.nodup_append]
          refine ⟨hnd, by simp, ?_⟩
          intro a ha b hb e
          rw [List.mem_singleton.mp hb] at e
          rw [e] at ha
          exact absurd ha (by assumption)
    · (rename News h₀ L _ _ => kN)
      exact ret W st i _ _ us kk _ _ _ _ hW.1 hW.2 hS.1 hS.2 (by omega) (by omega) hnd hus (by assumption) kN lr0
end Mine
end
section
open PySem PySem.W PySem.Calls PyProof.Rows
set_option maxRecDepth 100000
set_option maxHeartbeats 4000000
namespace Mine
section
variable {prog : Program} {w : World} {A : Around} {E : Value → Shared → Prop} {s : Shared} {env : Env} {h₀ : Heap}

theorem fr_but {H h' : Heap} {L e it : Addr} {m : Str → Option Value} (F : Fr h₀ L H m) (hk : ∀ b o, b ≠ e → b ≠ it → H.get? b = some o → h'.get? b = some o) (heL : e ≠ L) (hiL : it ≠ L) (he0 : h₀.get? e = none) (hi0 : h₀.get? it = none) : Fr h₀ L h' m := by
  obtain ⟨⟨o, es, ep, ho, r⟩, keep, above⟩ := F
  refine ⟨⟨o, es, ep, hk _ _ (Ne.symm heL) (Ne.symm hiL) ho, r⟩, fun b o hb => hk b o ?_ ?_ (keep b o hb), above⟩
  · rintro rfl; rw [he0] at hb; cases hb
  · rintro rfl; rw [hi0] at hb; cases hb

/-- a for over enumerate(l), l a list of the ledger that the turns may change (its length stays) -/
theorem for_enum {Q : Flow → Shared → Prop} {xi xv : Str} {pi pv pt : Pos} {x1 : Nat} {body : List Stmt} {e it l : Addr} {n : Nat} {vs : List Value} {m : Str → Option Value} {nx : List (Addr × Obj)}
    (J : Nat → List Value → (Str → Option Value) → List (Addr × Obj) → Prop)
    (hh : A.handled = none) (hxi : env.kindOf xi = some .local) (hxv : env.kindOf xv = some .local)
    (hp : (env.scope.kind == .class || (env.scope.kind == .module && env.locals != env.globals)) = false)
    (hJl : ∀ i vs m nx, J i vs m nx → (∃ c, (l, listOf vs.toArray c) ∈ nx) ∧ vs.length = n)
    (he : IsEnum s.heap e it 0 .none) (hit : s.heap.IsListIter it l 0) (F : Fr h₀ env.locals s.heap m) (N : News h₀ env.locals s.heap nx) (hJ : J 0 vs m nx)
    (hei : e ≠ it) (heL : e ≠ env.locals) (hiL : it ≠ env.locals) (he0 : h₀.get? e = none) (hi0 : h₀.get? it = none) (hef : ∀ q ∈ nx, q.1 ≠ e ∧ q.1 ≠ it)
    (turn : ∀ i v tk vs m₁ nx h tk' own, vs[i]? = some v → J i vs m₁ nx → OwnOff own (nx.map (·.1)) → Fr h₀ env.locals h (fun y => if y = xv then some v else if y = xi then some (.int i tk) else m₁ y) → News h₀ env.locals h (nx ++ own) →
      wpAny (model prog w) A (execs body env) (InvPostG h₀ env.locals (fun m' nx' => ∃ vs', J (i + 1) vs' m' nx') own { s with heap := h, toks := tk' } Q) E { s with heap := h, toks := tk' })
    (done : ∀ vs m₁ nx h tk, J n vs m₁ nx → Fr h₀ env.locals h m₁ → News h₀ env.locals h nx → Q .next { s with heap := h, toks := tk })
    (hE : PassesOwn (model prog w) A env E := by passes_own) :
    codeAny (model prog w) A (.forLoop (.Tuple [.Name xi pi, .Name xv pv] x1 pt) (.ref e) body [] env) (fun r s' => match r with | .ok f => Q f s' | .error e => cameBackBy (model prog w) A env E e s') s := by
  refine codeAny_forLoop_any
    (fun k s' => ∃ h' tk m' nx' vs' i old, s' = { s with heap := h', toks := tk } ∧ IsEnum h' e it ((i : Nat) : Int) old ∧ h'.IsListIter it l i ∧ Fr h₀ env.locals h' m' ∧ News h₀ env.locals h' nx' ∧ J i vs' m' nx' ∧ (∀ q ∈ nx', q.1 ≠ e ∧ q.1 ≠ it) ∧ i ≤ n ∧ k = n + 1 - i) ?_ (n + 1)
    ⟨s.heap, s.toks, m, nx, vs, 0, .none, rfl, he, hit, F, N, hJ, hef, Nat.zero_le _, rfl⟩
  rintro k s' ⟨H, tk, m', nx', vs', i, old, rfl, he', hit', F', N', hJ', hef', hi, rfl⟩
  obtain ⟨⟨c, hm⟩, hlen⟩ := hJl _ _ _ _ hJ'
  have hl' : H.IsList l vs'.toArray := ⟨_, (N' _ hm).1, rfl, c, rfl⟩
  cases hv : vs'[i]? with
  | none =>
    have hsz : i = n := by
      have h9 : vs'.length ≤ i := by simpa using hv
      omega
    subst hsz
    refine wpAny_pyNext_enum_end hh he' hit' hl' (by simpa using hv) fun h₁ hx₁ => wpAny_execs_nil ?_
    exact done vs' m' nx' h₁ tk hJ' (fr_but (e := e) (it := it) F' (fun b o _ hb x => hx₁ b o hb x) heL hiL he0 hi0) (fun q hq => ⟨hx₁ _ _ (hef' q hq).2 (N' q hq).1, (N' q hq).2⟩)
  | some v =>
    have hlt : i < vs'.length := (List.getElem?_eq_some_iff.mp hv).1
    have heH : e < H.objs.size := Heap.lt_size he'
    obtain ⟨oi, hoi, hoi2⟩ := id hit'
    have hiH : it < H.objs.size := Heap.lt_size hoi
    refine wpAny_pyNext_enum_item he' hit' hl' (x := v) (by simpa using hv) hei fun h₁ heo hit₁ ht₁ hz₁ hk₁ => ?_
    refine wpAny_letOwnedTupleGo_enum heo fun h₂ he₂ hs₂ => ?_
    replace hs₂ : Heap.SameBut e h₁ h₂ := hs₂
    have ht₂ : h₂.IsTuple H.objs.size #[.int i tk, v] := ⟨_, (hs₂.2 _ (Nat.ne_of_gt heH)).trans ht₁, rfl, _, rfl⟩
    have hz₂ : h₂.objs.size = H.objs.size + 1 := hs₂.1.trans hz₁
    refine wpAny_assign_Tuple hh ht₂ rfl rfl fun h₃ hx₃ => ?_
    replace hx₃ : Heap.ExtBut h₂.objs.size h₂ h₃ := hx₃
    have old₃ : ∀ b o, b < H.objs.size → h₂.get? b = some o → h₃.get? b = some o := fun b o hb x => hx₃ b o (by rw [hz₂]; exact Nat.ne_of_lt (Nat.lt_succ_of_lt hb)) x
    have k₃ : ∀ b o, b ≠ e → b ≠ it → H.get? b = some o → h₃.get? b = some o := fun b o h1 h2 x => old₃ b o (Heap.lt_size x) (hs₂.extBut b o h1 (hk₁ b o h1 h2 x))
    have F₃ : Fr h₀ env.locals h₃ m' := fr_but F' k₃ heL hiL he0 hi0
    have he₃ : h₃.get? e = _ := old₃ e _ heH he₂
    have hit₃ : h₃.IsListIter it l (i + 1) := (hit₁.extBut hs₂.extBut (Ne.symm hei)).at fun o x => old₃ it o hiH x
    show wpAny _ A (do holding [v] (assign (.Name xi pi) env (.int i tk)); do holding [] (assign (.Name xv pv) env v); pure ()) _ _ _
    refine wpAny_bind (wpAny_holding (wpAny_assign_Name (wpAny_storeName_local hxi F₃.ns (fun h₄ hn₄ hs₄ => ?_) hp)))
    replace hs₄ : Heap.SameBut env.locals h₃ h₄ := hs₄
    have F₄ := F₃.set hn₄ hs₄
    refine wpAny_bind (wpAny_holding (wpAny_assign_Name (wpAny_storeName_local hxv hn₄ (fun h₅ hn₅ hs₅ => wpAny_pure ?_) hp)))
    replace hs₅ : Heap.SameBut env.locals h₄ h₅ := hs₅
    have F₅ := F₄.set hn₅ hs₅
    have up : ∀ b o, b ≠ env.locals → h₃.get? b = some o → h₅.get? b = some o := fun b o hbL x => hs₅.extBut b o hbL (hs₄.extBut b o hbL x)
    obtain ⟨oi₃, hoi₃, hoi₃'⟩ := hit₃
    obtain ⟨oe, hoe⟩ : ∃ oe : Obj, oe = { cls := .type "enumerate", dict := none, data := .fields #[.none, .bool false, .ref it, rawInt ((i : Int) + 1), .none, v], slots := #[] } := ⟨_, rfl⟩
    replace he₃ : h₃.get? e = some oe := by rw [hoe]; exact he₃
    have hown : OwnOff [(it, oi₃), (e, oe)] (nx'.map (·.1)) := by
      intro p hp b hb
      obtain ⟨q, hq, rfl⟩ := List.mem_map.mp hb
      rcases List.mem_cons.mp hp with rfl | hp
      · exact fun h => (hef' q hq).2 h.symm
      · rw [List.mem_singleton.mp hp]; exact fun h => (hef' q hq).1 h.symm
    have N₅ : News h₀ env.locals h₅ (nx' ++ [(it, oi₃), (e, oe)]) := by
      intro q hq
      rcases List.mem_append.mp hq with hq | hq
      · exact ⟨up _ _ (N' q hq).2.1 (k₃ _ _ (hef' q hq).1 (hef' q hq).2 (N' q hq).1), (N' q hq).2⟩
      · rcases List.mem_cons.mp hq with rfl | hq
        · exact ⟨up _ _ hiL hoi₃, hiL, hi0⟩
        · rw [List.mem_singleton.mp hq]; exact ⟨up _ _ heL he₃, heL, he0⟩
    refine wpAny_passesOwn hE (wpAny_mono (turn i v tk vs' m' nx' h₅ _ _ hv hJ' hown F₅ N₅) (fun f s₃ q => ?_) fun _ _ x => x)
    have fin : InvEndG h₀ env.locals (fun m' nx' => ∃ vs', J (i + 1) vs' m' nx') [(it, oi₃), (e, oe)] { s with heap := h₅, toks := tk + 1 + 1 + 1 } s₃ → ∃ m, m < n + 1 - i ∧ ∃ h' tk m' nx' vs' i old, s₃ = { s with heap := h', toks := tk } ∧ IsEnum h' e it ((i : Nat) : Int) old ∧ h'.IsListIter it l i ∧ Fr h₀ env.locals h' m' ∧ News h₀ env.locals h' nx' ∧ J i vs' m' nx' ∧ (∀ q ∈ nx', q.1 ≠ e ∧ q.1 ≠ it) ∧ i ≤ n ∧ m = n + 1 - i := by
      rintro ⟨h₆, tk₆, m₆, news₆, nx₆, rfl, F₆, N₆, hn, ho, ha, vs₆, hJ₆⟩
      refine ⟨n + 1 - (i + 1), by omega, h₆, tk₆, m₆, nx₆, vs₆, i + 1, v, rfl, ?_, ?_, F₆, fun q hq => N₆ q (hn q hq), hJ₆, ?_, by omega, rfl⟩
      · have : ((i + 1 : Nat) : Int) = (i : Int) + 1 := by push_cast; rfl
        rw [this]; subst hoe; exact (N₆ _ (ho _ (.tail _ (.head _)))).1
      · exact ⟨oi₃, (N₆ _ (ho _ (.head _))).1, hoi₃'⟩
      · intro q hq
        exact ⟨fun h => ha _ (.tail _ (.head _)) q.1 (List.mem_map.mpr ⟨q, hq, rfl⟩) h.symm, fun h => ha _ (.head _) q.1 (List.mem_map.mpr ⟨q, hq, rfl⟩) h.symm⟩
    cases f with
    | next => exact fin q
    | cont => exact fin q
    | brk => exact q
    | ret v => exact q
theorem frBxx {h₀ h : Heap} {L : Addr} {m₁ : Str → Option Value} {x y : Str} {v u : Option Value} {ps : List (Str × Value)} (F : Fr h₀ L h (fun z => if z = x then v else if z = y then u else m₁ z)) (h1 : ∀ p ∈ ps, m₁ p.1 = some p.2) : Fr h₀ L h (fun z => if z = x then v else if z = y then u else kstB m₁ ps z) := by
  have : kstB m₁ ps = m₁ := funext fun y => kstB_eq h1 fun _ => rfl
  rw [this]; exact F
/-- a for over range(a, a + n) -/
theorem for_range {x : Str} {body : List Stmt} {Q : Flow → Shared → Prop} {r : Addr} {a b : Int} {t u v : Tok} (n : Nat) {m : Str → Option Value} {nx : List (Addr × Obj)} (J : Nat → (Str → Option Value) → List (Addr × Obj) → Prop)
    (hh : A.handled = none) (hr : IsRange s.heap r a b 1 t u v) (hn : (a + (n : Int) = b ∨ (n = 0 ∧ b ≤ a)) ∧ -(2 ^ 30) < a ∧ a < 2 ^ 30 ∧ -(2 ^ 30) < b ∧ b < 2 ^ 30) (F : Fr h₀ env.locals s.heap m) (N : News h₀ env.locals s.heap nx) (hj : J 0 m nx)
    (turn : ∀ i m₁ nx h tk own t, i < n → OwnOff own (nx.map (·.1)) → J i m₁ nx → Fr h₀ env.locals h (fun y => if y = x then some (.int (a + (i : Int)) t) else m₁ y) → News h₀ env.locals h (nx ++ own) →
      wpAny (model prog w) A (execs body env) (InvPostG h₀ env.locals (J (i + 1)) own { s with heap := h, toks := tk } Q) E { s with heap := h, toks := tk })
    (done : ∀ m₁ nx h tk, J n m₁ nx → Fr h₀ env.locals h m₁ → News h₀ env.locals h nx → Q .next { s with heap := h, toks := tk }) :
    wpAny (model prog w) A (pyIter (.ref r)) (fun it s₂ => LoopAtV prog w A h₀ env x body Q E it s₂) E s := by
  have hsz : Builtin.Range.rangeSize a b 1 = (n : Int) := by
    rw [rangeSize_one]
    split <;> omega
  refine wpAny_pyIter_range hr (small_one (by omega) (by omega) (by omega) (by omega)) ?_
  have W : Walks prog w A s.heap.objs.size [s.heap.objs.size] [s.heap.objs.size] n (fun i v => i < n ∧ ∃ t, v = .int (a + i * 1) t)
      (fun i h => IsRangeIter h s.heap.objs.size (a + (i : Nat) * 1) ((n : Int) - (i : Nat)) 1) := (Walks.range hh _ a 1 n).bound
  refine kdr_loop J W (fun _ h => h) (fun _ h => h) ?_ ?_ ?_ ?_ (by show IsRangeIter _ _ _ _ _; rw [hsz]; simpa using Heap.get?_push_size _ rfl) (F.push _) (fun p hp => ⟨Heap.get?_push_of_some _ (N p hp).1, (N p hp).2⟩) hj ?_ done
  · intro i h hi b hb
    rw [List.mem_singleton.mp hb]
    exact ⟨_, hi⟩
  · intro hm
    exact absurd F.ns.lt ((List.mem_singleton.mp hm) ▸ Nat.lt_irrefl _)
  · intro b hb
    rw [List.mem_singleton.mp hb]
    exact next_is_new F
  · intro p hp hI
    exact absurd (Heap.lt_size (N p hp).1) ((List.mem_singleton.mp hI) ▸ Nat.lt_irrefl _)
  · rintro i v m₁ nx h tk own hi ⟨_, t, rfl⟩ hoff hJ F₁ N₁
    have e1 : a + (i : Int) * 1 = a + (i : Int) := by omega
    rw [e1] at F₁
    exact turn i m₁ nx h tk own t hi hoff hJ F₁ N₁
theorem enum_K {Q : Value → Shared → Prop} {L l : Addr} {vs : List Value} {c : Nat} {m : Str → Option Value} {news : List (Addr × Obj)} (F : Fr h₀ L s.heap m) (N : News h₀ L s.heap news) (hm : (l, listOf vs.toArray c) ∈ news)
    (h : ∀ e it h', Fr h₀ L h' m → News h₀ L h' news → IsEnum h' e it 0 .none → h'.IsListIter it l 0 → e ≠ it → e ≠ L → it ≠ L → h₀.get? e = none → h₀.get? it = none → (∀ q ∈ news, q.1 ≠ e ∧ q.1 ≠ it) → Q (.ref e) { s with heap := h' }) :
    wpAny (model prog w) A (call (.type "enumerate") [.ref l]) Q E s := by
  have up : ∀ k b o, s.heap.get? b = some o → b ≠ s.heap.objs.size + k := fun k b o hb => Nat.ne_of_lt (Nat.lt_of_lt_of_le (Heap.lt_size hb) (Nat.le_add_right _ _))
  have hL : ∀ k, s.heap.objs.size + k ≠ L := fun k e => absurd F.ns.lt (by rw [← e]; exact Nat.not_lt_of_le (Nat.le_add_right _ _))
  have h0 : ∀ k, h₀.get? (s.heap.objs.size + k) = none := by
    intro k
    cases hq : h₀.get? (s.heap.objs.size + k) with
    | none => rfl
    | some o => exact absurd rfl (up k _ _ (F.keep _ _ hq))
  refine call_enumerate_list (l := l) (items := vs.toArray) ⟨_, (N _ hm).1, rfl, c, rfl⟩ fun h' he hit hz hk => ?_
  exact h _ _ h' (F.keeps hk) (fun q hq => ⟨hk _ _ (N q hq).1, (N q hq).2⟩) he hit (Nat.succ_ne_self _) (hL 1) (hL 0) (h0 1) (h0 0) fun q hq => ⟨up 1 _ _ (N q hq).1, up 0 _ _ (N q hq).1⟩
/-- a, b = pair -/
theorem assign_pair {Q : Unit → Shared → Prop} {xi xv : Str} {pi pv pt : Pos} {x1 : Nat} {t : Addr} {v1 v2 : Value} {m : Str → Option Value} {news : List (Addr × Obj)} (F : Fr h₀ env.locals s.heap m) (N : News h₀ env.locals s.heap news) (ht : IsTup s.heap t #[v1, v2])
    (hh : A.handled = none) (hxi : env.kindOf xi = some .local) (hxv : env.kindOf xv = some .local) (hp : (env.scope.kind == .class || (env.scope.kind == .module && env.locals != env.globals)) = false)
    (h : ∀ h' tk', Fr h₀ env.locals h' (fun y => if y = xv then some v2 else if y = xi then some v1 else m y) → News h₀ env.locals h' news → Q () { s with heap := h', toks := tk' }) :
    wpAny (model prog w) A (assign (.Tuple [.Name xi pi, .Name xv pv] x1 pt) env (.ref t)) Q E s := by
  refine wpAny_assign_Tuple hh ht rfl rfl fun h₃ hx₃ => ?_
  have F₃ := F.extBut hx₃ (Nat.le_refl _)
  have N₃ := N.extBut hx₃ (Nat.le_refl _)
  show wpAny _ A (do holding [v2] (assign (.Name xi pi) env v1); do holding [] (assign (.Name xv pv) env v2); pure ()) _ _ _
  refine wpAny_bind (wpAny_holding (wpAny_assign_Name (wpAny_storeName_local hxi F₃.ns (fun h₄ hn₄ hs₄ => ?_) hp)))
  have F₄ := F₃.set hn₄ hs₄
  have N₄ := N₃.set hs₄
  refine wpAny_bind (wpAny_holding (wpAny_assign_Name (wpAny_storeName_local hxv hn₄ (fun h₅ hn₅ hs₅ => wpAny_pure ?_) hp)))
  exact h _ _ (F₄.set hn₅ hs₅) (N₄.set hs₅)
end
end Mine
end
section
open PySem PySem.W PySem.Calls PyProof.Rows
set_option maxRecDepth 100000
set_option maxHeartbeats 4000000
namespace Mine
/-- a bare object() -/
def nulObj : Obj := { cls := .type "object", data := .plain }
theorem mro_object : mroOf (.type "object") = pure [.type "object"] := by rw [mroOf_type]; kernel_rfl
theorem lookup_object_new : typeLookup (.type "object") "__new__" = pure (some (.builtin "object.__new__")) := by rw [typeLookup_type, builtinLookup_eq_fast]; kernel_rfl
theorem called_object : TypeCalled "object" "object.__new__" "object.__init__" :=
  ⟨by decide +kernel, by decide +kernel, ⟨_, _, mro_object⟩, madeBy_type mro_object lookup_object_new (by decide +kernel), by decide +kernel, by rw [isSubtype_type]; kernel_rfl, PySem.F.slot_object_init⟩
theorem typeCall_object_0 : checkTypeCall "object" ⟨[], []⟩ = pure () := by kernel_rfl
theorem newCall_object_0 : checkBuiltinCall "object.__new__" ⟨[.type "object"], []⟩ = pure () := by kernel_rfl
theorem type_object : isType (.type "object") = pure true := by first | rfl | kernel_rfl | (unfold isType; rw [isSubtype_type]; kernel_rfl)
theorem noNew_object : (((Manifest.find? "object").elim false (·.mro.any fun t => (Manifest.find? t).elim false (·.noNew))) = true) = False := by decide +kernel
theorem base_object : Bind.madeHere "object.__new__" (.type "object") = pure () := by first | kernel_rfl | rfl
theorem hasDict_object : typeHasDict (.type "object") = false := by decide +kernel
theorem dies_object : diesByItsTypesDel "object" = false := by decide +kernel
section
variable {prog : Program} {w : World} {M : Model} {A : Around} {E : Value → Shared → Prop} {s : Shared} {K : Frag} {h₀ : Heap} {L : Addr} {m : Str → Option Value} {news : List (Addr × Obj)}
theorem code_object_new {Q₁ : Value → Shared → Prop} (h : Q₁ (.ref s.heap.objs.size) { s with heap := s.heap.push nulObj }) :
    codeAny (model prog w) A (.call (.builtin "object.__new__") ⟨[.type "object"], []⟩) (wants Q₁ E) s := by
  refine codeAny_call_builtin (by decide +kernel) PySem.F.entry_object_new (wpAny_of_eq newCall_object_0 ?_)
  unfold Builtin.«object.__new__»
  refine wpAny_bind (wpAny_of_eq (a := true) type_object ?_)
  have nn := noNew_object
  simp only [base_object, hasDict_object, dies_object, pure_bind, List.isEmpty_nil, Bool.not_true, Bool.or_false, Bool.false_eq_true, if_false]
  refine KFB.if_not (by rw [Bool.eq_false_iff]; intro e; exact nn.mp e) ?_
  exact wpAny_bind (wpAny_newObj_type (wpAny_pure h))
theorem nul_eq_int {x : Addr} {b : Int} {u : Tok} {Q : Value → Shared → Prop} (hx : s.heap.get? x = some nulObj) (hu : A.units < cLine) (h : Q (.bool false) s) : wpAny (model prog w) A (compareOp .Eq (.ref x) (.int b u)) Q E s := by
  have ha : s.TypeIs (.ref x) "object" := ⟨_, hx, rfl⟩
  have hb : s.TypeIs (.int b u) "int" := typeIs_int s b u
  have h1 := PySem.F.slot_object_eq
  have h2 := PySem.F.slot_int_eq_refl
  show wpAny _ A (richCompare .Eq _ _) Q E s
  rcases hi : cmpInfo CmpOp.Eq with ⟨sym, f, r⟩
  rw [hi] at h1 h2
  simp only [richCompare, hi, ha.oneThing_none]
  refine wpAny_holding ?_
  refine wpAny_bind (wpAny_cRoomFor_or (.inr hu) ?_)
  refine wpAny_bind (wpAny_typeOf ha (wpAny_bind (wpAny_typeOf hb ?_)))
  simp only [show (Value.type "object" != Value.type "int") = true by decide, if_true]
  refine wpAny_bind (wpAny_of_eq PySem.F.sub_int_object ?_)
  simp only [Bool.not_true, Bool.false_eq_true, if_false, if_true]
  refine wpAny_bind (m := tryCompare (.int b u) _ (.ref x)) (wpAny_tryCompare_declines hb h2 ?_)
  refine wpAny_mono (Q := fun v s₁ => v = .notImplemented ∧ s₁ = s) ?_ (fun v s₁ h₁ => ⟨h₁.1, ?_⟩) fun _ _ x => x
  · refine wpAny_call_entry PySem.F.slot_int_eq_refl hb PySem.F.entry_int_eq ?_ (PySem.F.args_int_eq_2 _ _)
    obtain ⟨hp, g, d, tk, os⟩ := s
    wp_walk
    exact ⟨_, rfl, rfl, rfl⟩
  · obtain ⟨-, rfl⟩ := h₁
    dsimp only
    refine wpAny_bind (m := tryCompare (.ref x) _ (.int b u)) (wpAny_tryCompare_declines ha h1 ?_)
    refine wpAny_call_entry PySem.F.slot_object_eq ha PySem.F.entry_object_eq ?_ (PySem.F.args_object_eq_2 _ _)
    obtain ⟨hp, g, d, tk, os⟩ := s₁
    wp_walk
    refine ⟨_, rfl, rfl, ?_⟩
    dsimp only
    exact wpAny_bind (wpAny_rule (wpAny_bind (wpAny_of_eq (a := false) (isSame_plain rfl) (wpAny_pure h))))
theorem int_is_ref {x : Addr} {b : Int} {u : Tok} {Q : Value → Shared → Prop} (h : Q (.bool false) s) : wpAny M A (compareOp .Is (.int b u) (.ref x)) Q E s :=
  wpAny_is_other rfl nofun h
theorem call_object {Q : Value → Shared → Prop} (h : Q (.ref s.heap.objs.size) { s with heap := s.heap.push nulObj }) : wpAny (model prog w) A (call (.type "object") []) Q E s := by
  refine callType_codes (Q₁ := fun obj s₁ => obj = .ref s.heap.objs.size ∧ s₁ = { s with heap := s.heap.push nulObj }) called_object typeCall_object_0 PySem.F.entry_object_init (code_object_new ⟨rfl, rfl⟩) ?_
  rintro obj s₁ ⟨rfl, rfl⟩
  have hT : ({ s with heap := s.heap.push nulObj } : Shared).TypeIs (.ref s.heap.objs.size) "object" := ⟨nulObj, Heap.get?_push_size _ rfl, rfl⟩
  refine ⟨hT, by first | exact PySem.F.args_object_init_1 _ | (unfold argsOk; kernel_rfl), ?_⟩
  unfold Builtin.«object.__init__»
  wp_walk
  exact ⟨rfl, h⟩
theorem object_K {Q : Value → Shared → Prop} (F : Fr h₀ L s.heap m) (N : News h₀ L s.heap news) (h : ∀ u h', Fr h₀ L h' m → News h₀ L h' ((u, nulObj) :: news) → (∀ q ∈ news, q.1 < u) → Q (.ref u) { s with heap := h' }) :
    wpAny (model prog w) A (call (.type "object") []) Q E s :=
  call_object (h _ _ (F.push _) (News.push F N _) fun p hp => Heap.lt_size (N p hp).1)
end
end Mine
end
section
open PySem PySem.W PySem.Calls PyProof.Rows
set_option maxRecDepth 100000
set_option maxHeartbeats 4000000
namespace Mine
/-- a list of ints of which some are struck out by the one object u -/
inductive Cells (u : Addr) : List Value → List (Option Int) → Prop
  | nil : Cells u [] []
  | int (n : Int) (t : Tok) {vs os} : Cells u vs os → Cells u (.int n t :: vs) (some n :: os)
  | nul {vs os} : Cells u vs os → Cells u (.ref u :: vs) (none :: os)
theorem Cells.length {u : Addr} : ∀ {vs os}, Cells u vs os → vs.length = os.length
  | _, _, .nil => rfl
  | _, _, .int _ _ h => by simp [h.length]
  | _, _, .nul h => by simp [h.length]
theorem Cells.getI {u : Addr} : ∀ {vs os}, Cells u vs os → ∀ {j : Nat} {x : Int}, os[j]? = some (some x) → ∃ t, vs[j]? = some (.int x t)
  | _, _, .nil, j, x, h => by simp at h
  | _, _, .int n t h, 0, x, e => by simp at e; subst e; exact ⟨t, rfl⟩
  | _, _, .int n t h, j + 1, x, e => by simp at e; simpa using h.getI e
  | _, _, .nul h, 0, x, e => by simp at e
  | _, _, .nul h, j + 1, x, e => by simp at e; simpa using h.getI e
theorem Cells.getN {u : Addr} : ∀ {vs os}, Cells u vs os → ∀ {j : Nat}, os[j]? = some none → vs[j]? = some (.ref u)
  | _, _, .nil, j, h => by simp at h
  | _, _, .int n t h, 0, e => by simp at e
  | _, _, .int n t h, j + 1, e => by simp at e; simpa using h.getN e
  | _, _, .nul h, 0, e => rfl
  | _, _, .nul h, j + 1, e => by simp at e; simpa using h.getN e
theorem Cells.strike {u : Addr} : ∀ {vs os}, Cells u vs os → ∀ (j : Nat), Cells u (vs.set j (.ref u)) (os.set j none)
  | _, _, .nil, j => by simpa using Cells.nil
  | _, _, .int n t h, 0 => .nul h
  | _, _, .int n t h, j + 1 => .int n t (h.strike j)
  | _, _, .nul h, 0 => .nul h
  | _, _, .nul h, j + 1 => .nul (h.strike j)
theorem Cells.ofInts {u : Addr} : ∀ {vs ns}, IntsAre vs ns → Cells u vs (ns.map some)
  | _, _, .nil => .nil
  | _, _, .cons n t h => .int n t (Cells.ofInts h)

/-- ms with those struck that stand in xs, and x struck too below the place j -/
def mix (xs : List Int) (x : Int) (j : Nat) (ms : List Int) : List (Option Int) := ms.mapIdx fun k y => if y ∈ xs ∨ (k < j ∧ y = x) then none else some y
def stk (xs ms : List Int) : List (Option Int) := ms.map fun y => if y ∈ xs then none else some y
theorem mix_len (xs : List Int) (x : Int) (j : Nat) (ms : List Int) : (mix xs x j ms).length = ms.length := by simp [mix]
theorem stk_len (xs ms : List Int) : (stk xs ms).length = ms.length := by simp [stk]
theorem mix_get {xs : List Int} {x : Int} {j k : Nat} {ms : List Int} : (mix xs x j ms)[k]? = ms[k]?.map fun y => if y ∈ xs ∨ (k < j ∧ y = x) then none else some y := by simp [mix]
theorem stk_get {xs : List Int} {k : Nat} {ms : List Int} : (stk xs ms)[k]? = ms[k]?.map fun y => if y ∈ xs then none else some y := by simp [stk]
theorem stk_nil (ms : List Int) : stk [] ms = ms.map some := by simp [stk]
theorem mix_zero (xs : List Int) (x : Int) (ms : List Int) : mix xs x 0 ms = stk xs ms := by
  apply List.ext_getElem?; intro k; rw [mix_get, stk_get]; simp
theorem mix_end {xs : List Int} {x : Int} {ms : List Int} {j : Nat} (hj : ms.length ≤ j) : mix xs x j ms = stk (xs ++ [x]) ms := by
  apply List.ext_getElem?; intro k; rw [mix_get, stk_get]
  cases h : ms[k]? with
  | none => rfl
  | some y =>
    have hk : k < j := Nat.lt_of_lt_of_le (List.getElem?_eq_some_iff.mp h).1 hj
    simp [hk]
theorem mix_start {x : Int} {ms : List Int} {j : Nat} (hx : x ∉ ms.take j) : mix (ms.take j) x j ms = stk (ms.take j) ms := by
  apply List.ext_getElem?; intro k; rw [mix_get, stk_get]
  cases h : ms[k]? with
  | none => rfl
  | some y =>
    have : ¬ (k < j ∧ y = x) := by
      rintro ⟨h1, rfl⟩
      exact hx (List.mem_of_getElem? (i := k) (by rw [List.getElem?_take, if_pos h1]; exact h))
    simp [this]
/-- the turn at j -/
theorem mix_hit {xs : List Int} {x : Int} {j : Nat} {ms : List Int} (h : ms[j]? = some x) : mix xs x (j + 1) ms = (mix xs x j ms).set j none := by
  apply List.ext_getElem?; intro k
  rw [List.getElem?_set, mix_get, mix_get, mix_len]
  have hj := (List.getElem?_eq_some_iff.mp h).1
  by_cases e : j = k
  · subst e
    have hx : ms[j] = x := (List.getElem?_eq_some_iff.mp h).2
    simp [hj, hx]
  · rw [if_neg e]
    cases ms[k]? with
    | none => rfl
    | some y =>
      have : (k < j + 1 ∧ y = x) ↔ (k < j ∧ y = x) := by omega
      simp [this]
theorem mix_skip {xs : List Int} {x y : Int} {j : Nat} {ms : List Int} (h : ms[j]? = some y) (hy : y ≠ x ∨ y ∈ xs) : mix xs x (j + 1) ms = mix xs x j ms := by
  apply List.ext_getElem?; intro k
  rw [mix_get, mix_get]
  by_cases e : j = k
  · subst e
    rw [h]
    rcases hy with hy | hy <;> simp [hy]
  · cases ms[k]? with
    | none => rfl
    | some z =>
      have : (k < j + 1 ∧ z = x) ↔ (k < j ∧ z = x) := by omega
      simp [this]
theorem count_take {x y : Int} {j : Nat} {ms : List Int} (h : ms[j]? = some y) : (ms.take (j + 1)).count x = (ms.take j).count x + if y = x then 1 else 0 := by
  rw [List.take_add_one, h, List.count_append]
  simp [List.count_cons]
theorem stk_seen {x : Int} {i : Nat} {ns ms : List Int} (h : ns[i]? = some x) (hx : x ∈ ns.take i) : stk (ns.take (i + 1)) ms = stk (ns.take i) ms := by
  apply List.ext_getElem?; intro k; rw [stk_get, stk_get, List.take_add_one, h]
  cases ms[k]? with
  | none => rfl
  | some y =>
    have : (y ∈ ns.take i ∨ y = x) ↔ y ∈ ns.take i := ⟨fun h => h.elim id fun e => e ▸ hx, .inl⟩
    simp [this]
end Mine
end
section
open PySem PySem.W PySem.Calls PyProof.Rows
set_option maxRecDepth 100000
set_option maxHeartbeats 8000000
set_option pp.deepTerms.threshold 6
theorem Mine.warmS8 (w : World) : (model PySem.Challenge.rw_ik0114_01.row.prog w, Mine.hd.heap_39 w.params) = (model PySem.Challenge.rw_ik0114_01.row.prog w, Mine.hd.heap_39 w.params) := by
  k_fill
  rfl
local macro_rules | `(tactic| walk_at "eval Name") => `(tactic| k_dflt (refine' ld ?k1 ?k2 ?_; (case k1 => k_asm); (case k2 => exact rfl); k_whole))
local macro_rules | `(tactic| walk_at "execs cons") => `(tactic| ((with_reducible refine wpAny_execs_cons ?_); (try dsimp only)))
local macro_rules | `(tactic| walk_at "exec Assign") => `(tactic| ((with_reducible show wpAny _ _ (exec (PySem.Stmt.Assign [PySem.Expr.Name _ _] _ _) _) _ _ _); (with_reducible refine wpAny_Assign_Name ?_)))
namespace Mine
theorem count_ct {w : World} {A A₀ : Around} {env : Env} {outer : List Env} {base h₀ : Heap} {L : Addr} {m : Str → Option Value} {s : Shared} {p : Program} {loose : List Str} {mean : ExcName → Option Value} {mg mb : Str → Option Value} {Q E : Value → Shared → Prop}
    (B : Below A₀ base outer h₀) (F : Fr h₀ L s.heap m) (X : (Mine.hd.heap_39 w.params).In h₀) (T : Top p loose mean mg mb h₀) (hA : A.frames = some (env :: outer)) (hf : env.frame = some L) (hke : env.scope.kind = .function) (hh : A.handled = none)
    {la lb : Addr} {news : List (Addr × Obj)} {vs ws : List Value} {ns ms : List Int} {n k : Nat} (N : News h₀ L s.heap news) (hm : (la, listOf vs.toArray n) ∈ news) (hi : IntsAre vs ns) (hm2 : (lb, listOf ws.toArray k) ∈ news) (hi2 : IntsAre ws ms)
    (hd : A.depth + 5 < recursionLimit) (hu : A.units + 40 < cLine) (hl : ns.length < 2 ^ 18) (hl2 : ms.length < 2 ^ 18)
    (hp : ns.Perm ms)
    (ret : ∀ r h' tk', Fr h₀ L h' m → News h₀ L h' ((r, listOf ([] : List Value).toArray 0) :: news) → Q (.ref r) { s with heap := h', toks := tk' }) :
    wpAny (model PySem.Challenge.rw_ik0114_01.row.prog w) A (call (.ref 195) [.ref la, .ref lb]) Q E s := by
  refine wpAny_call ?_
  refine' code_def ?k1 ?k2 ?k3 ?k4 ?k5 ?kA ?kF ?kK ?k6 ?k7 ?k8 ?k9 ?kB ?_ ?c2 ?c3 ?c4 ?c5
  case k1 => exact B
  case k2 => exact F
  case k3 => exact X
  case k4 => exact N
  case k5 => exact T
  case kA => exact hA
  case kF => exact hf
  case kK => exact hke
  case k6 => k_is
  case k7 => k_is
  case k8 => show A.depth < _; omega
  case k9 => exact BindsTo.of_eq rfl
  case kB => exact locs rfl
  case c2 => exact rfl
  case c3 => exact rfl
  case c4 => exact rfl
  case c5 => decide
  intro g' L' h' FG' F' N' B' X' T'
  try dsimp only
  try k_fold
  (repeat' ((fail_if_success (first | (with_reducible show InvEndG _ _ _ _ _ _) | (with_reducible show wpAny _ _ (PySem.call (PySem.Value.ref _) _) _ _ _) | (with_reducible show wpAny _ _ (PySem.call (PySem.Value.builtin _) _) _ _ _) | (with_reducible show wpAny _ _ (PySem.call (PySem.Value.type _) _) _ _ _) | (with_reducible show wpAny _ _ (subscriptTail _ _ (PySem.Value.ref _) _) _ _ _) | (with_reducible show wpAny _ _ (setItem (PySem.Value.ref _) _ _) _ _ _) | (with_reducible show wpAny _ _ (compareOp _ (PySem.Value.ref _) _) _ _ _) | (with_reducible show wpAny _ _ (compareOp _ _ (PySem.Value.ref _)) _ _ _) | (with_reducible show wpAny _ _ (binaryOp PySem.Operator.Mod _ _) _ _ _) | (with_reducible show wpAny _ _ (truthy (PySem.Value.ref _)) _ _ _) | (with_reducible show wpAny _ _ (exec (PySem.Stmt.While _ _ _ _) _) _ _ _) | (with_reducible show wpAny _ _ (exec (PySem.Stmt.For (PySem.Expr.Tuple _ _ _) _ _ _ _ _) _) _ _ _) | (with_reducible show wpAny _ _ (pyIter _) _ _ _))); (first | walk1 | (k_unfold; (try dsimp only)) | (dsimp only; walk1) | ((try dsimp only); (with_reducible show WhileStep2 _ _ _ _ _ _ PySem.Flow.brk _); dsimp only [WhileStep2]) | fail "no step")))
  ((rename Fr _ _ _ _ => F2); (rename News _ _ _ _ => N2))
  have e1 := hi.length
  have e2 := hi2.length
  refine list_copyK F2 N2 (isL N2 hm) ?_ (by rw [List.size_toArray, PySem.sizeLine_eq]; omega)
  intro sA ks h' F2 N2 ls
  (repeat' ((fail_if_success (first | (with_reducible show InvEndG _ _ _ _ _ _) | (with_reducible show wpAny _ _ (PySem.call (PySem.Value.ref _) _) _ _ _) | (with_reducible show wpAny _ _ (PySem.call (PySem.Value.builtin _) _) _ _ _) | (with_reducible show wpAny _ _ (PySem.call (PySem.Value.type _) _) _ _ _) | (with_reducible show wpAny _ _ (subscriptTail _ _ (PySem.Value.ref _) _) _ _ _) | (with_reducible show wpAny _ _ (setItem (PySem.Value.ref _) _ _) _ _ _) | (with_reducible show wpAny _ _ (compareOp _ (PySem.Value.ref _) _) _ _ _) | (with_reducible show wpAny _ _ (compareOp _ _ (PySem.Value.ref _)) _ _ _) | (with_reducible show wpAny _ _ (binaryOp PySem.Operator.Mod _ _) _ _ _) | (with_reducible show wpAny _ _ (truthy (PySem.Value.ref _)) _ _ _) | (with_reducible show wpAny _ _ (exec (PySem.Stmt.While _ _ _ _) _) _ _ _) | (with_reducible show wpAny _ _ (exec (PySem.Stmt.For (PySem.Expr.Tuple _ _ _) _ _ _ _ _) _) _ _ _) | (with_reducible show wpAny _ _ (pyIter _) _ _ _))); (first | walk1 | (k_unfold; (try dsimp only)) | (dsimp only; walk1) | ((try dsimp only); (with_reducible show WhileStep2 _ _ _ _ _ _ PySem.Flow.brk _); dsimp only [WhileStep2]) | fail "no step")))
  ((rename Fr _ _ _ _ => F2); (rename News _ _ _ _ => N2))
  refine list_copyK F2 N2 (isL N2 (.tail _ hm2)) ?_ (by rw [List.size_toArray, PySem.sizeLine_eq]; omega)
  intro tA kt h' F2 N2 lt
  (repeat' ((fail_if_success (first | (with_reducible show InvEndG _ _ _ _ _ _) | (with_reducible show wpAny _ _ (PySem.call (PySem.Value.ref _) _) _ _ _) | (with_reducible show wpAny _ _ (PySem.call (PySem.Value.builtin _) _) _ _ _) | (with_reducible show wpAny _ _ (PySem.call (PySem.Value.type _) _) _ _ _) | (with_reducible show wpAny _ _ (subscriptTail _ _ (PySem.Value.ref _) _) _ _ _) | (with_reducible show wpAny _ _ (setItem (PySem.Value.ref _) _ _) _ _ _) | (with_reducible show wpAny _ _ (compareOp _ (PySem.Value.ref _) _) _ _ _) | (with_reducible show wpAny _ _ (compareOp _ _ (PySem.Value.ref _)) _ _ _) | (with_reducible show wpAny _ _ (binaryOp PySem.Operator.Mod _ _) _ _ _) | (with_reducible show wpAny _ _ (truthy (PySem.Value.ref _)) _ _ _) | (with_reducible show wpAny _ _ (exec (PySem.Stmt.While _ _ _ _) _) _ _ _) | (with_reducible show wpAny _ _ (exec (PySem.Stmt.For (PySem.Expr.Tuple _ _ _) _ _ _ _ _) _) _ _ _) | (with_reducible show wpAny _ _ (pyIter _) _ _ _))); (first | walk1 | (k_unfold; (try dsimp only)) | (dsimp only; walk1) | ((try dsimp only); (with_reducible show WhileStep2 _ _ _ _ _ _ PySem.Flow.brk _); dsimp only [WhileStep2]) | fail "no step")))
  ((rename Fr _ _ _ _ => F2); (rename News _ _ _ _ => N2))
  refine unpackItemsN_ F2 N2 (News.isTup N2 (.head _)) (by exact hh) (by exact rfl) ?_
  intro h' F2 N2
  (repeat' ((fail_if_success (first | (with_reducible show InvEndG _ _ _ _ _ _) | (with_reducible show wpAny _ _ (PySem.call (PySem.Value.ref _) _) _ _ _) | (with_reducible show wpAny _ _ (PySem.call (PySem.Value.builtin _) _) _ _ _) | (with_reducible show wpAny _ _ (PySem.call (PySem.Value.type _) _) _ _ _) | (with_reducible show wpAny _ _ (subscriptTail _ _ (PySem.Value.ref _) _) _ _ _) | (with_reducible show wpAny _ _ (setItem (PySem.Value.ref _) _ _) _ _ _) | (with_reducible show wpAny _ _ (compareOp _ (PySem.Value.ref _) _) _ _ _) | (with_reducible show wpAny _ _ (compareOp _ _ (PySem.Value.ref _)) _ _ _) | (with_reducible show wpAny _ _ (binaryOp PySem.Operator.Mod _ _) _ _ _) | (with_reducible show wpAny _ _ (truthy (PySem.Value.ref _)) _ _ _) | (with_reducible show wpAny _ _ (exec (PySem.Stmt.While _ _ _ _) _) _ _ _) | (with_reducible show wpAny _ _ (exec (PySem.Stmt.For (PySem.Expr.Tuple _ _ _) _ _ _ _ _) _) _ _ _) | (with_reducible show wpAny _ _ (pyIter _) _ _ _))); (first | walk1 | (k_unfold; (try dsimp only)) | (dsimp only; walk1) | ((try dsimp only); (with_reducible show WhileStep2 _ _ _ _ _ _ PySem.Flow.brk _); dsimp only [WhileStep2]) | fail "no step")))
  ((rename Fr _ _ _ _ => F2); (rename News _ _ _ _ => N2))
  refine len_led N2 (by k_mem) e1 (by omega) ?_
  (repeat' ((fail_if_success (first | (with_reducible show InvEndG _ _ _ _ _ _) | (with_reducible show wpAny _ _ (PySem.call (PySem.Value.ref _) _) _ _ _) | (with_reducible show wpAny _ _ (PySem.call (PySem.Value.builtin _) _) _ _ _) | (with_reducible show wpAny _ _ (PySem.call (PySem.Value.type _) _) _ _ _) | (with_reducible show wpAny _ _ (subscriptTail _ _ (PySem.Value.ref _) _) _ _ _) | (with_reducible show wpAny _ _ (setItem (PySem.Value.ref _) _ _) _ _ _) | (with_reducible show wpAny _ _ (compareOp _ (PySem.Value.ref _) _) _ _ _) | (with_reducible show wpAny _ _ (compareOp _ _ (PySem.Value.ref _)) _ _ _) | (with_reducible show wpAny _ _ (binaryOp PySem.Operator.Mod _ _) _ _ _) | (with_reducible show wpAny _ _ (truthy (PySem.Value.ref _)) _ _ _) | (with_reducible show wpAny _ _ (exec (PySem.Stmt.While _ _ _ _) _) _ _ _) | (with_reducible show wpAny _ _ (exec (PySem.Stmt.For (PySem.Expr.Tuple _ _ _) _ _ _ _ _) _) _ _ _) | (with_reducible show wpAny _ _ (pyIter _) _ _ _))); (first | walk1 | (k_unfold; (try dsimp only)) | (dsimp only; walk1) | ((try dsimp only); (with_reducible show WhileStep2 _ _ _ _ _ _ PySem.Flow.brk _); dsimp only [WhileStep2]) | fail "no step")))
  ((rename Fr _ _ _ _ => F2); (rename News _ _ _ _ => N2))
  refine len_led N2 (by k_mem) e2 (by omega) ?_
  (repeat' ((fail_if_success (first | (with_reducible show InvEndG _ _ _ _ _ _) | (with_reducible show wpAny _ _ (PySem.call (PySem.Value.ref _) _) _ _ _) | (with_reducible show wpAny _ _ (PySem.call (PySem.Value.builtin _) _) _ _ _) | (with_reducible show wpAny _ _ (PySem.call (PySem.Value.type _) _) _ _ _) | (with_reducible show wpAny _ _ (subscriptTail _ _ (PySem.Value.ref _) _) _ _ _) | (with_reducible show wpAny _ _ (setItem (PySem.Value.ref _) _ _) _ _ _) | (with_reducible show wpAny _ _ (compareOp _ (PySem.Value.ref _) _) _ _ _) | (with_reducible show wpAny _ _ (compareOp _ _ (PySem.Value.ref _)) _ _ _) | (with_reducible show wpAny _ _ (binaryOp PySem.Operator.Mod _ _) _ _ _) | (with_reducible show wpAny _ _ (truthy (PySem.Value.ref _)) _ _ _) | (with_reducible show wpAny _ _ (exec (PySem.Stmt.While _ _ _ _) _) _ _ _) | (with_reducible show wpAny _ _ (exec (PySem.Stmt.For (PySem.Expr.Tuple _ _ _) _ _ _ _ _) _) _ _ _) | (with_reducible show wpAny _ _ (pyIter _) _ _ _))); (first | walk1 | (k_unfold; (try dsimp only)) | (dsimp only; walk1) | ((try dsimp only); (with_reducible show WhileStep2 _ _ _ _ _ _ PySem.Flow.brk _); dsimp only [WhileStep2]) | fail "no step")))
  ((rename Fr _ _ _ _ => F2); (rename News _ _ _ _ => N2))
  refine unpackItemsN_ F2 N2 (News.isTup N2 (.head _)) (by exact hh) (by exact rfl) ?_
  intro h' F2 N2
  (repeat' ((fail_if_success (first | (with_reducible show InvEndG _ _ _ _ _ _) | (with_reducible show wpAny _ _ (PySem.call (PySem.Value.ref _) _) _ _ _) | (with_reducible show wpAny _ _ (PySem.call (PySem.Value.builtin _) _) _ _ _) | (with_reducible show wpAny _ _ (PySem.call (PySem.Value.type _) _) _ _ _) | (with_reducible show wpAny _ _ (subscriptTail _ _ (PySem.Value.ref _) _) _ _ _) | (with_reducible show wpAny _ _ (setItem (PySem.Value.ref _) _ _) _ _ _) | (with_reducible show wpAny _ _ (compareOp _ (PySem.Value.ref _) _) _ _ _) | (with_reducible show wpAny _ _ (compareOp _ _ (PySem.Value.ref _)) _ _ _) | (with_reducible show wpAny _ _ (binaryOp PySem.Operator.Mod _ _) _ _ _) | (with_reducible show wpAny _ _ (truthy (PySem.Value.ref _)) _ _ _) | (with_reducible show wpAny _ _ (exec (PySem.Stmt.While _ _ _ _) _) _ _ _) | (with_reducible show wpAny _ _ (exec (PySem.Stmt.For (PySem.Expr.Tuple _ _ _) _ _ _ _ _) _) _ _ _) | (with_reducible show wpAny _ _ (pyIter _) _ _ _))); (first | walk1 | (k_unfold; (try dsimp only)) | (dsimp only; walk1) | ((try dsimp only); (with_reducible show WhileStep2 _ _ _ _ _ _ PySem.Flow.brk _); dsimp only [WhileStep2]) | fail "no step")))
  ((rename Fr _ _ _ _ => F2); (rename News _ _ _ _ => N2))
  refine object_K F2 N2 ?_
  intro u h' F2 N2 lu
  (repeat' ((fail_if_success (first | (with_reducible show InvEndG _ _ _ _ _ _) | (with_reducible show wpAny _ _ (PySem.call (PySem.Value.ref _) _) _ _ _) | (with_reducible show wpAny _ _ (PySem.call (PySem.Value.builtin _) _) _ _ _) | (with_reducible show wpAny _ _ (PySem.call (PySem.Value.type _) _) _ _ _) | (with_reducible show wpAny _ _ (subscriptTail _ _ (PySem.Value.ref _) _) _ _ _) | (with_reducible show wpAny _ _ (setItem (PySem.Value.ref _) _ _) _ _ _) | (with_reducible show wpAny _ _ (compareOp _ (PySem.Value.ref _) _) _ _ _) | (with_reducible show wpAny _ _ (compareOp _ _ (PySem.Value.ref _)) _ _ _) | (with_reducible show wpAny _ _ (binaryOp PySem.Operator.Mod _ _) _ _ _) | (with_reducible show wpAny _ _ (truthy (PySem.Value.ref _)) _ _ _) | (with_reducible show wpAny _ _ (exec (PySem.Stmt.While _ _ _ _) _) _ _ _) | (with_reducible show wpAny _ _ (exec (PySem.Stmt.For (PySem.Expr.Tuple _ _ _) _ _ _ _ _) _) _ _ _) | (with_reducible show wpAny _ _ (pyIter _) _ _ _))); (first | walk1 | (k_unfold; (try dsimp only)) | (dsimp only; walk1) | ((try dsimp only); (with_reducible show WhileStep2 _ _ _ _ _ _ PySem.Flow.brk _); dsimp only [WhileStep2]) | fail "no step")))
  ((rename Fr _ _ _ _ => F2); (rename News _ _ _ _ => N2))
  (rename Addr => r0)
  (rename _ ∧ _ ∧ _ ∧ _ ∧ _ ∧ AllLt _ _ => lr)
  obtain ⟨lr1, -, -, lr2, lr3, lr4⟩ := lr
  obtain ⟨R, hR⟩ : ∃ R, R = (r0, listOf ([] : List Value).toArray 0) :: (u, nulObj) :: news := ⟨_, rfl⟩
  have hRr : (r0, listOf ([] : List Value).toArray 0) ∈ R := by rw [hR]; exact .head _
  have hRu : (u, nulObj) ∈ R := by rw [hR]; exact .tail _ (.head _)
  have hRn : ∀ q ∈ news, q ∈ R := fun q hq => by rw [hR]; exact .tail _ (.tail _ hq)
  have hts : tA ≠ sA := Nat.ne_of_gt (lt _ (.head _))
  have hRs : ∀ q ∈ R, q.1 ≠ sA := by
    intro q hq
    rw [hR] at hq
    rcases List.mem_cons.mp hq with rfl | hq
    · exact Nat.ne_of_gt lr3
    · rcases List.mem_cons.mp hq with rfl | hq
      · exact Nat.ne_of_gt (lu (sA, _) (.tail _ (.tail _ (.tail _ (.head _)))))
      · exact Nat.ne_of_lt (ls q hq)
  have hRt : ∀ q ∈ R, q.1 ≠ tA := by
    intro q hq
    rw [hR] at hq
    rcases List.mem_cons.mp hq with rfl | hq
    · exact Nat.ne_of_gt lr2
    · rcases List.mem_cons.mp hq with rfl | hq
      · exact Nat.ne_of_gt (lu (tA, _) (.tail _ (.tail _ (.head _))))
      · exact Nat.ne_of_lt (lt q (.tail _ hq))
  have N3 : News g' L' _ ((sA, listOf vs.toArray ks) :: (tA, listOf ws.toArray kt) :: R) := fun q hq => N2 q (by
    rcases List.mem_cons.mp hq with rfl | hq
    · k_mem
    · rcases List.mem_cons.mp hq with rfl | hq
      · k_mem
      · rw [hR] at hq
        rcases List.mem_cons.mp hq with rfl | hq
        · k_mem
        · rcases List.mem_cons.mp hq with rfl | hq
          · k_mem
          · exact .tail _ (.tail _ (.tail _ (.tail _ (.tail _ (.tail _ hq))))))
  clear N2
  clear hR
  refine wpAny_For ?_
  (repeat' ((fail_if_success (first | (with_reducible show InvEndG _ _ _ _ _ _) | (with_reducible show wpAny _ _ (PySem.call (PySem.Value.ref _) _) _ _ _) | (with_reducible show wpAny _ _ (PySem.call (PySem.Value.builtin _) _) _ _ _) | (with_reducible show wpAny _ _ (PySem.call (PySem.Value.type _) _) _ _ _) | (with_reducible show wpAny _ _ (subscriptTail _ _ (PySem.Value.ref _) _) _ _ _) | (with_reducible show wpAny _ _ (setItem (PySem.Value.ref _) _ _) _ _ _) | (with_reducible show wpAny _ _ (compareOp _ (PySem.Value.ref _) _) _ _ _) | (with_reducible show wpAny _ _ (compareOp _ _ (PySem.Value.ref _)) _ _ _) | (with_reducible show wpAny _ _ (binaryOp PySem.Operator.Mod _ _) _ _ _) | (with_reducible show wpAny _ _ (truthy (PySem.Value.ref _)) _ _ _) | (with_reducible show wpAny _ _ (exec (PySem.Stmt.While _ _ _ _) _) _ _ _) | (with_reducible show wpAny _ _ (exec (PySem.Stmt.For (PySem.Expr.Tuple _ _ _) _ _ _ _ _) _) _ _ _) | (with_reducible show wpAny _ _ (pyIter _) _ _ _))); (first | walk1 | (k_unfold; (try dsimp only)) | (dsimp only; walk1) | ((try dsimp only); (with_reducible show WhileStep2 _ _ _ _ _ _ PySem.Flow.brk _); dsimp only [WhileStep2]) | fail "no step")))
  ((rename Fr _ _ _ _ => F2); (rename News _ _ _ _ => N2))
  refine enum_K F2 N2 (.head _) ?_
  intro e it h' F2 N2 he hit hei heL hiL he0 hi0 hef
  (repeat' ((fail_if_success (first | (with_reducible show InvEndG _ _ _ _ _ _) | (with_reducible show wpAny _ _ (PySem.call (PySem.Value.ref _) _) _ _ _) | (with_reducible show wpAny _ _ (PySem.call (PySem.Value.builtin _) _) _ _ _) | (with_reducible show wpAny _ _ (PySem.call (PySem.Value.type _) _) _ _ _) | (with_reducible show wpAny _ _ (subscriptTail _ _ (PySem.Value.ref _) _) _ _ _) | (with_reducible show wpAny _ _ (setItem (PySem.Value.ref _) _ _) _ _ _) | (with_reducible show wpAny _ _ (compareOp _ (PySem.Value.ref _) _) _ _ _) | (with_reducible show wpAny _ _ (compareOp _ _ (PySem.Value.ref _)) _ _ _) | (with_reducible show wpAny _ _ (binaryOp PySem.Operator.Mod _ _) _ _ _) | (with_reducible show wpAny _ _ (truthy (PySem.Value.ref _)) _ _ _) | (with_reducible show wpAny _ _ (exec (PySem.Stmt.While _ _ _ _) _) _ _ _) | (with_reducible show wpAny _ _ (exec (PySem.Stmt.For (PySem.Expr.Tuple _ _ _) _ _ _ _ _) _) _ _ _) | (with_reducible show wpAny _ _ (pyIter _) _ _ _))); (first | walk1 | (k_unfold; (try dsimp only)) | (dsimp only; walk1) | ((try dsimp only); (with_reducible show WhileStep2 _ _ _ _ _ _ PySem.Flow.brk _); dsimp only [WhileStep2]) | fail "no step")))
  refine wpAny_pyIter_enum he ?_
  refine for_enum (n := ns.length) (l := sA) (vs := vs) (fun i us m₁ nx => ∃ wt kk kt2 tm tn, nx = (sA, listOf us.toArray kk) :: (tA, listOf wt.toArray kt2) :: R ∧ Cells u us (stk (ns.take i) ns) ∧ Cells u wt (stk (ns.take i) ms) ∧
    (∀ e ∈ ([(Str.ofString "s", .ref sA), (Str.ofString "t", .ref tA), (Str.ofString "m", .int (ns.length : Int) tm), (Str.ofString "n", .int (ms.length : Int) tn), (Str.ofString "NULL", .ref u), (Str.ofString "result", .ref r0)] : List (Str × Value)), m₁ e.1 = some e.2)) (by exact hh) rfl rfl rfl ?hJl he hit F2 N2 ?start hei heL hiL he0 hi0 hef ?turn ?done ?hE
  case hE => first | passes_own | with_unfolding_all passes_own
  case hJl =>
    rintro i us m₁ nx ⟨wt, kk, kt2, tm, tn, rfl, h1, h2, h3⟩
    exact ⟨⟨_, .head _⟩, by rw [h1.length, stk_len]⟩
  case start =>
    refine' ⟨ws, ks, kt, _, _, rfl, (by simpa [stk] using Cells.ofInts hi), (by simpa [stk] using Cells.ofInts hi2), (by kst_all)⟩
  case turn =>
    clear F2 N2
    rintro i v tk1 us m₁ _ h tk' own hv ⟨wt, kk, kt2, tm, tn, rfl, hcs, hct, hps⟩ ho F1 N2
    have F2 := frBxx F1 hps
    clear F1
    dsimp only [kstB] at F2
    rw [List.cons_append, List.cons_append] at N2
    have hil : i < ns.length := by
      have h9 := (List.getElem?_eq_some_iff.mp hv).1
      rw [hcs.length, stk_len] at h9
      exact h9
    obtain ⟨x, hx⟩ : ∃ x, ns[i]? = some x := ⟨_, List.getElem?_eq_getElem hil⟩
    by_cases hin : x ∈ ns.take i
    · obtain rfl : v = .ref u := Option.some.inj (hv.symm.trans (hcs.getN (by rw [stk_get, hx]; simp [hin])))
      (repeat' ((fail_if_success (first | (with_reducible show InvEndG _ _ _ _ _ _) | (with_reducible show wpAny _ _ (PySem.call (PySem.Value.ref _) _) _ _ _) | (with_reducible show wpAny _ _ (PySem.call (PySem.Value.builtin _) _) _ _ _) | (with_reducible show wpAny _ _ (PySem.call (PySem.Value.type _) _) _ _ _) | (with_reducible show wpAny _ _ (subscriptTail _ _ (PySem.Value.ref _) _) _ _ _) | (with_reducible show wpAny _ _ (setItem (PySem.Value.ref _) _ _) _ _ _) | (with_reducible show wpAny _ _ (compareOp _ (PySem.Value.ref _) _) _ _ _) | (with_reducible show wpAny _ _ (compareOp _ _ (PySem.Value.ref _)) _ _ _) | (with_reducible show wpAny _ _ (binaryOp PySem.Operator.Mod _ _) _ _ _) | (with_reducible show wpAny _ _ (truthy (PySem.Value.ref _)) _ _ _) | (with_reducible show wpAny _ _ (exec (PySem.Stmt.While _ _ _ _) _) _ _ _) | (with_reducible show wpAny _ _ (exec (PySem.Stmt.For (PySem.Expr.Tuple _ _ _) _ _ _ _ _) _) _ _ _) | (with_reducible show wpAny _ _ (pyIter _) _ _ _))); (first | walk1 | (k_unfold; (try dsimp only)) | (dsimp only; walk1) | ((try dsimp only); (with_reducible show WhileStep2 _ _ _ _ _ _ PySem.Flow.brk _); dsimp only [WhileStep2]) | fail "no step")))
      refine wpAny_is_ref_self ?_
      (repeat' ((fail_if_success (first | (with_reducible show InvEndG _ _ _ _ _ _) | (with_reducible show wpAny _ _ (PySem.call (PySem.Value.ref _) _) _ _ _) | (with_reducible show wpAny _ _ (PySem.call (PySem.Value.builtin _) _) _ _ _) | (with_reducible show wpAny _ _ (PySem.call (PySem.Value.type _) _) _ _ _) | (with_reducible show wpAny _ _ (subscriptTail _ _ (PySem.Value.ref _) _) _ _ _) | (with_reducible show wpAny _ _ (setItem (PySem.Value.ref _) _ _) _ _ _) | (with_reducible show wpAny _ _ (compareOp _ (PySem.Value.ref _) _) _ _ _) | (with_reducible show wpAny _ _ (compareOp _ _ (PySem.Value.ref _)) _ _ _) | (with_reducible show wpAny _ _ (binaryOp PySem.Operator.Mod _ _) _ _ _) | (with_reducible show wpAny _ _ (truthy (PySem.Value.ref _)) _ _ _) | (with_reducible show wpAny _ _ (exec (PySem.Stmt.While _ _ _ _) _) _ _ _) | (with_reducible show wpAny _ _ (exec (PySem.Stmt.For (PySem.Expr.Tuple _ _ _) _ _ _ _ _) _) _ _ _) | (with_reducible show wpAny _ _ (pyIter _) _ _ _))); (first | walk1 | (k_unfold; (try dsimp only)) | (dsimp only; walk1) | ((try dsimp only); (with_reducible show WhileStep2 _ _ _ _ _ _ PySem.Flow.brk _); dsimp only [WhileStep2]) | fail "no step")))
      ((rename Fr _ _ _ _ => F2); (rename News _ _ _ _ => N2))
      refine InvEndG.intro F2 N2 (nx := (sA, listOf us.toArray kk) :: (tA, listOf wt.toArray kt2) :: R) ⟨us, wt, kk, kt2, _, _, rfl, ?_, ?_, (by kst_all)⟩ ho (fun p hp => ?_) (fun p hp => .tail _ (.tail _ (List.mem_append_right _ hp)))
      · rw [stk_seen hx hin]; exact hcs
      · rw [stk_seen hx hin]; exact hct
      · exact List.mem_append_left (bs := own) hp
    · obtain ⟨t, ht⟩ := hcs.getI (j := i) (x := x) (by rw [stk_get, hx]; simp [hin])
      obtain rfl : v = .int x t := Option.some.inj (hv.symm.trans ht)
      (repeat' ((fail_if_success (first | (with_reducible show InvEndG _ _ _ _ _ _) | (with_reducible show wpAny _ _ (PySem.call (PySem.Value.ref _) _) _ _ _) | (with_reducible show wpAny _ _ (PySem.call (PySem.Value.builtin _) _) _ _ _) | (with_reducible show wpAny _ _ (PySem.call (PySem.Value.type _) _) _ _ _) | (with_reducible show wpAny _ _ (subscriptTail _ _ (PySem.Value.ref _) _) _ _ _) | (with_reducible show wpAny _ _ (setItem (PySem.Value.ref _) _ _) _ _ _) | (with_reducible show wpAny _ _ (compareOp _ (PySem.Value.ref _) _) _ _ _) | (with_reducible show wpAny _ _ (compareOp _ _ (PySem.Value.ref _)) _ _ _) | (with_reducible show wpAny _ _ (binaryOp PySem.Operator.Mod _ _) _ _ _) | (with_reducible show wpAny _ _ (truthy (PySem.Value.ref _)) _ _ _) | (with_reducible show wpAny _ _ (exec (PySem.Stmt.While _ _ _ _) _) _ _ _) | (with_reducible show wpAny _ _ (exec (PySem.Stmt.For (PySem.Expr.Tuple _ _ _) _ _ _ _ _) _) _ _ _) | (with_reducible show wpAny _ _ (pyIter _) _ _ _))); (first | walk1 | (k_unfold; (try dsimp only)) | (dsimp only; walk1) | ((try dsimp only); (with_reducible show WhileStep2 _ _ _ _ _ _ PySem.Flow.brk _); dsimp only [WhileStep2]) | fail "no step")))
      refine int_is_ref ?_
      (repeat' ((fail_if_success (first | (with_reducible show InvEndG _ _ _ _ _ _) | (with_reducible show wpAny _ _ (PySem.call (PySem.Value.ref _) _) _ _ _) | (with_reducible show wpAny _ _ (PySem.call (PySem.Value.builtin _) _) _ _ _) | (with_reducible show wpAny _ _ (PySem.call (PySem.Value.type _) _) _ _ _) | (with_reducible show wpAny _ _ (subscriptTail _ _ (PySem.Value.ref _) _) _ _ _) | (with_reducible show wpAny _ _ (setItem (PySem.Value.ref _) _ _) _ _ _) | (with_reducible show wpAny _ _ (compareOp _ (PySem.Value.ref _) _) _ _ _) | (with_reducible show wpAny _ _ (compareOp _ _ (PySem.Value.ref _)) _ _ _) | (with_reducible show wpAny _ _ (binaryOp PySem.Operator.Mod _ _) _ _ _) | (with_reducible show wpAny _ _ (truthy (PySem.Value.ref _)) _ _ _) | (with_reducible show wpAny _ _ (exec (PySem.Stmt.While _ _ _ _) _) _ _ _) | (with_reducible show wpAny _ _ (exec (PySem.Stmt.For (PySem.Expr.Tuple _ _ _) _ _ _ _ _) _) _ _ _) | (with_reducible show wpAny _ _ (pyIter _) _ _ _))); (first | walk1 | (k_unfold; (try dsimp only)) | (dsimp only; walk1) | ((try dsimp only); (with_reducible show WhileStep2 _ _ _ _ _ _ PySem.Flow.brk _); dsimp only [WhileStep2]) | fail "no step")))
      ((rename Fr _ _ _ _ => F2); (rename News _ _ _ _ => N2))
      refine range2_rows F2 N2 ?_
      intro h' tk2 t₁ u₁ v₁ hr F2 N2 hk2
      (repeat' ((fail_if_success (first | (with_reducible show InvEndG _ _ _ _ _ _) | (with_reducible show wpAny _ _ (PySem.call (PySem.Value.ref _) _) _ _ _) | (with_reducible show wpAny _ _ (PySem.call (PySem.Value.builtin _) _) _ _ _) | (with_reducible show wpAny _ _ (PySem.call (PySem.Value.type _) _) _ _ _) | (with_reducible show wpAny _ _ (subscriptTail _ _ (PySem.Value.ref _) _) _ _ _) | (with_reducible show wpAny _ _ (setItem (PySem.Value.ref _) _ _) _ _ _) | (with_reducible show wpAny _ _ (compareOp _ (PySem.Value.ref _) _) _ _ _) | (with_reducible show wpAny _ _ (compareOp _ _ (PySem.Value.ref _)) _ _ _) | (with_reducible show wpAny _ _ (binaryOp PySem.Operator.Mod _ _) _ _ _) | (with_reducible show wpAny _ _ (truthy (PySem.Value.ref _)) _ _ _) | (with_reducible show wpAny _ _ (exec (PySem.Stmt.While _ _ _ _) _) _ _ _) | (with_reducible show wpAny _ _ (exec (PySem.Stmt.For (PySem.Expr.Tuple _ _ _) _ _ _ _ _) _) _ _ _) | (with_reducible show wpAny _ _ (pyIter _) _ _ _))); (first | walk1 | (k_unfold; (try dsimp only)) | (dsimp only; walk1) | ((try dsimp only); (with_reducible show WhileStep2 _ _ _ _ _ _ PySem.Flow.brk _); dsimp only [WhileStep2]) | fail "no step")))
      have hN : ∀ q ∈ R ++ own, q.1 ≠ sA ∧ q.1 ≠ tA := by
        intro q hq
        rcases List.mem_append.mp hq with h9 | h9
        · exact ⟨hRs q h9, hRt q h9⟩
        · exact ⟨ho q h9 sA (.head _), ho q h9 tA (.tail _ (.head _))⟩
      have hRu2 : (u, nulObj) ∈ R ++ own := List.mem_append_left _ hRu
      refine for_range (ns.length - i) (fun j m₁ nx => ∃ us kk c tc t0 t1 tm tn, nx = (sA, listOf us.toArray kk) :: (tA, listOf wt.toArray kt2) :: (R ++ own) ∧ Cells u us (mix (ns.take i) x (i + j) ns) ∧ c = (((ns.take (i + j)).count x : Nat) : Int) ∧
        (∀ e ∈ ([(Str.ofString "s", .ref sA), (Str.ofString "t", .ref tA), (Str.ofString "m", .int (ns.length : Int) tm), (Str.ofString "n", .int (ms.length : Int) tn), (Str.ofString "NULL", .ref u), (Str.ofString "result", .ref r0), (Str.ofString "elem", .int x t1), (Str.ofString "cnt_s", .int c tc), (Str.ofString "cnt_t", .int 0 t0)] : List (Str × Value)), m₁ e.1 = some e.2)) (by exact hh) hr ⟨.inl (by omega), by omega, by omega, by omega, by omega⟩ F2 N2 ?start1 ?turn1 ?done1
      case start1 =>
        refine' ⟨us, kk, _, _, _, _, _, _, rfl, (by rw [Nat.add_zero, mix_start hin]; exact hcs), (by rw [Nat.add_zero, List.count_eq_zero_of_not_mem hin]), (by kst_all)⟩
      case turn1 =>
        clear F2 N2 hcs hv ht hr hk2
        rintro j m₁ _ h tk own2 tj hj ho2 ⟨us, kk, c, tc, t0, t1, tm, tn, rfl, hcs, hc, hps⟩ F1 N2
        have F2 := frBx F1 hps
        clear F1
        dsimp only [kstB] at F2
        rw [List.cons_append, List.cons_append] at N2
        obtain ⟨y, hy⟩ : ∃ y, ns[i + j]? = some y := ⟨_, List.getElem?_eq_getElem (by omega)⟩
        have ek : ((i : Int) + (j : Int)).toNat = i + j := by omega
        have hR2 : ∀ q ∈ (tA, listOf wt.toArray kt2) :: ((R ++ own) ++ own2), q.1 ≠ sA := by
          intro q hq
          rcases List.mem_cons.mp hq with rfl | hq
          · exact hts
          rcases List.mem_append.mp hq with h9 | h9
          · exact (hN q h9).1
          · exact ho2 q h9 sA (.head _)
        (repeat' ((fail_if_success (first | (with_reducible show InvEndG _ _ _ _ _ _) | (with_reducible show wpAny _ _ (PySem.call (PySem.Value.ref _) _) _ _ _) | (with_reducible show wpAny _ _ (PySem.call (PySem.Value.builtin _) _) _ _ _) | (with_reducible show wpAny _ _ (PySem.call (PySem.Value.type _) _) _ _ _) | (with_reducible show wpAny _ _ (subscriptTail _ _ (PySem.Value.ref _) _) _ _ _) | (with_reducible show wpAny _ _ (setItem (PySem.Value.ref _) _ _) _ _ _) | (with_reducible show wpAny _ _ (compareOp _ (PySem.Value.ref _) _) _ _ _) | (with_reducible show wpAny _ _ (compareOp _ _ (PySem.Value.ref _)) _ _ _) | (with_reducible show wpAny _ _ (binaryOp PySem.Operator.Mod _ _) _ _ _) | (with_reducible show wpAny _ _ (truthy (PySem.Value.ref _)) _ _ _) | (with_reducible show wpAny _ _ (exec (PySem.Stmt.While _ _ _ _) _) _ _ _) | (with_reducible show wpAny _ _ (exec (PySem.Stmt.For (PySem.Expr.Tuple _ _ _) _ _ _ _ _) _) _ _ _) | (with_reducible show wpAny _ _ (pyIter _) _ _ _))); (first | walk1 | (k_unfold; (try dsimp only)) | (dsimp only; walk1) | ((try dsimp only); (with_reducible show WhileStep2 _ _ _ _ _ _ PySem.Flow.brk _); dsimp only [WhileStep2]) | fail "no step")))
        have hne0 : ¬ (i + j < i + j ∧ y = x) := fun e9 => Nat.lt_irrefl _ e9.1
        by_cases hy2 : y ∈ ns.take i
        · refine item_led N2 (.head _) (by omega) (by omega) (by rw [ek]; exact hcs.getN (by rw [mix_get, hy]; simp [hy2])) ?_
          (repeat' ((fail_if_success (first | (with_reducible show InvEndG _ _ _ _ _ _) | (with_reducible show wpAny _ _ (PySem.call (PySem.Value.ref _) _) _ _ _) | (with_reducible show wpAny _ _ (PySem.call (PySem.Value.builtin _) _) _ _ _) | (with_reducible show wpAny _ _ (PySem.call (PySem.Value.type _) _) _ _ _) | (with_reducible show wpAny _ _ (subscriptTail _ _ (PySem.Value.ref _) _) _ _ _) | (with_reducible show wpAny _ _ (setItem (PySem.Value.ref _) _ _) _ _ _) | (with_reducible show wpAny _ _ (compareOp _ (PySem.Value.ref _) _) _ _ _) | (with_reducible show wpAny _ _ (compareOp _ _ (PySem.Value.ref _)) _ _ _) | (with_reducible show wpAny _ _ (binaryOp PySem.Operator.Mod _ _) _ _ _) | (with_reducible show wpAny _ _ (truthy (PySem.Value.ref _)) _ _ _) | (with_reducible show wpAny _ _ (exec (PySem.Stmt.While _ _ _ _) _) _ _ _) | (with_reducible show wpAny _ _ (exec (PySem.Stmt.For (PySem.Expr.Tuple _ _ _) _ _ _ _ _) _) _ _ _) | (with_reducible show wpAny _ _ (pyIter _) _ _ _))); (first | walk1 | (k_unfold; (try dsimp only)) | (dsimp only; walk1) | ((try dsimp only); (with_reducible show WhileStep2 _ _ _ _ _ _ PySem.Flow.brk _); dsimp only [WhileStep2]) | fail "no step")))
          refine nul_eq_int (N2 _ (.tail _ (.tail _ (List.mem_append_left _ hRu2)))).1 (by dsimp only [Around.deeper]; omega) ?_
          (repeat' ((fail_if_success (first | (with_reducible show InvEndG _ _ _ _ _ _) | (with_reducible show wpAny _ _ (PySem.call (PySem.Value.ref _) _) _ _ _) | (with_reducible show wpAny _ _ (PySem.call (PySem.Value.builtin _) _) _ _ _) | (with_reducible show wpAny _ _ (PySem.call (PySem.Value.type _) _) _ _ _) | (with_reducible show wpAny _ _ (subscriptTail _ _ (PySem.Value.ref _) _) _ _ _) | (with_reducible show wpAny _ _ (setItem (PySem.Value.ref _) _ _) _ _ _) | (with_reducible show wpAny _ _ (compareOp _ (PySem.Value.ref _) _) _ _ _) | (with_reducible show wpAny _ _ (compareOp _ _ (PySem.Value.ref _)) _ _ _) | (with_reducible show wpAny _ _ (binaryOp PySem.Operator.Mod _ _) _ _ _) | (with_reducible show wpAny _ _ (truthy (PySem.Value.ref _)) _ _ _) | (with_reducible show wpAny _ _ (exec (PySem.Stmt.While _ _ _ _) _) _ _ _) | (with_reducible show wpAny _ _ (exec (PySem.Stmt.For (PySem.Expr.Tuple _ _ _) _ _ _ _ _) _) _ _ _) | (with_reducible show wpAny _ _ (pyIter _) _ _ _))); (first | walk1 | (k_unfold; (try dsimp only)) | (dsimp only; walk1) | ((try dsimp only); (with_reducible show WhileStep2 _ _ _ _ _ _ PySem.Flow.brk _); dsimp only [WhileStep2]) | fail "no step")))
          ((rename Fr _ _ _ _ => F2); (rename News _ _ _ _ => N2))
          refine InvEndG.intro F2 N2 (nx := (sA, listOf us.toArray kk) :: (tA, listOf wt.toArray kt2) :: (R ++ own)) ⟨us, kk, c, _, _, _, _, _, rfl, ?_, ?_, (by kst_all)⟩ ho2 (fun p hp => List.mem_append_left (bs := own2) hp) (fun p hp => .tail _ (.tail _ (List.mem_append_right _ hp)))
          · rw [← Nat.add_assoc, mix_skip hy (.inr hy2)]; exact hcs
          · rw [← Nat.add_assoc, count_take hy, if_neg (fun e9 : y = x => hin (e9 ▸ hy2)), Nat.add_zero]; exact hc
        · obtain ⟨ty, hty⟩ := hcs.getI (j := i + j) (x := y) (by rw [mix_get, hy]; simp [hy2])
          refine item_led N2 (.head _) (by omega) (by omega) (by rw [ek]; exact hty) ?_
          (repeat' ((fail_if_success (first | (with_reducible show InvEndG _ _ _ _ _ _) | (with_reducible show wpAny _ _ (PySem.call (PySem.Value.ref _) _) _ _ _) | (with_reducible show wpAny _ _ (PySem.call (PySem.Value.builtin _) _) _ _ _) | (with_reducible show wpAny _ _ (PySem.call (PySem.Value.type _) _) _ _ _) | (with_reducible show wpAny _ _ (subscriptTail _ _ (PySem.Value.ref _) _) _ _ _) | (with_reducible show wpAny _ _ (setItem (PySem.Value.ref _) _ _) _ _ _) | (with_reducible show wpAny _ _ (compareOp _ (PySem.Value.ref _) _) _ _ _) | (with_reducible show wpAny _ _ (compareOp _ _ (PySem.Value.ref _)) _ _ _) | (with_reducible show wpAny _ _ (binaryOp PySem.Operator.Mod _ _) _ _ _) | (with_reducible show wpAny _ _ (truthy (PySem.Value.ref _)) _ _ _) | (with_reducible show wpAny _ _ (exec (PySem.Stmt.While _ _ _ _) _) _ _ _) | (with_reducible show wpAny _ _ (exec (PySem.Stmt.For (PySem.Expr.Tuple _ _ _) _ _ _ _ _) _) _ _ _) | (with_reducible show wpAny _ _ (pyIter _) _ _ _))); (first | walk1 | (k_unfold; (try dsimp only)) | (dsimp only; walk1) | ((try dsimp only); (with_reducible show WhileStep2 _ _ _ _ _ _ PySem.Flow.brk _); dsimp only [WhileStep2]) | fail "no step")))
          · ((rename Fr _ _ _ _ => F2); (rename News _ _ _ _ => N2))
            (rename y = x => hyx)
            refine set_led F2 N2 (.head hR2) (by omega) (by rw [hcs.length, mix_len]; omega) (by omega) ?_
            intro h' F2 N2
            (repeat' ((fail_if_success (first | (with_reducible show InvEndG _ _ _ _ _ _) | (with_reducible show wpAny _ _ (PySem.call (PySem.Value.ref _) _) _ _ _) | (with_reducible show wpAny _ _ (PySem.call (PySem.Value.builtin _) _) _ _ _) | (with_reducible show wpAny _ _ (PySem.call (PySem.Value.type _) _) _ _ _) | (with_reducible show wpAny _ _ (subscriptTail _ _ (PySem.Value.ref _) _) _ _ _) | (with_reducible show wpAny _ _ (setItem (PySem.Value.ref _) _ _) _ _ _) | (with_reducible show wpAny _ _ (compareOp _ (PySem.Value.ref _) _) _ _ _) | (with_reducible show wpAny _ _ (compareOp _ _ (PySem.Value.ref _)) _ _ _) | (with_reducible show wpAny _ _ (binaryOp PySem.Operator.Mod _ _) _ _ _) | (with_reducible show wpAny _ _ (truthy (PySem.Value.ref _)) _ _ _) | (with_reducible show wpAny _ _ (exec (PySem.Stmt.While _ _ _ _) _) _ _ _) | (with_reducible show wpAny _ _ (exec (PySem.Stmt.For (PySem.Expr.Tuple _ _ _) _ _ _ _ _) _) _ _ _) | (with_reducible show wpAny _ _ (pyIter _) _ _ _))); (first | walk1 | (k_unfold; (try dsimp only)) | (dsimp only; walk1) | ((try dsimp only); (with_reducible show WhileStep2 _ _ _ _ _ _ PySem.Flow.brk _); dsimp only [WhileStep2]) | fail "no step")))
            ((rename Fr _ _ _ _ => F2); (rename News _ _ _ _ => N2))
            rw [ek] at N2
            refine InvEndG.intro F2 N2 (nx := (sA, listOf (us.set (i + j) (.ref u)).toArray kk) :: (tA, listOf wt.toArray kt2) :: (R ++ own)) ⟨us.set (i + j) (.ref u), kk, _, _, _, _, _, _, rfl, ?_, ?_, (by kst_all)⟩ ho2 (fun p hp => List.mem_append_left (bs := own2) hp) (fun p hp => .tail _ (.tail _ (List.mem_append_right _ hp)))
            · rw [← Nat.add_assoc, mix_hit (by rw [hy, hyx])]; exact hcs.strike _
            · rw [← Nat.add_assoc, count_take hy, if_pos hyx, hc]; push_cast; rfl
          · ((rename Fr _ _ _ _ => F2); (rename News _ _ _ _ => N2))
            (rename ¬ y = x => hyx)
            refine InvEndG.intro F2 N2 (nx := (sA, listOf us.toArray kk) :: (tA, listOf wt.toArray kt2) :: (R ++ own)) ⟨us, kk, c, _, _, _, _, _, rfl, ?_, ?_, (by kst_all)⟩ ho2 (fun p hp => List.mem_append_left (bs := own2) hp) (fun p hp => .tail _ (.tail _ (List.mem_append_right _ hp)))
            · rw [← Nat.add_assoc, mix_skip hy (.inl hyx)]; exact hcs
            · rw [← Nat.add_assoc, count_take hy, if_neg hyx, Nat.add_zero]; exact hc
      case done1 =>
        clear F2 N2 hcs hv ht hr hk2
        rintro m₁ _ h tk ⟨us, kk, c, tc, t0, t1, tm, tn, rfl, hcs, hc, hps⟩ F1 N2
        have F2 := frB F1 hps
        clear F1
        dsimp only [kstB] at F2
        rw [show i + (ns.length - i) = ns.length by omega] at hcs hc
        rw [mix_end (Nat.le_refl _)] at hcs
        rw [List.take_of_length_le (Nat.le_refl _)] at hc
        (repeat' ((fail_if_success (first | (with_reducible show InvEndG _ _ _ _ _ _) | (with_reducible show wpAny _ _ (PySem.call (PySem.Value.ref _) _) _ _ _) | (with_reducible show wpAny _ _ (PySem.call (PySem.Value.builtin _) _) _ _ _) | (with_reducible show wpAny _ _ (PySem.call (PySem.Value.type _) _) _ _ _) | (with_reducible show wpAny _ _ (subscriptTail _ _ (PySem.Value.ref _) _) _ _ _) | (with_reducible show wpAny _ _ (setItem (PySem.Value.ref _) _ _) _ _ _) | (with_reducible show wpAny _ _ (compareOp _ (PySem.Value.ref _) _) _ _ _) | (with_reducible show wpAny _ _ (compareOp _ _ (PySem.Value.ref _)) _ _ _) | (with_reducible show wpAny _ _ (binaryOp PySem.Operator.Mod _ _) _ _ _) | (with_reducible show wpAny _ _ (truthy (PySem.Value.ref _)) _ _ _) | (with_reducible show wpAny _ _ (exec (PySem.Stmt.While _ _ _ _) _) _ _ _) | (with_reducible show wpAny _ _ (exec (PySem.Stmt.For (PySem.Expr.Tuple _ _ _) _ _ _ _ _) _) _ _ _) | (with_reducible show wpAny _ _ (pyIter _) _ _ _))); (first | walk1 | (k_unfold; (try dsimp only)) | (dsimp only; walk1) | ((try dsimp only); (with_reducible show WhileStep2 _ _ _ _ _ _ PySem.Flow.brk _); dsimp only [WhileStep2]) | fail "no step")))
        refine wpAny_For ?_
        (repeat' ((fail_if_success (first | (with_reducible show InvEndG _ _ _ _ _ _) | (with_reducible show wpAny _ _ (PySem.call (PySem.Value.ref _) _) _ _ _) | (with_reducible show wpAny _ _ (PySem.call (PySem.Value.builtin _) _) _ _ _) | (with_reducible show wpAny _ _ (PySem.call (PySem.Value.type _) _) _ _ _) | (with_reducible show wpAny _ _ (subscriptTail _ _ (PySem.Value.ref _) _) _ _ _) | (with_reducible show wpAny _ _ (setItem (PySem.Value.ref _) _ _) _ _ _) | (with_reducible show wpAny _ _ (compareOp _ (PySem.Value.ref _) _) _ _ _) | (with_reducible show wpAny _ _ (compareOp _ _ (PySem.Value.ref _)) _ _ _) | (with_reducible show wpAny _ _ (binaryOp PySem.Operator.Mod _ _) _ _ _) | (with_reducible show wpAny _ _ (truthy (PySem.Value.ref _)) _ _ _) | (with_reducible show wpAny _ _ (exec (PySem.Stmt.While _ _ _ _) _) _ _ _) | (with_reducible show wpAny _ _ (exec (PySem.Stmt.For (PySem.Expr.Tuple _ _ _) _ _ _ _ _) _) _ _ _) | (with_reducible show wpAny _ _ (pyIter _) _ _ _))); (first | walk1 | (k_unfold; (try dsimp only)) | (dsimp only; walk1) | ((try dsimp only); (with_reducible show WhileStep2 _ _ _ _ _ _ PySem.Flow.brk _); dsimp only [WhileStep2]) | fail "no step")))
        ((rename Fr _ _ _ _ => F2); (rename News _ _ _ _ => N2))
        refine enum_K F2 N2 (.tail _ (.head _)) ?_
        intro e2 it2 h' F2 N2 he2 hit2 hei2 heL2 hiL2 he02 hi02 hef2
        (repeat' ((fail_if_success (first | (with_reducible show InvEndG _ _ _ _ _ _) | (with_reducible show wpAny _ _ (PySem.call (PySem.Value.ref _) _) _ _ _) | (with_reducible show wpAny _ _ (PySem.call (PySem.Value.builtin _) _) _ _ _) | (with_reducible show wpAny _ _ (PySem.call (PySem.Value.type _) _) _ _ _) | (with_reducible show wpAny _ _ (subscriptTail _ _ (PySem.Value.ref _) _) _ _ _) | (with_reducible show wpAny _ _ (setItem (PySem.Value.ref _) _ _) _ _ _) | (with_reducible show wpAny _ _ (compareOp _ (PySem.Value.ref _) _) _ _ _) | (with_reducible show wpAny _ _ (compareOp _ _ (PySem.Value.ref _)) _ _ _) | (with_reducible show wpAny _ _ (binaryOp PySem.Operator.Mod _ _) _ _ _) | (with_reducible show wpAny _ _ (truthy (PySem.Value.ref _)) _ _ _) | (with_reducible show wpAny _ _ (exec (PySem.Stmt.While _ _ _ _) _) _ _ _) | (with_reducible show wpAny _ _ (exec (PySem.Stmt.For (PySem.Expr.Tuple _ _ _) _ _ _ _ _) _) _ _ _) | (with_reducible show wpAny _ _ (pyIter _) _ _ _))); (first | walk1 | (k_unfold; (try dsimp only)) | (dsimp only; walk1) | ((try dsimp only); (with_reducible show WhileStep2 _ _ _ _ _ _ PySem.Flow.brk _); dsimp only [WhileStep2]) | fail "no step")))
        refine wpAny_pyIter_enum he2 ?_
        refine for_enum (n := ms.length) (l := tA) (vs := wt) (fun j ut m₁ nx => ∃ kt2 d td tc t1 tm tn, nx = (sA, listOf us.toArray kk) :: (tA, listOf ut.toArray kt2) :: (R ++ own) ∧ Cells u ut (mix (ns.take i) x j ms) ∧ d = (((ms.take j).count x : Nat) : Int) ∧
          (∀ e ∈ ([(Str.ofString "s", .ref sA), (Str.ofString "t", .ref tA), (Str.ofString "m", .int (ns.length : Int) tm), (Str.ofString "n", .int (ms.length : Int) tn), (Str.ofString "NULL", .ref u), (Str.ofString "result", .ref r0), (Str.ofString "elem", .int x t1), (Str.ofString "cnt_s", .int c tc), (Str.ofString "cnt_t", .int d td)] : List (Str × Value)), m₁ e.1 = some e.2)) (by exact hh) rfl rfl rfl ?hJl2 he2 hit2 F2 N2 ?start2 hei2 heL2 hiL2 he02 hi02 hef2 ?turn2 ?done2 ?hE2
        case hE2 => first | passes_own | with_unfolding_all passes_own
        case hJl2 =>
          rintro i us m₁ nx ⟨kt2, d, td, tc, t1, tm, tn, rfl, h1, h2, h3⟩
          exact ⟨⟨_, .tail _ (.head _)⟩, by rw [h1.length, mix_len]⟩
        case start2 =>
          refine' ⟨kt2, 0, _, _, _, _, _, rfl, (by rw [mix_zero]; exact hct), (by simp), (by kst_all)⟩
        case turn2 =>
          clear F2 N2 hct he2 hit2
          rintro j v tkj ut m₁ _ h tk' own2 hv ⟨kt2, d, td, tc, t1, tm, tn, rfl, hct, hd2, hps⟩ ho2 F1 N2
          have F2 := frBxx F1 hps
          clear F1
          dsimp only [kstB] at F2
          rw [List.cons_append, List.cons_append] at N2
          have hjl : j < ms.length := by
            have h9 := (List.getElem?_eq_some_iff.mp hv).1
            rw [hct.length, mix_len] at h9
            exact h9
          obtain ⟨y, hy⟩ : ∃ y, ms[j]? = some y := ⟨_, List.getElem?_eq_getElem hjl⟩
          have hR2 : ∀ q ∈ (R ++ own) ++ own2, q.1 ≠ tA := by
            intro q hq
            rcases List.mem_append.mp hq with h9 | h9
            · exact (hN q h9).2
            · exact ho2 q h9 tA (.tail _ (.head _))
          have hne0 : ¬ (j < j ∧ y = x) := fun e9 => Nat.lt_irrefl _ e9.1
          by_cases hy2 : y ∈ ns.take i
          · obtain rfl : v = .ref u := Option.some.inj (hv.symm.trans (hct.getN (by rw [mix_get, hy]; simp [hy2])))
            (repeat' ((fail_if_success (first | (with_reducible show InvEndG _ _ _ _ _ _) | (with_reducible show wpAny _ _ (PySem.call (PySem.Value.ref _) _) _ _ _) | (with_reducible show wpAny _ _ (PySem.call (PySem.Value.builtin _) _) _ _ _) | (with_reducible show wpAny _ _ (PySem.call (PySem.Value.type _) _) _ _ _) | (with_reducible show wpAny _ _ (subscriptTail _ _ (PySem.Value.ref _) _) _ _ _) | (with_reducible show wpAny _ _ (setItem (PySem.Value.ref _) _ _) _ _ _) | (with_reducible show wpAny _ _ (compareOp _ (PySem.Value.ref _) _) _ _ _) | (with_reducible show wpAny _ _ (compareOp _ _ (PySem.Value.ref _)) _ _ _) | (with_reducible show wpAny _ _ (binaryOp PySem.Operator.Mod _ _) _ _ _) | (with_reducible show wpAny _ _ (truthy (PySem.Value.ref _)) _ _ _) | (with_reducible show wpAny _ _ (exec (PySem.Stmt.While _ _ _ _) _) _ _ _) | (with_reducible show wpAny _ _ (exec (PySem.Stmt.For (PySem.Expr.Tuple _ _ _) _ _ _ _ _) _) _ _ _) | (with_reducible show wpAny _ _ (pyIter _) _ _ _))); (first | walk1 | (k_unfold; (try dsimp only)) | (dsimp only; walk1) | ((try dsimp only); (with_reducible show WhileStep2 _ _ _ _ _ _ PySem.Flow.brk _); dsimp only [WhileStep2]) | fail "no step")))
            refine nul_eq_int (N2 _ (.tail _ (.tail _ (List.mem_append_left _ hRu2)))).1 (by dsimp only [Around.deeper]; omega) ?_
            (repeat' ((fail_if_success (first | (with_reducible show InvEndG _ _ _ _ _ _) | (with_reducible show wpAny _ _ (PySem.call (PySem.Value.ref _) _) _ _ _) | (with_reducible show wpAny _ _ (PySem.call (PySem.Value.builtin _) _) _ _ _) | (with_reducible show wpAny _ _ (PySem.call (PySem.Value.type _) _) _ _ _) | (with_reducible show wpAny _ _ (subscriptTail _ _ (PySem.Value.ref _) _) _ _ _) | (with_reducible show wpAny _ _ (setItem (PySem.Value.ref _) _ _) _ _ _) | (with_reducible show wpAny _ _ (compareOp _ (PySem.Value.ref _) _) _ _ _) | (with_reducible show wpAny _ _ (compareOp _ _ (PySem.Value.ref _)) _ _ _) | (with_reducible show wpAny _ _ (binaryOp PySem.Operator.Mod _ _) _ _ _) | (with_reducible show wpAny _ _ (truthy (PySem.Value.ref _)) _ _ _) | (with_reducible show wpAny _ _ (exec (PySem.Stmt.While _ _ _ _) _) _ _ _) | (with_reducible show wpAny _ _ (exec (PySem.Stmt.For (PySem.Expr.Tuple _ _ _) _ _ _ _ _) _) _ _ _) | (with_reducible show wpAny _ _ (pyIter _) _ _ _))); (first | walk1 | (k_unfold; (try dsimp only)) | (dsimp only; walk1) | ((try dsimp only); (with_reducible show WhileStep2 _ _ _ _ _ _ PySem.Flow.brk _); dsimp only [WhileStep2]) | fail "no step")))
            ((rename Fr _ _ _ _ => F2); (rename News _ _ _ _ => N2))
            refine InvEndG.intro F2 N2 (nx := (sA, listOf us.toArray kk) :: (tA, listOf ut.toArray kt2) :: (R ++ own)) ⟨ut, kt2, d, _, _, _, _, _, rfl, ?_, ?_, (by kst_all)⟩ ho2 (fun p hp => List.mem_append_left (bs := own2) hp) (fun p hp => .tail _ (.tail _ (List.mem_append_right _ hp)))
            · rw [mix_skip hy (.inr hy2)]; exact hct
            · rw [count_take hy, if_neg (fun e9 : y = x => hin (e9 ▸ hy2)), Nat.add_zero]; exact hd2
          · obtain ⟨ty, hty⟩ := hct.getI (j := j) (x := y) (by rw [mix_get, hy]; simp [hy2])
            obtain rfl : v = .int y ty := Option.some.inj (hv.symm.trans hty)
            (repeat' ((fail_if_success (first | (with_reducible show InvEndG _ _ _ _ _ _) | (with_reducible show wpAny _ _ (PySem.call (PySem.Value.ref _) _) _ _ _) | (with_reducible show wpAny _ _ (PySem.call (PySem.Value.builtin _) _) _ _ _) | (with_reducible show wpAny _ _ (PySem.call (PySem.Value.type _) _) _ _ _) | (with_reducible show wpAny _ _ (subscriptTail _ _ (PySem.Value.ref _) _) _ _ _) | (with_reducible show wpAny _ _ (setItem (PySem.Value.ref _) _ _) _ _ _) | (with_reducible show wpAny _ _ (compareOp _ (PySem.Value.ref _) _) _ _ _) | (with_reducible show wpAny _ _ (compareOp _ _ (PySem.Value.ref _)) _ _ _) | (with_reducible show wpAny _ _ (binaryOp PySem.Operator.Mod _ _) _ _ _) | (with_reducible show wpAny _ _ (truthy (PySem.Value.ref _)) _ _ _) | (with_reducible show wpAny _ _ (exec (PySem.Stmt.While _ _ _ _) _) _ _ _) | (with_reducible show wpAny _ _ (exec (PySem.Stmt.For (PySem.Expr.Tuple _ _ _) _ _ _ _ _) _) _ _ _) | (with_reducible show wpAny _ _ (pyIter _) _ _ _))); (first | walk1 | (k_unfold; (try dsimp only)) | (dsimp only; walk1) | ((try dsimp only); (with_reducible show WhileStep2 _ _ _ _ _ _ PySem.Flow.brk _); dsimp only [WhileStep2]) | fail "no step")))
            · ((rename Fr _ _ _ _ => F2); (rename News _ _ _ _ => N2))
              (rename y = x => hyx)
              refine set_led F2 N2 (.tail (Ne.symm hts) (.head hR2)) (by omega) (by rw [hct.length, mix_len]; omega) (by omega) ?_
              intro h' F2 N2
              (repeat' ((fail_if_success (first | (with_reducible show InvEndG _ _ _ _ _ _) | (with_reducible show wpAny _ _ (PySem.call (PySem.Value.ref _) _) _ _ _) | (with_reducible show wpAny _ _ (PySem.call (PySem.Value.builtin _) _) _ _ _) | (with_reducible show wpAny _ _ (PySem.call (PySem.Value.type _) _) _ _ _) | (with_reducible show wpAny _ _ (subscriptTail _ _ (PySem.Value.ref _) _) _ _ _) | (with_reducible show wpAny _ _ (setItem (PySem.Value.ref _) _ _) _ _ _) | (with_reducible show wpAny _ _ (compareOp _ (PySem.Value.ref _) _) _ _ _) | (with_reducible show wpAny _ _ (compareOp _ _ (PySem.Value.ref _)) _ _ _) | (with_reducible show wpAny _ _ (binaryOp PySem.Operator.Mod _ _) _ _ _) | (with_reducible show wpAny _ _ (truthy (PySem.Value.ref _)) _ _ _) | (with_reducible show wpAny _ _ (exec (PySem.Stmt.While _ _ _ _) _) _ _ _) | (with_reducible show wpAny _ _ (exec (PySem.Stmt.For (PySem.Expr.Tuple _ _ _) _ _ _ _ _) _) _ _ _) | (with_reducible show wpAny _ _ (pyIter _) _ _ _))); (first | walk1 | (k_unfold; (try dsimp only)) | (dsimp only; walk1) | ((try dsimp only); (with_reducible show WhileStep2 _ _ _ _ _ _ PySem.Flow.brk _); dsimp only [WhileStep2]) | fail "no step")))
              ((rename Fr _ _ _ _ => F2); (rename News _ _ _ _ => N2))
              rw [show ((j : Int)).toNat = j from Int.toNat_natCast j] at N2
              refine InvEndG.intro F2 N2 (nx := (sA, listOf us.toArray kk) :: (tA, listOf (ut.set j (.ref u)).toArray kt2) :: (R ++ own)) ⟨ut.set j (.ref u), kt2, _, _, _, _, _, _, rfl, ?_, ?_, (by kst_all)⟩ ho2 (fun p hp => List.mem_append_left (bs := own2) hp) (fun p hp => .tail _ (.tail _ (List.mem_append_right _ hp)))
              · rw [mix_hit (by rw [hy, hyx])]; exact hct.strike _
              · rw [count_take hy, if_pos hyx, hd2]; push_cast; rfl
            · ((rename Fr _ _ _ _ => F2); (rename News _ _ _ _ => N2))
              (rename ¬ y = x => hyx)
              refine InvEndG.intro F2 N2 (nx := (sA, listOf us.toArray kk) :: (tA, listOf ut.toArray kt2) :: (R ++ own)) ⟨ut, kt2, d, _, _, _, _, _, rfl, ?_, ?_, (by kst_all)⟩ ho2 (fun p hp => List.mem_append_left (bs := own2) hp) (fun p hp => .tail _ (.tail _ (List.mem_append_right _ hp)))
              · rw [mix_skip hy (.inl hyx)]; exact hct
              · rw [count_take hy, if_neg hyx, Nat.add_zero]; exact hd2
        case done2 =>
          clear F2 N2 hct he2 hit2
          rintro ut m₁ _ h tk ⟨kt2, d, td, tc, t1, tm, tn, rfl, hct, hd2, hps⟩ F1 N2
          have F2 := frB F1 hps
          clear F1
          dsimp only [kstB] at F2
          rw [mix_end (Nat.le_refl _)] at hct
          rw [List.take_of_length_le (Nat.le_refl _)] at hd2
          have hcd : c = d := by rw [hc, hd2, hp.count_eq]
          (repeat' ((fail_if_success (first | (with_reducible show InvEndG _ _ _ _ _ _) | (with_reducible show wpAny _ _ (PySem.call (PySem.Value.ref _) _) _ _ _) | (with_reducible show wpAny _ _ (PySem.call (PySem.Value.builtin _) _) _ _ _) | (with_reducible show wpAny _ _ (PySem.call (PySem.Value.type _) _) _ _ _) | (with_reducible show wpAny _ _ (subscriptTail _ _ (PySem.Value.ref _) _) _ _ _) | (with_reducible show wpAny _ _ (setItem (PySem.Value.ref _) _ _) _ _ _) | (with_reducible show wpAny _ _ (compareOp _ (PySem.Value.ref _) _) _ _ _) | (with_reducible show wpAny _ _ (compareOp _ _ (PySem.Value.ref _)) _ _ _) | (with_reducible show wpAny _ _ (binaryOp PySem.Operator.Mod _ _) _ _ _) | (with_reducible show wpAny _ _ (truthy (PySem.Value.ref _)) _ _ _) | (with_reducible show wpAny _ _ (exec (PySem.Stmt.While _ _ _ _) _) _ _ _) | (with_reducible show wpAny _ _ (exec (PySem.Stmt.For (PySem.Expr.Tuple _ _ _) _ _ _ _ _) _) _ _ _) | (with_reducible show wpAny _ _ (pyIter _) _ _ _))); (first | walk1 | (k_unfold; (try dsimp only)) | (dsimp only; walk1) | ((try dsimp only); (with_reducible show WhileStep2 _ _ _ _ _ _ PySem.Flow.brk _); dsimp only [WhileStep2]) | fail "no step")))
          · exact absurd hcd (by assumption)
          · ((rename Fr _ _ _ _ => F2); (rename News _ _ _ _ => N2))
            refine InvEndG.intro F2 N2 (nx := (sA, listOf us.toArray kk) :: (tA, listOf ut.toArray kt2) :: R) ⟨us, ut, kk, kt2, _, _, rfl, ?_, ?_, (by kst_all)⟩ ho (fun p hp => List.mem_append_left (bs := own) hp) (fun p hp => .tail _ (.tail _ (List.mem_append_right _ hp)))
            · rw [List.take_add_one, hx]; exact hcs
            · rw [List.take_add_one, hx]; exact hct
  case done =>
    clear F2 N2
    rintro us m₁ _ h tk ⟨wt, kk, kt2, tm, tn, rfl, hcs, hct, hps⟩ F1 N2
    have F2 := frB F1 hps
    clear F1
    dsimp only [kstB] at F2
    rw [List.take_of_length_le (Nat.le_refl _)] at hct
    (repeat' ((fail_if_success (first | (with_reducible show InvEndG _ _ _ _ _ _) | (with_reducible show wpAny _ _ (PySem.call (PySem.Value.ref _) _) _ _ _) | (with_reducible show wpAny _ _ (PySem.call (PySem.Value.builtin _) _) _ _ _) | (with_reducible show wpAny _ _ (PySem.call (PySem.Value.type _) _) _ _ _) | (with_reducible show wpAny _ _ (subscriptTail _ _ (PySem.Value.ref _) _) _ _ _) | (with_reducible show wpAny _ _ (setItem (PySem.Value.ref _) _ _) _ _ _) | (with_reducible show wpAny _ _ (compareOp _ (PySem.Value.ref _) _) _ _ _) | (with_reducible show wpAny _ _ (compareOp _ _ (PySem.Value.ref _)) _ _ _) | (with_reducible show wpAny _ _ (binaryOp PySem.Operator.Mod _ _) _ _ _) | (with_reducible show wpAny _ _ (truthy (PySem.Value.ref _)) _ _ _) | (with_reducible show wpAny _ _ (exec (PySem.Stmt.While _ _ _ _) _) _ _ _) | (with_reducible show wpAny _ _ (exec (PySem.Stmt.For (PySem.Expr.Tuple _ _ _) _ _ _ _ _) _) _ _ _) | (with_reducible show wpAny _ _ (pyIter _) _ _ _))); (first | walk1 | (k_unfold; (try dsimp only)) | (dsimp only; walk1) | ((try dsimp only); (with_reducible show WhileStep2 _ _ _ _ _ _ PySem.Flow.brk _); dsimp only [WhileStep2]) | fail "no step")))
    refine wpAny_For ?_
    (repeat' ((fail_if_success (first | (with_reducible show InvEndG _ _ _ _ _ _) | (with_reducible show wpAny _ _ (PySem.call (PySem.Value.ref _) _) _ _ _) | (with_reducible show wpAny _ _ (PySem.call (PySem.Value.builtin _) _) _ _ _) | (with_reducible show wpAny _ _ (PySem.call (PySem.Value.type _) _) _ _ _) | (with_reducible show wpAny _ _ (subscriptTail _ _ (PySem.Value.ref _) _) _ _ _) | (with_reducible show wpAny _ _ (setItem (PySem.Value.ref _) _ _) _ _ _) | (with_reducible show wpAny _ _ (compareOp _ (PySem.Value.ref _) _) _ _ _) | (with_reducible show wpAny _ _ (compareOp _ _ (PySem.Value.ref _)) _ _ _) | (with_reducible show wpAny _ _ (binaryOp PySem.Operator.Mod _ _) _ _ _) | (with_reducible show wpAny _ _ (truthy (PySem.Value.ref _)) _ _ _) | (with_reducible show wpAny _ _ (exec (PySem.Stmt.While _ _ _ _) _) _ _ _) | (with_reducible show wpAny _ _ (exec (PySem.Stmt.For (PySem.Expr.Tuple _ _ _) _ _ _ _ _) _) _ _ _) | (with_reducible show wpAny _ _ (pyIter _) _ _ _))); (first | walk1 | (k_unfold; (try dsimp only)) | (dsimp only; walk1) | ((try dsimp only); (with_reducible show WhileStep2 _ _ _ _ _ _ PySem.Flow.brk _); dsimp only [WhileStep2]) | fail "no step")))
    ((rename Fr _ _ _ _ => F2); (rename News _ _ _ _ => N2))
    refine enum_K F2 N2 (.tail _ (.head _)) ?_
    intro e2 it2 h' F2 N2 he2 hit2 hei2 heL2 hiL2 he02 hi02 hef2
    (repeat' ((fail_if_success (first | (with_reducible show InvEndG _ _ _ _ _ _) | (with_reducible show wpAny _ _ (PySem.call (PySem.Value.ref _) _) _ _ _) | (with_reducible show wpAny _ _ (PySem.call (PySem.Value.builtin _) _) _ _ _) | (with_reducible show wpAny _ _ (PySem.call (PySem.Value.type _) _) _ _ _) | (with_reducible show wpAny _ _ (subscriptTail _ _ (PySem.Value.ref _) _) _ _ _) | (with_reducible show wpAny _ _ (setItem (PySem.Value.ref _) _ _) _ _ _) | (with_reducible show wpAny _ _ (compareOp _ (PySem.Value.ref _) _) _ _ _) | (with_reducible show wpAny _ _ (compareOp _ _ (PySem.Value.ref _)) _ _ _) | (with_reducible show wpAny _ _ (binaryOp PySem.Operator.Mod _ _) _ _ _) | (with_reducible show wpAny _ _ (truthy (PySem.Value.ref _)) _ _ _) | (with_reducible show wpAny _ _ (exec (PySem.Stmt.While _ _ _ _) _) _ _ _) | (with_reducible show wpAny _ _ (exec (PySem.Stmt.For (PySem.Expr.Tuple _ _ _) _ _ _ _ _) _) _ _ _) | (with_reducible show wpAny _ _ (pyIter _) _ _ _))); (first | walk1 | (k_unfold; (try dsimp only)) | (dsimp only; walk1) | ((try dsimp only); (with_reducible show WhileStep2 _ _ _ _ _ _ PySem.Flow.brk _); dsimp only [WhileStep2]) | fail "no step")))
    refine wpAny_pyIter_enum he2 ?_
    refine for_enum (n := ms.length) (l := tA) (vs := wt) (fun j ut m₁ nx => ∃ tm tn, nx = (sA, listOf us.toArray kk) :: (tA, listOf wt.toArray kt2) :: R ∧ ut = wt ∧
      (∀ e ∈ ([(Str.ofString "s", .ref sA), (Str.ofString "t", .ref tA), (Str.ofString "m", .int (ns.length : Int) tm), (Str.ofString "n", .int (ms.length : Int) tn), (Str.ofString "NULL", .ref u), (Str.ofString "result", .ref r0)] : List (Str × Value)), m₁ e.1 = some e.2)) (by exact hh) rfl rfl rfl ?hJl2 he2 hit2 F2 N2 ?start2 hei2 heL2 hiL2 he02 hi02 hef2 ?turn2 ?done2 ?hE2
    case hE2 => first | passes_own | with_unfolding_all passes_own
    case hJl2 =>
      rintro i ut m₁ nx ⟨tm, tn, rfl, h1, h3⟩
      subst h1
      exact ⟨⟨_, .tail _ (.head _)⟩, by rw [hct.length, stk_len]⟩
    case start2 =>
      refine' ⟨_, _, rfl, rfl, (by kst_all)⟩
    case turn2 =>
      clear F2 N2 he2 hit2
      rintro j v tkj ut m₁ _ h tk' own2 hv ⟨tm, tn, rfl, hut, hps⟩ ho2 F1 N2
      rw [hut] at hv
      have F2 := frBxx F1 hps
      clear F1
      dsimp only [kstB] at F2
      rw [List.cons_append, List.cons_append] at N2
      have hjl : j < ms.length := by
        have h9 := (List.getElem?_eq_some_iff.mp hv).1
        rw [hct.length, stk_len] at h9
        exact h9
      obtain ⟨y, hy⟩ : ∃ y, ms[j]? = some y := ⟨_, List.getElem?_eq_getElem hjl⟩
      have hyn : y ∈ ns := hp.mem_iff.mpr (List.mem_of_getElem? hy)
      obtain rfl : v = .ref u := Option.some.inj (hv.symm.trans (hct.getN (by rw [stk_get, hy]; simp [hyn])))
      (repeat' ((fail_if_success (first | (with_reducible show InvEndG _ _ _ _ _ _) | (with_reducible show wpAny _ _ (PySem.call (PySem.Value.ref _) _) _ _ _) | (with_reducible show wpAny _ _ (PySem.call (PySem.Value.builtin _) _) _ _ _) | (with_reducible show wpAny _ _ (PySem.call (PySem.Value.type _) _) _ _ _) | (with_reducible show wpAny _ _ (subscriptTail _ _ (PySem.Value.ref _) _) _ _ _) | (with_reducible show wpAny _ _ (setItem (PySem.Value.ref _) _ _) _ _ _) | (with_reducible show wpAny _ _ (compareOp _ (PySem.Value.ref _) _) _ _ _) | (with_reducible show wpAny _ _ (compareOp _ _ (PySem.Value.ref _)) _ _ _) | (with_reducible show wpAny _ _ (binaryOp PySem.Operator.Mod _ _) _ _ _) | (with_reducible show wpAny _ _ (truthy (PySem.Value.ref _)) _ _ _) | (with_reducible show wpAny _ _ (exec (PySem.Stmt.While _ _ _ _) _) _ _ _) | (with_reducible show wpAny _ _ (exec (PySem.Stmt.For (PySem.Expr.Tuple _ _ _) _ _ _ _ _) _) _ _ _) | (with_reducible show wpAny _ _ (pyIter _) _ _ _))); (first | walk1 | (k_unfold; (try dsimp only)) | (dsimp only; walk1) | ((try dsimp only); (with_reducible show WhileStep2 _ _ _ _ _ _ PySem.Flow.brk _); dsimp only [WhileStep2]) | fail "no step")))
      refine wpAny_is_ref_self ?_
      (repeat' ((fail_if_success (first | (with_reducible show InvEndG _ _ _ _ _ _) | (with_reducible show wpAny _ _ (PySem.call (PySem.Value.ref _) _) _ _ _) | (with_reducible show wpAny _ _ (PySem.call (PySem.Value.builtin _) _) _ _ _) | (with_reducible show wpAny _ _ (PySem.call (PySem.Value.type _) _) _ _ _) | (with_reducible show wpAny _ _ (subscriptTail _ _ (PySem.Value.ref _) _) _ _ _) | (with_reducible show wpAny _ _ (setItem (PySem.Value.ref _) _ _) _ _ _) | (with_reducible show wpAny _ _ (compareOp _ (PySem.Value.ref _) _) _ _ _) | (with_reducible show wpAny _ _ (compareOp _ _ (PySem.Value.ref _)) _ _ _) | (with_reducible show wpAny _ _ (binaryOp PySem.Operator.Mod _ _) _ _ _) | (with_reducible show wpAny _ _ (truthy (PySem.Value.ref _)) _ _ _) | (with_reducible show wpAny _ _ (exec (PySem.Stmt.While _ _ _ _) _) _ _ _) | (with_reducible show wpAny _ _ (exec (PySem.Stmt.For (PySem.Expr.Tuple _ _ _) _ _ _ _ _) _) _ _ _) | (with_reducible show wpAny _ _ (pyIter _) _ _ _))); (first | walk1 | (k_unfold; (try dsimp only)) | (dsimp only; walk1) | ((try dsimp only); (with_reducible show WhileStep2 _ _ _ _ _ _ PySem.Flow.brk _); dsimp only [WhileStep2]) | fail "no step")))
      ((rename Fr _ _ _ _ => F2); (rename News _ _ _ _ => N2))
      exact InvEndG.intro F2 N2 (nx := (sA, listOf us.toArray kk) :: (tA, listOf wt.toArray kt2) :: R) ⟨wt, _, _, rfl, rfl, (by kst_all)⟩ ho2 (fun p hp => List.mem_append_left (bs := own2) hp) (fun p hp => .tail _ (.tail _ (List.mem_append_right _ hp)))
    case done2 =>
      clear F2 N2 he2 hit2
      rintro ut m₁ _ h tk ⟨tm, tn, rfl, hut, hps⟩ F1 N2
      have F2 := frB F1 hps
      clear F1
      dsimp only [kstB] at F2
      (repeat' ((fail_if_success (first | (with_reducible show InvEndG _ _ _ _ _ _) | (with_reducible show wpAny _ _ (PySem.call (PySem.Value.ref _) _) _ _ _) | (with_reducible show wpAny _ _ (PySem.call (PySem.Value.builtin _) _) _ _ _) | (with_reducible show wpAny _ _ (PySem.call (PySem.Value.type _) _) _ _ _) | (with_reducible show wpAny _ _ (subscriptTail _ _ (PySem.Value.ref _) _) _ _ _) | (with_reducible show wpAny _ _ (setItem (PySem.Value.ref _) _ _) _ _ _) | (with_reducible show wpAny _ _ (compareOp _ (PySem.Value.ref _) _) _ _ _) | (with_reducible show wpAny _ _ (compareOp _ _ (PySem.Value.ref _)) _ _ _) | (with_reducible show wpAny _ _ (binaryOp PySem.Operator.Mod _ _) _ _ _) | (with_reducible show wpAny _ _ (truthy (PySem.Value.ref _)) _ _ _) | (with_reducible show wpAny _ _ (exec (PySem.Stmt.While _ _ _ _) _) _ _ _) | (with_reducible show wpAny _ _ (exec (PySem.Stmt.For (PySem.Expr.Tuple _ _ _) _ _ _ _ _) _) _ _ _) | (with_reducible show wpAny _ _ (pyIter _) _ _ _))); (first | walk1 | (k_unfold; (try dsimp only)) | (dsimp only; walk1) | ((try dsimp only); (with_reducible show WhileStep2 _ _ _ _ _ _ PySem.Flow.brk _); dsimp only [WhileStep2]) | fail "no step")))
      (rename News h₀ L _ _ => kN)
      exact ret r0 _ _ (by assumption) (fun q hq => by
        rcases List.mem_cons.mp hq with rfl | hq
        · exact kN _ (.tail _ (.tail _ hRr))
        · exact kN _ (.tail _ (.tail _ (hRn q hq))))
end Mine
end
section
open PySem PySem.W PySem.Calls PyProof.Rows
set_option maxRecDepth 100000
set_option maxHeartbeats 4000000
namespace Mine
/-- the heap's order: no place is less than the one above it -/
def Hp (zs : List It) : Prop := ∀ i a b, 0 < i → zs[i]? = some a → zs[(i - 1) / 2]? = some b → a.lt b = false
theorem swap_perm {zs : List It} {q r : Nat} {x y : It} (hq : q < zs.length) (hr : zs[r]? = some y) (hne : q ≠ r) : ((zs.set q y).set r x).Perm (zs.set q x) := by
  obtain ⟨hr1, hr2⟩ := List.getElem?_eq_some_iff.mp hr
  have h := List.set_set_perm (as := zs.set q x) (i := q) (j := r) (by simpa using hq) (by simpa using hr1)
  have e1 : (zs.set q x)[q]'(by simpa using hq) = x := by simp
  have e2 : (zs.set q x)[r]'(by simpa using hr1) = y := by rw [List.getElem_set_ne hne]; exact hr2
  rw [e1, e2, List.set_set] at h
  exact h
theorem sdL_perm (x : It) : ∀ (f : Nat) (zs : List It) (q : Nat), q < zs.length → (sdL x f zs q).Perm (zs.set q x)
  | 0, zs, q, _ => .refl _
  | f + 1, zs, q, hq => by
    unfold sdL
    split
    · exact .refl _
    · rename_i h0
      have hp : (q - 1) / 2 < zs.length := by omega
      rw [List.getElem?_eq_getElem hp]
      dsimp only
      split
      · refine (sdL_perm x f _ _ (by simpa using hp)).trans (swap_perm hq (List.getElem?_eq_getElem hp) (by omega))
      · exact .refl _
theorem hpush_perm (zs : List It) (x : It) : (hpush zs x).Perm (x :: zs) := by
  unfold hpush
  refine (sdL_perm x _ _ _ (by simp)).trans ?_
  rw [List.set_append_right _ _ (Nat.le_refl _)]
  simp
theorem suPick_ne (zs : List It) (q : Nat) : suPick zs q ≠ q := by
  unfold suPick
  split
  · split <;> omega
  · omega
theorem suL_perm (x : It) : ∀ (f : Nat) (zs : List It) (q : Nat), q < zs.length → (suL f zs q).2 < zs.length ∧ ((suL f zs q).1.set (suL f zs q).2 x).Perm (zs.set q x)
  | 0, zs, q, hq => ⟨hq, .refl _⟩
  | f + 1, zs, q, hq => by
    cases hy : zs[suPick zs q]? with
    | none =>
      have e : suL (f + 1) zs q = (zs, q) := by show (match zs[suPick zs q]? with | some y => suL f (zs.set q y) (suPick zs q) | none => (zs, q)) = _; rw [hy]
      rw [e]; exact ⟨hq, .refl _⟩
    | some y =>
      rw [suL_step rfl hy]
      have hc : suPick zs q < zs.length := (List.getElem?_eq_some_iff.mp hy).1
      have ih := suL_perm x f (zs.set q y) (suPick zs q) (by simpa using hc)
      exact ⟨by simpa using ih.1, ih.2.trans (swap_perm hq hy (Ne.symm (suPick_ne zs q)))⟩
theorem suAll_perm (r : List It) (x : It) : (suAll (x :: r) x).Perm (x :: r) := by
  unfold suAll
  have h := suL_perm x (x :: r).length (x :: r) 0 (by simp)
  dsimp only
  refine (sdL_perm x _ _ _ (by rw [List.length_set, suL_len]; exact h.1)).trans ?_
  rw [List.set_set]
  exact h.2
theorem hpop_perm (zs : List It) (x : It) : ((hpop zs x).1 :: (hpop zs x).2).Perm (x :: zs) := by
  cases zs with
  | nil => exact .refl _
  | cons y r => exact ((suAll_perm r x).cons y).trans (.swap x y r)
theorem le_trans {a b c : It} (h1 : b.lt a = false) (h2 : c.lt b = false) : c.lt a = false := by
  unfold It.lt at *
  simp only [decide_eq_false_iff_not] at *
  omega
theorem lt_asymm {a b : It} (h : a.lt b = true) : b.lt a = false := by
  unfold It.lt at *
  simp only [decide_eq_false_iff_not, decide_eq_true_eq] at *
  omega
/-- a heap with a hole at q -/
structure Hole (zs : List It) (q : Nat) : Prop where
  one : ∀ i a b, 0 < i → i ≠ q → (i - 1) / 2 ≠ q → zs[i]? = some a → zs[(i - 1) / 2]? = some b → a.lt b = false
  two : ∀ c a b, 0 < q → 0 < c → (c - 1) / 2 = q → zs[c]? = some a → zs[(q - 1) / 2]? = some b → a.lt b = false
theorem sdL_hp {x : It} : ∀ (f : Nat) (zs : List It) (q : Nat), q ≤ f → q < zs.length → Hole zs q → (∀ c a, 0 < c → (c - 1) / 2 = q → zs[c]? = some a → a.lt x = false) → Hp (sdL x f zs q) := by
  have fin : ∀ (zs : List It) (q : Nat), q < zs.length → Hole zs q → (∀ c a, 0 < c → (c - 1) / 2 = q → zs[c]? = some a → a.lt x = false) → (∀ b, 0 < q → zs[(q - 1) / 2]? = some b → x.lt b = false) → Hp (zs.set q x) := by
    intro zs q hq H hx hp i a b hi ha hb
    by_cases e1 : i = q
    · subst e1
      rw [List.getElem?_set_self hq] at ha
      rw [List.getElem?_set_ne (by omega)] at hb
      rw [← Option.some.inj ha]; exact hp b hi hb
    · rw [List.getElem?_set_ne (Ne.symm e1)] at ha
      by_cases e2 : (i - 1) / 2 = q
      · rw [e2, List.getElem?_set_self hq] at hb
        rw [← Option.some.inj hb]; exact hx i a hi e2 ha
      · rw [List.getElem?_set_ne (Ne.symm e2)] at hb
        exact H.one i a b hi e1 e2 ha hb
  intro f
  induction f with
  | zero => intro zs q hf hq H hx; exact fin zs q hq H hx (fun b h => by omega)
  | succ f ih =>
    intro zs q hf hq H hx
    unfold sdL
    split
    · exact fin zs q hq H hx (fun b h => by omega)
    · rename_i h0
      have hp : (q - 1) / 2 < zs.length := by omega
      obtain ⟨par, hpar⟩ : ∃ par, zs[(q - 1) / 2]? = some par := ⟨_, List.getElem?_eq_getElem hp⟩
      rw [hpar]
      dsimp only
      split
      · rename_i hlt
        refine ih _ _ (by omega) (by simpa using hp) ⟨?_, ?_⟩ ?_
        · intro i a b hi e1 e2 ha hb
          have e3 : i ≠ q := fun e => e2 (by rw [e])
          rw [List.getElem?_set_ne (Ne.symm e3)] at ha
          by_cases e4 : (i - 1) / 2 = q
          · rw [e4, List.getElem?_set_self hq] at hb
            rw [← Option.some.inj hb]; exact H.two i a par (by omega) hi e4 ha hpar
          · rw [List.getElem?_set_ne (Ne.symm e4)] at hb
            exact H.one i a b hi e3 e4 ha hb
        · intro c a b hq2 hc e1 ha hb
          rw [List.getElem?_set_ne (by omega)] at hb
          have h1 : par.lt b = false := H.one ((q - 1) / 2) par b hq2 (by omega) (by omega) hpar hb
          by_cases e2 : c = q
          · rw [e2, List.getElem?_set_self hq] at ha
            rw [← Option.some.inj ha]; exact h1
          · rw [List.getElem?_set_ne (Ne.symm e2)] at ha
            exact le_trans h1 (H.one c a par hc e2 (by omega) ha (by rw [e1]; exact hpar))
        · intro c a hc e1 ha
          by_cases e2 : c = q
          · rw [e2, List.getElem?_set_self hq] at ha
            rw [← Option.some.inj ha]; exact lt_asymm hlt
          · rw [List.getElem?_set_ne (Ne.symm e2)] at ha
            exact le_trans (lt_asymm hlt) (H.one c a par hc e2 (by omega) ha (by rw [e1]; exact hpar))
      · rename_i hlt
        refine fin zs q hq H hx (fun b h hb => ?_)
        rw [hpar] at hb
        rw [← Option.some.inj hb]; simpa using hlt
theorem suL_hole : ∀ (f : Nat) (zs : List It) (q : Nat), zs.length ≤ f + q → q < zs.length → Hole zs q → Hole (suL f zs q).1 (suL f zs q).2 ∧ (suL f zs q).2 < zs.length ∧ zs.length ≤ 2 * (suL f zs q).2 + 1
  | 0, zs, q, hf, hq, H => by omega
  | f + 1, zs, q, hf, hq, H => by
    cases hy : zs[suPick zs q]? with
    | none =>
      have e : suL (f + 1) zs q = (zs, q) := by show (match zs[suPick zs q]? with | some y => suL f (zs.set q y) (suPick zs q) | none => (zs, q)) = _; rw [hy]
      rw [e]
      refine ⟨H, hq, ?_⟩
      have h1 := List.getElem?_eq_none_iff.mp hy
      by_cases h2 : zs.length ≤ 2 * q + 2
      · rw [suPick_last h2] at h1; exact h1
      · have h3 : suPick zs q ≤ 2 * q + 2 := by
          unfold suPick
          split
          · split <;> omega
          · omega
        omega
    | some y =>
      rw [suL_step rfl hy]
      have hc : suPick zs q < zs.length := (List.getElem?_eq_some_iff.mp hy).1
      have hcq : suPick zs q = 2 * q + 1 ∨ suPick zs q = 2 * q + 2 := by
        unfold suPick
        split
        · split <;> omega
        · omega
      have hsib : ∀ d a, 0 < d → (d - 1) / 2 = q → zs[d]? = some a → a.lt y = false := by
        intro d a hd e ha
        have hdl := (List.getElem?_eq_some_iff.mp ha).1
        by_cases h2 : zs.length ≤ 2 * q + 2
        · have : d = suPick zs q := by rw [suPick_last h2]; omega
          rw [this, hy] at ha
          rw [← Option.some.inj ha]; unfold It.lt; simp
        · obtain ⟨u, hu⟩ : ∃ u, zs[2 * q + 1]? = some u := ⟨_, List.getElem?_eq_getElem (by omega)⟩
          obtain ⟨v, hv⟩ : ∃ v, zs[2 * q + 2]? = some v := ⟨_, List.getElem?_eq_getElem (by omega)⟩
          have hpk := suPick_two hu hv
          by_cases huv : u.lt v = true
          · rw [if_pos huv] at hpk
            rw [hpk, hu] at hy
            have e9 : u = y := Option.some.inj hy
            rcases (by omega : d = 2 * q + 1 ∨ d = 2 * q + 2) with h | h
            · rw [h, hu] at ha; rw [← Option.some.inj ha, e9]; unfold It.lt; simp
            · rw [h, hv] at ha; rw [← Option.some.inj ha, ← e9]; exact lt_asymm huv
          · rw [if_neg huv] at hpk
            rw [hpk, hv] at hy
            have e9 : v = y := Option.some.inj hy
            rcases (by omega : d = 2 * q + 1 ∨ d = 2 * q + 2) with h | h
            · rw [h, hu] at ha; rw [← Option.some.inj ha, ← e9]; simpa using huv
            · rw [h, hv] at ha; rw [← Option.some.inj ha, e9]; unfold It.lt; simp
      have ih := suL_hole f (zs.set q y) (suPick zs q) (by rw [List.length_set]; omega) (by simpa using hc) ⟨?_, ?_⟩
      · rw [List.length_set] at ih; exact ih
      · intro i a b hi e1 e2 ha hb
        by_cases e3 : i = q
        · subst e3
          rw [List.getElem?_set_self hq] at ha
          rw [List.getElem?_set_ne (by omega)] at hb
          rw [← Option.some.inj ha]
          exact H.two (suPick zs i) y b hi (by omega) (by omega) hy hb
        · rw [List.getElem?_set_ne (Ne.symm e3)] at ha
          by_cases e4 : (i - 1) / 2 = q
          · rw [e4, List.getElem?_set_self hq] at hb
            rw [← Option.some.inj hb]; exact hsib i a hi e4 ha
          · rw [List.getElem?_set_ne (Ne.symm e4)] at hb
            exact H.one i a b hi e3 e4 ha hb
      · intro d a b hq2 hd e1 ha hb
        rw [show (suPick zs q - 1) / 2 = q by omega, List.getElem?_set_self hq] at hb
        rw [List.getElem?_set_ne (by omega)] at ha
        rw [← Option.some.inj hb]
        exact H.one d a y hd (by omega) (by omega) ha (by rw [e1]; exact hy)
theorem hpush_hp {zs : List It} {x : It} (h : Hp zs) : Hp (hpush zs x) := by
  unfold hpush
  refine sdL_hp _ _ _ (by simp) (by simp) ⟨?_, ?_⟩ ?_
  · intro i a b hi e1 e2 ha hb
    have hil := (List.getElem?_eq_some_iff.mp ha).1
    rw [List.length_append, List.length_singleton] at hil
    rw [List.getElem?_append_left (by omega)] at ha hb
    exact h i a b hi ha hb
  · intro c a b hq hc e1 ha
    have := (List.getElem?_eq_some_iff.mp ha).1
    rw [List.length_append, List.length_singleton] at this
    omega
  · intro c a hc e1 ha
    have := (List.getElem?_eq_some_iff.mp ha).1
    rw [List.length_append, List.length_singleton] at this
    omega
theorem hpop_hp {zs : List It} {x : It} (h : Hp (zs ++ [x])) : Hp (hpop zs x).2 := by
  cases zs with
  | nil => intro i a b hi ha; exact absurd ha (by simp [hpop])
  | cons y r =>
    show Hp (suAll (x :: r) x)
    have H : Hole (x :: r) 0 := by
      refine ⟨?_, fun c a b hq => absurd hq (by omega)⟩
      intro i a b hi e1 e2 ha hb
      have hil := (List.getElem?_eq_some_iff.mp ha).1
      obtain ⟨i', rfl⟩ : ∃ k, i = k + 1 := ⟨i - 1, by omega⟩
      obtain ⟨j', hj⟩ : ∃ k, (i' + 1 - 1) / 2 = k + 1 := ⟨(i' + 1 - 1) / 2 - 1, by omega⟩
      have ha2 : (y :: r ++ [x])[i' + 1]? = some a := by
        rw [List.getElem?_append_left (by simpa using hil)]; simpa using ha
      have hb2 : (y :: r ++ [x])[(i' + 1 - 1) / 2]? = some b := by
        have := (List.getElem?_eq_some_iff.mp hb).1
        rw [List.getElem?_append_left (by simpa using this), hj]
        rw [hj] at hb; simpa using hb
      exact h (i' + 1) a b hi ha2 hb2
    obtain ⟨h1, h2, h3⟩ := suL_hole (x :: r).length (x :: r) 0 (by omega) (by simp) H
    unfold suAll
    dsimp only
    have hl := suL_len (x :: r).length (x :: r) 0
    refine sdL_hp _ _ _ (by rw [List.length_set, hl]; omega) (by rw [List.length_set, hl]; exact h2) ⟨?_, ?_⟩ ?_
    · intro i a b hi e1 e2 ha hb
      rw [List.getElem?_set_ne (Ne.symm e1)] at ha
      rw [List.getElem?_set_ne (Ne.symm e2)] at hb
      exact h1.one i a b hi e1 e2 ha hb
    · intro c a b hq hc e1 ha
      have := (List.getElem?_eq_some_iff.mp ha).1
      rw [List.length_set, hl] at this
      omega
    · intro c a hc e1 ha
      have := (List.getElem?_eq_some_iff.mp ha).1
      rw [List.length_set, hl] at this
      omega
theorem root_min {zs : List It} (h : Hp zs) {y : It} (hy : zs[0]? = some y) : ∀ (i : Nat) (a : It), zs[i]? = some a → a.lt y = false := by
  intro i
  induction i using Nat.strongRecOn with
  | ind i ih =>
    intro a ha
    by_cases h0 : i = 0
    · subst h0; rw [hy] at ha; rw [← Option.some.inj ha]; unfold It.lt; simp
    · have hil := (List.getElem?_eq_some_iff.mp ha).1
      obtain ⟨b, hb⟩ : ∃ b, zs[(i - 1) / 2]? = some b := ⟨_, List.getElem?_eq_getElem (by omega)⟩
      exact le_trans (ih _ (by omega) b hb) (h i a b (by omega) ha hb)
theorem hpop_min {zs : List It} {x : It} (h : Hp (zs ++ [x])) : ∀ z ∈ (hpop zs x).2, z.lt (hpop zs x).1 = false := by
  cases zs with
  | nil => intro z hz; exact absurd hz (by simp [hpop])
  | cons y r =>
    intro z hz
    have hz2 : z ∈ x :: r := (suAll_perm r x).mem_iff.mp hz
    have hz3 : z ∈ y :: r ++ [x] := by
      rcases List.mem_cons.mp hz2 with rfl | hz2
      · simp
      · simp [hz2]
    obtain ⟨i, hi⟩ := List.getElem?_of_mem hz3
    exact root_min h (y := y) rfl i z hi
/-- the first i points with their steps -/
def prs (xs : List Int) (i : Nat) : List (Int × Int) := (List.range i).map fun j => (xs.getD j 0, (j : Int))
theorem prs_succ (xs : List Int) (i : Nat) : prs xs (i + 1) = prs xs i ++ [(xs.getD i 0, (i : Int))] := by simp [prs, List.range_succ]
abbrev It.key (z : It) : Int × Int := (z.p, z.s)
end Mine
end
section
open PySem PySem.W PySem.Calls PyProof.Rows PyProof.Rows.LCg
set_option maxRecDepth 100000
set_option maxHeartbeats 4000000
namespace Mine
section
variable {prog : Program} {w : World} {A : Around} {E : Value → Shared → Prop} {s : Shared} {env : Env} {h₀ : Heap} {L : Addr} {m : Str → Option Value}
/-- a comprehension by an invariant -/
theorem comp_rest {elt : PySem.Expr} {x : Str} {scope : Scope} {cl : List (Str × Addr)} {S : List (Addr × Obj) → Prop} {P : Nat → Value → Prop} {Fin : List Value → List (Addr × Obj) → Prop} {n : Nat} {nx : List (Addr × Obj)}
    (J : Nat → List Value → List (Addr × Obj) → Prop) (h0 : J 0 [] nx)
    (turn : ∀ i ys news v I oI C oC D m₂ h tk (E' : Value → Shared → Prop), i < n → J i ys news → P i v → NsObj oC m₂ → m₂ x = some v → Fr h₀ L h m → News h₀ L h ((I, oI) :: (C, oC) :: (D, lst ys) :: news) → (∀ q ∈ news, q.1 ≠ I ∧ q.1 ≠ C ∧ q.1 ≠ D) → ((@Ne Nat I C) ∧ (@Ne Nat I D) ∧ (@Ne Nat C D)) →
      wpAny (model prog w) A (eval elt (compEnvC scope cl C env)) (fun y s₂ => ∃ h' tk' news', s₂ = { s with heap := h', toks := tk' } ∧ Fr h₀ L h' m ∧ News h₀ L h' ((I, oI) :: (C, oC) :: (D, lst ys) :: news') ∧ (∀ q ∈ news', q.1 ≠ I ∧ q.1 ≠ C ∧ q.1 ≠ D) ∧ S news' ∧ J (i + 1) (ys ++ [y]) news') E' { s with heap := h, toks := tk })
    (fin : ∀ ys news, J n ys news → Fin ys news) : CompRest prog w A h₀ L m env elt x scope cl s S P Fin n 0 [] nx := by
  have key : ∀ k i ys news, k + i = n → J i ys news → CompRest prog w A h₀ L m env elt x scope cl s S P Fin k i ys news := by
    intro k
    induction k with
    | zero => intro i ys news e hj; obtain rfl : i = n := by omega
              exact CompRest.zero (fin _ _ hj)
    | succ k ih =>
      intro i ys news e hj
      refine CompRest.succ fun v I oI C oC D m₂ h tk E' hP hC hx F N off ne => ?_
      refine wpAny_mono (turn i ys news v I oI C oC D m₂ h tk E' (by omega) hj hP hC hx F N off.mem ne) (fun y s₂ q => ?_) fun _ _ z => z
      obtain ⟨h', tk', news', rfl, F', N', off', hS, hj'⟩ := q
      exact ⟨h', tk', news', rfl, F', N', Off3.of off', hS, ih (i + 1) _ _ (by omega) hj'⟩
  exact key n 0 [] nx (by omega) h0
/-- points.index(t) -/
theorem index_led {D : Addr} {vs : List Value} {ns : List Int} {n j : Nat} {t : Int} {u : Tok} {news : List (Addr × Obj)} {Q : Value → Shared → Prop} (N : News h₀ L s.heap news) (hm : (D, listOf vs.toArray n) ∈ news) (hi : IntsAre vs ns) (hj : ns[j]? = some t) (hf : ∀ i y, i < j → ns[i]? = some y → y ≠ t) (hl : ns.length < 2 ^ 20)
    (h : Q (.int (j : Int) s.toks) { s with toks := s.toks + 1 }) : wpAny (model prog w) A (call (.builtin "list.index") [.ref D, .int t u]) Q E s := by
  have z := N _ hm
  have hlen := hi.length
  have hjl := (List.getElem?_eq_some_iff.mp hj).1
  have hjv : j < vs.toArray.size := by simp; omega
  have at_ : ∀ i (hi2 : i < vs.toArray.size) y, ns[i]? = some y → (match vs.toArray[i] with | .int k _ => k == t | _ => false) = (y == t) := by
    intro i hi2 y hy
    obtain ⟨tt, ht2⟩ := hi.get i y hy
    have : vs.toArray[i] = .int y tt := by
      have h9 : vs[i]? = some vs.toArray[i] := by simp
      rw [ht2] at h9; exact (Option.some.inj h9).symm
    rw [this]
  refine call_meets PySem.F.slot_list_index ⟨_, z.1, rfl⟩ PySem.F.entry_list_index (PySem.F.args_list_index_2 _ _) (PySem.SeqAt.list_indexAt D vs.toArray n none _ (.int t u) (fun y => match y with | .int k _ => k == t | _ => false) j hjv (by omega) ?_ ?_) ⟨z.1, ?_, h⟩
  · rw [at_ j hjv t hj]; simp
  · intro i hi2 hij
    have hin : i < ns.length := by simp at hi2; omega
    rw [at_ i hi2 ns[i] (List.getElem?_eq_getElem hin)]
    have := hf i ns[i] hij (List.getElem?_eq_getElem hin)
    simpa using this
  · intro y hy
    have hy' : y ∈ vs := by simpa using hy
    obtain ⟨i, tt, rfl⟩ := ints_mem hi hy'
    exact (PySem.MeetsSeq.EqGives.int i t tt u).at _ _
/-- the comprehension's own name -/
theorem comp_local {M : Model} {x : Str} {pos : Pos} {scope : Scope} {cl : List (Str × Addr)} {C : Addr} {oC : Obj} {m₂ : Str → Option Value} {v : Value} {nx : List (Addr × Obj)} {Q : Value → Shared → Prop} (N : News h₀ L s.heap nx) (hm : (C, oC) ∈ nx) (ho : NsObj oC m₂) (hx : m₂ x = some v) (h : Q v s)
    (hk : (compEnvC scope cl C env).scope.kind = .function) (hl : (compEnvC scope cl C env).kindOf x = some .local) (hd : (x == ("__debug__" : Str)) = false) : wpAny M A (eval (.Name x pos) (compEnvC scope cl C env)) Q E s :=
  wpAny_Name (wpAny_loadName_local hk hl (ho.ns (N _ hm).1) hx h) hd
end
end Mine
end
section
open PySem PySem.W PySem.Calls PyProof.Rows
set_option maxRecDepth 100000
set_option maxHeartbeats 4000000
namespace Mine
section
variable {prog : Program} {w : World} {A : Around} {E : Value → Shared → Prop} {s : Shared} {h₀ : Heap} {L : Addr} {m : Str → Option Value} {news : List (Addr × Obj)}
theorem it_eqAt {x y : It} (N : News h₀ L s.heap news) (hx : x.ent ∈ news) (hy : y.ent ∈ news) (hu : A.units + 4 < cLine) (hk : (x.p, x.s) = (y.p, y.s)) : SeqAt.EqAt A s (.ref x.a) (.ref y.a) true := by
  by_cases e : x.a = y.a
  · rw [e]; exact SeqAt.EqAt.same _
  · have hl : s.heap.IsList x.a #[.int x.p x.tp, .int x.s x.ts] := ⟨_, (N _ hx).1, rfl, _, rfl⟩
    have hl2 : s.heap.IsList y.a #[.int y.p y.tp, .int y.s y.ts] := ⟨_, (N _ hy).1, rfl, _, rfl⟩
    refine SeqAt.EqAt.of_refs e ?_
    have h9 := SeqAt.RcAt.lists (A := A) (e := fun _ => true) hl hl2 rfl (by omega) ?_
    · exact h9
    · intro j h1 h2
      have hp := congrArg Prod.fst hk
      have hs := congrArg Prod.snd hk
      dsimp only at hp hs
      match j with
      | 0 =>
        have q : SeqAt.EqAt A.in1 s (.int x.p x.tp) (.int y.p y.tp) (x.p == y.p) := SeqAt.EqAt.int_int _ _ _ _
        rw [hp, beq_self_eq_true] at q
        show SeqAt.EqAt A.in1 s (.int x.p x.tp) (.int y.p y.tp) true
        rw [hp]; exact q
      | 1 =>
        have q : SeqAt.EqAt A.in1 s (.int x.s x.ts) (.int y.s y.ts) (x.s == y.s) := SeqAt.EqAt.int_int _ _ _ _
        rw [hs, beq_self_eq_true] at q
        show SeqAt.EqAt A.in1 s (.int x.s x.ts) (.int y.s y.ts) true
        rw [hs]; exact q
      | j + 2 => exact absurd h1 (by show ¬ (j + 2 < 2); omega)
theorem ne_items {cs ds : List It} {C D : Addr} {i k : Nat} {Q : Value → Shared → Prop} (N : News h₀ L s.heap news) (hC : (C, listOf (refs cs).toArray i) ∈ news) (hD : (D, listOf (refs ds).toArray k) ∈ news) (hc : ∀ z ∈ cs, z.ent ∈ news) (hd : ∀ z ∈ ds, z.ent ∈ news) (hk : cs.map (fun z => (z.p, z.s)) = ds.map (fun z => (z.p, z.s))) (hu : A.units + 64 < cLine) (h : Q (.bool false) s) :
    wpAny (model prog w) A (compareOp .NotEq (.ref C) (.ref D)) Q E s := by
  have hlen : cs.length = ds.length := by have := congrArg List.length hk; simpa using this
  have hl : s.heap.IsList C (refs cs).toArray := ⟨_, (N _ hC).1, rfl, _, rfl⟩
  have hl2 : s.heap.IsList D (refs ds).toArray := ⟨_, (N _ hD).1, rfl, _, rfl⟩
  have h9 := SeqAt.RcNeAt.lists (A := A) (e := fun _ => true) hl hl2 (by simp [hlen]) (by omega) ?_
  · refine h9 prog w E Q ?_
    have e9 : (!(List.range (refs cs).toArray.size).all fun _ => true) = false := by
      rw [Bool.not_eq_false', List.all_eq_true]; exact fun _ _ => rfl
    rw [e9]; exact h
  · intro j h1 h2
    have j1 : j < cs.length := by simpa using h1
    have j2 : j < ds.length := by simpa using h2
    have e1 : (refs cs).toArray[j] = .ref cs[j].a := by simp
    have e2 : (refs ds).toArray[j] = .ref ds[j].a := by simp
    rw [e1, e2]
    refine it_eqAt N (hc _ (List.getElem_mem j1)) (hd _ (List.getElem_mem j2)) (by show A.units + 1 + 4 < _; omega) ?_
    have := congrArg (fun l => l[j]?) hk
    simpa [j1, j2] using this
/-- the ledger without the place c -/
def but (c : Addr) (news : List (Addr × Obj)) : List (Addr × Obj) := news.filter fun q => q.1 != c
theorem but_off {c : Addr} {q : Addr × Obj} (h : q ∈ but c news) : q.1 ≠ c := by
  have := (List.mem_filter.mp h).2
  simpa using this
theorem but_in {c : Addr} {q : Addr × Obj} (h : q ∈ but c news) : q ∈ news := (List.mem_filter.mp h).1
theorem but_mem {c : Addr} {q : Addr × Obj} (h : q ∈ news) (hn : q.1 ≠ c) : q ∈ but c news := List.mem_filter.mpr ⟨h, by simpa using hn⟩
theorem ne_cell {h : Heap} {c : Addr} {o : Obj} {v : Option Value} {q : Addr × Obj} (N : News h₀ L h news) (hm : (c, o) ∈ news) (hd : o.data = .cell v) (hq : q ∈ news) (hne : ∀ v, q.2.data ≠ .cell v) : q.1 ≠ c := by
  intro e
  have h1 := (N _ hm).1
  have h2 := (N _ hq).1
  rw [e] at h2
  have h3 : o = q.2 := Option.some.inj (h1.symm.trans h2)
  exact hne v (by rw [← h3]; exact hd)
theorem stcell {M : Model} {name : Str} {scope : Scope} {a : Addr} {cd : Value} {x : Str} {c : Addr} {o : Obj} {v₀ : Option Value} {v : Value} {Q : Unit → Shared → Prop} (F : Fr h₀ L s.heap m) (N : News h₀ L s.heap news) (hm : (c, o) ∈ news)
    (hc : (cellsFrom (L + 1) scope.names []).lookup x = some c) (hd : o.data = .cell v₀)
    (h : ∀ h' o', Fr h₀ L h' m → News h₀ L h' ((c, o') :: but c news) → o'.data = .cell (some v) → Q () { s with heap := h' })
    (hk : scope.kind = .function) (hl : (envOfC name scope L a cd).kindOf x = some .cell) :
    wpAny M A (storeName (envOfC name scope L a cd) x v) Q E s :=
  stCN (own := []) (rest := but c news) F (fun q hq => (List.mem_cons.mp hq).elim (fun e => e ▸ N _ hm) fun hq => N q (but_in hq)) hc hd (fun _ hp => nomatch hp) (fun _ hp => but_off hp) h hk hl
end
end Mine
end
section
open PySem PySem.W PySem.Calls PyProof.Rows
set_option maxRecDepth 100000
set_option maxHeartbeats 4000000
namespace Mine
section
variable {prog : Program} {w : World} {A : Around} {E : Value → Shared → Prop} {s : Shared} {h₀ : Heap} {L : Addr} {m : Str → Option Value} {news : List (Addr × Obj)}
theorem ints_of_get : ∀ (vs : List Value) (ns : List Int), vs.length = ns.length → (∀ (j : Nat) (v : Value), vs[j]? = some v → ∃ (k : Int) (t : Tok), ns[j]? = some k ∧ v = Value.int k t) → IntsAre vs ns
  | [], [], _, _ => .nil
  | [], _ :: _, h, _ => by simp at h
  | _ :: _, [], h, _ => by simp at h
  | v :: vs, n :: ns, h, hv => by
    obtain ⟨k, t, e1, e2⟩ := hv 0 v rfl
    have e3 : n = k := by simpa using e1
    subst e2 e3
    exact .cons n t (ints_of_get vs ns (by simpa using h) fun j u hu => hv (j + 1) u (by simpa using hu))
theorem not_modules {h : Heap} {d : Addr} (hb : h₀.NoLimit) (F : Fr h₀ L h m) (hL : L < d) : (d == sysModules) = false := by
  rw [beq_eq_false_iff_ne]
  exact Nat.ne_of_gt (Nat.lt_of_lt_of_le (modules_low hb) (Nat.le_trans F.above (Nat.le_of_lt hL)))
theorem list_dict {Q : Value → Shared → Prop} {d : Addr} {o : Obj} {kvs : List (Int × Value)} (F : Fr h₀ L s.heap m) (N : News h₀ L s.heap news) (hb : h₀.NoLimit) (hL : L < d) (hp : (d, o) ∈ news) (hd : o.IsDictOf (PySem.intKind prog w) kvs) (hn : kvs.length < 2 ^ 18) (hh : A.handled = none)
    (h : ∀ B c h' tk vs, Fr h₀ L h' m → News h₀ L h' ((B, listOf (List.toArray vs) c) :: news) → IntsAre vs (kvs.map (·.1)) → Q (.ref B) { s with heap := h', toks := tk }) :
    wpAny (model prog w) A (call (.type "list") [.ref d]) Q E s := by
  obtain ⟨ep, hat⟩ := (kda_dict N hp hd).dictAt
  refine kdl_N (kdl_dict (knd := PySem.intKind prog w) (kvs := kvs) (ep := ep) (not_modules hb F hL)) hh F N hat (kdl_size (by omega)) fun B c h' tk vs F' N' l1 hl hv => ?_
  refine h B c h' tk vs F' N' (ints_of_get _ _ (by rw [hl, List.length_map]) fun j v hj => ?_)
  obtain ⟨k, x, hx, hk⟩ := hv j v hj
  obtain ⟨t, rfl⟩ := Value.isInt_shape hk
  exact ⟨k, t, by rw [List.getElem?_map, hx]; rfl, rfl⟩
end
end Mine
end
section
open PySem PySem.W PySem.Calls PyProof.Rows
set_option maxRecDepth 100000
set_option maxHeartbeats 8000000
set_option pp.deepTerms.threshold 6
theorem Mine.warmL1 (w : World) : (model PySem.Challenge.rw_ik0114_01.row.prog w, Mine.hd.heap_39 w.params) = (model PySem.Challenge.rw_ik0114_01.row.prog w, Mine.hd.heap_39 w.params) := by
  k_fill
  rfl
local macro_rules | `(tactic| walk_at "eval Name") => `(tactic| k_dflt (refine' ld ?k1 ?k2 ?_; (case k1 => k_asm); (case k2 => exact rfl); k_whole))
local macro_rules | `(tactic| walk_at "execs cons") => `(tactic| ((with_reducible refine wpAny_execs_cons ?_); (try dsimp only)))
local macro_rules | `(tactic| walk_at "exec Assign") => `(tactic| ((with_reducible show wpAny _ _ (exec (PySem.Stmt.Assign [PySem.Expr.Name _ _] _ _) _) _ _ _); (with_reducible refine wpAny_Assign_Name ?_)))
namespace Mine
def lawPart : Scope × List Stmt := match PySem.Challenge.rw_ik0114_01.row.prog.main.body.getLast? with
  | some (.FunctionDef _ _ body _ _ _ scope _ _ _) => (scope, body)
  | _ => default
theorem segA {w : World} {A A₀ : Around} {f : Addr} {cdv : Value} {outer : List Env} {base h₀ : Heap} {L : Addr} {m : Str → Option Value} {s : Shared} {p : Program} {loose : List Str} {mean : ExcName → Option Value} {mg mb : Str → Option Value} {Q : Flow → Shared → Prop} {E : Value → Shared → Prop}
    (B : Below A₀ base outer h₀) (F : Fr h₀ L s.heap m) (X : (Mine.hd.heap_39 w.params).In h₀) (T : Top p loose mean mg mb h₀) (hA : A.frames = some (envOfC (Str.ofString "law") lawPart.1 L f cdv :: outer)) (hh : A.handled = none) (hP : PassesOwn (model PySem.Challenge.rw_ik0114_01.row.prog w) A (envOfC (Str.ofString "law") lawPart.1 L f cdv) E)
    {cE cH : Obj} {ls : Addr} {vs : List Value} {ns : List Int} (hls : h₀.IsList ls vs.toArray) (hi : IntsAre vs ns) (hl : ns.length < 2 ^ 18)
    (N : News h₀ L s.heap [(L + 1 + 1, cE), (L + 1, cH)]) (hcE : cE.data = .cell none) (hcH : cH.data = .cell none)
    (hps : ∀ e ∈ ([(Str.ofString "script", .ref ls)] : List (Str × Value)), m e.1 = some e.2)
    (hd : A.depth + 10 < recursionLimit) (hu : A.units + 70 < cLine)
    (ret : ∀ (W st : Int) (n : Nat) (tW tn : Tok) (r hl D : Addr) (us : List Value) (k kk : Nat) (cH2 : Obj) (its cs : List It) (nw : List (Addr × Obj)) (m' : Str → Option Value) h' tk', 13 ≤ W → W ≤ 52 → 1 ≤ st → st < W → 2 ≤ n → n ≤ 16 → (pts W st n).Nodup → IntsAre us (pts W st n) →
      its.map It.key = prs (pts W st n) n → cs.Perm its → cs.Pairwise (fun a b => b.lt a = false) → (∀ z ∈ cs, z.ent ∈ nw) → cH2.data = .cell (some (.ref hl)) →
      (D, LCg.lst (refs cs)) ∈ nw → (hl, listOf ([] : List Value).toArray kk) ∈ nw → (r, listOf us.toArray k) ∈ nw → (L + 1, cH2) ∈ nw → (L + 1 + 1, cE) ∈ nw →
      (∀ e ∈ ([(Str.ofString "width", .int W tW), (Str.ofString "points", .ref r), (Str.ofString "n", .int (n : Int) tn), (Str.ofString "came", .ref D)] : List (Str × Value)), m' e.1 = some e.2) →
      Fr h₀ L h' m' → News h₀ L h' nw → wpAny (model PySem.Challenge.rw_ik0114_01.row.prog w) A (execs (lawPart.2.drop 5) (envOfC (Str.ofString "law") lawPart.1 L f cdv)) Q E { s with heap := h', toks := tk' }) :
    wpAny (model PySem.Challenge.rw_ik0114_01.row.prog w) A (execs (lawPart.2.drop 0) (envOfC (Str.ofString "law") lawPart.1 L f cdv)) Q E s := by
  obtain ⟨sc, hsc⟩ : ∃ z, z = lawPart.1 := ⟨_, rfl⟩
  obtain ⟨bd, hbd⟩ : ∃ z, z = lawPart.2.drop 0 := ⟨_, rfl⟩
  rw [← hsc] at hA hP
  rw [← hsc, ← hbd]
  conv at hsc => (rhs; whnf)
  conv at hbd => (rhs; whnf)
  subst hsc hbd
  have F2 := frB F hps
  clear F
  dsimp only [kstB] at F2
  ((repeat' ((fail_if_success (first | (with_reducible show @Exists PySem.Heap _) | (with_reducible show wpAny _ _ (eval (PySem.Expr.ListComp _ _ _ _) _) _ _ _) | (with_reducible show wpAny _ _ (storeName _ (PySem.Str.ofString "due") _) _ _ _) | (with_reducible show wpAny _ _ (eval (PySem.Expr.Name (PySem.Str.ofString "heap") _) _) _ _ _) | (with_reducible show wpAny _ _ (eval (PySem.Expr.Name (PySem.Str.ofString "ends") _) _) _ _ _) | (first | (with_reducible show InvEndG _ _ _ _ _ _) | (with_reducible show wpAny _ _ (PySem.call (PySem.Value.ref _) _) _ _ _) | (with_reducible show wpAny _ _ (PySem.call (PySem.Value.builtin _) _) _ _ _) | (with_reducible show wpAny _ _ (PySem.call (PySem.Value.type _) _) _ _ _) | (with_reducible show wpAny _ _ (subscriptTail _ _ (PySem.Value.ref _) _) _ _ _) | (with_reducible show wpAny _ _ (setItem (PySem.Value.ref _) _ _) _ _ _) | (with_reducible show wpAny _ _ (compareOp _ (PySem.Value.ref _) _) _ _ _) | (with_reducible show wpAny _ _ (compareOp _ _ (PySem.Value.ref _)) _ _ _) | (with_reducible show wpAny _ _ (binaryOp PySem.Operator.Mod _ _) _ _ _) | (with_reducible show wpAny _ _ (truthy (PySem.Value.ref _)) _ _ _) | (with_reducible show wpAny _ _ (exec (PySem.Stmt.While _ _ _ _) _) _ _ _) | (with_reducible show wpAny _ _ (exec (PySem.Stmt.For (PySem.Expr.Tuple _ _ _) _ _ _ _ _) _) _ _ _) | (with_reducible show wpAny _ _ (pyIter _) _ _ _)))); (first | walk1 | (k_unfold; (try dsimp only)) | (dsimp only; walk1) | ((try dsimp only); (with_reducible show WhileStep2 _ _ _ _ _ _ PySem.Flow.brk _); dsimp only [WhileStep2]) | fail "no step"))); (all_goals (try k_data)))
  refine' points_ct ?kB F2 ?kX ?kT ?kA ?kf ?kk ?kh N hls hi ?kd ?ku hl ?_
  ((case kA => exact hA); (case kB => assumption); (case kX => assumption); (case kT => assumption); (case kf => exact rfl); (case kk => exact rfl); (case kh => exact hh); (case kd => omega); (case ku => omega))
  intro W st n tW r us k t c h' tk' hW1 hW2 hs1 hs2 hn1 hn2 hnd hus F2 N2 hr
  refine assign_pair F2 N2 (News.isTup N2 (.head _)) (by exact hh) rfl rfl rfl ?_
  intro h' tk' F2 N2
  ((repeat' ((fail_if_success (first | (with_reducible show @Exists PySem.Heap _) | (with_reducible show wpAny _ _ (eval (PySem.Expr.ListComp _ _ _ _) _) _ _ _) | (with_reducible show wpAny _ _ (storeName _ (PySem.Str.ofString "due") _) _ _ _) | (with_reducible show wpAny _ _ (eval (PySem.Expr.Name (PySem.Str.ofString "heap") _) _) _ _ _) | (with_reducible show wpAny _ _ (eval (PySem.Expr.Name (PySem.Str.ofString "ends") _) _) _ _ _) | (first | (with_reducible show InvEndG _ _ _ _ _ _) | (with_reducible show wpAny _ _ (PySem.call (PySem.Value.ref _) _) _ _ _) | (with_reducible show wpAny _ _ (PySem.call (PySem.Value.builtin _) _) _ _ _) | (with_reducible show wpAny _ _ (PySem.call (PySem.Value.type _) _) _ _ _) | (with_reducible show wpAny _ _ (subscriptTail _ _ (PySem.Value.ref _) _) _ _ _) | (with_reducible show wpAny _ _ (setItem (PySem.Value.ref _) _ _) _ _ _) | (with_reducible show wpAny _ _ (compareOp _ (PySem.Value.ref _) _) _ _ _) | (with_reducible show wpAny _ _ (compareOp _ _ (PySem.Value.ref _)) _ _ _) | (with_reducible show wpAny _ _ (binaryOp PySem.Operator.Mod _ _) _ _ _) | (with_reducible show wpAny _ _ (truthy (PySem.Value.ref _)) _ _ _) | (with_reducible show wpAny _ _ (exec (PySem.Stmt.While _ _ _ _) _) _ _ _) | (with_reducible show wpAny _ _ (exec (PySem.Stmt.For (PySem.Expr.Tuple _ _ _) _ _ _ _ _) _) _ _ _) | (with_reducible show wpAny _ _ (pyIter _) _ _ _)))); (first | walk1 | (k_unfold; (try dsimp only)) | (dsimp only; walk1) | ((try dsimp only); (with_reducible show WhileStep2 _ _ _ _ _ _ PySem.Flow.brk _); dsimp only [WhileStep2]) | fail "no step"))); (all_goals (try k_data)))
  ((rename Fr _ _ _ _ => F2); (rename News _ _ _ _ => N2))
  refine len_led N2 (.tail _ (.head _)) (by rw [hus.length, pts_len]) (by omega) ?_
  ((repeat' ((fail_if_success (first | (with_reducible show @Exists PySem.Heap _) | (with_reducible show wpAny _ _ (eval (PySem.Expr.ListComp _ _ _ _) _) _ _ _) | (with_reducible show wpAny _ _ (storeName _ (PySem.Str.ofString "due") _) _ _ _) | (with_reducible show wpAny _ _ (eval (PySem.Expr.Name (PySem.Str.ofString "heap") _) _) _ _ _) | (with_reducible show wpAny _ _ (eval (PySem.Expr.Name (PySem.Str.ofString "ends") _) _) _ _ _) | (first | (with_reducible show InvEndG _ _ _ _ _ _) | (with_reducible show wpAny _ _ (PySem.call (PySem.Value.ref _) _) _ _ _) | (with_reducible show wpAny _ _ (PySem.call (PySem.Value.builtin _) _) _ _ _) | (with_reducible show wpAny _ _ (PySem.call (PySem.Value.type _) _) _ _ _) | (with_reducible show wpAny _ _ (subscriptTail _ _ (PySem.Value.ref _) _) _ _ _) | (with_reducible show wpAny _ _ (setItem (PySem.Value.ref _) _ _) _ _ _) | (with_reducible show wpAny _ _ (compareOp _ (PySem.Value.ref _) _) _ _ _) | (with_reducible show wpAny _ _ (compareOp _ _ (PySem.Value.ref _)) _ _ _) | (with_reducible show wpAny _ _ (binaryOp PySem.Operator.Mod _ _) _ _ _) | (with_reducible show wpAny _ _ (truthy (PySem.Value.ref _)) _ _ _) | (with_reducible show wpAny _ _ (exec (PySem.Stmt.While _ _ _ _) _) _ _ _) | (with_reducible show wpAny _ _ (exec (PySem.Stmt.For (PySem.Expr.Tuple _ _ _) _ _ _ _ _) _) _ _ _) | (with_reducible show wpAny _ _ (pyIter _) _ _ _)))); (first | walk1 | (k_unfold; (try dsimp only)) | (dsimp only; walk1) | ((try dsimp only); (with_reducible show WhileStep2 _ _ _ _ _ _ PySem.Flow.brk _); dsimp only [WhileStep2]) | fail "no step"))); (all_goals (try k_data)))
  ((rename Fr _ _ _ _ => F2); (rename News _ _ _ _ => N2))
  (rename Addr => hl0)
  (rename _ ∧ _ ∧ _ ∧ _ => lh)
  obtain ⟨-, lh1, lh2, lh3⟩ := lh
  have N3 : News h₀ L _ ([(hl0, listOf ([] : List Value).toArray 0), (r, listOf us.toArray k), (L + 1 + 1, cE)] ++ (L + 1, cH) :: []) := fun q hq => N2 q (by
    simp only [List.cons_append, List.nil_append] at hq
    rcases List.mem_cons.mp hq with rfl | hq
    · k_mem
    · exact .tail _ (.tail _ hq))
  have hoH : ∀ p ∈ ([(hl0, listOf ([] : List Value).toArray 0), (r, listOf us.toArray k), (L + 1 + 1, cE)] : List (Addr × Obj)), p.1 ≠ L + 1 := by
    intro q hq
    rcases List.mem_cons.mp hq with rfl | hq
    · exact Nat.ne_of_gt lh3
    · rcases List.mem_cons.mp hq with rfl | hq
      · exact Ne.symm (hr _ (.tail _ (.head _)))
      · rw [List.mem_singleton.mp hq]; exact Nat.ne_of_gt (Nat.lt_succ_self _)
  refine stCN F2 N3 rfl hcH hoH (fun p hp => nomatch hp) ?_
  intro h' cH2 F2 N2 hcH2
  ((repeat' ((fail_if_success (first | (with_reducible show @Exists PySem.Heap _) | (with_reducible show wpAny _ _ (eval (PySem.Expr.ListComp _ _ _ _) _) _ _ _) | (with_reducible show wpAny _ _ (storeName _ (PySem.Str.ofString "due") _) _ _ _) | (with_reducible show wpAny _ _ (eval (PySem.Expr.Name (PySem.Str.ofString "heap") _) _) _ _ _) | (with_reducible show wpAny _ _ (eval (PySem.Expr.Name (PySem.Str.ofString "ends") _) _) _ _ _) | (first | (with_reducible show InvEndG _ _ _ _ _ _) | (with_reducible show wpAny _ _ (PySem.call (PySem.Value.ref _) _) _ _ _) | (with_reducible show wpAny _ _ (PySem.call (PySem.Value.builtin _) _) _ _ _) | (with_reducible show wpAny _ _ (PySem.call (PySem.Value.type _) _) _ _ _) | (with_reducible show wpAny _ _ (subscriptTail _ _ (PySem.Value.ref _) _) _ _ _) | (with_reducible show wpAny _ _ (setItem (PySem.Value.ref _) _ _) _ _ _) | (with_reducible show wpAny _ _ (compareOp _ (PySem.Value.ref _) _) _ _ _) | (with_reducible show wpAny _ _ (compareOp _ _ (PySem.Value.ref _)) _ _ _) | (with_reducible show wpAny _ _ (binaryOp PySem.Operator.Mod _ _) _ _ _) | (with_reducible show wpAny _ _ (truthy (PySem.Value.ref _)) _ _ _) | (with_reducible show wpAny _ _ (exec (PySem.Stmt.While _ _ _ _) _) _ _ _) | (with_reducible show wpAny _ _ (exec (PySem.Stmt.For (PySem.Expr.Tuple _ _ _) _ _ _ _ _) _) _ _ _) | (with_reducible show wpAny _ _ (pyIter _) _ _ _)))); (first | walk1 | (k_unfold; (try dsimp only)) | (dsimp only; walk1) | ((try dsimp only); (with_reducible show WhileStep2 _ _ _ _ _ _ PySem.Flow.brk _); dsimp only [WhileStep2]) | fail "no step"))); (all_goals (try k_data)))
  ((rename Fr _ _ _ _ => F2); (rename News _ _ _ _ => N2))
  refine range1_rows F2 N2 ?_
  intro h' tk2 t₁ u₁ v₁ hrg F2 N2 hk2
  ((repeat' ((fail_if_success (first | (with_reducible show @Exists PySem.Heap _) | (with_reducible show wpAny _ _ (eval (PySem.Expr.ListComp _ _ _ _) _) _ _ _) | (with_reducible show wpAny _ _ (storeName _ (PySem.Str.ofString "due") _) _ _ _) | (with_reducible show wpAny _ _ (eval (PySem.Expr.Name (PySem.Str.ofString "heap") _) _) _ _ _) | (with_reducible show wpAny _ _ (eval (PySem.Expr.Name (PySem.Str.ofString "ends") _) _) _ _ _) | (first | (with_reducible show InvEndG _ _ _ _ _ _) | (with_reducible show wpAny _ _ (PySem.call (PySem.Value.ref _) _) _ _ _) | (with_reducible show wpAny _ _ (PySem.call (PySem.Value.builtin _) _) _ _ _) | (with_reducible show wpAny _ _ (PySem.call (PySem.Value.type _) _) _ _ _) | (with_reducible show wpAny _ _ (subscriptTail _ _ (PySem.Value.ref _) _) _ _ _) | (with_reducible show wpAny _ _ (setItem (PySem.Value.ref _) _ _) _ _ _) | (with_reducible show wpAny _ _ (compareOp _ (PySem.Value.ref _) _) _ _ _) | (with_reducible show wpAny _ _ (compareOp _ _ (PySem.Value.ref _)) _ _ _) | (with_reducible show wpAny _ _ (binaryOp PySem.Operator.Mod _ _) _ _ _) | (with_reducible show wpAny _ _ (truthy (PySem.Value.ref _)) _ _ _) | (with_reducible show wpAny _ _ (exec (PySem.Stmt.While _ _ _ _) _) _ _ _) | (with_reducible show wpAny _ _ (exec (PySem.Stmt.For (PySem.Expr.Tuple _ _ _) _ _ _ _ _) _) _ _ _) | (with_reducible show wpAny _ _ (pyIter _) _ _ _)))); (first | walk1 | (k_unfold; (try dsimp only)) | (dsimp only; walk1) | ((try dsimp only); (with_reducible show WhileStep2 _ _ _ _ _ _ PySem.Flow.brk _); dsimp only [WhileStep2]) | fail "no step"))); (all_goals (try k_data)))
  obtain ⟨R0, hR0⟩ : ∃ R0, R0 = [(L + 1, cH2), (r, listOf us.toArray k), (L + 1 + 1, cE)] := ⟨_, rfl⟩
  have hRh : ∀ q ∈ R0, q.1 ≠ hl0 := by
    intro q hq
    rw [hR0] at hq
    rcases List.mem_cons.mp hq with rfl | hq
    · exact Nat.ne_of_lt lh3
    · rcases List.mem_cons.mp hq with rfl | hq
      · exact Nat.ne_of_lt lh1
      · rw [List.mem_singleton.mp hq]; exact Nat.ne_of_lt lh2
  have hR1 : (L + 1, cH2) ∈ R0 := by rw [hR0]; exact .head _
  have hR2 : (r, listOf us.toArray k) ∈ R0 := by rw [hR0]; exact .tail _ (.head _)
  have hR3 : (L + 1 + 1, cE) ∈ R0 := by rw [hR0]; exact .tail _ (.tail _ (.head _))
  have N3 : News h₀ L _ ((hl0, listOf (refs []).toArray 0) :: R0) := fun q hq => N2 q (by
    rw [hR0] at hq
    rcases List.mem_cons.mp hq with rfl | hq
    · exact .head _
    · rcases List.mem_cons.mp hq with rfl | hq
      · exact List.mem_append_right _ (.head _)
      · exact List.mem_append_left _ (.tail _ hq))
  refine for_range n (fun i m₁ nx => ∃ its zs ents kk t1 t3, nx = (hl0, listOf (refs zs).toArray kk) :: (ents ++ R0) ∧ Hp zs ∧ zs.Perm its ∧ its.map It.key = prs (pts W st n) i ∧ (∀ z ∈ its, z.ent ∈ ents) ∧ (∀ q ∈ ents, q.1 ≠ hl0) ∧
    (∀ e ∈ ([(Str.ofString "width", .int W t1), (Str.ofString "points", .ref r), (Str.ofString "n", .int (n : Int) t3)] : List (Str × Value)), m₁ e.1 = some e.2)) (by exact hh) hrg ⟨.inl (by omega), by omega, by omega, by omega, by omega⟩ F2 N3 ?start ?turn ?done
  case start =>
    refine' ⟨[], [], [], 0, _, _, rfl, (fun i a b _ ha => by simp at ha), .nil, rfl, (fun z hz => nomatch hz), (fun z hz => nomatch hz), (by kst_all)⟩
  case turn =>
    clear F2 N2 N3 hrg hk2
    rintro i m₁ _ h tk own tj hi9 ho ⟨its, zs, ents, kk, t1, t3, rfl, hHp, hpm, hk, hz, he, hps⟩ F1 N2
    have F2 := frBx F1 hps
    clear F1
    dsimp only [kstB] at F2
    rw [Int.zero_add] at F2
    rw [List.cons_append] at N2
    obtain ⟨x, hx⟩ : ∃ x, (pts W st n)[i]? = some x := ⟨_, List.getElem?_eq_getElem (by rw [pts_len]; exact hi9)⟩
    obtain ⟨tx, hux⟩ := hus.get i x hx
    ((repeat' ((fail_if_success (first | (with_reducible show @Exists PySem.Heap _) | (with_reducible show wpAny _ _ (eval (PySem.Expr.ListComp _ _ _ _) _) _ _ _) | (with_reducible show wpAny _ _ (storeName _ (PySem.Str.ofString "due") _) _ _ _) | (with_reducible show wpAny _ _ (eval (PySem.Expr.Name (PySem.Str.ofString "heap") _) _) _ _ _) | (with_reducible show wpAny _ _ (eval (PySem.Expr.Name (PySem.Str.ofString "ends") _) _) _ _ _) | (first | (with_reducible show InvEndG _ _ _ _ _ _) | (with_reducible show wpAny _ _ (PySem.call (PySem.Value.ref _) _) _ _ _) | (with_reducible show wpAny _ _ (PySem.call (PySem.Value.builtin _) _) _ _ _) | (with_reducible show wpAny _ _ (PySem.call (PySem.Value.type _) _) _ _ _) | (with_reducible show wpAny _ _ (subscriptTail _ _ (PySem.Value.ref _) _) _ _ _) | (with_reducible show wpAny _ _ (setItem (PySem.Value.ref _) _ _) _ _ _) | (with_reducible show wpAny _ _ (compareOp _ (PySem.Value.ref _) _) _ _ _) | (with_reducible show wpAny _ _ (compareOp _ _ (PySem.Value.ref _)) _ _ _) | (with_reducible show wpAny _ _ (binaryOp PySem.Operator.Mod _ _) _ _ _) | (with_reducible show wpAny _ _ (truthy (PySem.Value.ref _)) _ _ _) | (with_reducible show wpAny _ _ (exec (PySem.Stmt.While _ _ _ _) _) _ _ _) | (with_reducible show wpAny _ _ (exec (PySem.Stmt.For (PySem.Expr.Tuple _ _ _) _ _ _ _ _) _) _ _ _) | (with_reducible show wpAny _ _ (pyIter _) _ _ _)))); (first | walk1 | (k_unfold; (try dsimp only)) | (dsimp only; walk1) | ((try dsimp only); (with_reducible show WhileStep2 _ _ _ _ _ _ PySem.Flow.brk _); dsimp only [WhileStep2]) | fail "no step"))); (all_goals (try k_data)))
    refine ldCN N2 rfl (.tail _ (List.mem_append_left _ (List.mem_append_right _ hR1))) hcH2 ?_
    ((repeat' ((fail_if_success (first | (with_reducible show @Exists PySem.Heap _) | (with_reducible show wpAny _ _ (eval (PySem.Expr.ListComp _ _ _ _) _) _ _ _) | (with_reducible show wpAny _ _ (storeName _ (PySem.Str.ofString "due") _) _ _ _) | (with_reducible show wpAny _ _ (eval (PySem.Expr.Name (PySem.Str.ofString "heap") _) _) _ _ _) | (with_reducible show wpAny _ _ (eval (PySem.Expr.Name (PySem.Str.ofString "ends") _) _) _ _ _) | (first | (with_reducible show InvEndG _ _ _ _ _ _) | (with_reducible show wpAny _ _ (PySem.call (PySem.Value.ref _) _) _ _ _) | (with_reducible show wpAny _ _ (PySem.call (PySem.Value.builtin _) _) _ _ _) | (with_reducible show wpAny _ _ (PySem.call (PySem.Value.type _) _) _ _ _) | (with_reducible show wpAny _ _ (subscriptTail _ _ (PySem.Value.ref _) _) _ _ _) | (with_reducible show wpAny _ _ (setItem (PySem.Value.ref _) _ _) _ _ _) | (with_reducible show wpAny _ _ (compareOp _ (PySem.Value.ref _) _) _ _ _) | (with_reducible show wpAny _ _ (compareOp _ _ (PySem.Value.ref _)) _ _ _) | (with_reducible show wpAny _ _ (binaryOp PySem.Operator.Mod _ _) _ _ _) | (with_reducible show wpAny _ _ (truthy (PySem.Value.ref _)) _ _ _) | (with_reducible show wpAny _ _ (exec (PySem.Stmt.While _ _ _ _) _) _ _ _) | (with_reducible show wpAny _ _ (exec (PySem.Stmt.For (PySem.Expr.Tuple _ _ _) _ _ _ _ _) _) _ _ _) | (with_reducible show wpAny _ _ (pyIter _) _ _ _)))); (first | walk1 | (k_unfold; (try dsimp only)) | (dsimp only; walk1) | ((try dsimp only); (with_reducible show WhileStep2 _ _ _ _ _ _ PySem.Flow.brk _); dsimp only [WhileStep2]) | fail "no step"))); (all_goals (try k_data)))
    refine item_led N2 (.tail _ (List.mem_append_left _ (List.mem_append_right _ hR2))) (by omega) (by omega) (by rw [Int.toNat_natCast]; exact hux) ?_
    ((repeat' ((fail_if_success (first | (with_reducible show @Exists PySem.Heap _) | (with_reducible show wpAny _ _ (eval (PySem.Expr.ListComp _ _ _ _) _) _ _ _) | (with_reducible show wpAny _ _ (storeName _ (PySem.Str.ofString "due") _) _ _ _) | (with_reducible show wpAny _ _ (eval (PySem.Expr.Name (PySem.Str.ofString "heap") _) _) _ _ _) | (with_reducible show wpAny _ _ (eval (PySem.Expr.Name (PySem.Str.ofString "ends") _) _) _ _ _) | (first | (with_reducible show InvEndG _ _ _ _ _ _) | (with_reducible show wpAny _ _ (PySem.call (PySem.Value.ref _) _) _ _ _) | (with_reducible show wpAny _ _ (PySem.call (PySem.Value.builtin _) _) _ _ _) | (with_reducible show wpAny _ _ (PySem.call (PySem.Value.type _) _) _ _ _) | (with_reducible show wpAny _ _ (subscriptTail _ _ (PySem.Value.ref _) _) _ _ _) | (with_reducible show wpAny _ _ (setItem (PySem.Value.ref _) _ _) _ _ _) | (with_reducible show wpAny _ _ (compareOp _ (PySem.Value.ref _) _) _ _ _) | (with_reducible show wpAny _ _ (compareOp _ _ (PySem.Value.ref _)) _ _ _) | (with_reducible show wpAny _ _ (binaryOp PySem.Operator.Mod _ _) _ _ _) | (with_reducible show wpAny _ _ (truthy (PySem.Value.ref _)) _ _ _) | (with_reducible show wpAny _ _ (exec (PySem.Stmt.While _ _ _ _) _) _ _ _) | (with_reducible show wpAny _ _ (exec (PySem.Stmt.For (PySem.Expr.Tuple _ _ _) _ _ _ _ _) _) _ _ _) | (with_reducible show wpAny _ _ (pyIter _) _ _ _)))); (first | walk1 | (k_unfold; (try dsimp only)) | (dsimp only; walk1) | ((try dsimp only); (with_reducible show WhileStep2 _ _ _ _ _ _ PySem.Flow.brk _); dsimp only [WhileStep2]) | fail "no step"))); (all_goals (try k_data)))
    ((rename Fr _ _ _ _ => F2); (rename News _ _ _ _ => N2))
    (rename Addr => a0)
    (rename hl0 < a0 ∧ AllLt _ _ => la)
    have la2 := tb_ltOf la.2
    obtain ⟨z, hzz⟩ : ∃ z : It, z = ⟨a0, x, (i : Int), tx, tj, 0⟩ := ⟨_, rfl⟩
    have hza : z.a = a0 := by rw [hzz]
    have hzk : z.key = (x, (i : Int)) := by rw [hzz]
    have hzs : zs.length = i := by
      have h9 := congrArg List.length hk
      rw [List.length_map] at h9
      rw [hpm.length_eq, h9]; simp [prs]
    have N4 : News h₀ L _ ((hl0, listOf (refs zs).toArray kk) :: z.ent :: ((ents ++ R0) ++ own)) := fun q hq => N2 q (by
      rcases List.mem_cons.mp hq with rfl | hq
      · exact .tail _ (.head _)
      · rcases List.mem_cons.mp hq with rfl | hq
        · rw [hzz]; exact .head _
        · exact .tail _ (.tail _ hq))
    rw [← hza]
    refine' heappush_ct ?kB F2 ?kX ?kT ?kA ?kf ?kk ?kh N4 ?kd ?ku ?ko ?kz (.head _) ?kl ?_
    ((case kA => exact hA); (case kB => assumption); (case kX => assumption); (case kT => assumption); (case kf => exact rfl); (case kk => exact rfl); (case kh => exact hh); (case kd => omega); (case ku => omega))
    case kl => omega
    case kz =>
      intro y hy
      exact .tail _ (List.mem_append_left _ (List.mem_append_left _ (hz y (hpm.mem_iff.mp hy))))
    case ko =>
      intro q hq
      rcases List.mem_cons.mp hq with rfl | hq
      · rw [hzz]; exact Nat.ne_of_gt la.1
      · rcases List.mem_append.mp hq with hq | hq
        · rcases List.mem_append.mp hq with hq | hq
          · exact he q hq
          · exact hRh q hq
        · exact ho q hq hl0 (.head _)
    intro h' tk' F2 N2
    ((repeat' ((fail_if_success (first | (with_reducible show @Exists PySem.Heap _) | (with_reducible show wpAny _ _ (eval (PySem.Expr.ListComp _ _ _ _) _) _ _ _) | (with_reducible show wpAny _ _ (storeName _ (PySem.Str.ofString "due") _) _ _ _) | (with_reducible show wpAny _ _ (eval (PySem.Expr.Name (PySem.Str.ofString "heap") _) _) _ _ _) | (with_reducible show wpAny _ _ (eval (PySem.Expr.Name (PySem.Str.ofString "ends") _) _) _ _ _) | (first | (with_reducible show InvEndG _ _ _ _ _ _) | (with_reducible show wpAny _ _ (PySem.call (PySem.Value.ref _) _) _ _ _) | (with_reducible show wpAny _ _ (PySem.call (PySem.Value.builtin _) _) _ _ _) | (with_reducible show wpAny _ _ (PySem.call (PySem.Value.type _) _) _ _ _) | (with_reducible show wpAny _ _ (subscriptTail _ _ (PySem.Value.ref _) _) _ _ _) | (with_reducible show wpAny _ _ (setItem (PySem.Value.ref _) _ _) _ _ _) | (with_reducible show wpAny _ _ (compareOp _ (PySem.Value.ref _) _) _ _ _) | (with_reducible show wpAny _ _ (compareOp _ _ (PySem.Value.ref _)) _ _ _) | (with_reducible show wpAny _ _ (binaryOp PySem.Operator.Mod _ _) _ _ _) | (with_reducible show wpAny _ _ (truthy (PySem.Value.ref _)) _ _ _) | (with_reducible show wpAny _ _ (exec (PySem.Stmt.While _ _ _ _) _) _ _ _) | (with_reducible show wpAny _ _ (exec (PySem.Stmt.For (PySem.Expr.Tuple _ _ _) _ _ _ _ _) _) _ _ _) | (with_reducible show wpAny _ _ (pyIter _) _ _ _)))); (first | walk1 | (k_unfold; (try dsimp only)) | (dsimp only; walk1) | ((try dsimp only); (with_reducible show WhileStep2 _ _ _ _ _ _ PySem.Flow.brk _); dsimp only [WhileStep2]) | fail "no step"))); (all_goals (try k_data)))
    ((rename Fr _ _ _ _ => F2); (rename News _ _ _ _ => N2))
    refine InvEndG.intro F2 N2 (nx := (hl0, listOf (refs (hpush zs z)).toArray (kk + 1)) :: ((z.ent :: ents) ++ R0)) ⟨its ++ [z], hpush zs z, z.ent :: ents, kk + 1, _, _, rfl, hpush_hp hHp, ?_, ?_, ?_, ?_, (by kst_all)⟩ ?_ ?_ ?_
    · exact (hpush_perm zs z).trans ((hpm.cons z).trans (List.perm_append_singleton z its).symm)
    · rw [List.map_append, hk, prs_succ, List.map_singleton, hzk, List.getD_eq_getElem?_getD, hx]; rfl
    · intro y hy
      rcases List.mem_append.mp hy with hy | hy
      · exact .tail _ (hz y hy)
      · rw [List.mem_singleton.mp hy]; exact .head _
    · intro q hq
      rcases List.mem_cons.mp hq with rfl | hq
      · rw [hzz]; exact Nat.ne_of_gt la.1
      · exact he q hq
    · intro q hq b hb
      obtain ⟨y, hy, rfl⟩ := List.mem_map.mp hb
      rcases List.mem_cons.mp hy with rfl | hy
      · exact ho q hq _ (.head _)
      · rcases List.mem_cons.mp hy with rfl | hy
        · rw [hzz]; exact Nat.ne_of_lt (la2 q (List.mem_append_right _ hq))
        · exact ho q hq _ (List.mem_map.mpr ⟨y, .tail _ hy, rfl⟩)
    · intro q hq
      rcases List.mem_cons.mp hq with rfl | hq
      · exact .head _
      · rcases List.mem_cons.mp hq with rfl | hq
        · exact .tail _ (.head _)
        · exact .tail _ (.tail _ (List.mem_append_left own hq))
    · intro q hq
      exact .tail _ (.tail _ (List.mem_append_right _ hq))
  case done =>
    clear F2 N2 N3 hrg hk2
    rintro m₁ _ h tk ⟨its, zs, ents, kk, t1, t3, rfl, hHp, hpm, hk, hz, he, hps⟩ F1 N2
    have F2 := frB F1 hps
    clear F1
    dsimp only [kstB] at F2
    ((repeat' ((fail_if_success (first | (with_reducible show @Exists PySem.Heap _) | (with_reducible show wpAny _ _ (eval (PySem.Expr.ListComp _ _ _ _) _) _ _ _) | (with_reducible show wpAny _ _ (storeName _ (PySem.Str.ofString "due") _) _ _ _) | (with_reducible show wpAny _ _ (eval (PySem.Expr.Name (PySem.Str.ofString "heap") _) _) _ _ _) | (with_reducible show wpAny _ _ (eval (PySem.Expr.Name (PySem.Str.ofString "ends") _) _) _ _ _) | (first | (with_reducible show InvEndG _ _ _ _ _ _) | (with_reducible show wpAny _ _ (PySem.call (PySem.Value.ref _) _) _ _ _) | (with_reducible show wpAny _ _ (PySem.call (PySem.Value.builtin _) _) _ _ _) | (with_reducible show wpAny _ _ (PySem.call (PySem.Value.type _) _) _ _ _) | (with_reducible show wpAny _ _ (subscriptTail _ _ (PySem.Value.ref _) _) _ _ _) | (with_reducible show wpAny _ _ (setItem (PySem.Value.ref _) _ _) _ _ _) | (with_reducible show wpAny _ _ (compareOp _ (PySem.Value.ref _) _) _ _ _) | (with_reducible show wpAny _ _ (compareOp _ _ (PySem.Value.ref _)) _ _ _) | (with_reducible show wpAny _ _ (binaryOp PySem.Operator.Mod _ _) _ _ _) | (with_reducible show wpAny _ _ (truthy (PySem.Value.ref _)) _ _ _) | (with_reducible show wpAny _ _ (exec (PySem.Stmt.While _ _ _ _) _) _ _ _) | (with_reducible show wpAny _ _ (exec (PySem.Stmt.For (PySem.Expr.Tuple _ _ _) _ _ _ _ _) _) _ _ _) | (with_reducible show wpAny _ _ (pyIter _) _ _ _)))); (first | walk1 | (k_unfold; (try dsimp only)) | (dsimp only; walk1) | ((try dsimp only); (with_reducible show WhileStep2 _ _ _ _ _ _ PySem.Flow.brk _); dsimp only [WhileStep2]) | fail "no step"))); (all_goals (try k_data)))
    ((rename Fr _ _ _ _ => F2); (rename News _ _ _ _ => N2))
    refine range1_rows F2 N2 ?_
    intro h' tk2 t₁ u₁ v₁ hrg F2 N2 hk2
    refine LCg.CompSrc.range (n := n) (by exact hh) F2 N2 hrg (small_one (by decide) (by decide) (by omega) (by omega)) (by rw [rangeSize_one]; split <;> omega) (by rw [PySem.sizeLine_eq]; omega) (fun g => ?_)
    refine comp_rest (fun i ys nw => ∃ zs kk cs, nw = (hl0, listOf (refs zs).toArray kk) :: (ents ++ R0) ∧ ys = refs cs ∧ zs.length = n - i ∧ Hp zs ∧ (cs ++ zs).Perm its ∧ (∀ a ∈ cs, ∀ b ∈ zs, b.lt a = false) ∧ cs.Pairwise (fun a b => b.lt a = false))
      ⟨zs, kk, [], rfl, rfl, ?_, hHp, hpm, (fun a ha => nomatch ha), .nil⟩ ?_ ?_
    · have h9 := congrArg List.length hk
      rw [List.length_map] at h9
      rw [hpm.length_eq, h9]; simp [prs]
    · rintro i ys _ v I oI C oC D m₂ h3 tk3 E' hi9 ⟨zs, kk, cs, rfl, rfl, hzl, hHp, hpm, hcz, hcc⟩ - - - F2 N2 off ne
      ((repeat' ((fail_if_success (first | (with_reducible show @Exists PySem.Heap _) | (with_reducible show wpAny _ _ (eval (PySem.Expr.ListComp _ _ _ _) _) _ _ _) | (with_reducible show wpAny _ _ (storeName _ (PySem.Str.ofString "due") _) _ _ _) | (with_reducible show wpAny _ _ (eval (PySem.Expr.Name (PySem.Str.ofString "heap") _) _) _ _ _) | (with_reducible show wpAny _ _ (eval (PySem.Expr.Name (PySem.Str.ofString "ends") _) _) _ _ _) | (first | (with_reducible show InvEndG _ _ _ _ _ _) | (with_reducible show wpAny _ _ (PySem.call (PySem.Value.ref _) _) _ _ _) | (with_reducible show wpAny _ _ (PySem.call (PySem.Value.builtin _) _) _ _ _) | (with_reducible show wpAny _ _ (PySem.call (PySem.Value.type _) _) _ _ _) | (with_reducible show wpAny _ _ (subscriptTail _ _ (PySem.Value.ref _) _) _ _ _) | (with_reducible show wpAny _ _ (setItem (PySem.Value.ref _) _ _) _ _ _) | (with_reducible show wpAny _ _ (compareOp _ (PySem.Value.ref _) _) _ _ _) | (with_reducible show wpAny _ _ (compareOp _ _ (PySem.Value.ref _)) _ _ _) | (with_reducible show wpAny _ _ (binaryOp PySem.Operator.Mod _ _) _ _ _) | (with_reducible show wpAny _ _ (truthy (PySem.Value.ref _)) _ _ _) | (with_reducible show wpAny _ _ (exec (PySem.Stmt.While _ _ _ _) _) _ _ _) | (with_reducible show wpAny _ _ (exec (PySem.Stmt.For (PySem.Expr.Tuple _ _ _) _ _ _ _ _) _) _ _ _) | (with_reducible show wpAny _ _ (pyIter _) _ _ _)))); (first | walk1 | (k_unfold; (try dsimp only)) | (dsimp only; walk1) | ((try dsimp only); (with_reducible show WhileStep2 _ _ _ _ _ _ PySem.Flow.brk _); dsimp only [WhileStep2]) | fail "no step"))); (all_goals (try k_data)))
      refine kcf_cell N2 rfl (.tail _ (.tail _ (.tail _ (.tail _ (List.mem_append_right _ hR1))))) hcH2 ?_
      ((repeat' ((fail_if_success (first | (with_reducible show @Exists PySem.Heap _) | (with_reducible show wpAny _ _ (eval (PySem.Expr.ListComp _ _ _ _) _) _ _ _) | (with_reducible show wpAny _ _ (storeName _ (PySem.Str.ofString "due") _) _ _ _) | (with_reducible show wpAny _ _ (eval (PySem.Expr.Name (PySem.Str.ofString "heap") _) _) _ _ _) | (with_reducible show wpAny _ _ (eval (PySem.Expr.Name (PySem.Str.ofString "ends") _) _) _ _ _) | (first | (with_reducible show InvEndG _ _ _ _ _ _) | (with_reducible show wpAny _ _ (PySem.call (PySem.Value.ref _) _) _ _ _) | (with_reducible show wpAny _ _ (PySem.call (PySem.Value.builtin _) _) _ _ _) | (with_reducible show wpAny _ _ (PySem.call (PySem.Value.type _) _) _ _ _) | (with_reducible show wpAny _ _ (subscriptTail _ _ (PySem.Value.ref _) _) _ _ _) | (with_reducible show wpAny _ _ (setItem (PySem.Value.ref _) _ _) _ _ _) | (with_reducible show wpAny _ _ (compareOp _ (PySem.Value.ref _) _) _ _ _) | (with_reducible show wpAny _ _ (compareOp _ _ (PySem.Value.ref _)) _ _ _) | (with_reducible show wpAny _ _ (binaryOp PySem.Operator.Mod _ _) _ _ _) | (with_reducible show wpAny _ _ (truthy (PySem.Value.ref _)) _ _ _) | (with_reducible show wpAny _ _ (exec (PySem.Stmt.While _ _ _ _) _) _ _ _) | (with_reducible show wpAny _ _ (exec (PySem.Stmt.For (PySem.Expr.Tuple _ _ _) _ _ _ _ _) _) _ _ _) | (with_reducible show wpAny _ _ (pyIter _) _ _ _)))); (first | walk1 | (k_unfold; (try dsimp only)) | (dsimp only; walk1) | ((try dsimp only); (with_reducible show WhileStep2 _ _ _ _ _ _ PySem.Flow.brk _); dsimp only [WhileStep2]) | fail "no step"))); (all_goals (try k_data)))
      ((rename Fr _ _ _ _ => F2); (rename News _ _ _ _ => N2))
      obtain ⟨z0, x, rfl⟩ : ∃ z0 x, zs = z0 ++ [x] := by
        rcases List.eq_nil_or_concat zs with h9 | ⟨z0, x, h9⟩
        · rw [h9] at hzl; simp at hzl; omega
        · exact ⟨z0, x, by rw [h9, List.concat_eq_append]⟩
      have hzi : ∀ y ∈ z0 ++ [x], y.ent ∈ (I, oI) :: (C, oC) :: (D, LCg.lst (refs cs)) :: (ents ++ R0) := fun y hy => .tail _ (.tail _ (.tail _ (List.mem_append_left _ (hz y (hpm.mem_iff.mp (List.mem_append_right _ hy))))))
      have hzn : z0.length + 1 = n - i := by simpa using hzl
      have N4 : News h₀ L _ ((hl0, listOf (refs (z0 ++ [x])).toArray kk) :: (I, oI) :: (C, oC) :: (D, LCg.lst (refs cs)) :: (ents ++ R0)) := fun q hq => N2 q (by
        rcases List.mem_cons.mp hq with rfl | hq
        · exact .tail _ (.tail _ (.tail _ (.head _)))
        · rcases List.mem_cons.mp hq with rfl | hq
          · exact .head _
          · rcases List.mem_cons.mp hq with rfl | hq
            · exact .tail _ (.head _)
            · rcases List.mem_cons.mp hq with rfl | hq
              · exact .tail _ (.tail _ (.head _))
              · exact .tail _ (.tail _ (.tail _ (.tail _ hq))))
      have hofh := off (hl0, _) (.head _)
      have heR : ∀ q ∈ ents ++ R0, q.1 ≠ hl0 := fun q hq => (List.mem_append.mp hq).elim (he q) (hRh q)
      refine' heappop_ct ?kB F2 ?kX ?kT ?kA ?kf ?kk ?kh N4 ?kd ?ku ?ko ?kz ?kx ?kl ?_
      ((case kA => exact hA); (case kB => assumption); (case kX => assumption); (case kT => assumption); (case kf => exact rfl); (case kk => exact rfl); (case kh => exact hh); (case kd => omega); (case ku => omega))
      case kl => omega
      case kz => exact fun y hy => hzi y (List.mem_append_left _ hy)
      case kx => exact hzi x (List.mem_append_right _ (.head _))
      case ko =>
        intro q hq
        rcases List.mem_cons.mp hq with rfl | hq
        · exact fun e => hofh.1 e.symm
        · rcases List.mem_cons.mp hq with rfl | hq
          · exact fun e => hofh.2.1 e.symm
          · rcases List.mem_cons.mp hq with rfl | hq
            · exact fun e => hofh.2.2 e.symm
            · exact heR q hq
      intro h' tk' F2 N2
      have hpp := hpop_perm z0 x
      have hpp2 : ((hpop z0 x).1 :: (hpop z0 x).2).Perm (z0 ++ [x]) := hpp.trans (List.perm_append_singleton x z0).symm
      have hmn := hpop_min hHp
      refine ⟨_, _, (hl0, listOf (refs (hpop z0 x).2).toArray (kk + 1)) :: (ents ++ R0), rfl, F2, ?_, ?_, trivial, (hpop z0 x).2, kk + 1, cs ++ [(hpop z0 x).1], rfl, ?_, ?_, hpop_hp hHp, ?_, ?_, ?_⟩
      · intro q hq
        apply N2 q
        rcases List.mem_cons.mp hq with rfl | hq
        · exact .tail _ (.head _)
        · rcases List.mem_cons.mp hq with rfl | hq
          · exact .tail _ (.tail _ (.head _))
          · rcases List.mem_cons.mp hq with rfl | hq
            · exact .tail _ (.tail _ (.tail _ (.head _)))
            · rcases List.mem_cons.mp hq with rfl | hq
              · exact .head _
              · exact .tail _ (.tail _ (.tail _ (.tail _ hq)))
      · intro q hq
        rcases List.mem_cons.mp hq with rfl | hq
        · exact hofh
        · exact off q (.tail _ hq)
      · simp
      · have := hpp2.length_eq; simp at this; omega
      · rw [List.append_assoc]; exact (List.Perm.append_left cs hpp2).trans hpm
      · intro a ha b hb
        have hbz : b ∈ z0 ++ [x] := hpp2.mem_iff.mp (.tail _ hb)
        rcases List.mem_append.mp ha with ha | ha
        · exact hcz a ha b hbz
        · rw [List.mem_singleton.mp ha]; exact hmn b hb
      · rw [List.pairwise_append]
        refine ⟨hcc, List.pairwise_singleton _ _, fun a ha b hb => ?_⟩
        rw [List.mem_singleton.mp hb]
        exact hcz a ha _ (hpp2.mem_iff.mp (.head _))
    · rintro ys _ ⟨zs, kk, cs, rfl, rfl, hzl, hHp, hpm, hcz, hcc⟩
      intro D h3 tk3 F2 N2 hoD
      obtain rfl : zs = [] := List.eq_nil_of_length_eq_zero (by omega)
      rw [List.append_nil] at hpm
      refine ret W st n t1 t3 r hl0 D us k kk cH2 its cs _ _ _ _ hW1 hW2 hs1 hs2 hn1 hn2 hnd hus hk hpm hcc ?_ hcH2 (.head _) (.tail _ (.head _)) (.tail _ (.tail _ (List.mem_append_right _ hR2))) (.tail _ (.tail _ (List.mem_append_right _ hR1))) (.tail _ (.tail _ (List.mem_append_right _ hR3))) ?_ F2 N2
      · intro z hz2
        exact .tail _ (.tail _ (List.mem_append_left _ (hz z (hpm.mem_iff.mp hz2))))
      · kst_all
end Mine
end
section
open PySem PySem.W PySem.Calls PyProof.Rows
set_option maxRecDepth 100000
set_option maxHeartbeats 8000000
set_option pp.deepTerms.threshold 6
theorem Mine.warmL2 (w : World) : (model PySem.Challenge.rw_ik0114_01.row.prog w, Mine.hd.heap_39 w.params) = (model PySem.Challenge.rw_ik0114_01.row.prog w, Mine.hd.heap_39 w.params) := by
  k_fill
  rfl
local macro_rules | `(tactic| walk_at "eval Name") => `(tactic| k_dflt (refine' ld ?k1 ?k2 ?_; (case k1 => k_asm); (case k2 => exact rfl); k_whole))
local macro_rules | `(tactic| walk_at "execs cons") => `(tactic| ((with_reducible refine wpAny_execs_cons ?_); (try dsimp only)))
local macro_rules | `(tactic| walk_at "exec Assign") => `(tactic| ((with_reducible show wpAny _ _ (exec (PySem.Stmt.Assign [PySem.Expr.Name _ _] _ _) _) _ _ _); (with_reducible refine wpAny_Assign_Name ?_)))
namespace Mine
/-- the law's own walk from neighbour to neighbour -/
def nextS (n k m s : Nat) : Nat := if s + k < n then s + k else if m ≤ s then s - m else s + k - m
def gapS (n k m : Nat) (p q : Int) (s : Nat) : Int := if s + k < n then p else if m ≤ s then q else p + q
noncomputable def stepAt (n k m : Nat) : Nat → Nat
  | 0 => 0
  | i + 1 => nextS n k m (stepAt n k m i)
theorem stepAt_lt {n k m : Nat} (hk : k < n) (hn : 0 < n) : ∀ i, stepAt n k m i < n
  | 0 => hn
  | i + 1 => by
    have := stepAt_lt (m := m) hk hn i
    show nextS n k m (stepAt n k m i) < n
    unfold nextS
    split
    · assumption
    · split <;> omega
noncomputable def dueL (xs : List Int) (n k m i : Nat) : List (Int × Int) := (List.range i).map fun j => (xs.getD (stepAt n k m j) 0, (stepAt n k m j : Int))
noncomputable def gapL (n k m : Nat) (p q : Int) (i : Nat) : List Int := (List.range i).map fun j => gapS n k m p q (stepAt n k m j)
theorem dueL_succ (xs : List Int) (n k m i : Nat) : dueL xs n k m (i + 1) = dueL xs n k m i ++ [(xs.getD (stepAt n k m i) 0, (stepAt n k m i : Int))] := by simp [dueL, List.range_succ]
theorem gapL_succ (n k m : Nat) (p q : Int) (i : Nat) : gapL n k m p q (i + 1) = gapL n k m p q i ++ [gapS n k m p q (stepAt n k m i)] := by simp [gapL, List.range_succ]

theorem dedup_snoc (l : List Int) (g : Int) : dedup (l ++ [g]) = dedupF (dedup l) g := by simp [dedup, List.foldl_append]

theorem segB {w : World} {A A₀ : Around} {f : Addr} {cdv : Value} {outer : List Env} {base h₀ : Heap} {L : Addr} {m : Str → Option Value} {s : Shared} {p : Program} {loose : List Str} {mean : ExcName → Option Value} {mg mb : Str → Option Value} {Q : Flow → Shared → Prop} {E : Value → Shared → Prop}
    (B : Below A₀ base outer h₀) (F : Fr h₀ L s.heap m) (X : (Mine.hd.heap_39 w.params).In h₀) (T : Top p loose mean mg mb h₀) (hA : A.frames = some (envOfC (Str.ofString "law") lawPart.1 L f cdv :: outer)) (hh : A.handled = none) (hP : PassesOwn (model PySem.Challenge.rw_ik0114_01.row.prog w) A (envOfC (Str.ofString "law") lawPart.1 L f cdv) E)
    {W st : Int} {n : Nat} {tW tn : Tok} {r D : Addr} {us : List Value} {kr : Nat} {nw : List (Addr × Obj)} (hn1 : 2 ≤ n) (hn2 : n ≤ 16) (hnd : (pts W st n).Nodup) (hus : IntsAre us (pts W st n)) (hr : (r, listOf us.toArray kr) ∈ nw)
    (hps : ∀ e ∈ ([(Str.ofString "width", .int W tW), (Str.ofString "points", .ref r), (Str.ofString "n", .int (n : Int) tn), (Str.ofString "came", .ref D)] : List (Str × Value)), m e.1 = some e.2)
    (N : News h₀ L s.heap nw)
    (hd : A.depth + 10 < recursionLimit) (hu : A.units + 70 < cLine)
    (ret : ∀ (pp MM : Int) (kx mx : Nat) (t1 t2 t3 t4 t5 t6 : Tok) (du fi : Addr) (ds : List It) (fus : List Value) (kd kf : Nat) (nw2 : List (Addr × Obj)) (m' : Str → Option Value) h' tk', pp ∈ (pts W st n).drop 1 → (∀ a ∈ (pts W st n).drop 1, pp ≤ a) → MM ∈ (pts W st n).drop 1 → (∀ a ∈ (pts W st n).drop 1, a ≤ MM) →
      (pts W st n)[kx]? = some pp → (pts W st n)[mx]? = some MM → ds.map It.key = dueL (pts W st n) n kx mx n → (∀ z ∈ ds, z.ent ∈ nw2) → IntsAre fus (dedup (gapL n kx mx pp (W - MM) n)) → (du, listOf (refs ds).toArray kd) ∈ nw2 → (fi, listOf fus.toArray kf) ∈ nw2 → (∀ q ∈ nw, q ∈ nw2) →
      (∀ e ∈ ([(Str.ofString "width", .int W t1), (Str.ofString "n", .int (n : Int) t2), (Str.ofString "came", .ref D), (Str.ofString "p", .int pp t3), (Str.ofString "k", .int (kx : Int) t4), (Str.ofString "q", .int (W - MM) t5), (Str.ofString "m", .int (mx : Int) t6), (Str.ofString "due", .ref du), (Str.ofString "first", .ref fi)] : List (Str × Value)), m' e.1 = some e.2) →
      Fr h₀ L h' m' → News h₀ L h' nw2 → wpAny (model PySem.Challenge.rw_ik0114_01.row.prog w) A (execs (lawPart.2.drop 13) (envOfC (Str.ofString "law") lawPart.1 L f cdv)) Q E { s with heap := h', toks := tk' }) :
    wpAny (model PySem.Challenge.rw_ik0114_01.row.prog w) A (execs (lawPart.2.drop 5) (envOfC (Str.ofString "law") lawPart.1 L f cdv)) Q E s := by
  obtain ⟨sc, hsc⟩ : ∃ z, z = lawPart.1 := ⟨_, rfl⟩
  obtain ⟨bd, hbd⟩ : ∃ z, z = lawPart.2.drop 5 := ⟨_, rfl⟩
  rw [← hsc] at hA hP
  rw [← hsc, ← hbd]
  conv at hsc => (rhs; whnf)
  conv at hbd => (rhs; whnf)
  subst hsc hbd
  have F2 := frB F hps
  clear F
  dsimp only [kstB] at F2
  have N2 : News h₀ L s.heap ((r, listOf us.toArray kr) :: nw) := fun q hq => (List.mem_cons.mp hq).elim (fun e => e ▸ N _ hr) (N q)
  have hul := hus.length
  rw [pts_len] at hul
  ((repeat' ((fail_if_success (first | (with_reducible show @Exists PySem.Heap _) | (with_reducible show wpAny _ _ (eval (PySem.Expr.ListComp _ _ _ _) _) _ _ _) | (with_reducible show wpAny _ _ (storeName _ (PySem.Str.ofString "due") _) _ _ _) | (with_reducible show wpAny _ _ (eval (PySem.Expr.Name (PySem.Str.ofString "heap") _) _) _ _ _) | (with_reducible show wpAny _ _ (eval (PySem.Expr.Name (PySem.Str.ofString "ends") _) _) _ _ _) | (first | (with_reducible show InvEndG _ _ _ _ _ _) | (with_reducible show wpAny _ _ (PySem.call (PySem.Value.ref _) _) _ _ _) | (with_reducible show wpAny _ _ (PySem.call (PySem.Value.builtin _) _) _ _ _) | (with_reducible show wpAny _ _ (PySem.call (PySem.Value.type _) _) _ _ _) | (with_reducible show wpAny _ _ (subscriptTail _ _ (PySem.Value.ref _) _) _ _ _) | (with_reducible show wpAny _ _ (setItem (PySem.Value.ref _) _ _) _ _ _) | (with_reducible show wpAny _ _ (compareOp _ (PySem.Value.ref _) _) _ _ _) | (with_reducible show wpAny _ _ (compareOp _ _ (PySem.Value.ref _)) _ _ _) | (with_reducible show wpAny _ _ (binaryOp PySem.Operator.Mod _ _) _ _ _) | (with_reducible show wpAny _ _ (truthy (PySem.Value.ref _)) _ _ _) | (with_reducible show wpAny _ _ (exec (PySem.Stmt.While _ _ _ _) _) _ _ _) | (with_reducible show wpAny _ _ (exec (PySem.Stmt.For (PySem.Expr.Tuple _ _ _) _ _ _ _ _) _) _ _ _) | (with_reducible show wpAny _ _ (pyIter _) _ _ _)))); (first | walk1 | (k_unfold; (try dsimp only)) | (dsimp only; walk1) | ((try dsimp only); (with_reducible show WhileStep2 _ _ _ _ _ _ PySem.Flow.brk _); dsimp only [WhileStep2]) | fail "no step"))); (all_goals (try k_data)))
  ((rename Fr _ _ _ _ => F2); (rename News _ _ _ _ => N2))
  refine' kmk_slice_ints ?zF ?zN ?zl ?zp ?zq ?zi ?zm ?zc ?_ ?zs ?zt ?zz
  case zF => k_asm
  case zN => k_asm
  case zl => exact isL (by k_asm) (by k_mem)
  case zp => kmk_part
  case zq => kmk_part
  case zi => exact hus
  case zm => exact kmk_from hus (by decide)
  case zc => exact rfl
  case zs => with_unfolding_all rfl
  case zt => kmk_pure
  case zz => rw [List.size_toArray, PySem.sizeLine_eq]; omega
  intro D' ws' h' F2 N2 l0 hI' hC' hL'
  have hdl : ((pts W st n).drop (Int.toNat 1)).length = n - 1 := by rw [List.length_drop, pts_len]; rfl
  ((repeat' ((fail_if_success (first | (with_reducible show @Exists PySem.Heap _) | (with_reducible show wpAny _ _ (eval (PySem.Expr.ListComp _ _ _ _) _) _ _ _) | (with_reducible show wpAny _ _ (storeName _ (PySem.Str.ofString "due") _) _ _ _) | (with_reducible show wpAny _ _ (eval (PySem.Expr.Name (PySem.Str.ofString "heap") _) _) _ _ _) | (with_reducible show wpAny _ _ (eval (PySem.Expr.Name (PySem.Str.ofString "ends") _) _) _ _ _) | (first | (with_reducible show InvEndG _ _ _ _ _ _) | (with_reducible show wpAny _ _ (PySem.call (PySem.Value.ref _) _) _ _ _) | (with_reducible show wpAny _ _ (PySem.call (PySem.Value.builtin _) _) _ _ _) | (with_reducible show wpAny _ _ (PySem.call (PySem.Value.type _) _) _ _ _) | (with_reducible show wpAny _ _ (subscriptTail _ _ (PySem.Value.ref _) _) _ _ _) | (with_reducible show wpAny _ _ (setItem (PySem.Value.ref _) _ _) _ _ _) | (with_reducible show wpAny _ _ (compareOp _ (PySem.Value.ref _) _) _ _ _) | (with_reducible show wpAny _ _ (compareOp _ _ (PySem.Value.ref _)) _ _ _) | (with_reducible show wpAny _ _ (binaryOp PySem.Operator.Mod _ _) _ _ _) | (with_reducible show wpAny _ _ (truthy (PySem.Value.ref _)) _ _ _) | (with_reducible show wpAny _ _ (exec (PySem.Stmt.While _ _ _ _) _) _ _ _) | (with_reducible show wpAny _ _ (exec (PySem.Stmt.For (PySem.Expr.Tuple _ _ _) _ _ _ _ _) _) _ _ _) | (with_reducible show wpAny _ _ (pyIter _) _ _ _)))); (first | walk1 | (k_unfold; (try dsimp only)) | (dsimp only; walk1) | ((try dsimp only); (with_reducible show WhileStep2 _ _ _ _ _ _ PySem.Flow.brk _); dsimp only [WhileStep2]) | fail "no step"))); (all_goals (try k_data)))
  ((rename Fr _ _ _ _ => F2); (rename News _ _ _ _ => N2))
  refine kso_min F2 N2 (isL N2 (.head _)) hI' (by omega) (by exact hh) ?_
  intro h' pp tp tk1 F2 N2 hpm hpl
  obtain ⟨kx, hkx⟩ : ∃ j, (pts W st n)[j]? = some pp := List.getElem?_of_mem (List.mem_of_mem_drop hpm)
  have hkl : kx < n := by have := (List.getElem?_eq_some_iff.mp hkx).1; rwa [pts_len] at this
  have huniq : ∀ {i j : Nat} {y : Int}, (pts W st n)[i]? = some y → (pts W st n)[j]? = some y → i = j := by
    intro i j y h1 h2
    obtain ⟨h3, h5⟩ := List.getElem?_eq_some_iff.mp h1
    obtain ⟨h4, h6⟩ := List.getElem?_eq_some_iff.mp h2
    rcases Nat.lt_trichotomy i j with h7 | h7 | h7
    · exact absurd (h5.trans h6.symm) (List.pairwise_iff_getElem.mp hnd i j h3 h4 h7)
    · exact h7
    · exact absurd (h6.trans h5.symm) (List.pairwise_iff_getElem.mp hnd j i h4 h3 h7)
  ((repeat' ((fail_if_success (first | (with_reducible show @Exists PySem.Heap _) | (with_reducible show wpAny _ _ (eval (PySem.Expr.ListComp _ _ _ _) _) _ _ _) | (with_reducible show wpAny _ _ (storeName _ (PySem.Str.ofString "due") _) _ _ _) | (with_reducible show wpAny _ _ (eval (PySem.Expr.Name (PySem.Str.ofString "heap") _) _) _ _ _) | (with_reducible show wpAny _ _ (eval (PySem.Expr.Name (PySem.Str.ofString "ends") _) _) _ _ _) | (first | (with_reducible show InvEndG _ _ _ _ _ _) | (with_reducible show wpAny _ _ (PySem.call (PySem.Value.ref _) _) _ _ _) | (with_reducible show wpAny _ _ (PySem.call (PySem.Value.builtin _) _) _ _ _) | (with_reducible show wpAny _ _ (PySem.call (PySem.Value.type _) _) _ _ _) | (with_reducible show wpAny _ _ (subscriptTail _ _ (PySem.Value.ref _) _) _ _ _) | (with_reducible show wpAny _ _ (setItem (PySem.Value.ref _) _ _) _ _ _) | (with_reducible show wpAny _ _ (compareOp _ (PySem.Value.ref _) _) _ _ _) | (with_reducible show wpAny _ _ (compareOp _ _ (PySem.Value.ref _)) _ _ _) | (with_reducible show wpAny _ _ (binaryOp PySem.Operator.Mod _ _) _ _ _) | (with_reducible show wpAny _ _ (truthy (PySem.Value.ref _)) _ _ _) | (with_reducible show wpAny _ _ (exec (PySem.Stmt.While _ _ _ _) _) _ _ _) | (with_reducible show wpAny _ _ (exec (PySem.Stmt.For (PySem.Expr.Tuple _ _ _) _ _ _ _ _) _) _ _ _) | (with_reducible show wpAny _ _ (pyIter _) _ _ _)))); (first | walk1 | (k_unfold; (try dsimp only)) | (dsimp only; walk1) | ((try dsimp only); (with_reducible show WhileStep2 _ _ _ _ _ _ PySem.Flow.brk _); dsimp only [WhileStep2]) | fail "no step"))); (all_goals (try k_data)))
  ((rename Fr _ _ _ _ => F2); (rename News _ _ _ _ => N2))
  refine index_led N2 (by k_mem) hus hkx (fun i y hi hy e => by rw [e] at hy; have := huniq hy hkx; omega) (by rw [pts_len]; omega) ?_
  ((repeat' ((fail_if_success (first | (with_reducible show @Exists PySem.Heap _) | (with_reducible show wpAny _ _ (eval (PySem.Expr.ListComp _ _ _ _) _) _ _ _) | (with_reducible show wpAny _ _ (storeName _ (PySem.Str.ofString "due") _) _ _ _) | (with_reducible show wpAny _ _ (eval (PySem.Expr.Name (PySem.Str.ofString "heap") _) _) _ _ _) | (with_reducible show wpAny _ _ (eval (PySem.Expr.Name (PySem.Str.ofString "ends") _) _) _ _ _) | (first | (with_reducible show InvEndG _ _ _ _ _ _) | (with_reducible show wpAny _ _ (PySem.call (PySem.Value.ref _) _) _ _ _) | (with_reducible show wpAny _ _ (PySem.call (PySem.Value.builtin _) _) _ _ _) | (with_reducible show wpAny _ _ (PySem.call (PySem.Value.type _) _) _ _ _) | (with_reducible show wpAny _ _ (subscriptTail _ _ (PySem.Value.ref _) _) _ _ _) | (with_reducible show wpAny _ _ (setItem (PySem.Value.ref _) _ _) _ _ _) | (with_reducible show wpAny _ _ (compareOp _ (PySem.Value.ref _) _) _ _ _) | (with_reducible show wpAny _ _ (compareOp _ _ (PySem.Value.ref _)) _ _ _) | (with_reducible show wpAny _ _ (binaryOp PySem.Operator.Mod _ _) _ _ _) | (with_reducible show wpAny _ _ (truthy (PySem.Value.ref _)) _ _ _) | (with_reducible show wpAny _ _ (exec (PySem.Stmt.While _ _ _ _) _) _ _ _) | (with_reducible show wpAny _ _ (exec (PySem.Stmt.For (PySem.Expr.Tuple _ _ _) _ _ _ _ _) _) _ _ _) | (with_reducible show wpAny _ _ (pyIter _) _ _ _)))); (first | walk1 | (k_unfold; (try dsimp only)) | (dsimp only; walk1) | ((try dsimp only); (with_reducible show WhileStep2 _ _ _ _ _ _ PySem.Flow.brk _); dsimp only [WhileStep2]) | fail "no step"))); (all_goals (try k_data)))
  ((rename Fr _ _ _ _ => F2); (rename News _ _ _ _ => N2))
  refine' kmk_slice_ints ?zF ?zN ?zl ?zp ?zq ?zi ?zm ?zc ?_ ?zs ?zt ?zz
  case zF => k_asm
  case zN => k_asm
  case zl => exact isL (by k_asm) (by k_mem)
  case zp => kmk_part
  case zq => kmk_part
  case zi => exact hus
  case zm => exact kmk_from hus (by decide)
  case zc => exact rfl
  case zs => with_unfolding_all rfl
  case zt => kmk_pure
  case zz => rw [List.size_toArray, PySem.sizeLine_eq]; omega
  intro D2' ws2' h' F2 N2 l02 hI2' hC2' hL2'
  ((repeat' ((fail_if_success (first | (with_reducible show @Exists PySem.Heap _) | (with_reducible show wpAny _ _ (eval (PySem.Expr.ListComp _ _ _ _) _) _ _ _) | (with_reducible show wpAny _ _ (storeName _ (PySem.Str.ofString "due") _) _ _ _) | (with_reducible show wpAny _ _ (eval (PySem.Expr.Name (PySem.Str.ofString "heap") _) _) _ _ _) | (with_reducible show wpAny _ _ (eval (PySem.Expr.Name (PySem.Str.ofString "ends") _) _) _ _ _) | (first | (with_reducible show InvEndG _ _ _ _ _ _) | (with_reducible show wpAny _ _ (PySem.call (PySem.Value.ref _) _) _ _ _) | (with_reducible show wpAny _ _ (PySem.call (PySem.Value.builtin _) _) _ _ _) | (with_reducible show wpAny _ _ (PySem.call (PySem.Value.type _) _) _ _ _) | (with_reducible show wpAny _ _ (subscriptTail _ _ (PySem.Value.ref _) _) _ _ _) | (with_reducible show wpAny _ _ (setItem (PySem.Value.ref _) _ _) _ _ _) | (with_reducible show wpAny _ _ (compareOp _ (PySem.Value.ref _) _) _ _ _) | (with_reducible show wpAny _ _ (compareOp _ _ (PySem.Value.ref _)) _ _ _) | (with_reducible show wpAny _ _ (binaryOp PySem.Operator.Mod _ _) _ _ _) | (with_reducible show wpAny _ _ (truthy (PySem.Value.ref _)) _ _ _) | (with_reducible show wpAny _ _ (exec (PySem.Stmt.While _ _ _ _) _) _ _ _) | (with_reducible show wpAny _ _ (exec (PySem.Stmt.For (PySem.Expr.Tuple _ _ _) _ _ _ _ _) _) _ _ _) | (with_reducible show wpAny _ _ (pyIter _) _ _ _)))); (first | walk1 | (k_unfold; (try dsimp only)) | (dsimp only; walk1) | ((try dsimp only); (with_reducible show WhileStep2 _ _ _ _ _ _ PySem.Flow.brk _); dsimp only [WhileStep2]) | fail "no step"))); (all_goals (try k_data)))
  ((rename Fr _ _ _ _ => F2); (rename News _ _ _ _ => N2))
  refine kso_max F2 N2 (isL N2 (.head _)) hI2' (by omega) (by exact hh) ?_
  intro h' MM tM tk2 F2 N2 hMm hMl
  obtain ⟨mx, hmx⟩ : ∃ j, (pts W st n)[j]? = some MM := List.getElem?_of_mem (List.mem_of_mem_drop hMm)
  have hml : mx < n := by have := (List.getElem?_eq_some_iff.mp hmx).1; rwa [pts_len] at this
  ((repeat' ((fail_if_success (first | (with_reducible show @Exists PySem.Heap _) | (with_reducible show wpAny _ _ (eval (PySem.Expr.ListComp _ _ _ _) _) _ _ _) | (with_reducible show wpAny _ _ (storeName _ (PySem.Str.ofString "due") _) _ _ _) | (with_reducible show wpAny _ _ (eval (PySem.Expr.Name (PySem.Str.ofString "heap") _) _) _ _ _) | (with_reducible show wpAny _ _ (eval (PySem.Expr.Name (PySem.Str.ofString "ends") _) _) _ _ _) | (first | (with_reducible show InvEndG _ _ _ _ _ _) | (with_reducible show wpAny _ _ (PySem.call (PySem.Value.ref _) _) _ _ _) | (with_reducible show wpAny _ _ (PySem.call (PySem.Value.builtin _) _) _ _ _) | (with_reducible show wpAny _ _ (PySem.call (PySem.Value.type _) _) _ _ _) | (with_reducible show wpAny _ _ (subscriptTail _ _ (PySem.Value.ref _) _) _ _ _) | (with_reducible show wpAny _ _ (setItem (PySem.Value.ref _) _ _) _ _ _) | (with_reducible show wpAny _ _ (compareOp _ (PySem.Value.ref _) _) _ _ _) | (with_reducible show wpAny _ _ (compareOp _ _ (PySem.Value.ref _)) _ _ _) | (with_reducible show wpAny _ _ (binaryOp PySem.Operator.Mod _ _) _ _ _) | (with_reducible show wpAny _ _ (truthy (PySem.Value.ref _)) _ _ _) | (with_reducible show wpAny _ _ (exec (PySem.Stmt.While _ _ _ _) _) _ _ _) | (with_reducible show wpAny _ _ (exec (PySem.Stmt.For (PySem.Expr.Tuple _ _ _) _ _ _ _ _) _) _ _ _) | (with_reducible show wpAny _ _ (pyIter _) _ _ _)))); (first | walk1 | (k_unfold; (try dsimp only)) | (dsimp only; walk1) | ((try dsimp only); (with_reducible show WhileStep2 _ _ _ _ _ _ PySem.Flow.brk _); dsimp only [WhileStep2]) | fail "no step"))); (all_goals (try k_data)))
  ((rename Fr _ _ _ _ => F2); (rename News _ _ _ _ => N2))
  rw [show W - (W - MM) = MM by omega]
  refine index_led N2 (by k_mem) hus hmx (fun i y hi hy e => by rw [e] at hy; have := huniq hy hmx; omega) (by rw [pts_len]; omega) ?_
  ((repeat' ((fail_if_success (first | (with_reducible show @Exists PySem.Heap _) | (with_reducible show wpAny _ _ (eval (PySem.Expr.ListComp _ _ _ _) _) _ _ _) | (with_reducible show wpAny _ _ (storeName _ (PySem.Str.ofString "due") _) _ _ _) | (with_reducible show wpAny _ _ (eval (PySem.Expr.Name (PySem.Str.ofString "heap") _) _) _ _ _) | (with_reducible show wpAny _ _ (eval (PySem.Expr.Name (PySem.Str.ofString "ends") _) _) _ _ _) | (first | (with_reducible show InvEndG _ _ _ _ _ _) | (with_reducible show wpAny _ _ (PySem.call (PySem.Value.ref _) _) _ _ _) | (with_reducible show wpAny _ _ (PySem.call (PySem.Value.builtin _) _) _ _ _) | (with_reducible show wpAny _ _ (PySem.call (PySem.Value.type _) _) _ _ _) | (with_reducible show wpAny _ _ (subscriptTail _ _ (PySem.Value.ref _) _) _ _ _) | (with_reducible show wpAny _ _ (setItem (PySem.Value.ref _) _ _) _ _ _) | (with_reducible show wpAny _ _ (compareOp _ (PySem.Value.ref _) _) _ _ _) | (with_reducible show wpAny _ _ (compareOp _ _ (PySem.Value.ref _)) _ _ _) | (with_reducible show wpAny _ _ (binaryOp PySem.Operator.Mod _ _) _ _ _) | (with_reducible show wpAny _ _ (truthy (PySem.Value.ref _)) _ _ _) | (with_reducible show wpAny _ _ (exec (PySem.Stmt.While _ _ _ _) _) _ _ _) | (with_reducible show wpAny _ _ (exec (PySem.Stmt.For (PySem.Expr.Tuple _ _ _) _ _ _ _ _) _) _ _ _) | (with_reducible show wpAny _ _ (pyIter _) _ _ _)))); (first | walk1 | (k_unfold; (try dsimp only)) | (dsimp only; walk1) | ((try dsimp only); (with_reducible show WhileStep2 _ _ _ _ _ _ PySem.Flow.brk _); dsimp only [WhileStep2]) | fail "no step"))); (all_goals (try k_data)))
  (rename Addr => du0)
  walk1
  ((repeat' ((fail_if_success (first | (with_reducible show @Exists PySem.Heap _) | (with_reducible show wpAny _ _ (eval (PySem.Expr.ListComp _ _ _ _) _) _ _ _) | (with_reducible show wpAny _ _ (storeName _ (PySem.Str.ofString "due") _) _ _ _) | (with_reducible show wpAny _ _ (eval (PySem.Expr.Name (PySem.Str.ofString "heap") _) _) _ _ _) | (with_reducible show wpAny _ _ (eval (PySem.Expr.Name (PySem.Str.ofString "ends") _) _) _ _ _) | (first | (with_reducible show InvEndG _ _ _ _ _ _) | (with_reducible show wpAny _ _ (PySem.call (PySem.Value.ref _) _) _ _ _) | (with_reducible show wpAny _ _ (PySem.call (PySem.Value.builtin _) _) _ _ _) | (with_reducible show wpAny _ _ (PySem.call (PySem.Value.type _) _) _ _ _) | (with_reducible show wpAny _ _ (subscriptTail _ _ (PySem.Value.ref _) _) _ _ _) | (with_reducible show wpAny _ _ (setItem (PySem.Value.ref _) _ _) _ _ _) | (with_reducible show wpAny _ _ (compareOp _ (PySem.Value.ref _) _) _ _ _) | (with_reducible show wpAny _ _ (compareOp _ _ (PySem.Value.ref _)) _ _ _) | (with_reducible show wpAny _ _ (binaryOp PySem.Operator.Mod _ _) _ _ _) | (with_reducible show wpAny _ _ (truthy (PySem.Value.ref _)) _ _ _) | (with_reducible show wpAny _ _ (exec (PySem.Stmt.While _ _ _ _) _) _ _ _) | (with_reducible show wpAny _ _ (exec (PySem.Stmt.For (PySem.Expr.Tuple _ _ _) _ _ _ _ _) _) _ _ _) | (with_reducible show wpAny _ _ (pyIter _) _ _ _)))); (first | walk1 | (k_unfold; (try dsimp only)) | (dsimp only; walk1) | ((try dsimp only); (with_reducible show WhileStep2 _ _ _ _ _ _ PySem.Flow.brk _); dsimp only [WhileStep2]) | fail "no step"))); (all_goals (try k_data)))
  ((rename Fr _ _ _ _ => F2); (rename News _ _ _ _ => N2))
  (rename Addr => fi0)
  (rename du0 < fi0 ∧ _ => lf)
  refine range1_rows F2 N2 ?_
  intro h' tk3 t₁ u₁ v₁ hrg F2 N2 hk2
  ((repeat' ((fail_if_success (first | (with_reducible show @Exists PySem.Heap _) | (with_reducible show wpAny _ _ (eval (PySem.Expr.ListComp _ _ _ _) _) _ _ _) | (with_reducible show wpAny _ _ (storeName _ (PySem.Str.ofString "due") _) _ _ _) | (with_reducible show wpAny _ _ (eval (PySem.Expr.Name (PySem.Str.ofString "heap") _) _) _ _ _) | (with_reducible show wpAny _ _ (eval (PySem.Expr.Name (PySem.Str.ofString "ends") _) _) _ _ _) | (first | (with_reducible show InvEndG _ _ _ _ _ _) | (with_reducible show wpAny _ _ (PySem.call (PySem.Value.ref _) _) _ _ _) | (with_reducible show wpAny _ _ (PySem.call (PySem.Value.builtin _) _) _ _ _) | (with_reducible show wpAny _ _ (PySem.call (PySem.Value.type _) _) _ _ _) | (with_reducible show wpAny _ _ (subscriptTail _ _ (PySem.Value.ref _) _) _ _ _) | (with_reducible show wpAny _ _ (setItem (PySem.Value.ref _) _ _) _ _ _) | (with_reducible show wpAny _ _ (compareOp _ (PySem.Value.ref _) _) _ _ _) | (with_reducible show wpAny _ _ (compareOp _ _ (PySem.Value.ref _)) _ _ _) | (with_reducible show wpAny _ _ (binaryOp PySem.Operator.Mod _ _) _ _ _) | (with_reducible show wpAny _ _ (truthy (PySem.Value.ref _)) _ _ _) | (with_reducible show wpAny _ _ (exec (PySem.Stmt.While _ _ _ _) _) _ _ _) | (with_reducible show wpAny _ _ (exec (PySem.Stmt.For (PySem.Expr.Tuple _ _ _) _ _ _ _ _) _) _ _ _) | (with_reducible show wpAny _ _ (pyIter _) _ _ _)))); (first | walk1 | (k_unfold; (try dsimp only)) | (dsimp only; walk1) | ((try dsimp only); (with_reducible show WhileStep2 _ _ _ _ _ _ PySem.Flow.brk _); dsimp only [WhileStep2]) | fail "no step"))); (all_goals (try k_data)))
  ((rename Fr _ _ _ _ => F2); (rename News _ _ _ _ => N2))
  obtain ⟨lf1, -, -, lf4, lf5⟩ := lf
  (rename _ ∧ _ ∧ _ ∧ AllLt du0 nw => ld1)
  obtain ⟨-, -, ld4, ld5⟩ := ld1
  obtain ⟨R1, hR1⟩ : ∃ R1, R1 = (r, listOf us.toArray kr) :: nw := ⟨_, rfl⟩
  have hRr : (r, listOf us.toArray kr) ∈ R1 := by rw [hR1]; exact .head _
  have hRn : ∀ q ∈ nw, q ∈ R1 := fun q hq => by rw [hR1]; exact .tail _ hq
  have hRf : ∀ q ∈ R1, q.1 ≠ fi0 ∧ q.1 ≠ du0 := by
    intro q hq
    rw [hR1] at hq
    rcases List.mem_cons.mp hq with rfl | hq
    · exact ⟨Nat.ne_of_lt lf4, Nat.ne_of_lt ld4⟩
    · exact ⟨Nat.ne_of_lt (tb_ltOf lf5 q hq), Nat.ne_of_lt (tb_ltOf ld5 q hq)⟩
  have hfd : fi0 ≠ du0 := Nat.ne_of_gt lf1
  have N3 : News h₀ L _ ((fi0, listOf ([] : List Value).toArray 0) :: (du0, listOf (refs []).toArray 0) :: ([] ++ R1)) := fun q hq => N2 q (by
    rcases List.mem_cons.mp hq with rfl | hq
    · exact .head _
    · rcases List.mem_cons.mp hq with rfl | hq
      · exact .tail _ (.head _)
      · rw [List.nil_append, hR1] at hq
        exact .tail _ (.tail _ (.tail _ (.tail _ hq))))
  refine for_range n (fun i m₁ nx => ∃ ds fus ents kd kf sv ts t1 t2 t3 t4 t5 t6, nx = (fi0, listOf (List.toArray fus) kf) :: (du0, listOf (refs ds).toArray kd) :: (ents ++ R1) ∧ ds.map It.key = dueL (pts W st n) n kx mx i ∧ (∀ z ∈ ds, z.ent ∈ ents) ∧ (∀ q ∈ ents, q.1 ≠ fi0 ∧ q.1 ≠ du0) ∧
    IntsAre fus (dedup (gapL n kx mx pp (W - MM) i)) ∧ sv = (stepAt n kx mx i : Int) ∧
    (∀ e ∈ ([(Str.ofString "width", .int W t1), (Str.ofString "points", .ref r), (Str.ofString "n", .int (n : Int) t2), (Str.ofString "came", .ref D), (Str.ofString "p", .int pp t3), (Str.ofString "k", .int (kx : Int) t4), (Str.ofString "q", .int (W - MM) t5), (Str.ofString "m", .int (mx : Int) t6), (Str.ofString "due", .ref du0), (Str.ofString "first", .ref fi0), (Str.ofString "steps", .int sv ts)] : List (Str × Value)), m₁ e.1 = some e.2)) (by exact hh) hrg ⟨.inl (by omega), by omega, by omega, by omega, by omega⟩ F2 N3 ?start ?turn ?done
  case start =>
    refine' ⟨[], [], [], 0, 0, 0, _, _, _, _, _, _, _, rfl, rfl, (fun z hz => nomatch hz), (fun z hz => nomatch hz), .nil, rfl, (by kst_all)⟩
  case turn =>
    clear F2 N2 N3 hrg hk2
    rintro i m₁ _ h tk own tj hi9 ho ⟨ds, fus, ents, kd, kf, sv, ts, t1, t2, t3, t4, t5, t6, rfl, hk, hz, he, hfu, hsv, hps2⟩ F1 N2
    have F2 := frBx F1 hps2
    clear F1
    dsimp only [kstB] at F2
    rw [List.cons_append, List.cons_append] at N2
    have hsl := stepAt_lt (m := mx) hkl (by omega : 0 < n) i
    obtain ⟨x, hx⟩ : ∃ x, (pts W st n)[stepAt n kx mx i]? = some x := ⟨_, List.getElem?_eq_getElem (by rw [pts_len]; exact hsl)⟩
    obtain ⟨tx, hux⟩ := hus.get _ x hx
    have hrN : (r, listOf us.toArray kr) ∈ (ents ++ R1) ++ own := List.mem_append_left _ (List.mem_append_right _ hRr)
    ((repeat' ((fail_if_success (first | (with_reducible show @Exists PySem.Heap _) | (with_reducible show wpAny _ _ (eval (PySem.Expr.ListComp _ _ _ _) _) _ _ _) | (with_reducible show wpAny _ _ (storeName _ (PySem.Str.ofString "due") _) _ _ _) | (with_reducible show wpAny _ _ (eval (PySem.Expr.Name (PySem.Str.ofString "heap") _) _) _ _ _) | (with_reducible show wpAny _ _ (eval (PySem.Expr.Name (PySem.Str.ofString "ends") _) _) _ _ _) | (first | (with_reducible show InvEndG _ _ _ _ _ _) | (with_reducible show wpAny _ _ (PySem.call (PySem.Value.ref _) _) _ _ _) | (with_reducible show wpAny _ _ (PySem.call (PySem.Value.builtin _) _) _ _ _) | (with_reducible show wpAny _ _ (PySem.call (PySem.Value.type _) _) _ _ _) | (with_reducible show wpAny _ _ (subscriptTail _ _ (PySem.Value.ref _) _) _ _ _) | (with_reducible show wpAny _ _ (setItem (PySem.Value.ref _) _ _) _ _ _) | (with_reducible show wpAny _ _ (compareOp _ (PySem.Value.ref _) _) _ _ _) | (with_reducible show wpAny _ _ (compareOp _ _ (PySem.Value.ref _)) _ _ _) | (with_reducible show wpAny _ _ (binaryOp PySem.Operator.Mod _ _) _ _ _) | (with_reducible show wpAny _ _ (truthy (PySem.Value.ref _)) _ _ _) | (with_reducible show wpAny _ _ (exec (PySem.Stmt.While _ _ _ _) _) _ _ _) | (with_reducible show wpAny _ _ (exec (PySem.Stmt.For (PySem.Expr.Tuple _ _ _) _ _ _ _ _) _) _ _ _) | (with_reducible show wpAny _ _ (pyIter _) _ _ _)))); (first | walk1 | (k_unfold; (try dsimp only)) | (dsimp only; walk1) | ((try dsimp only); (with_reducible show WhileStep2 _ _ _ _ _ _ PySem.Flow.brk _); dsimp only [WhileStep2]) | fail "no step"))); (all_goals (try k_data)))
    ((rename Fr _ _ _ _ => F2); (rename News _ _ _ _ => N2))
    refine item_led N2 (.tail _ (.tail _ hrN)) (by omega) (by omega) (by rw [hsv, Int.toNat_natCast]; exact hux) ?_
    ((repeat' ((fail_if_success (first | (with_reducible show @Exists PySem.Heap _) | (with_reducible show wpAny _ _ (eval (PySem.Expr.ListComp _ _ _ _) _) _ _ _) | (with_reducible show wpAny _ _ (storeName _ (PySem.Str.ofString "due") _) _ _ _) | (with_reducible show wpAny _ _ (eval (PySem.Expr.Name (PySem.Str.ofString "heap") _) _) _ _ _) | (with_reducible show wpAny _ _ (eval (PySem.Expr.Name (PySem.Str.ofString "ends") _) _) _ _ _) | (first | (with_reducible show InvEndG _ _ _ _ _ _) | (with_reducible show wpAny _ _ (PySem.call (PySem.Value.ref _) _) _ _ _) | (with_reducible show wpAny _ _ (PySem.call (PySem.Value.builtin _) _) _ _ _) | (with_reducible show wpAny _ _ (PySem.call (PySem.Value.type _) _) _ _ _) | (with_reducible show wpAny _ _ (subscriptTail _ _ (PySem.Value.ref _) _) _ _ _) | (with_reducible show wpAny _ _ (setItem (PySem.Value.ref _) _ _) _ _ _) | (with_reducible show wpAny _ _ (compareOp _ (PySem.Value.ref _) _) _ _ _) | (with_reducible show wpAny _ _ (compareOp _ _ (PySem.Value.ref _)) _ _ _) | (with_reducible show wpAny _ _ (binaryOp PySem.Operator.Mod _ _) _ _ _) | (with_reducible show wpAny _ _ (truthy (PySem.Value.ref _)) _ _ _) | (with_reducible show wpAny _ _ (exec (PySem.Stmt.While _ _ _ _) _) _ _ _) | (with_reducible show wpAny _ _ (exec (PySem.Stmt.For (PySem.Expr.Tuple _ _ _) _ _ _ _ _) _) _ _ _) | (with_reducible show wpAny _ _ (pyIter _) _ _ _)))); (first | walk1 | (k_unfold; (try dsimp only)) | (dsimp only; walk1) | ((try dsimp only); (with_reducible show WhileStep2 _ _ _ _ _ _ PySem.Flow.brk _); dsimp only [WhileStep2]) | fail "no step"))); (all_goals (try k_data)))
    ((rename Fr _ _ _ _ => F2); (rename News _ _ _ _ => N2))
    (rename Addr => a0)
    (rename fi0 < a0 ∧ du0 < a0 ∧ AllLt _ _ => la)
    have la3 := tb_ltOf la.2.2
    obtain ⟨z, hzz⟩ : ∃ z : It, z = ⟨a0, x, sv, tx, ts, 0⟩ := ⟨_, rfl⟩
    have hza : z.a = a0 := by rw [hzz]
    have hzk : z.key = (x, (stepAt n kx mx i : Int)) := by rw [hzz, ← hsv]
    have hdl2 : (refs ds).length = i := by
      have h9 := congrArg List.length hk
      rw [List.length_map] at h9
      rw [List.length_map, h9]; simp [dueL]
    have hfl : fus.length ≤ i := by
      have h9 := dedup_len (gapL n kx mx pp (W - MM) i)
      rw [hfu.length]; simp [gapL] at h9; exact h9
    have N4 : News h₀ L _ ((fi0, listOf fus.toArray kf) :: (du0, listOf (refs ds).toArray kd) :: z.ent :: ((ents ++ R1) ++ own)) := fun q hq => N2 q (by
      rcases List.mem_cons.mp hq with rfl | hq
      · exact .tail _ (.head _)
      · rcases List.mem_cons.mp hq with rfl | hq
        · exact .tail _ (.tail _ (.head _))
        · rcases List.mem_cons.mp hq with rfl | hq
          · rw [hzz]; exact .head _
          · exact .tail _ (.tail _ (.tail _ hq)))
    have hoff : ∀ q ∈ z.ent :: ((ents ++ R1) ++ own), q.1 ≠ fi0 ∧ q.1 ≠ du0 := by
      intro q hq
      rcases List.mem_cons.mp hq with rfl | hq
      · rw [hzz]; exact ⟨Nat.ne_of_gt la.1, Nat.ne_of_gt la.2.1⟩
      · rcases List.mem_append.mp hq with hq | hq
        · rcases List.mem_append.mp hq with hq | hq
          · exact he q hq
          · exact hRf q hq
        · exact ⟨ho q hq fi0 (.head _), ho q hq du0 (.tail _ (.head _))⟩
    have hoff2 : ∀ q ∈ (du0, listOf (refs (ds ++ [z])).toArray (kd + 1)) :: z.ent :: ((ents ++ R1) ++ own), q.1 ≠ fi0 := by
      intro q hq
      rcases List.mem_cons.mp hq with rfl | hq
      · exact Ne.symm hfd
      · exact (hoff q hq).1
    have hkey : (ds ++ [z]).map It.key = dueL (pts W st n) n kx mx (i + 1) := by
      rw [List.map_append, hk, dueL_succ, List.map_singleton, hzk, List.getD_eq_getElem?_getD, hx]; rfl
    have hze : ∀ y ∈ ds ++ [z], y.ent ∈ z.ent :: ents := by
      intro y hy
      rcases List.mem_append.mp hy with hy | hy
      · exact .tail _ (hz y hy)
      · rw [List.mem_singleton.mp hy]; exact .head _
    have hee : ∀ q ∈ z.ent :: ents, q.1 ≠ fi0 ∧ q.1 ≠ du0 := by
      intro q hq
      rcases List.mem_cons.mp hq with rfl | hq
      · exact hoff _ (.head _)
      · exact he q hq
    have hof : ∀ (o' : Obj), OwnOff own (((fi0, o') :: (du0, listOf (refs (ds ++ [z])).toArray (kd + 1)) :: ((z.ent :: ents) ++ R1)).map (·.1)) := by
      intro o' q hq b hb
      obtain ⟨y, hy, rfl⟩ := List.mem_map.mp hb
      rcases List.mem_cons.mp hy with rfl | hy
      · exact ho q hq _ (.head _)
      · rcases List.mem_cons.mp hy with rfl | hy
        · exact ho q hq _ (.tail _ (.head _))
        · rcases List.mem_cons.mp hy with rfl | hy
          · rw [hzz]; exact Nat.ne_of_lt (la3 q (List.mem_append_right _ hq))
          · exact ho q hq _ (List.mem_map.mpr ⟨y, .tail _ (.tail _ hy), rfl⟩)
    have hsub : ∀ (o' : Obj), ∀ q ∈ (fi0, o') :: (du0, listOf (refs (ds ++ [z])).toArray (kd + 1)) :: ((z.ent :: ents) ++ R1), q ∈ (fi0, o') :: (du0, listOf (refs (ds ++ [z])).toArray (kd + 1)) :: z.ent :: ((ents ++ R1) ++ own) := by
      intro o' q hq
      rcases List.mem_cons.mp hq with rfl | hq
      · exact .head _
      · rcases List.mem_cons.mp hq with rfl | hq
        · exact .tail _ (.head _)
        · rcases List.mem_cons.mp hq with rfl | hq
          · exact .tail _ (.tail _ (.head _))
          · exact .tail _ (.tail _ (.tail _ (List.mem_append_left own hq)))
    have hown : ∀ (o' : Obj), ∀ q ∈ own, q ∈ (fi0, o') :: (du0, listOf (refs (ds ++ [z])).toArray (kd + 1)) :: z.ent :: ((ents ++ R1) ++ own) := fun _ q hq => .tail _ (.tail _ (.tail _ (List.mem_append_right _ hq)))
    rw [← hza]
    refine append_led F2 N4 (.tail hfd (.head fun q hq => (hoff q hq).2)) (by omega) ?_
    clear N2 N4
    intro h' F2 N2
    rw [show refs ds ++ [.ref z.a] = refs (ds ++ [z]) by simp] at N2
    ((repeat' ((fail_if_success (first | (with_reducible show @Exists PySem.Heap _) | (with_reducible show wpAny _ _ (eval (PySem.Expr.ListComp _ _ _ _) _) _ _ _) | (with_reducible show wpAny _ _ (storeName _ (PySem.Str.ofString "due") _) _ _ _) | (with_reducible show wpAny _ _ (eval (PySem.Expr.Name (PySem.Str.ofString "heap") _) _) _ _ _) | (with_reducible show wpAny _ _ (eval (PySem.Expr.Name (PySem.Str.ofString "ends") _) _) _ _ _) | (first | (with_reducible show InvEndG _ _ _ _ _ _) | (with_reducible show wpAny _ _ (PySem.call (PySem.Value.ref _) _) _ _ _) | (with_reducible show wpAny _ _ (PySem.call (PySem.Value.builtin _) _) _ _ _) | (with_reducible show wpAny _ _ (PySem.call (PySem.Value.type _) _) _ _ _) | (with_reducible show wpAny _ _ (subscriptTail _ _ (PySem.Value.ref _) _) _ _ _) | (with_reducible show wpAny _ _ (setItem (PySem.Value.ref _) _ _) _ _ _) | (with_reducible show wpAny _ _ (compareOp _ (PySem.Value.ref _) _) _ _ _) | (with_reducible show wpAny _ _ (compareOp _ _ (PySem.Value.ref _)) _ _ _) | (with_reducible show wpAny _ _ (binaryOp PySem.Operator.Mod _ _) _ _ _) | (with_reducible show wpAny _ _ (truthy (PySem.Value.ref _)) _ _ _) | (with_reducible show wpAny _ _ (exec (PySem.Stmt.While _ _ _ _) _) _ _ _) | (with_reducible show wpAny _ _ (exec (PySem.Stmt.For (PySem.Expr.Tuple _ _ _) _ _ _ _ _) _) _ _ _) | (with_reducible show wpAny _ _ (pyIter _) _ _ _)))); (first | walk1 | (k_unfold; (try dsimp only)) | (dsimp only; walk1) | ((try dsimp only); (with_reducible show WhileStep2 _ _ _ _ _ _ PySem.Flow.brk _); dsimp only [WhileStep2]) | fail "no step"))); (all_goals (try k_data)))
    · have hg : gapS n kx mx pp (W - MM) (stepAt n kx mx i) = pp := by unfold gapS; rw [if_pos (by omega)]
      have hnx : stepAt n kx mx (i + 1) = stepAt n kx mx i + kx := by show nextS _ _ _ _ = _; unfold nextS; rw [if_pos (by omega)]
      ((rename Fr _ _ _ _ => F2); (rename News _ _ _ _ => N2))
      refine notIn_led N2 (.head _) hfu ?_
      ((repeat' ((fail_if_success (first | (with_reducible show @Exists PySem.Heap _) | (with_reducible show wpAny _ _ (eval (PySem.Expr.ListComp _ _ _ _) _) _ _ _) | (with_reducible show wpAny _ _ (storeName _ (PySem.Str.ofString "due") _) _ _ _) | (with_reducible show wpAny _ _ (eval (PySem.Expr.Name (PySem.Str.ofString "heap") _) _) _ _ _) | (with_reducible show wpAny _ _ (eval (PySem.Expr.Name (PySem.Str.ofString "ends") _) _) _ _ _) | (first | (with_reducible show InvEndG _ _ _ _ _ _) | (with_reducible show wpAny _ _ (PySem.call (PySem.Value.ref _) _) _ _ _) | (with_reducible show wpAny _ _ (PySem.call (PySem.Value.builtin _) _) _ _ _) | (with_reducible show wpAny _ _ (PySem.call (PySem.Value.type _) _) _ _ _) | (with_reducible show wpAny _ _ (subscriptTail _ _ (PySem.Value.ref _) _) _ _ _) | (with_reducible show wpAny _ _ (setItem (PySem.Value.ref _) _ _) _ _ _) | (with_reducible show wpAny _ _ (compareOp _ (PySem.Value.ref _) _) _ _ _) | (with_reducible show wpAny _ _ (compareOp _ _ (PySem.Value.ref _)) _ _ _) | (with_reducible show wpAny _ _ (binaryOp PySem.Operator.Mod _ _) _ _ _) | (with_reducible show wpAny _ _ (truthy (PySem.Value.ref _)) _ _ _) | (with_reducible show wpAny _ _ (exec (PySem.Stmt.While _ _ _ _) _) _ _ _) | (with_reducible show wpAny _ _ (exec (PySem.Stmt.For (PySem.Expr.Tuple _ _ _) _ _ _ _ _) _) _ _ _) | (with_reducible show wpAny _ _ (pyIter _) _ _ _)))); (first | walk1 | (k_unfold; (try dsimp only)) | (dsimp only; walk1) | ((try dsimp only); (with_reducible show WhileStep2 _ _ _ _ _ _ PySem.Flow.brk _); dsimp only [WhileStep2]) | fail "no step"))); (all_goals (try k_data)))
      · ((rename Fr _ _ _ _ => F2); (rename News _ _ _ _ => N2))
        refine InvEndG.intro F2 N2 (nx := (fi0, listOf fus.toArray kf) :: (du0, listOf (refs (ds ++ [z])).toArray (kd + 1)) :: ((z.ent :: ents) ++ R1)) ⟨ds ++ [z], fus, z.ent :: ents, kd + 1, _, _, _, _, _, _, _, _, _, rfl, hkey, hze, hee, ?_, ?_, (by kst_all)⟩ (hof _) (hsub _) (hown _)
        · rw [gapL_succ, hg, dedup_snoc, dedupF, if_pos (by assumption)]; exact hfu
        · omega
      · ((rename Fr _ _ _ _ => F2); (rename News _ _ _ _ => N2))
        refine append_led F2 N2 (.head hoff2) (Nat.lt_of_le_of_lt hfl (by omega)) ?_
        intro h' F2 N2
        ((repeat' ((fail_if_success (first | (with_reducible show @Exists PySem.Heap _) | (with_reducible show wpAny _ _ (eval (PySem.Expr.ListComp _ _ _ _) _) _ _ _) | (with_reducible show wpAny _ _ (storeName _ (PySem.Str.ofString "due") _) _ _ _) | (with_reducible show wpAny _ _ (eval (PySem.Expr.Name (PySem.Str.ofString "heap") _) _) _ _ _) | (with_reducible show wpAny _ _ (eval (PySem.Expr.Name (PySem.Str.ofString "ends") _) _) _ _ _) | (first | (with_reducible show InvEndG _ _ _ _ _ _) | (with_reducible show wpAny _ _ (PySem.call (PySem.Value.ref _) _) _ _ _) | (with_reducible show wpAny _ _ (PySem.call (PySem.Value.builtin _) _) _ _ _) | (with_reducible show wpAny _ _ (PySem.call (PySem.Value.type _) _) _ _ _) | (with_reducible show wpAny _ _ (subscriptTail _ _ (PySem.Value.ref _) _) _ _ _) | (with_reducible show wpAny _ _ (setItem (PySem.Value.ref _) _ _) _ _ _) | (with_reducible show wpAny _ _ (compareOp _ (PySem.Value.ref _) _) _ _ _) | (with_reducible show wpAny _ _ (compareOp _ _ (PySem.Value.ref _)) _ _ _) | (with_reducible show wpAny _ _ (binaryOp PySem.Operator.Mod _ _) _ _ _) | (with_reducible show wpAny _ _ (truthy (PySem.Value.ref _)) _ _ _) | (with_reducible show wpAny _ _ (exec (PySem.Stmt.While _ _ _ _) _) _ _ _) | (with_reducible show wpAny _ _ (exec (PySem.Stmt.For (PySem.Expr.Tuple _ _ _) _ _ _ _ _) _) _ _ _) | (with_reducible show wpAny _ _ (pyIter _) _ _ _)))); (first | walk1 | (k_unfold; (try dsimp only)) | (dsimp only; walk1) | ((try dsimp only); (with_reducible show WhileStep2 _ _ _ _ _ _ PySem.Flow.brk _); dsimp only [WhileStep2]) | fail "no step"))); (all_goals (try k_data)))
        ((rename Fr _ _ _ _ => F2); (rename News _ _ _ _ => N2))
        refine InvEndG.intro F2 N2 (nx := (fi0, listOf (fus ++ [_]).toArray (kf + 1)) :: (du0, listOf (refs (ds ++ [z])).toArray (kd + 1)) :: ((z.ent :: ents) ++ R1)) ⟨ds ++ [z], fus ++ [_], z.ent :: ents, kd + 1, _, _, _, _, _, _, _, _, _, rfl, hkey, hze, hee, ?_, ?_, (by kst_all)⟩ (hof _) (hsub _) (hown _)
        · rw [gapL_succ, hg, dedup_snoc, dedupF, if_neg (by assumption)]; exact ints_append hfu
        · omega
    · have hg : gapS n kx mx pp (W - MM) (stepAt n kx mx i) = W - MM := by unfold gapS; rw [if_neg (by omega), if_pos (by omega)]
      have hnx : stepAt n kx mx (i + 1) = stepAt n kx mx i - mx := by show nextS _ _ _ _ = _; unfold nextS; rw [if_neg (by omega), if_pos (by omega)]
      ((rename Fr _ _ _ _ => F2); (rename News _ _ _ _ => N2))
      refine notIn_led N2 (.head _) hfu ?_
      ((repeat' ((fail_if_success (first | (with_reducible show @Exists PySem.Heap _) | (with_reducible show wpAny _ _ (eval (PySem.Expr.ListComp _ _ _ _) _) _ _ _) | (with_reducible show wpAny _ _ (storeName _ (PySem.Str.ofString "due") _) _ _ _) | (with_reducible show wpAny _ _ (eval (PySem.Expr.Name (PySem.Str.ofString "heap") _) _) _ _ _) | (with_reducible show wpAny _ _ (eval (PySem.Expr.Name (PySem.Str.ofString "ends") _) _) _ _ _) | (first | (with_reducible show InvEndG _ _ _ _ _ _) | (with_reducible show wpAny _ _ (PySem.call (PySem.Value.ref _) _) _ _ _) | (with_reducible show wpAny _ _ (PySem.call (PySem.Value.builtin _) _) _ _ _) | (with_reducible show wpAny _ _ (PySem.call (PySem.Value.type _) _) _ _ _) | (with_reducible show wpAny _ _ (subscriptTail _ _ (PySem.Value.ref _) _) _ _ _) | (with_reducible show wpAny _ _ (setItem (PySem.Value.ref _) _ _) _ _ _) | (with_reducible show wpAny _ _ (compareOp _ (PySem.Value.ref _) _) _ _ _) | (with_reducible show wpAny _ _ (compareOp _ _ (PySem.Value.ref _)) _ _ _) | (with_reducible show wpAny _ _ (binaryOp PySem.Operator.Mod _ _) _ _ _) | (with_reducible show wpAny _ _ (truthy (PySem.Value.ref _)) _ _ _) | (with_reducible show wpAny _ _ (exec (PySem.Stmt.While _ _ _ _) _) _ _ _) | (with_reducible show wpAny _ _ (exec (PySem.Stmt.For (PySem.Expr.Tuple _ _ _) _ _ _ _ _) _) _ _ _) | (with_reducible show wpAny _ _ (pyIter _) _ _ _)))); (first | walk1 | (k_unfold; (try dsimp only)) | (dsimp only; walk1) | ((try dsimp only); (with_reducible show WhileStep2 _ _ _ _ _ _ PySem.Flow.brk _); dsimp only [WhileStep2]) | fail "no step"))); (all_goals (try k_data)))
      · ((rename Fr _ _ _ _ => F2); (rename News _ _ _ _ => N2))
        refine InvEndG.intro F2 N2 (nx := (fi0, listOf fus.toArray kf) :: (du0, listOf (refs (ds ++ [z])).toArray (kd + 1)) :: ((z.ent :: ents) ++ R1)) ⟨ds ++ [z], fus, z.ent :: ents, kd + 1, _, _, _, _, _, _, _, _, _, rfl, hkey, hze, hee, ?_, ?_, (by kst_all)⟩ (hof _) (hsub _) (hown _)
        · rw [gapL_succ, hg, dedup_snoc, dedupF, if_pos (by assumption)]; exact hfu
        · omega
      · ((rename Fr _ _ _ _ => F2); (rename News _ _ _ _ => N2))
        refine append_led F2 N2 (.head hoff2) (Nat.lt_of_le_of_lt hfl (by omega)) ?_
        intro h' F2 N2
        ((repeat' ((fail_if_success (first | (with_reducible show @Exists PySem.Heap _) | (with_reducible show wpAny _ _ (eval (PySem.Expr.ListComp _ _ _ _) _) _ _ _) | (with_reducible show wpAny _ _ (storeName _ (PySem.Str.ofString "due") _) _ _ _) | (with_reducible show wpAny _ _ (eval (PySem.Expr.Name (PySem.Str.ofString "heap") _) _) _ _ _) | (with_reducible show wpAny _ _ (eval (PySem.Expr.Name (PySem.Str.ofString "ends") _) _) _ _ _) | (first | (with_reducible show InvEndG _ _ _ _ _ _) | (with_reducible show wpAny _ _ (PySem.call (PySem.Value.ref _) _) _ _ _) | (with_reducible show wpAny _ _ (PySem.call (PySem.Value.builtin _) _) _ _ _) | (with_reducible show wpAny _ _ (PySem.call (PySem.Value.type _) _) _ _ _) | (with_reducible show wpAny _ _ (subscriptTail _ _ (PySem.Value.ref _) _) _ _ _) | (with_reducible show wpAny _ _ (setItem (PySem.Value.ref _) _ _) _ _ _) | (with_reducible show wpAny _ _ (compareOp _ (PySem.Value.ref _) _) _ _ _) | (with_reducible show wpAny _ _ (compareOp _ _ (PySem.Value.ref _)) _ _ _) | (with_reducible show wpAny _ _ (binaryOp PySem.Operator.Mod _ _) _ _ _) | (with_reducible show wpAny _ _ (truthy (PySem.Value.ref _)) _ _ _) | (with_reducible show wpAny _ _ (exec (PySem.Stmt.While _ _ _ _) _) _ _ _) | (with_reducible show wpAny _ _ (exec (PySem.Stmt.For (PySem.Expr.Tuple _ _ _) _ _ _ _ _) _) _ _ _) | (with_reducible show wpAny _ _ (pyIter _) _ _ _)))); (first | walk1 | (k_unfold; (try dsimp only)) | (dsimp only; walk1) | ((try dsimp only); (with_reducible show WhileStep2 _ _ _ _ _ _ PySem.Flow.brk _); dsimp only [WhileStep2]) | fail "no step"))); (all_goals (try k_data)))
        ((rename Fr _ _ _ _ => F2); (rename News _ _ _ _ => N2))
        refine InvEndG.intro F2 N2 (nx := (fi0, listOf (fus ++ [_]).toArray (kf + 1)) :: (du0, listOf (refs (ds ++ [z])).toArray (kd + 1)) :: ((z.ent :: ents) ++ R1)) ⟨ds ++ [z], fus ++ [_], z.ent :: ents, kd + 1, _, _, _, _, _, _, _, _, _, rfl, hkey, hze, hee, ?_, ?_, (by kst_all)⟩ (hof _) (hsub _) (hown _)
        · rw [gapL_succ, hg, dedup_snoc, dedupF, if_neg (by assumption)]; exact ints_append hfu
        · omega
    · have hg : gapS n kx mx pp (W - MM) (stepAt n kx mx i) = pp + (W - MM) := by unfold gapS; rw [if_neg (by omega), if_neg (by omega)]
      have hnx : stepAt n kx mx (i + 1) = stepAt n kx mx i + kx - mx := by show nextS _ _ _ _ = _; unfold nextS; rw [if_neg (by omega), if_neg (by omega)]
      ((rename Fr _ _ _ _ => F2); (rename News _ _ _ _ => N2))
      refine notIn_led N2 (.head _) hfu ?_
      ((repeat' ((fail_if_success (first | (with_reducible show @Exists PySem.Heap _) | (with_reducible show wpAny _ _ (eval (PySem.Expr.ListComp _ _ _ _) _) _ _ _) | (with_reducible show wpAny _ _ (storeName _ (PySem.Str.ofString "due") _) _ _ _) | (with_reducible show wpAny _ _ (eval (PySem.Expr.Name (PySem.Str.ofString "heap") _) _) _ _ _) | (with_reducible show wpAny _ _ (eval (PySem.Expr.Name (PySem.Str.ofString "ends") _) _) _ _ _) | (first | (with_reducible show InvEndG _ _ _ _ _ _) | (with_reducible show wpAny _ _ (PySem.call (PySem.Value.ref _) _) _ _ _) | (with_reducible show wpAny _ _ (PySem.call (PySem.Value.builtin _) _) _ _ _) | (with_reducible show wpAny _ _ (PySem.call (PySem.Value.type _) _) _ _ _) | (with_reducible show wpAny _ _ (subscriptTail _ _ (PySem.Value.ref _) _) _ _ _) | (with_reducible show wpAny _ _ (setItem (PySem.Value.ref _) _ _) _ _ _) | (with_reducible show wpAny _ _ (compareOp _ (PySem.Value.ref _) _) _ _ _) | (with_reducible show wpAny _ _ (compareOp _ _ (PySem.Value.ref _)) _ _ _) | (with_reducible show wpAny _ _ (binaryOp PySem.Operator.Mod _ _) _ _ _) | (with_reducible show wpAny _ _ (truthy (PySem.Value.ref _)) _ _ _) | (with_reducible show wpAny _ _ (exec (PySem.Stmt.While _ _ _ _) _) _ _ _) | (with_reducible show wpAny _ _ (exec (PySem.Stmt.For (PySem.Expr.Tuple _ _ _) _ _ _ _ _) _) _ _ _) | (with_reducible show wpAny _ _ (pyIter _) _ _ _)))); (first | walk1 | (k_unfold; (try dsimp only)) | (dsimp only; walk1) | ((try dsimp only); (with_reducible show WhileStep2 _ _ _ _ _ _ PySem.Flow.brk _); dsimp only [WhileStep2]) | fail "no step"))); (all_goals (try k_data)))
      · ((rename Fr _ _ _ _ => F2); (rename News _ _ _ _ => N2))
        refine InvEndG.intro F2 N2 (nx := (fi0, listOf fus.toArray kf) :: (du0, listOf (refs (ds ++ [z])).toArray (kd + 1)) :: ((z.ent :: ents) ++ R1)) ⟨ds ++ [z], fus, z.ent :: ents, kd + 1, _, _, _, _, _, _, _, _, _, rfl, hkey, hze, hee, ?_, ?_, (by kst_all)⟩ (hof _) (hsub _) (hown _)
        · rw [gapL_succ, hg, dedup_snoc, dedupF, if_pos (by assumption)]; exact hfu
        · omega
      · ((rename Fr _ _ _ _ => F2); (rename News _ _ _ _ => N2))
        refine append_led F2 N2 (.head hoff2) (Nat.lt_of_le_of_lt hfl (by omega)) ?_
        intro h' F2 N2
        ((repeat' ((fail_if_success (first | (with_reducible show @Exists PySem.Heap _) | (with_reducible show wpAny _ _ (eval (PySem.Expr.ListComp _ _ _ _) _) _ _ _) | (with_reducible show wpAny _ _ (storeName _ (PySem.Str.ofString "due") _) _ _ _) | (with_reducible show wpAny _ _ (eval (PySem.Expr.Name (PySem.Str.ofString "heap") _) _) _ _ _) | (with_reducible show wpAny _ _ (eval (PySem.Expr.Name (PySem.Str.ofString "ends") _) _) _ _ _) | (first | (with_reducible show InvEndG _ _ _ _ _ _) | (with_reducible show wpAny _ _ (PySem.call (PySem.Value.ref _) _) _ _ _) | (with_reducible show wpAny _ _ (PySem.call (PySem.Value.builtin _) _) _ _ _) | (with_reducible show wpAny _ _ (PySem.call (PySem.Value.type _) _) _ _ _) | (with_reducible show wpAny _ _ (subscriptTail _ _ (PySem.Value.ref _) _) _ _ _) | (with_reducible show wpAny _ _ (setItem (PySem.Value.ref _) _ _) _ _ _) | (with_reducible show wpAny _ _ (compareOp _ (PySem.Value.ref _) _) _ _ _) | (with_reducible show wpAny _ _ (compareOp _ _ (PySem.Value.ref _)) _ _ _) | (with_reducible show wpAny _ _ (binaryOp PySem.Operator.Mod _ _) _ _ _) | (with_reducible show wpAny _ _ (truthy (PySem.Value.ref _)) _ _ _) | (with_reducible show wpAny _ _ (exec (PySem.Stmt.While _ _ _ _) _) _ _ _) | (with_reducible show wpAny _ _ (exec (PySem.Stmt.For (PySem.Expr.Tuple _ _ _) _ _ _ _ _) _) _ _ _) | (with_reducible show wpAny _ _ (pyIter _) _ _ _)))); (first | walk1 | (k_unfold; (try dsimp only)) | (dsimp only; walk1) | ((try dsimp only); (with_reducible show WhileStep2 _ _ _ _ _ _ PySem.Flow.brk _); dsimp only [WhileStep2]) | fail "no step"))); (all_goals (try k_data)))
        ((rename Fr _ _ _ _ => F2); (rename News _ _ _ _ => N2))
        refine InvEndG.intro F2 N2 (nx := (fi0, listOf (fus ++ [_]).toArray (kf + 1)) :: (du0, listOf (refs (ds ++ [z])).toArray (kd + 1)) :: ((z.ent :: ents) ++ R1)) ⟨ds ++ [z], fus ++ [_], z.ent :: ents, kd + 1, _, _, _, _, _, _, _, _, _, rfl, hkey, hze, hee, ?_, ?_, (by kst_all)⟩ (hof _) (hsub _) (hown _)
        · rw [gapL_succ, hg, dedup_snoc, dedupF, if_neg (by assumption)]; exact ints_append hfu
        · omega
  case done =>
    clear F2 N2 N3 hrg hk2
    rintro m₁ _ h tk ⟨ds, fus, ents, kd, kf, sv, ts, t1, t2, t3, t4, t5, t6, rfl, hk, hz, he, hfu, hsv, hps2⟩ F1 N2
    refine ret pp MM kx mx t1 t2 t3 t4 t5 t6 du0 fi0 ds fus kd kf _ m₁ _ _ hpm hpl hMm hMl hkx hmx hk (fun z hz2 => .tail _ (.tail _ (List.mem_append_left _ (hz z hz2)))) hfu (.tail _ (.head _)) (.head _) (fun q hq => .tail _ (.tail _ (List.mem_append_right _ (hRn q hq)))) ?_ F1 N2
    intro e he9
    apply hps2 e
    simp only [List.mem_cons, List.not_mem_nil, or_false] at he9 ⊢
    rcases he9 with rfl | rfl | rfl | rfl | rfl | rfl | rfl | rfl | rfl <;> simp
end Mine
end
section
open PySem PySem.W PySem.Calls PyProof.Rows
set_option maxRecDepth 100000
set_option maxHeartbeats 8000000
set_option pp.deepTerms.threshold 6
theorem Mine.warmL3 (w : World) : (model PySem.Challenge.rw_ik0114_01.row.prog w, Mine.hd.heap_39 w.params) = (model PySem.Challenge.rw_ik0114_01.row.prog w, Mine.hd.heap_39 w.params) := by
  k_fill
  rfl
local macro_rules | `(tactic| walk_at "eval Name") => `(tactic| k_dflt (refine' ld ?k1 ?k2 ?_; (case k1 => k_asm); (case k2 => exact rfl); k_whole))
local macro_rules | `(tactic| walk_at "execs cons") => `(tactic| ((with_reducible refine wpAny_execs_cons ?_); (try dsimp only)))
local macro_rules | `(tactic| walk_at "exec Assign") => `(tactic| ((with_reducible show wpAny _ _ (exec (PySem.Stmt.Assign [PySem.Expr.Name _ _] _ _) _) _ _ _); (with_reducible refine wpAny_Assign_Name ?_)))
namespace Mine
theorem segC {w : World} {A A₀ : Around} {f : Addr} {cdv : Value} {outer : List Env} {base h₀ : Heap} {L : Addr} {m : Str → Option Value} {s : Shared} {p : Program} {loose : List Str} {mean : ExcName → Option Value} {mg mb : Str → Option Value} {Q : Flow → Shared → Prop} {E : Value → Shared → Prop}
    (B : Below A₀ base outer h₀) (F : Fr h₀ L s.heap m) (X : (Mine.hd.heap_39 w.params).In h₀) (T : Top p loose mean mg mb h₀) (hA : A.frames = some (envOfC (Str.ofString "law") lawPart.1 L f cdv :: outer)) (hh : A.handled = none) (hP : PassesOwn (model PySem.Challenge.rw_ik0114_01.row.prog w) A (envOfC (Str.ofString "law") lawPart.1 L f cdv) E)
    {W p q : Int} {n kx mx : Nat} {t1 t2 t3 t4 t5 t6 : Tok} {hl D du fi : Addr} {cs ds : List It} {fus : List Value} {kk kc kd kf : Nat} {cE cH : Obj} {nw : List (Addr × Obj)} {gs : List Int}
    (hn2 : n ≤ 16) (hkl : kx < n) (hml : mx < n) (hcs : cs.length = n) (hcH : cH.data = .cell (some (.ref hl))) (hcE : cE.data = .cell none)
    (mH : (L + 1, cH) ∈ nw) (mE : (L + 1 + 1, cE) ∈ nw) (mh : (hl, listOf ([] : List Value).toArray kk) ∈ nw) (mD : (D, listOf (refs cs).toArray kc) ∈ nw) (mdu : (du, listOf (refs ds).toArray kd) ∈ nw) (mfi : (fi, listOf fus.toArray kf) ∈ nw) (hc : ∀ z ∈ cs, z.ent ∈ nw) (hd : ∀ z ∈ ds, z.ent ∈ nw)
    (hgl : gs.length = n) (hgs : ∀ i, i < n → ∃ a b, (cs.map It.p ++ [W])[i]? = some a ∧ (cs.map It.p ++ [W])[i + 1]? = some b ∧ gs[i]? = some (b - a))
    (hperm : gs.Perm ((List.replicate ((n : Int) - (kx : Int)).toNat [p]).flatten ++ (List.replicate ((n : Int) - (mx : Int)).toNat [q]).flatten ++ (List.replicate ((kx : Int) + (mx : Int) - (n : Int)).toNat [p + q]).flatten))
    (oth : List Int) (ho1 : (n : Int) < (kx : Int) + (mx : Int) → oth = [q, p + q]) (ho2 : ¬ (n : Int) < (kx : Int) + (mx : Int) → oth = [q])
    (hO1 : ∀ i e, (dedup gs)[i]? = some e → e ∈ rmAll (dedup ([p] ++ oth)) ((dedup gs).take i)) (hO2 : rmAll (dedup ([p] ++ oth)) (dedup gs) = []) (hO3 : ∀ i e, (dedup oth)[i]? = some e → e ∈ rmAll (dedup gs) ((dedup oth).take i)) (hO4 : rmAll (dedup gs) (dedup oth) = [] ↔ p = q)
    (hkey : cs.map It.key = ds.map It.key) (hfu : IntsAre fus (dedup gs))
    (hps : ∀ e ∈ ([(Str.ofString "width", .int W t1), (Str.ofString "n", .int (n : Int) t2), (Str.ofString "came", .ref D), (Str.ofString "p", .int p t3), (Str.ofString "k", .int (kx : Int) t4), (Str.ofString "q", .int q t5), (Str.ofString "m", .int (mx : Int) t6), (Str.ofString "due", .ref du), (Str.ofString "first", .ref fi)] : List (Str × Value)), m e.1 = some e.2)
    (N : News h₀ L s.heap nw)
    (hfk : (fromK [] gs).map (·.1) = dedup gs)
    (hdp : A.depth + 10 < recursionLimit) (hu : A.units + 70 < cLine)
    (ret : ∀ h' tk' m', Fr h₀ L h' m' → Q (.ret (.bool true)) { s with heap := h', toks := tk' }) :
    wpAny (model PySem.Challenge.rw_ik0114_01.row.prog w) A (execs (lawPart.2.drop 13) (envOfC (Str.ofString "law") lawPart.1 L f cdv)) Q E s := by
  obtain ⟨sc, hsc⟩ : ∃ z, z = lawPart.1 := ⟨_, rfl⟩
  obtain ⟨bd, hbd⟩ : ∃ z, z = lawPart.2.drop 13 := ⟨_, rfl⟩
  rw [← hsc] at hA hP
  rw [← hsc, ← hbd]
  conv at hsc => (rhs; whnf)
  conv at hbd => (rhs; whnf)
  subst hsc hbd
  have F2 := frB F hps
  clear F
  dsimp only [kstB] at F2
  ((repeat' ((fail_if_success (first | (with_reducible show @Exists PySem.Heap _) | (with_reducible show wpAny _ _ (eval (PySem.Expr.ListComp _ _ _ _) _) _ _ _) | (with_reducible show wpAny _ _ (storeName _ (PySem.Str.ofString "due") _) _ _ _) | (with_reducible show wpAny _ _ (eval (PySem.Expr.Name (PySem.Str.ofString "heap") _) _) _ _ _) | (with_reducible show wpAny _ _ (eval (PySem.Expr.Name (PySem.Str.ofString "ends") _) _) _ _ _) | (first | (with_reducible show InvEndG _ _ _ _ _ _) | (with_reducible show wpAny _ _ (PySem.call (PySem.Value.ref _) _) _ _ _) | (with_reducible show wpAny _ _ (PySem.call (PySem.Value.builtin _) _) _ _ _) | (with_reducible show wpAny _ _ (PySem.call (PySem.Value.type _) _) _ _ _) | (with_reducible show wpAny _ _ (subscriptTail _ _ (PySem.Value.ref _) _) _ _ _) | (with_reducible show wpAny _ _ (setItem (PySem.Value.ref _) _ _) _ _ _) | (with_reducible show wpAny _ _ (compareOp _ (PySem.Value.ref _) _) _ _ _) | (with_reducible show wpAny _ _ (compareOp _ _ (PySem.Value.ref _)) _ _ _) | (with_reducible show wpAny _ _ (binaryOp PySem.Operator.Mod _ _) _ _ _) | (with_reducible show wpAny _ _ (truthy (PySem.Value.ref _)) _ _ _) | (with_reducible show wpAny _ _ (exec (PySem.Stmt.While _ _ _ _) _) _ _ _) | (with_reducible show wpAny _ _ (exec (PySem.Stmt.For (PySem.Expr.Tuple _ _ _) _ _ _ _ _) _) _ _ _) | (with_reducible show wpAny _ _ (pyIter _) _ _ _)))); (first | walk1 | (k_unfold; (try dsimp only)) | (dsimp only; walk1) | ((try dsimp only); (with_reducible show WhileStep2 _ _ _ _ _ _ PySem.Flow.brk _); dsimp only [WhileStep2]) | fail "no step"))); (all_goals (try k_data)))
  refine ldCN N rfl mH hcH ?_
  ((repeat' ((fail_if_success (first | (with_reducible show @Exists PySem.Heap _) | (with_reducible show wpAny _ _ (eval (PySem.Expr.ListComp _ _ _ _) _) _ _ _) | (with_reducible show wpAny _ _ (storeName _ (PySem.Str.ofString "due") _) _ _ _) | (with_reducible show wpAny _ _ (eval (PySem.Expr.Name (PySem.Str.ofString "heap") _) _) _ _ _) | (with_reducible show wpAny _ _ (eval (PySem.Expr.Name (PySem.Str.ofString "ends") _) _) _ _ _) | (first | (with_reducible show InvEndG _ _ _ _ _ _) | (with_reducible show wpAny _ _ (PySem.call (PySem.Value.ref _) _) _ _ _) | (with_reducible show wpAny _ _ (PySem.call (PySem.Value.builtin _) _) _ _ _) | (with_reducible show wpAny _ _ (PySem.call (PySem.Value.type _) _) _ _ _) | (with_reducible show wpAny _ _ (subscriptTail _ _ (PySem.Value.ref _) _) _ _ _) | (with_reducible show wpAny _ _ (setItem (PySem.Value.ref _) _ _) _ _ _) | (with_reducible show wpAny _ _ (compareOp _ (PySem.Value.ref _) _) _ _ _) | (with_reducible show wpAny _ _ (compareOp _ _ (PySem.Value.ref _)) _ _ _) | (with_reducible show wpAny _ _ (binaryOp PySem.Operator.Mod _ _) _ _ _) | (with_reducible show wpAny _ _ (truthy (PySem.Value.ref _)) _ _ _) | (with_reducible show wpAny _ _ (exec (PySem.Stmt.While _ _ _ _) _) _ _ _) | (with_reducible show wpAny _ _ (exec (PySem.Stmt.For (PySem.Expr.Tuple _ _ _) _ _ _ _ _) _) _ _ _) | (with_reducible show wpAny _ _ (pyIter _) _ _ _)))); (first | walk1 | (k_unfold; (try dsimp only)) | (dsimp only; walk1) | ((try dsimp only); (with_reducible show WhileStep2 _ _ _ _ _ _ PySem.Flow.brk _); dsimp only [WhileStep2]) | fail "no step"))); (all_goals (try k_data)))
  ((rename Fr _ _ _ _ => F2); (rename News _ _ _ _ => N2))
  refine ke_ne_ints (isL N2 (.tail _ mh)) (isL N2 (.head _)) .nil .nil (by omega) ?_
  ((repeat' ((fail_if_success (first | (with_reducible show @Exists PySem.Heap _) | (with_reducible show wpAny _ _ (eval (PySem.Expr.ListComp _ _ _ _) _) _ _ _) | (with_reducible show wpAny _ _ (storeName _ (PySem.Str.ofString "due") _) _ _ _) | (with_reducible show wpAny _ _ (eval (PySem.Expr.Name (PySem.Str.ofString "heap") _) _) _ _ _) | (with_reducible show wpAny _ _ (eval (PySem.Expr.Name (PySem.Str.ofString "ends") _) _) _ _ _) | (first | (with_reducible show InvEndG _ _ _ _ _ _) | (with_reducible show wpAny _ _ (PySem.call (PySem.Value.ref _) _) _ _ _) | (with_reducible show wpAny _ _ (PySem.call (PySem.Value.builtin _) _) _ _ _) | (with_reducible show wpAny _ _ (PySem.call (PySem.Value.type _) _) _ _ _) | (with_reducible show wpAny _ _ (subscriptTail _ _ (PySem.Value.ref _) _) _ _ _) | (with_reducible show wpAny _ _ (setItem (PySem.Value.ref _) _ _) _ _ _) | (with_reducible show wpAny _ _ (compareOp _ (PySem.Value.ref _) _) _ _ _) | (with_reducible show wpAny _ _ (compareOp _ _ (PySem.Value.ref _)) _ _ _) | (with_reducible show wpAny _ _ (binaryOp PySem.Operator.Mod _ _) _ _ _) | (with_reducible show wpAny _ _ (truthy (PySem.Value.ref _)) _ _ _) | (with_reducible show wpAny _ _ (exec (PySem.Stmt.While _ _ _ _) _) _ _ _) | (with_reducible show wpAny _ _ (exec (PySem.Stmt.For (PySem.Expr.Tuple _ _ _) _ _ _ _ _) _) _ _ _) | (with_reducible show wpAny _ _ (pyIter _) _ _ _)))); (first | walk1 | (k_unfold; (try dsimp only)) | (dsimp only; walk1) | ((try dsimp only); (with_reducible show WhileStep2 _ _ _ _ _ _ PySem.Flow.brk _); dsimp only [WhileStep2]) | fail "no step"))); (all_goals (try k_data)))
  ((rename Fr _ _ _ _ => F2); (rename News _ _ _ _ => N2))
  refine ne_items N2 (.tail _ mD) (.tail _ mdu) (fun z hz => .tail _ (hc z hz)) (fun z hz => .tail _ (hd z hz)) hkey (by omega) ?_
  ((repeat' ((fail_if_success (first | (with_reducible show @Exists PySem.Heap _) | (with_reducible show wpAny _ _ (eval (PySem.Expr.ListComp _ _ _ _) _) _ _ _) | (with_reducible show wpAny _ _ (storeName _ (PySem.Str.ofString "due") _) _ _ _) | (with_reducible show wpAny _ _ (eval (PySem.Expr.Name (PySem.Str.ofString "heap") _) _) _ _ _) | (with_reducible show wpAny _ _ (eval (PySem.Expr.Name (PySem.Str.ofString "ends") _) _) _ _ _) | (first | (with_reducible show InvEndG _ _ _ _ _ _) | (with_reducible show wpAny _ _ (PySem.call (PySem.Value.ref _) _) _ _ _) | (with_reducible show wpAny _ _ (PySem.call (PySem.Value.builtin _) _) _ _ _) | (with_reducible show wpAny _ _ (PySem.call (PySem.Value.type _) _) _ _ _) | (with_reducible show wpAny _ _ (subscriptTail _ _ (PySem.Value.ref _) _) _ _ _) | (with_reducible show wpAny _ _ (setItem (PySem.Value.ref _) _ _) _ _ _) | (with_reducible show wpAny _ _ (compareOp _ (PySem.Value.ref _) _) _ _ _) | (with_reducible show wpAny _ _ (compareOp _ _ (PySem.Value.ref _)) _ _ _) | (with_reducible show wpAny _ _ (binaryOp PySem.Operator.Mod _ _) _ _ _) | (with_reducible show wpAny _ _ (truthy (PySem.Value.ref _)) _ _ _) | (with_reducible show wpAny _ _ (exec (PySem.Stmt.While _ _ _ _) _) _ _ _) | (with_reducible show wpAny _ _ (exec (PySem.Stmt.For (PySem.Expr.Tuple _ _ _) _ _ _ _ _) _) _ _ _) | (with_reducible show wpAny _ _ (pyIter _) _ _ _)))); (first | walk1 | (k_unfold; (try dsimp only)) | (dsimp only; walk1) | ((try dsimp only); (with_reducible show WhileStep2 _ _ _ _ _ _ PySem.Flow.brk _); dsimp only [WhileStep2]) | fail "no step"))); (all_goals (try k_data)))
  ((rename Fr _ _ _ _ => F2); (rename News _ _ _ _ => N2))
  refine LCg.ListComp_U (F₀ := F2) (by with_unfolding_all rfl) (by decide) (by rfl) (by decide) (by rfl) ?_
  ((repeat' ((fail_if_success (first | (with_reducible show @Exists PySem.Heap _) | (with_reducible show wpAny _ _ (eval (PySem.Expr.ListComp _ _ _ _) _) _ _ _) | (with_reducible show wpAny _ _ (storeName _ (PySem.Str.ofString "due") _) _ _ _) | (with_reducible show wpAny _ _ (eval (PySem.Expr.Name (PySem.Str.ofString "heap") _) _) _ _ _) | (with_reducible show wpAny _ _ (eval (PySem.Expr.Name (PySem.Str.ofString "ends") _) _) _ _ _) | (first | (with_reducible show InvEndG _ _ _ _ _ _) | (with_reducible show wpAny _ _ (PySem.call (PySem.Value.ref _) _) _ _ _) | (with_reducible show wpAny _ _ (PySem.call (PySem.Value.builtin _) _) _ _ _) | (with_reducible show wpAny _ _ (PySem.call (PySem.Value.type _) _) _ _ _) | (with_reducible show wpAny _ _ (subscriptTail _ _ (PySem.Value.ref _) _) _ _ _) | (with_reducible show wpAny _ _ (setItem (PySem.Value.ref _) _ _) _ _ _) | (with_reducible show wpAny _ _ (compareOp _ (PySem.Value.ref _) _) _ _ _) | (with_reducible show wpAny _ _ (compareOp _ _ (PySem.Value.ref _)) _ _ _) | (with_reducible show wpAny _ _ (binaryOp PySem.Operator.Mod _ _) _ _ _) | (with_reducible show wpAny _ _ (truthy (PySem.Value.ref _)) _ _ _) | (with_reducible show wpAny _ _ (exec (PySem.Stmt.While _ _ _ _) _) _ _ _) | (with_reducible show wpAny _ _ (exec (PySem.Stmt.For (PySem.Expr.Tuple _ _ _) _ _ _ _ _) _) _ _ _) | (with_reducible show wpAny _ _ (pyIter _) _ _ _)))); (first | walk1 | (k_unfold; (try dsimp only)) | (dsimp only; walk1) | ((try dsimp only); (with_reducible show WhileStep2 _ _ _ _ _ _ PySem.Flow.brk _); dsimp only [WhileStep2]) | fail "no step"))); (all_goals (try k_data)))
  ((rename Fr _ _ _ _ => F2); (rename News _ _ _ _ => N2))
  obtain ⟨NA, hNA⟩ : ∃ z, News h₀ L _ z ∧ (∀ y ∈ nw, y ∈ z) := ⟨_, N2, fun y hy => .tail _ (by first | exact hy | exact .tail _ hy)⟩
  refine LCg.CompSrc.ledger (by exact hh) F2 hNA.1 (hNA.2 _ mD) (by simp [hcs, PySem.sizeLine_eq]; omega) (fun g => ?_)
  refine comp_rest (fun i ys nx => nx = NA ∧ IntsAre ys ((cs.map It.p).take i)) ⟨rfl, .nil⟩ ?_ ?_
  · rintro i ys _ v I oI C oC D0 m₂ h3 tk3 E' hi9 ⟨rfl, hys⟩ hv hC hx F2 N2 off ne
    have hi2 : i < cs.length := by simpa using hi9
    obtain rfl : v = .ref cs[i].a := by
      have h9 : (refs cs).toArray[i]? = some v := hv
      simpa [hi2] using h9.symm
    ((repeat' ((fail_if_success (first | (with_reducible show @Exists PySem.Heap _) | (with_reducible show wpAny _ _ (eval (PySem.Expr.ListComp _ _ _ _) _) _ _ _) | (with_reducible show wpAny _ _ (storeName _ (PySem.Str.ofString "due") _) _ _ _) | (with_reducible show wpAny _ _ (eval (PySem.Expr.Name (PySem.Str.ofString "heap") _) _) _ _ _) | (with_reducible show wpAny _ _ (eval (PySem.Expr.Name (PySem.Str.ofString "ends") _) _) _ _ _) | (first | (with_reducible show InvEndG _ _ _ _ _ _) | (with_reducible show wpAny _ _ (PySem.call (PySem.Value.ref _) _) _ _ _) | (with_reducible show wpAny _ _ (PySem.call (PySem.Value.builtin _) _) _ _ _) | (with_reducible show wpAny _ _ (PySem.call (PySem.Value.type _) _) _ _ _) | (with_reducible show wpAny _ _ (subscriptTail _ _ (PySem.Value.ref _) _) _ _ _) | (with_reducible show wpAny _ _ (setItem (PySem.Value.ref _) _ _) _ _ _) | (with_reducible show wpAny _ _ (compareOp _ (PySem.Value.ref _) _) _ _ _) | (with_reducible show wpAny _ _ (compareOp _ _ (PySem.Value.ref _)) _ _ _) | (with_reducible show wpAny _ _ (binaryOp PySem.Operator.Mod _ _) _ _ _) | (with_reducible show wpAny _ _ (truthy (PySem.Value.ref _)) _ _ _) | (with_reducible show wpAny _ _ (exec (PySem.Stmt.While _ _ _ _) _) _ _ _) | (with_reducible show wpAny _ _ (exec (PySem.Stmt.For (PySem.Expr.Tuple _ _ _) _ _ _ _ _) _) _ _ _) | (with_reducible show wpAny _ _ (pyIter _) _ _ _)))); (first | walk1 | (k_unfold; (try dsimp only)) | (dsimp only; walk1) | ((try dsimp only); (with_reducible show WhileStep2 _ _ _ _ _ _ PySem.Flow.brk _); dsimp only [WhileStep2]) | fail "no step"))); (all_goals (try k_data)))
    refine item_led (vs := [.int cs[i].p cs[i].tp, .int cs[i].s cs[i].ts]) N2 (.tail _ (.tail _ (.tail _ (hNA.2 _ (hc _ (List.getElem_mem hi2)))))) (by decide) (by decide) rfl ?_
    refine ⟨_, _, _, rfl, F2, N2, off, .inr ⟨_, hNA.2 _ mD, rfl, _, rfl⟩, rfl, ?_⟩
    rw [List.take_add_one]
    simp only [List.getElem?_map, List.getElem?_eq_getElem hi2, Option.map_some, Option.toList_some]
    exact ints_append hys
  · rintro ys NA ⟨rfl, hys⟩
    intro D2 h3 tk3 F2 N2 hoD
    ((repeat' ((fail_if_success (first | (with_reducible show @Exists PySem.Heap _) | (with_reducible show wpAny _ _ (eval (PySem.Expr.ListComp _ _ _ _) _) _ _ _) | (with_reducible show wpAny _ _ (storeName _ (PySem.Str.ofString "due") _) _ _ _) | (with_reducible show wpAny _ _ (eval (PySem.Expr.Name (PySem.Str.ofString "heap") _) _) _ _ _) | (with_reducible show wpAny _ _ (eval (PySem.Expr.Name (PySem.Str.ofString "ends") _) _) _ _ _) | (first | (with_reducible show InvEndG _ _ _ _ _ _) | (with_reducible show wpAny _ _ (PySem.call (PySem.Value.ref _) _) _ _ _) | (with_reducible show wpAny _ _ (PySem.call (PySem.Value.builtin _) _) _ _ _) | (with_reducible show wpAny _ _ (PySem.call (PySem.Value.type _) _) _ _ _) | (with_reducible show wpAny _ _ (subscriptTail _ _ (PySem.Value.ref _) _) _ _ _) | (with_reducible show wpAny _ _ (setItem (PySem.Value.ref _) _ _) _ _ _) | (with_reducible show wpAny _ _ (compareOp _ (PySem.Value.ref _) _) _ _ _) | (with_reducible show wpAny _ _ (compareOp _ _ (PySem.Value.ref _)) _ _ _) | (with_reducible show wpAny _ _ (binaryOp PySem.Operator.Mod _ _) _ _ _) | (with_reducible show wpAny _ _ (truthy (PySem.Value.ref _)) _ _ _) | (with_reducible show wpAny _ _ (exec (PySem.Stmt.While _ _ _ _) _) _ _ _) | (with_reducible show wpAny _ _ (exec (PySem.Stmt.For (PySem.Expr.Tuple _ _ _) _ _ _ _ _) _) _ _ _) | (with_reducible show wpAny _ _ (pyIter _) _ _ _)))); (first | walk1 | (k_unfold; (try dsimp only)) | (dsimp only; walk1) | ((try dsimp only); (with_reducible show WhileStep2 _ _ _ _ _ _ PySem.Flow.brk _); dsimp only [WhileStep2]) | fail "no step"))); (all_goals (try k_data)))
    ((rename Fr _ _ _ _ => F2); (rename News _ _ _ _ => N2))
    (rename Addr => en0)
    (rename IntsAre _ _ => hen)
    (rename List Value => wse)
    (rename _ ∧ _ ∧ AllLt en0 _ => len)
    rw [List.take_of_length_le (by simp)] at hen
    have mE2 : (L + 1 + 1, cE) ∈ NA := hNA.2 _ mE
    obtain ⟨NL, N5, m1, m2, m3⟩ : ∃ z, News h₀ L _ z ∧ (en0, listOf wse.toArray 0) ∈ z ∧ (L + 1 + 1, cE) ∈ z ∧ (∀ y ∈ nw, y ∈ z) := ⟨_, N2, .head _, .tail _ (.tail _ (.tail _ mE2)), fun y hy => .tail _ (.tail _ (.tail _ (hNA.2 y hy)))⟩
    clear N2
    have kp : ∀ y ∈ nw, (∀ v, y.2.data ≠ .cell v) → y ∈ but (L + 1 + 1) NL := fun y hy hne => but_mem (m3 y hy) (ne_cell N5 m2 hcE (m3 y hy) hne)
    have ken : (en0, listOf wse.toArray 0) ∈ but (L + 1 + 1) NL := but_mem m1 (ne_cell N5 m2 hcE m1 (fun v e => by cases e))
    refine' stcell F2 N5 m2 ?nc hcE ?_ ?nk ?nl
    case nc => rfl
    case nk => rfl
    case nl => rfl
    intro h' cE2 F2 N2 hcE2
    clear N5
    generalize but (L + 1 + 1) NL = NB at N2 kp ken
    ((repeat' ((fail_if_success (first | (with_reducible show @Exists PySem.Heap _) | (with_reducible show wpAny _ _ (eval (PySem.Expr.ListComp _ _ _ _) _) _ _ _) | (with_reducible show wpAny _ _ (storeName _ (PySem.Str.ofString "due") _) _ _ _) | (with_reducible show wpAny _ _ (eval (PySem.Expr.Name (PySem.Str.ofString "heap") _) _) _ _ _) | (with_reducible show wpAny _ _ (eval (PySem.Expr.Name (PySem.Str.ofString "ends") _) _) _ _ _) | (first | (with_reducible show InvEndG _ _ _ _ _ _) | (with_reducible show wpAny _ _ (PySem.call (PySem.Value.ref _) _) _ _ _) | (with_reducible show wpAny _ _ (PySem.call (PySem.Value.builtin _) _) _ _ _) | (with_reducible show wpAny _ _ (PySem.call (PySem.Value.type _) _) _ _ _) | (with_reducible show wpAny _ _ (subscriptTail _ _ (PySem.Value.ref _) _) _ _ _) | (with_reducible show wpAny _ _ (setItem (PySem.Value.ref _) _ _) _ _ _) | (with_reducible show wpAny _ _ (compareOp _ (PySem.Value.ref _) _) _ _ _) | (with_reducible show wpAny _ _ (compareOp _ _ (PySem.Value.ref _)) _ _ _) | (with_reducible show wpAny _ _ (binaryOp PySem.Operator.Mod _ _) _ _ _) | (with_reducible show wpAny _ _ (truthy (PySem.Value.ref _)) _ _ _) | (with_reducible show wpAny _ _ (exec (PySem.Stmt.While _ _ _ _) _) _ _ _) | (with_reducible show wpAny _ _ (exec (PySem.Stmt.For (PySem.Expr.Tuple _ _ _) _ _ _ _ _) _) _ _ _) | (with_reducible show wpAny _ _ (pyIter _) _ _ _)))); (first | walk1 | (k_unfold; (try dsimp only)) | (dsimp only; walk1) | ((try dsimp only); (with_reducible show WhileStep2 _ _ _ _ _ _ PySem.Flow.brk _); dsimp only [WhileStep2]) | fail "no step"))); (all_goals (try k_data)))
    ((rename Fr _ _ _ _ => F2); (rename News _ _ _ _ => N2))
    refine range1_rows F2 N2 ?_
    intro h' tk2 t₁ u₁ v₁ hrg F2 N2 hk2
    refine LCg.CompSrc.range (n := n) (by exact hh) F2 N2 hrg (small_one (by decide) (by decide) (by omega) (by omega)) (by rw [rangeSize_one]; split <;> omega) (by rw [PySem.sizeLine_eq]; omega) (fun g => ?_)
    refine comp_rest (fun i ys nx => nx = (L + 1 + 1, cE2) :: NB ∧ IntsAre ys (gs.take i)) ⟨rfl, .nil⟩ ?_ ?_
    · clear F2 N2 hrg hk2
      rintro i ys _ v I oI C oC D0 m₂ h3 tk3 E' hi9 ⟨rfl, hys⟩ ⟨tv, rfl⟩ hC hx F2 N2 off ne
      obtain ⟨ga, gb, hga, hgb, hgg⟩ := hgs i hi9
      obtain ⟨ta, hta⟩ := hen.get _ _ hga
      obtain ⟨tb, htb⟩ := hen.get _ _ hgb
      rw [Int.zero_add] at hx
      ((repeat' ((fail_if_success (first | (with_reducible show @Exists PySem.Heap _) | (with_reducible show wpAny _ _ (eval (PySem.Expr.ListComp _ _ _ _) _) _ _ _) | (with_reducible show wpAny _ _ (storeName _ (PySem.Str.ofString "due") _) _ _ _) | (with_reducible show wpAny _ _ (eval (PySem.Expr.Name (PySem.Str.ofString "heap") _) _) _ _ _) | (with_reducible show wpAny _ _ (eval (PySem.Expr.Name (PySem.Str.ofString "ends") _) _) _ _ _) | (first | (with_reducible show InvEndG _ _ _ _ _ _) | (with_reducible show wpAny _ _ (PySem.call (PySem.Value.ref _) _) _ _ _) | (with_reducible show wpAny _ _ (PySem.call (PySem.Value.builtin _) _) _ _ _) | (with_reducible show wpAny _ _ (PySem.call (PySem.Value.type _) _) _ _ _) | (with_reducible show wpAny _ _ (subscriptTail _ _ (PySem.Value.ref _) _) _ _ _) | (with_reducible show wpAny _ _ (setItem (PySem.Value.ref _) _ _) _ _ _) | (with_reducible show wpAny _ _ (compareOp _ (PySem.Value.ref _) _) _ _ _) | (with_reducible show wpAny _ _ (compareOp _ _ (PySem.Value.ref _)) _ _ _) | (with_reducible show wpAny _ _ (binaryOp PySem.Operator.Mod _ _) _ _ _) | (with_reducible show wpAny _ _ (truthy (PySem.Value.ref _)) _ _ _) | (with_reducible show wpAny _ _ (exec (PySem.Stmt.While _ _ _ _) _) _ _ _) | (with_reducible show wpAny _ _ (exec (PySem.Stmt.For (PySem.Expr.Tuple _ _ _) _ _ _ _ _) _) _ _ _) | (with_reducible show wpAny _ _ (pyIter _) _ _ _)))); (first | walk1 | (k_unfold; (try dsimp only)) | (dsimp only; walk1) | ((try dsimp only); (with_reducible show WhileStep2 _ _ _ _ _ _ PySem.Flow.brk _); dsimp only [WhileStep2]) | fail "no step"))); (all_goals (try k_data)))
      refine kcf_cell N2 rfl (.tail _ (.tail _ (.tail _ (.head _)))) hcE2 ?_
      ((repeat' ((fail_if_success (first | (with_reducible show @Exists PySem.Heap _) | (with_reducible show wpAny _ _ (eval (PySem.Expr.ListComp _ _ _ _) _) _ _ _) | (with_reducible show wpAny _ _ (storeName _ (PySem.Str.ofString "due") _) _ _ _) | (with_reducible show wpAny _ _ (eval (PySem.Expr.Name (PySem.Str.ofString "heap") _) _) _ _ _) | (with_reducible show wpAny _ _ (eval (PySem.Expr.Name (PySem.Str.ofString "ends") _) _) _ _ _) | (first | (with_reducible show InvEndG _ _ _ _ _ _) | (with_reducible show wpAny _ _ (PySem.call (PySem.Value.ref _) _) _ _ _) | (with_reducible show wpAny _ _ (PySem.call (PySem.Value.builtin _) _) _ _ _) | (with_reducible show wpAny _ _ (PySem.call (PySem.Value.type _) _) _ _ _) | (with_reducible show wpAny _ _ (subscriptTail _ _ (PySem.Value.ref _) _) _ _ _) | (with_reducible show wpAny _ _ (setItem (PySem.Value.ref _) _ _) _ _ _) | (with_reducible show wpAny _ _ (compareOp _ (PySem.Value.ref _) _) _ _ _) | (with_reducible show wpAny _ _ (compareOp _ _ (PySem.Value.ref _)) _ _ _) | (with_reducible show wpAny _ _ (binaryOp PySem.Operator.Mod _ _) _ _ _) | (with_reducible show wpAny _ _ (truthy (PySem.Value.ref _)) _ _ _) | (with_reducible show wpAny _ _ (exec (PySem.Stmt.While _ _ _ _) _) _ _ _) | (with_reducible show wpAny _ _ (exec (PySem.Stmt.For (PySem.Expr.Tuple _ _ _) _ _ _ _ _) _) _ _ _) | (with_reducible show wpAny _ _ (pyIter _) _ _ _)))); (first | walk1 | (k_unfold; (try dsimp only)) | (dsimp only; walk1) | ((try dsimp only); (with_reducible show WhileStep2 _ _ _ _ _ _ PySem.Flow.brk _); dsimp only [WhileStep2]) | fail "no step"))); (all_goals (try k_data)))
      refine item_led N2 (.tail _ (.tail _ (.tail _ (.tail _ ken)))) (by omega) (by omega) (by rw [show ((i : Int) + 1).toNat = i + 1 by omega]; exact htb) ?_
      ((repeat' ((fail_if_success (first | (with_reducible show @Exists PySem.Heap _) | (with_reducible show wpAny _ _ (eval (PySem.Expr.ListComp _ _ _ _) _) _ _ _) | (with_reducible show wpAny _ _ (storeName _ (PySem.Str.ofString "due") _) _ _ _) | (with_reducible show wpAny _ _ (eval (PySem.Expr.Name (PySem.Str.ofString "heap") _) _) _ _ _) | (with_reducible show wpAny _ _ (eval (PySem.Expr.Name (PySem.Str.ofString "ends") _) _) _ _ _) | (first | (with_reducible show InvEndG _ _ _ _ _ _) | (with_reducible show wpAny _ _ (PySem.call (PySem.Value.ref _) _) _ _ _) | (with_reducible show wpAny _ _ (PySem.call (PySem.Value.builtin _) _) _ _ _) | (with_reducible show wpAny _ _ (PySem.call (PySem.Value.type _) _) _ _ _) | (with_reducible show wpAny _ _ (subscriptTail _ _ (PySem.Value.ref _) _) _ _ _) | (with_reducible show wpAny _ _ (setItem (PySem.Value.ref _) _ _) _ _ _) | (with_reducible show wpAny _ _ (compareOp _ (PySem.Value.ref _) _) _ _ _) | (with_reducible show wpAny _ _ (compareOp _ _ (PySem.Value.ref _)) _ _ _) | (with_reducible show wpAny _ _ (binaryOp PySem.Operator.Mod _ _) _ _ _) | (with_reducible show wpAny _ _ (truthy (PySem.Value.ref _)) _ _ _) | (with_reducible show wpAny _ _ (exec (PySem.Stmt.While _ _ _ _) _) _ _ _) | (with_reducible show wpAny _ _ (exec (PySem.Stmt.For (PySem.Expr.Tuple _ _ _) _ _ _ _ _) _) _ _ _) | (with_reducible show wpAny _ _ (pyIter _) _ _ _)))); (first | walk1 | (k_unfold; (try dsimp only)) | (dsimp only; walk1) | ((try dsimp only); (with_reducible show WhileStep2 _ _ _ _ _ _ PySem.Flow.brk _); dsimp only [WhileStep2]) | fail "no step"))); (all_goals (try k_data)))
      refine kcf_cell N2 rfl (.tail _ (.tail _ (.tail _ (.head _)))) hcE2 ?_
      ((repeat' ((fail_if_success (first | (with_reducible show @Exists PySem.Heap _) | (with_reducible show wpAny _ _ (eval (PySem.Expr.ListComp _ _ _ _) _) _ _ _) | (with_reducible show wpAny _ _ (storeName _ (PySem.Str.ofString "due") _) _ _ _) | (with_reducible show wpAny _ _ (eval (PySem.Expr.Name (PySem.Str.ofString "heap") _) _) _ _ _) | (with_reducible show wpAny _ _ (eval (PySem.Expr.Name (PySem.Str.ofString "ends") _) _) _ _ _) | (first | (with_reducible show InvEndG _ _ _ _ _ _) | (with_reducible show wpAny _ _ (PySem.call (PySem.Value.ref _) _) _ _ _) | (with_reducible show wpAny _ _ (PySem.call (PySem.Value.builtin _) _) _ _ _) | (with_reducible show wpAny _ _ (PySem.call (PySem.Value.type _) _) _ _ _) | (with_reducible show wpAny _ _ (subscriptTail _ _ (PySem.Value.ref _) _) _ _ _) | (with_reducible show wpAny _ _ (setItem (PySem.Value.ref _) _ _) _ _ _) | (with_reducible show wpAny _ _ (compareOp _ (PySem.Value.ref _) _) _ _ _) | (with_reducible show wpAny _ _ (compareOp _ _ (PySem.Value.ref _)) _ _ _) | (with_reducible show wpAny _ _ (binaryOp PySem.Operator.Mod _ _) _ _ _) | (with_reducible show wpAny _ _ (truthy (PySem.Value.ref _)) _ _ _) | (with_reducible show wpAny _ _ (exec (PySem.Stmt.While _ _ _ _) _) _ _ _) | (with_reducible show wpAny _ _ (exec (PySem.Stmt.For (PySem.Expr.Tuple _ _ _) _ _ _ _ _) _) _ _ _) | (with_reducible show wpAny _ _ (pyIter _) _ _ _)))); (first | walk1 | (k_unfold; (try dsimp only)) | (dsimp only; walk1) | ((try dsimp only); (with_reducible show WhileStep2 _ _ _ _ _ _ PySem.Flow.brk _); dsimp only [WhileStep2]) | fail "no step"))); (all_goals (try k_data)))
      refine item_led N2 (.tail _ (.tail _ (.tail _ (.tail _ ken)))) (by omega) (by omega) (by rw [show ((i : Int)).toNat = i by omega]; exact hta) ?_
      ((repeat' ((fail_if_success (first | (with_reducible show @Exists PySem.Heap _) | (with_reducible show wpAny _ _ (eval (PySem.Expr.ListComp _ _ _ _) _) _ _ _) | (with_reducible show wpAny _ _ (storeName _ (PySem.Str.ofString "due") _) _ _ _) | (with_reducible show wpAny _ _ (eval (PySem.Expr.Name (PySem.Str.ofString "heap") _) _) _ _ _) | (with_reducible show wpAny _ _ (eval (PySem.Expr.Name (PySem.Str.ofString "ends") _) _) _ _ _) | (first | (with_reducible show InvEndG _ _ _ _ _ _) | (with_reducible show wpAny _ _ (PySem.call (PySem.Value.ref _) _) _ _ _) | (with_reducible show wpAny _ _ (PySem.call (PySem.Value.builtin _) _) _ _ _) | (with_reducible show wpAny _ _ (PySem.call (PySem.Value.type _) _) _ _ _) | (with_reducible show wpAny _ _ (subscriptTail _ _ (PySem.Value.ref _) _) _ _ _) | (with_reducible show wpAny _ _ (setItem (PySem.Value.ref _) _ _) _ _ _) | (with_reducible show wpAny _ _ (compareOp _ (PySem.Value.ref _) _) _ _ _) | (with_reducible show wpAny _ _ (compareOp _ _ (PySem.Value.ref _)) _ _ _) | (with_reducible show wpAny _ _ (binaryOp PySem.Operator.Mod _ _) _ _ _) | (with_reducible show wpAny _ _ (truthy (PySem.Value.ref _)) _ _ _) | (with_reducible show wpAny _ _ (exec (PySem.Stmt.While _ _ _ _) _) _ _ _) | (with_reducible show wpAny _ _ (exec (PySem.Stmt.For (PySem.Expr.Tuple _ _ _) _ _ _ _ _) _) _ _ _) | (with_reducible show wpAny _ _ (pyIter _) _ _ _)))); (first | walk1 | (k_unfold; (try dsimp only)) | (dsimp only; walk1) | ((try dsimp only); (with_reducible show WhileStep2 _ _ _ _ _ _ PySem.Flow.brk _); dsimp only [WhileStep2]) | fail "no step"))); (all_goals (try k_data)))
      ((rename Fr _ _ _ _ => F2); (rename News _ _ _ _ => N2))
      refine ⟨_, _, _, rfl, F2, N2, off, trivial, rfl, ?_⟩
      rw [List.take_add_one, hgg]
      exact ints_append hys
    · rintro ys NC ⟨rfl, hys⟩
      intro D3 h3 tk3 F2 N2 hoD3
      rw [List.take_of_length_le (by omega)] at hys
      have mG : (D3, listOf ys.toArray ys.length) ∈ (D3, LCg.lst ys) :: (L + 1 + 1, cE2) :: NB := .head _
      ((repeat' ((fail_if_success (first | (with_reducible show @Exists PySem.Heap _) | (with_reducible show wpAny _ _ (eval (PySem.Expr.ListComp _ _ _ _) _) _ _ _) | (with_reducible show wpAny _ _ (storeName _ (PySem.Str.ofString "due") _) _ _ _) | (with_reducible show wpAny _ _ (eval (PySem.Expr.Name (PySem.Str.ofString "heap") _) _) _ _ _) | (with_reducible show wpAny _ _ (eval (PySem.Expr.Name (PySem.Str.ofString "ends") _) _) _ _ _) | (first | (with_reducible show InvEndG _ _ _ _ _ _) | (with_reducible show wpAny _ _ (PySem.call (PySem.Value.ref _) _) _ _ _) | (with_reducible show wpAny _ _ (PySem.call (PySem.Value.builtin _) _) _ _ _) | (with_reducible show wpAny _ _ (PySem.call (PySem.Value.type _) _) _ _ _) | (with_reducible show wpAny _ _ (subscriptTail _ _ (PySem.Value.ref _) _) _ _ _) | (with_reducible show wpAny _ _ (setItem (PySem.Value.ref _) _ _) _ _ _) | (with_reducible show wpAny _ _ (compareOp _ (PySem.Value.ref _) _) _ _ _) | (with_reducible show wpAny _ _ (compareOp _ _ (PySem.Value.ref _)) _ _ _) | (with_reducible show wpAny _ _ (binaryOp PySem.Operator.Mod _ _) _ _ _) | (with_reducible show wpAny _ _ (truthy (PySem.Value.ref _)) _ _ _) | (with_reducible show wpAny _ _ (exec (PySem.Stmt.While _ _ _ _) _) _ _ _) | (with_reducible show wpAny _ _ (exec (PySem.Stmt.For (PySem.Expr.Tuple _ _ _) _ _ _ _ _) _) _ _ _) | (with_reducible show wpAny _ _ (pyIter _) _ _ _)))); (first | walk1 | (k_unfold; (try dsimp only)) | (dsimp only; walk1) | ((try dsimp only); (with_reducible show WhileStep2 _ _ _ _ _ _ PySem.Flow.brk _); dsimp only [WhileStep2]) | fail "no step"))); (all_goals (try k_data)))
      ((rename Fr _ _ _ _ => F2); (rename News _ _ _ _ => N2))
      (rename IntsAre _ _ => hex)
      obtain ⟨exl, hexl⟩ : ∃ z, z = ((List.replicate ((n : Int) - (kx : Int)).toNat [p]).flatten ++ (List.replicate ((n : Int) - (mx : Int)).toNat [q]).flatten ++ (List.replicate ((kx : Int) + (mx : Int) - (n : Int)).toNat [p + q]).flatten) := ⟨_, rfl⟩
      rw [← hexl] at hex hperm
      have hexn := hperm.length_eq
      refine' count_ct ?kB F2 ?kX ?kT ?kA ?kf ?kk ?kh N2 (vs := ys) (n := ys.length) ?km hys (.head _) hex ?kd ?ku (by omega) (by omega) hperm ?_
      ((case kA => exact hA); (case kB => assumption); (case kX => assumption); (case kT => assumption); (case kf => exact rfl); (case kk => exact rfl); (case kh => exact hh); (case kd => omega); (case ku => omega))
      case km => k_mem
      intro r5 h' tk' F2 N2
      ((repeat' ((fail_if_success (first | (with_reducible show @Exists PySem.Heap _) | (with_reducible show wpAny _ _ (eval (PySem.Expr.ListComp _ _ _ _) _) _ _ _) | (with_reducible show wpAny _ _ (storeName _ (PySem.Str.ofString "due") _) _ _ _) | (with_reducible show wpAny _ _ (eval (PySem.Expr.Name (PySem.Str.ofString "heap") _) _) _ _ _) | (with_reducible show wpAny _ _ (eval (PySem.Expr.Name (PySem.Str.ofString "ends") _) _) _ _ _) | (first | (with_reducible show InvEndG _ _ _ _ _ _) | (with_reducible show wpAny _ _ (PySem.call (PySem.Value.ref _) _) _ _ _) | (with_reducible show wpAny _ _ (PySem.call (PySem.Value.builtin _) _) _ _ _) | (with_reducible show wpAny _ _ (PySem.call (PySem.Value.type _) _) _ _ _) | (with_reducible show wpAny _ _ (subscriptTail _ _ (PySem.Value.ref _) _) _ _ _) | (with_reducible show wpAny _ _ (setItem (PySem.Value.ref _) _ _) _ _ _) | (with_reducible show wpAny _ _ (compareOp _ (PySem.Value.ref _) _) _ _ _) | (with_reducible show wpAny _ _ (compareOp _ _ (PySem.Value.ref _)) _ _ _) | (with_reducible show wpAny _ _ (binaryOp PySem.Operator.Mod _ _) _ _ _) | (with_reducible show wpAny _ _ (truthy (PySem.Value.ref _)) _ _ _) | (with_reducible show wpAny _ _ (exec (PySem.Stmt.While _ _ _ _) _) _ _ _) | (with_reducible show wpAny _ _ (exec (PySem.Stmt.For (PySem.Expr.Tuple _ _ _) _ _ _ _ _) _) _ _ _) | (with_reducible show wpAny _ _ (pyIter _) _ _ _)))); (first | walk1 | (k_unfold; (try dsimp only)) | (dsimp only; walk1) | ((try dsimp only); (with_reducible show WhileStep2 _ _ _ _ _ _ PySem.Flow.brk _); dsimp only [WhileStep2]) | fail "no step"))); (all_goals (try k_data)))
      ((rename Fr _ _ _ _ => F2); (rename News _ _ _ _ => N2))
      refine ke_ne_ints (isL N2 (.tail _ (.head _))) (isL N2 (.head _)) .nil .nil (by omega) ?_
      ((repeat' ((fail_if_success (first | (with_reducible show @Exists PySem.Heap _) | (with_reducible show wpAny _ _ (eval (PySem.Expr.ListComp _ _ _ _) _) _ _ _) | (with_reducible show wpAny _ _ (storeName _ (PySem.Str.ofString "due") _) _ _ _) | (with_reducible show wpAny _ _ (eval (PySem.Expr.Name (PySem.Str.ofString "heap") _) _) _ _ _) | (with_reducible show wpAny _ _ (eval (PySem.Expr.Name (PySem.Str.ofString "ends") _) _) _ _ _) | (first | (with_reducible show InvEndG _ _ _ _ _ _) | (with_reducible show wpAny _ _ (PySem.call (PySem.Value.ref _) _) _ _ _) | (with_reducible show wpAny _ _ (PySem.call (PySem.Value.builtin _) _) _ _ _) | (with_reducible show wpAny _ _ (PySem.call (PySem.Value.type _) _) _ _ _) | (with_reducible show wpAny _ _ (subscriptTail _ _ (PySem.Value.ref _) _) _ _ _) | (with_reducible show wpAny _ _ (setItem (PySem.Value.ref _) _ _) _ _ _) | (with_reducible show wpAny _ _ (compareOp _ (PySem.Value.ref _) _) _ _ _) | (with_reducible show wpAny _ _ (compareOp _ _ (PySem.Value.ref _)) _ _ _) | (with_reducible show wpAny _ _ (binaryOp PySem.Operator.Mod _ _) _ _ _) | (with_reducible show wpAny _ _ (truthy (PySem.Value.ref _)) _ _ _) | (with_reducible show wpAny _ _ (exec (PySem.Stmt.While _ _ _ _) _) _ _ _) | (with_reducible show wpAny _ _ (exec (PySem.Stmt.For (PySem.Expr.Tuple _ _ _) _ _ _ _ _) _) _ _ _) | (with_reducible show wpAny _ _ (pyIter _) _ _ _)))); (first | walk1 | (k_unfold; (try dsimp only)) | (dsimp only; walk1) | ((try dsimp only); (with_reducible show WhileStep2 _ _ _ _ _ _ PySem.Flow.brk _); dsimp only [WhileStep2]) | fail "no step"))); (all_goals (try k_data)))
      · have ho := ho1 (by omega)
        rw [ho] at hO1 hO2 hO3 hO4
        ((rename Fr _ _ _ _ => F2); (rename News _ _ _ _ => N2))
        simp only [List.cons_append, List.nil_append] at hO1 hO2
        refine' compare_ct ?kB F2 ?kX ?kT ?kA ?kf ?kk ?kh N2 (vs := ys) (n := ys.length) ?km hys (.head _) ?ki ?kd ?ku ?kl ?kn hO1 ?_
        ((case kA => exact hA); (case kB => assumption); (case kX => assumption); (case kT => assumption); (case kf => exact rfl); (case kk => exact rfl); (case kh => exact hh); (case kd => omega); (case ku => omega))
        case km => k_mem
        case ki => repeat (first | exact .nil | refine .cons _ _ ?_)
        case kl => omega
        case kn => simp
        intro h' tk' F2 N2
        rw [decide_eq_true hO2]
        ((repeat' ((fail_if_success (first | (with_reducible show @Exists PySem.Heap _) | (with_reducible show wpAny _ _ (eval (PySem.Expr.ListComp _ _ _ _) _) _ _ _) | (with_reducible show wpAny _ _ (storeName _ (PySem.Str.ofString "due") _) _ _ _) | (with_reducible show wpAny _ _ (eval (PySem.Expr.Name (PySem.Str.ofString "heap") _) _) _ _ _) | (with_reducible show wpAny _ _ (eval (PySem.Expr.Name (PySem.Str.ofString "ends") _) _) _ _ _) | (first | (with_reducible show InvEndG _ _ _ _ _ _) | (with_reducible show wpAny _ _ (PySem.call (PySem.Value.ref _) _) _ _ _) | (with_reducible show wpAny _ _ (PySem.call (PySem.Value.builtin _) _) _ _ _) | (with_reducible show wpAny _ _ (PySem.call (PySem.Value.type _) _) _ _ _) | (with_reducible show wpAny _ _ (subscriptTail _ _ (PySem.Value.ref _) _) _ _ _) | (with_reducible show wpAny _ _ (setItem (PySem.Value.ref _) _ _) _ _ _) | (with_reducible show wpAny _ _ (compareOp _ (PySem.Value.ref _) _) _ _ _) | (with_reducible show wpAny _ _ (compareOp _ _ (PySem.Value.ref _)) _ _ _) | (with_reducible show wpAny _ _ (binaryOp PySem.Operator.Mod _ _) _ _ _) | (with_reducible show wpAny _ _ (truthy (PySem.Value.ref _)) _ _ _) | (with_reducible show wpAny _ _ (exec (PySem.Stmt.While _ _ _ _) _) _ _ _) | (with_reducible show wpAny _ _ (exec (PySem.Stmt.For (PySem.Expr.Tuple _ _ _) _ _ _ _ _) _) _ _ _) | (with_reducible show wpAny _ _ (pyIter _) _ _ _)))); (first | walk1 | (k_unfold; (try dsimp only)) | (dsimp only; walk1) | ((try dsimp only); (with_reducible show WhileStep2 _ _ _ _ _ _ PySem.Flow.brk _); dsimp only [WhileStep2]) | fail "no step"))); (all_goals (try k_data)))
        ((rename Fr _ _ _ _ => F2); (rename News _ _ _ _ => N2))
        refine' compare_ct ?kB F2 ?kX ?kT ?kA ?kf ?kk ?kh N2 ?km ?ki (vs := _) (n := _) (ws := ys) (k := ys.length) ?kmm hys ?kd ?ku ?kl ?kn hO3 ?_
        ((case kA => exact hA); (case kB => assumption); (case kX => assumption); (case kT => assumption); (case kf => exact rfl); (case kk => exact rfl); (case kh => exact hh); (case kd => omega); (case ku => omega))
        case kmm => k_mem
        case km => k_mem
        case ki => repeat (first | exact .nil | refine .cons _ _ ?_)
        case kl => simp
        case kn => omega
        intro h' tk' F2 N2
        have e4 : ∀ X : List Int, (X = [] ↔ p = q) → decide (X = []) = decide (p = q) := fun X h9 => by simp only [h9]
        rw [e4 _ hO4]
        ((repeat' ((fail_if_success (first | (with_reducible show @Exists PySem.Heap _) | (with_reducible show wpAny _ _ (eval (PySem.Expr.ListComp _ _ _ _) _) _ _ _) | (with_reducible show wpAny _ _ (storeName _ (PySem.Str.ofString "due") _) _ _ _) | (with_reducible show wpAny _ _ (eval (PySem.Expr.Name (PySem.Str.ofString "heap") _) _) _ _ _) | (with_reducible show wpAny _ _ (eval (PySem.Expr.Name (PySem.Str.ofString "ends") _) _) _ _ _) | (first | (with_reducible show InvEndG _ _ _ _ _ _) | (with_reducible show wpAny _ _ (PySem.call (PySem.Value.ref _) _) _ _ _) | (with_reducible show wpAny _ _ (PySem.call (PySem.Value.builtin _) _) _ _ _) | (with_reducible show wpAny _ _ (PySem.call (PySem.Value.type _) _) _ _ _) | (with_reducible show wpAny _ _ (subscriptTail _ _ (PySem.Value.ref _) _) _ _ _) | (with_reducible show wpAny _ _ (setItem (PySem.Value.ref _) _ _) _ _ _) | (with_reducible show wpAny _ _ (compareOp _ (PySem.Value.ref _) _) _ _ _) | (with_reducible show wpAny _ _ (compareOp _ _ (PySem.Value.ref _)) _ _ _) | (with_reducible show wpAny _ _ (binaryOp PySem.Operator.Mod _ _) _ _ _) | (with_reducible show wpAny _ _ (truthy (PySem.Value.ref _)) _ _ _) | (with_reducible show wpAny _ _ (exec (PySem.Stmt.While _ _ _ _) _) _ _ _) | (with_reducible show wpAny _ _ (exec (PySem.Stmt.For (PySem.Expr.Tuple _ _ _) _ _ _ _ _) _) _ _ _) | (with_reducible show wpAny _ _ (pyIter _) _ _ _)))); (first | walk1 | (k_unfold; (try dsimp only)) | (dsimp only; walk1) | ((try dsimp only); (with_reducible show WhileStep2 _ _ _ _ _ _ PySem.Flow.brk _); dsimp only [WhileStep2]) | fail "no step"))); (all_goals (try k_data)))
        · exfalso
          (rename (_ != _) = true => hbad)
          by_cases e9 : p = q <;> simp [e9] at hbad
        · ((rename Fr _ _ _ _ => F2); (rename News _ _ _ _ => N2))
          refine' fromkeys_ct ?kB F2 ?kX ?kT ?kA ?kf ?kk ?kh N2 (vs := ys) (n := ys.length) ?km hys ?kd ?ku ?kl ?_
          ((case kA => exact hA); (case kB => assumption); (case kX => assumption); (case kT => assumption); (case kf => exact rfl); (case kk => exact rfl); (case kh => exact hh); (case kd => omega); (case ku => omega))
          case km => k_mem
          case kl => omega
          intro d od h' tk' F2 N2 hdd hod
          have hLd : L < d := Nat.lt_trans (Nat.lt_trans (Nat.lt_succ_self _) (Nat.lt_succ_self _)) (hdd (L + 1 + 1, cE2) (by repeat (first | exact List.Mem.head _ | apply List.Mem.tail)))
          have kfi := kp _ mfi (fun v e => by cases e)
          have hfl2 : (fromK [] gs).length < 2 ^ 18 := by
            have h8 := congrArg List.length hfk
            have h9 := dedup_len gs
            rw [List.length_map] at h8
            omega
          ((repeat' ((fail_if_success (first | (with_reducible show @Exists PySem.Heap _) | (with_reducible show wpAny _ _ (eval (PySem.Expr.ListComp _ _ _ _) _) _ _ _) | (with_reducible show wpAny _ _ (storeName _ (PySem.Str.ofString "due") _) _ _ _) | (with_reducible show wpAny _ _ (eval (PySem.Expr.Name (PySem.Str.ofString "heap") _) _) _ _ _) | (with_reducible show wpAny _ _ (eval (PySem.Expr.Name (PySem.Str.ofString "ends") _) _) _ _ _) | (first | (with_reducible show InvEndG _ _ _ _ _ _) | (with_reducible show wpAny _ _ (PySem.call (PySem.Value.ref _) _) _ _ _) | (with_reducible show wpAny _ _ (PySem.call (PySem.Value.builtin _) _) _ _ _) | (with_reducible show wpAny _ _ (PySem.call (PySem.Value.type _) _) _ _ _) | (with_reducible show wpAny _ _ (subscriptTail _ _ (PySem.Value.ref _) _) _ _ _) | (with_reducible show wpAny _ _ (setItem (PySem.Value.ref _) _ _) _ _ _) | (with_reducible show wpAny _ _ (compareOp _ (PySem.Value.ref _) _) _ _ _) | (with_reducible show wpAny _ _ (compareOp _ _ (PySem.Value.ref _)) _ _ _) | (with_reducible show wpAny _ _ (binaryOp PySem.Operator.Mod _ _) _ _ _) | (with_reducible show wpAny _ _ (truthy (PySem.Value.ref _)) _ _ _) | (with_reducible show wpAny _ _ (exec (PySem.Stmt.While _ _ _ _) _) _ _ _) | (with_reducible show wpAny _ _ (exec (PySem.Stmt.For (PySem.Expr.Tuple _ _ _) _ _ _ _ _) _) _ _ _) | (with_reducible show wpAny _ _ (pyIter _) _ _ _)))); (first | walk1 | (k_unfold; (try dsimp only)) | (dsimp only; walk1) | ((try dsimp only); (with_reducible show WhileStep2 _ _ _ _ _ _ PySem.Flow.brk _); dsimp only [WhileStep2]) | fail "no step"))); (all_goals (try k_data)))
          ((rename Fr _ _ _ _ => F2); (rename News _ _ _ _ => N2))
          refine list_dict F2 N2 T.nolimit hLd (.head _) hod hfl2 (by exact hh) ?_
          intro B5 c5 h' tk vs5 F2 N2 hv5
          rw [hfk] at hv5
          ((repeat' ((fail_if_success (first | (with_reducible show @Exists PySem.Heap _) | (with_reducible show wpAny _ _ (eval (PySem.Expr.ListComp _ _ _ _) _) _ _ _) | (with_reducible show wpAny _ _ (storeName _ (PySem.Str.ofString "due") _) _ _ _) | (with_reducible show wpAny _ _ (eval (PySem.Expr.Name (PySem.Str.ofString "heap") _) _) _ _ _) | (with_reducible show wpAny _ _ (eval (PySem.Expr.Name (PySem.Str.ofString "ends") _) _) _ _ _) | (first | (with_reducible show InvEndG _ _ _ _ _ _) | (with_reducible show wpAny _ _ (PySem.call (PySem.Value.ref _) _) _ _ _) | (with_reducible show wpAny _ _ (PySem.call (PySem.Value.builtin _) _) _ _ _) | (with_reducible show wpAny _ _ (PySem.call (PySem.Value.type _) _) _ _ _) | (with_reducible show wpAny _ _ (subscriptTail _ _ (PySem.Value.ref _) _) _ _ _) | (with_reducible show wpAny _ _ (setItem (PySem.Value.ref _) _ _) _ _ _) | (with_reducible show wpAny _ _ (compareOp _ (PySem.Value.ref _) _) _ _ _) | (with_reducible show wpAny _ _ (compareOp _ _ (PySem.Value.ref _)) _ _ _) | (with_reducible show wpAny _ _ (binaryOp PySem.Operator.Mod _ _) _ _ _) | (with_reducible show wpAny _ _ (truthy (PySem.Value.ref _)) _ _ _) | (with_reducible show wpAny _ _ (exec (PySem.Stmt.While _ _ _ _) _) _ _ _) | (with_reducible show wpAny _ _ (exec (PySem.Stmt.For (PySem.Expr.Tuple _ _ _) _ _ _ _ _) _) _ _ _) | (with_reducible show wpAny _ _ (pyIter _) _ _ _)))); (first | walk1 | (k_unfold; (try dsimp only)) | (dsimp only; walk1) | ((try dsimp only); (with_reducible show WhileStep2 _ _ _ _ _ _ PySem.Flow.brk _); dsimp only [WhileStep2]) | fail "no step"))); (all_goals (try k_data)))
          ((rename Fr _ _ _ _ => F2); (rename News _ _ _ _ => N2))
          refine ke_eq_ints (isL N2 (.head _)) (isL N2 (by repeat (first | exact kfi | apply List.Mem.tail))) hv5 hfu (by omega) ?_
          rw [decide_eq_true rfl]
          ((repeat' ((fail_if_success (first | (with_reducible show @Exists PySem.Heap _) | (with_reducible show wpAny _ _ (eval (PySem.Expr.ListComp _ _ _ _) _) _ _ _) | (with_reducible show wpAny _ _ (storeName _ (PySem.Str.ofString "due") _) _ _ _) | (with_reducible show wpAny _ _ (eval (PySem.Expr.Name (PySem.Str.ofString "heap") _) _) _ _ _) | (with_reducible show wpAny _ _ (eval (PySem.Expr.Name (PySem.Str.ofString "ends") _) _) _ _ _) | (first | (with_reducible show InvEndG _ _ _ _ _ _) | (with_reducible show wpAny _ _ (PySem.call (PySem.Value.ref _) _) _ _ _) | (with_reducible show wpAny _ _ (PySem.call (PySem.Value.builtin _) _) _ _ _) | (with_reducible show wpAny _ _ (PySem.call (PySem.Value.type _) _) _ _ _) | (with_reducible show wpAny _ _ (subscriptTail _ _ (PySem.Value.ref _) _) _ _ _) | (with_reducible show wpAny _ _ (setItem (PySem.Value.ref _) _ _) _ _ _) | (with_reducible show wpAny _ _ (compareOp _ (PySem.Value.ref _) _) _ _ _) | (with_reducible show wpAny _ _ (compareOp _ _ (PySem.Value.ref _)) _ _ _) | (with_reducible show wpAny _ _ (binaryOp PySem.Operator.Mod _ _) _ _ _) | (with_reducible show wpAny _ _ (truthy (PySem.Value.ref _)) _ _ _) | (with_reducible show wpAny _ _ (exec (PySem.Stmt.While _ _ _ _) _) _ _ _) | (with_reducible show wpAny _ _ (exec (PySem.Stmt.For (PySem.Expr.Tuple _ _ _) _ _ _ _ _) _) _ _ _) | (with_reducible show wpAny _ _ (pyIter _) _ _ _)))); (first | walk1 | (k_unfold; (try dsimp only)) | (dsimp only; walk1) | ((try dsimp only); (with_reducible show WhileStep2 _ _ _ _ _ _ PySem.Flow.brk _); dsimp only [WhileStep2]) | fail "no step"))); (all_goals (try k_data)))
          rename Fr _ _ _ _ => F9
          exact ret _ _ _ F9
      · have ho := ho2 (by omega)
        rw [ho] at hO1 hO2 hO3 hO4
        ((rename Fr _ _ _ _ => F2); (rename News _ _ _ _ => N2))
        simp only [List.cons_append, List.nil_append] at hO1 hO2
        refine' compare_ct ?kB F2 ?kX ?kT ?kA ?kf ?kk ?kh N2 (vs := ys) (n := ys.length) ?km hys (.head _) ?ki ?kd ?ku ?kl ?kn hO1 ?_
        ((case kA => exact hA); (case kB => assumption); (case kX => assumption); (case kT => assumption); (case kf => exact rfl); (case kk => exact rfl); (case kh => exact hh); (case kd => omega); (case ku => omega))
        case km => k_mem
        case ki => repeat (first | exact .nil | refine .cons _ _ ?_)
        case kl => omega
        case kn => simp
        intro h' tk' F2 N2
        rw [decide_eq_true hO2]
        ((repeat' ((fail_if_success (first | (with_reducible show @Exists PySem.Heap _) | (with_reducible show wpAny _ _ (eval (PySem.Expr.ListComp _ _ _ _) _) _ _ _) | (with_reducible show wpAny _ _ (storeName _ (PySem.Str.ofString "due") _) _ _ _) | (with_reducible show wpAny _ _ (eval (PySem.Expr.Name (PySem.Str.ofString "heap") _) _) _ _ _) | (with_reducible show wpAny _ _ (eval (PySem.Expr.Name (PySem.Str.ofString "ends") _) _) _ _ _) | (first | (with_reducible show InvEndG _ _ _ _ _ _) | (with_reducible show wpAny _ _ (PySem.call (PySem.Value.ref _) _) _ _ _) | (with_reducible show wpAny _ _ (PySem.call (PySem.Value.builtin _) _) _ _ _) | (with_reducible show wpAny _ _ (PySem.call (PySem.Value.type _) _) _ _ _) | (with_reducible show wpAny _ _ (subscriptTail _ _ (PySem.Value.ref _) _) _ _ _) | (with_reducible show wpAny _ _ (setItem (PySem.Value.ref _) _ _) _ _ _) | (with_reducible show wpAny _ _ (compareOp _ (PySem.Value.ref _) _) _ _ _) | (with_reducible show wpAny _ _ (compareOp _ _ (PySem.Value.ref _)) _ _ _) | (with_reducible show wpAny _ _ (binaryOp PySem.Operator.Mod _ _) _ _ _) | (with_reducible show wpAny _ _ (truthy (PySem.Value.ref _)) _ _ _) | (with_reducible show wpAny _ _ (exec (PySem.Stmt.While _ _ _ _) _) _ _ _) | (with_reducible show wpAny _ _ (exec (PySem.Stmt.For (PySem.Expr.Tuple _ _ _) _ _ _ _ _) _) _ _ _) | (with_reducible show wpAny _ _ (pyIter _) _ _ _)))); (first | walk1 | (k_unfold; (try dsimp only)) | (dsimp only; walk1) | ((try dsimp only); (with_reducible show WhileStep2 _ _ _ _ _ _ PySem.Flow.brk _); dsimp only [WhileStep2]) | fail "no step"))); (all_goals (try k_data)))
        ((rename Fr _ _ _ _ => F2); (rename News _ _ _ _ => N2))
        refine' compare_ct ?kB F2 ?kX ?kT ?kA ?kf ?kk ?kh N2 ?km ?ki (vs := _) (n := _) (ws := ys) (k := ys.length) ?kmm hys ?kd ?ku ?kl ?kn hO3 ?_
        ((case kA => exact hA); (case kB => assumption); (case kX => assumption); (case kT => assumption); (case kf => exact rfl); (case kk => exact rfl); (case kh => exact hh); (case kd => omega); (case ku => omega))
        case kmm => k_mem
        case km => k_mem
        case ki => repeat (first | exact .nil | refine .cons _ _ ?_)
        case kl => simp
        case kn => omega
        intro h' tk' F2 N2
        have e4 : ∀ X : List Int, (X = [] ↔ p = q) → decide (X = []) = decide (p = q) := fun X h9 => by simp only [h9]
        rw [e4 _ hO4]
        ((repeat' ((fail_if_success (first | (with_reducible show @Exists PySem.Heap _) | (with_reducible show wpAny _ _ (eval (PySem.Expr.ListComp _ _ _ _) _) _ _ _) | (with_reducible show wpAny _ _ (storeName _ (PySem.Str.ofString "due") _) _ _ _) | (with_reducible show wpAny _ _ (eval (PySem.Expr.Name (PySem.Str.ofString "heap") _) _) _ _ _) | (with_reducible show wpAny _ _ (eval (PySem.Expr.Name (PySem.Str.ofString "ends") _) _) _ _ _) | (first | (with_reducible show InvEndG _ _ _ _ _ _) | (with_reducible show wpAny _ _ (PySem.call (PySem.Value.ref _) _) _ _ _) | (with_reducible show wpAny _ _ (PySem.call (PySem.Value.builtin _) _) _ _ _) | (with_reducible show wpAny _ _ (PySem.call (PySem.Value.type _) _) _ _ _) | (with_reducible show wpAny _ _ (subscriptTail _ _ (PySem.Value.ref _) _) _ _ _) | (with_reducible show wpAny _ _ (setItem (PySem.Value.ref _) _ _) _ _ _) | (with_reducible show wpAny _ _ (compareOp _ (PySem.Value.ref _) _) _ _ _) | (with_reducible show wpAny _ _ (compareOp _ _ (PySem.Value.ref _)) _ _ _) | (with_reducible show wpAny _ _ (binaryOp PySem.Operator.Mod _ _) _ _ _) | (with_reducible show wpAny _ _ (truthy (PySem.Value.ref _)) _ _ _) | (with_reducible show wpAny _ _ (exec (PySem.Stmt.While _ _ _ _) _) _ _ _) | (with_reducible show wpAny _ _ (exec (PySem.Stmt.For (PySem.Expr.Tuple _ _ _) _ _ _ _ _) _) _ _ _) | (with_reducible show wpAny _ _ (pyIter _) _ _ _)))); (first | walk1 | (k_unfold; (try dsimp only)) | (dsimp only; walk1) | ((try dsimp only); (with_reducible show WhileStep2 _ _ _ _ _ _ PySem.Flow.brk _); dsimp only [WhileStep2]) | fail "no step"))); (all_goals (try k_data)))
        · exfalso
          (rename (_ != _) = true => hbad)
          by_cases e9 : p = q <;> simp [e9] at hbad
        · ((rename Fr _ _ _ _ => F2); (rename News _ _ _ _ => N2))
          refine' fromkeys_ct ?kB F2 ?kX ?kT ?kA ?kf ?kk ?kh N2 (vs := ys) (n := ys.length) ?km hys ?kd ?ku ?kl ?_
          ((case kA => exact hA); (case kB => assumption); (case kX => assumption); (case kT => assumption); (case kf => exact rfl); (case kk => exact rfl); (case kh => exact hh); (case kd => omega); (case ku => omega))
          case km => k_mem
          case kl => omega
          intro d od h' tk' F2 N2 hdd hod
          have hLd : L < d := Nat.lt_trans (Nat.lt_trans (Nat.lt_succ_self _) (Nat.lt_succ_self _)) (hdd (L + 1 + 1, cE2) (by repeat (first | exact List.Mem.head _ | apply List.Mem.tail)))
          have kfi := kp _ mfi (fun v e => by cases e)
          have hfl2 : (fromK [] gs).length < 2 ^ 18 := by
            have h8 := congrArg List.length hfk
            have h9 := dedup_len gs
            rw [List.length_map] at h8
            omega
          ((repeat' ((fail_if_success (first | (with_reducible show @Exists PySem.Heap _) | (with_reducible show wpAny _ _ (eval (PySem.Expr.ListComp _ _ _ _) _) _ _ _) | (with_reducible show wpAny _ _ (storeName _ (PySem.Str.ofString "due") _) _ _ _) | (with_reducible show wpAny _ _ (eval (PySem.Expr.Name (PySem.Str.ofString "heap") _) _) _ _ _) | (with_reducible show wpAny _ _ (eval (PySem.Expr.Name (PySem.Str.ofString "ends") _) _) _ _ _) | (first | (with_reducible show InvEndG _ _ _ _ _ _) | (with_reducible show wpAny _ _ (PySem.call (PySem.Value.ref _) _) _ _ _) | (with_reducible show wpAny _ _ (PySem.call (PySem.Value.builtin _) _) _ _ _) | (with_reducible show wpAny _ _ (PySem.call (PySem.Value.type _) _) _ _ _) | (with_reducible show wpAny _ _ (subscriptTail _ _ (PySem.Value.ref _) _) _ _ _) | (with_reducible show wpAny _ _ (setItem (PySem.Value.ref _) _ _) _ _ _) | (with_reducible show wpAny _ _ (compareOp _ (PySem.Value.ref _) _) _ _ _) | (with_reducible show wpAny _ _ (compareOp _ _ (PySem.Value.ref _)) _ _ _) | (with_reducible show wpAny _ _ (binaryOp PySem.Operator.Mod _ _) _ _ _) | (with_reducible show wpAny _ _ (truthy (PySem.Value.ref _)) _ _ _) | (with_reducible show wpAny _ _ (exec (PySem.Stmt.While _ _ _ _) _) _ _ _) | (with_reducible show wpAny _ _ (exec (PySem.Stmt.For (PySem.Expr.Tuple _ _ _) _ _ _ _ _) _) _ _ _) | (with_reducible show wpAny _ _ (pyIter _) _ _ _)))); (first | walk1 | (k_unfold; (try dsimp only)) | (dsimp only; walk1) | ((try dsimp only); (with_reducible show WhileStep2 _ _ _ _ _ _ PySem.Flow.brk _); dsimp only [WhileStep2]) | fail "no step"))); (all_goals (try k_data)))
          ((rename Fr _ _ _ _ => F2); (rename News _ _ _ _ => N2))
          refine list_dict F2 N2 T.nolimit hLd (.head _) hod hfl2 (by exact hh) ?_
          intro B5 c5 h' tk vs5 F2 N2 hv5
          rw [hfk] at hv5
          ((repeat' ((fail_if_success (first | (with_reducible show @Exists PySem.Heap _) | (with_reducible show wpAny _ _ (eval (PySem.Expr.ListComp _ _ _ _) _) _ _ _) | (with_reducible show wpAny _ _ (storeName _ (PySem.Str.ofString "due") _) _ _ _) | (with_reducible show wpAny _ _ (eval (PySem.Expr.Name (PySem.Str.ofString "heap") _) _) _ _ _) | (with_reducible show wpAny _ _ (eval (PySem.Expr.Name (PySem.Str.ofString "ends") _) _) _ _ _) | (first | (with_reducible show InvEndG _ _ _ _ _ _) | (with_reducible show wpAny _ _ (PySem.call (PySem.Value.ref _) _) _ _ _) | (with_reducible show wpAny _ _ (PySem.call (PySem.Value.builtin _) _) _ _ _) | (with_reducible show wpAny _ _ (PySem.call (PySem.Value.type _) _) _ _ _) | (with_reducible show wpAny _ _ (subscriptTail _ _ (PySem.Value.ref _) _) _ _ _) | (with_reducible show wpAny _ _ (setItem (PySem.Value.ref _) _ _) _ _ _) | (with_reducible show wpAny _ _ (compareOp _ (PySem.Value.ref _) _) _ _ _) | (with_reducible show wpAny _ _ (compareOp _ _ (PySem.Value.ref _)) _ _ _) | (with_reducible show wpAny _ _ (binaryOp PySem.Operator.Mod _ _) _ _ _) | (with_reducible show wpAny _ _ (truthy (PySem.Value.ref _)) _ _ _) | (with_reducible show wpAny _ _ (exec (PySem.Stmt.While _ _ _ _) _) _ _ _) | (with_reducible show wpAny _ _ (exec (PySem.Stmt.For (PySem.Expr.Tuple _ _ _) _ _ _ _ _) _) _ _ _) | (with_reducible show wpAny _ _ (pyIter _) _ _ _)))); (first | walk1 | (k_unfold; (try dsimp only)) | (dsimp only; walk1) | ((try dsimp only); (with_reducible show WhileStep2 _ _ _ _ _ _ PySem.Flow.brk _); dsimp only [WhileStep2]) | fail "no step"))); (all_goals (try k_data)))
          ((rename Fr _ _ _ _ => F2); (rename News _ _ _ _ => N2))
          refine ke_eq_ints (isL N2 (.head _)) (isL N2 (by repeat (first | exact kfi | apply List.Mem.tail))) hv5 hfu (by omega) ?_
          rw [decide_eq_true rfl]
          ((repeat' ((fail_if_success (first | (with_reducible show @Exists PySem.Heap _) | (with_reducible show wpAny _ _ (eval (PySem.Expr.ListComp _ _ _ _) _) _ _ _) | (with_reducible show wpAny _ _ (storeName _ (PySem.Str.ofString "due") _) _ _ _) | (with_reducible show wpAny _ _ (eval (PySem.Expr.Name (PySem.Str.ofString "heap") _) _) _ _ _) | (with_reducible show wpAny _ _ (eval (PySem.Expr.Name (PySem.Str.ofString "ends") _) _) _ _ _) | (first | (with_reducible show InvEndG _ _ _ _ _ _) | (with_reducible show wpAny _ _ (PySem.call (PySem.Value.ref _) _) _ _ _) | (with_reducible show wpAny _ _ (PySem.call (PySem.Value.builtin _) _) _ _ _) | (with_reducible show wpAny _ _ (PySem.call (PySem.Value.type _) _) _ _ _) | (with_reducible show wpAny _ _ (subscriptTail _ _ (PySem.Value.ref _) _) _ _ _) | (with_reducible show wpAny _ _ (setItem (PySem.Value.ref _) _ _) _ _ _) | (with_reducible show wpAny _ _ (compareOp _ (PySem.Value.ref _) _) _ _ _) | (with_reducible show wpAny _ _ (compareOp _ _ (PySem.Value.ref _)) _ _ _) | (with_reducible show wpAny _ _ (binaryOp PySem.Operator.Mod _ _) _ _ _) | (with_reducible show wpAny _ _ (truthy (PySem.Value.ref _)) _ _ _) | (with_reducible show wpAny _ _ (exec (PySem.Stmt.While _ _ _ _) _) _ _ _) | (with_reducible show wpAny _ _ (exec (PySem.Stmt.For (PySem.Expr.Tuple _ _ _) _ _ _ _ _) _) _ _ _) | (with_reducible show wpAny _ _ (pyIter _) _ _ _)))); (first | walk1 | (k_unfold; (try dsimp only)) | (dsimp only; walk1) | ((try dsimp only); (with_reducible show WhileStep2 _ _ _ _ _ _ PySem.Flow.brk _); dsimp only [WhileStep2]) | fail "no step"))); (all_goals (try k_data)))
          rename Fr _ _ _ _ => F9
          exact ret _ _ _ F9
end Mine
end
section
set_option maxHeartbeats 1000000
namespace Mine
def xp (W st : Int) (i : Nat) : Int := ((i : Int) * st) % W
theorem xp_bd {W : Int} (hW : 0 < W) (st : Int) (i : Nat) : 0 ≤ xp W st i ∧ xp W st i < W := ⟨Int.emod_nonneg _ (by omega), Int.emod_lt_of_pos _ hW⟩
theorem xp_zero (W st : Int) : xp W st 0 = 0 := by simp [xp]
/-- the place of a sum of steps -/
theorem xp_add {W : Int} (hW : 0 < W) (st : Int) (i j : Nat) : (xp W st i + xp W st j < W ∧ xp W st (i + j) = xp W st i + xp W st j) ∨ (W ≤ xp W st i + xp W st j ∧ xp W st (i + j) = xp W st i + xp W st j - W) := by
  have h : xp W st (i + j) = (xp W st i + xp W st j) % W := by
    unfold xp
    rw [← Int.add_emod, ← Int.add_mul]
    simp
  have hi := xp_bd hW st i
  have hj := xp_bd hW st j
  by_cases hc : xp W st i + xp W st j < W
  · exact .inl ⟨hc, by rw [h, Int.emod_eq_of_lt (by omega) hc]⟩
  · refine .inr ⟨by omega, ?_⟩
    rw [h, ← Int.sub_emod_right, Int.emod_eq_of_lt (by omega) (by omega)]
/-- what the three gaps are told from -/
structure Gaps (W st : Int) (n : Nat) (p M : Int) (k m : Nat) : Prop where
  pos : 0 < W
  n2 : 2 ≤ n
  inj : ∀ i j, i < n → j < n → xp W st i = xp W st j → i = j
  k1 : 1 ≤ k
  kn : k < n
  m1 : 1 ≤ m
  mn : m < n
  xk : xp W st k = p
  xm : xp W st m = M
  lo : ∀ i, 1 ≤ i → i < n → p ≤ xp W st i
  hi : ∀ i, i < n → xp W st i ≤ M
theorem Gaps.p0 {W st : Int} {n : Nat} {p M : Int} {k m : Nat} (G : Gaps W st n p M k m) : 0 < p := by
  have h := (xp_bd G.pos st k).1
  have h2 : xp W st k ≠ 0 := fun e => by
    have := G.inj k 0 G.kn (by have := G.n2; omega) (by rw [e, xp_zero])
    have := G.k1; omega
  have := G.xk; omega
theorem Gaps.q0 {W st : Int} {n : Nat} {p M : Int} {k m : Nat} (G : Gaps W st n p M k m) : 0 < W - M := by
  have h := (xp_bd G.pos st m).2
  have := G.xm; omega
/-- the difference of two points, the later the greater -/
theorem Gaps.up {W st : Int} {n : Nat} {p M : Int} {k m : Nat} (G : Gaps W st n p M k m) {i j : Nat} (hij : i < j) (hj : j < n) (h : xp W st i < xp W st j) : xp W st j - xp W st i = xp W st (j - i) ∧ p ≤ xp W st j - xp W st i ∧ (xp W st j - xp W st i = p → j - i = k) := by
  have e : i + (j - i) = j := by omega
  have hl := G.lo (j - i) (by omega) (by omega)
  have hb := xp_bd G.pos st (j - i)
  have h1 : xp W st j - xp W st i = xp W st (j - i) := by
    rcases xp_add G.pos st i (j - i) with ⟨h1, h2⟩ | ⟨h1, h2⟩ <;> rw [e] at h2 <;> omega
  refine ⟨h1, by omega, fun h2 => G.inj _ _ (by omega) G.kn ?_⟩
  rw [G.xk]; omega
/-- the difference of two points, the later the less -/
theorem Gaps.down {W st : Int} {n : Nat} {p M : Int} {k m : Nat} (G : Gaps W st n p M k m) {i j : Nat} (hij : i < j) (hj : j < n) (h : xp W st j < xp W st i) : xp W st i - xp W st j = W - xp W st (j - i) ∧ W - M ≤ xp W st i - xp W st j ∧ (xp W st i - xp W st j = W - M → j - i = m) := by
  have e : i + (j - i) = j := by omega
  have hl := G.hi (j - i) (by omega)
  have hb := xp_bd G.pos st (j - i)
  have h1 : xp W st i - xp W st j = W - xp W st (j - i) := by
    rcases xp_add G.pos st i (j - i) with ⟨h1, h2⟩ | ⟨h1, h2⟩ <;> rw [e] at h2 <;> omega
  refine ⟨h1, by omega, fun h2 => G.inj _ _ (by omega) G.mn ?_⟩
  rw [G.xm]; omega
/-- k steps more: p further round, with no turn -/
theorem Gaps.fwd {W st : Int} {n : Nat} {p M : Int} {k m : Nat} (G : Gaps W st n p M k m) {s : Nat} (h : s + k < n) : xp W st (s + k) = xp W st s + p := by
  have hb := xp_bd G.pos st s
  have hl := G.lo (s + k) (by have := G.k1; omega) h
  have hx := G.xk
  rcases xp_add G.pos st s k with ⟨h1, h2⟩ | ⟨h1, h2⟩ <;> omega
theorem Gaps.fwd_none {W st : Int} {n : Nat} {p M : Int} {k m : Nat} (G : Gaps W st n p M k m) {s t : Nat} (h : s + k < n) (ht : t < n) (h1 : xp W st s < xp W st t) : xp W st s + p ≤ xp W st t := by
  have hf := G.fwd h
  rcases Nat.lt_trichotomy t s with h2 | h2 | h2
  · refine Classical.byContradiction fun hc => ?_
    have := G.up (i := t) (j := s + k) (by omega) h (by omega)
    omega
  · subst h2; omega
  · have := G.up h2 ht h1
    omega
theorem Gaps.km {W st : Int} {n : Nat} {p M : Int} {k m : Nat} (G : Gaps W st n p M k m) : n ≤ k + m := by
  refine Classical.byContradiction fun hc => ?_
  have h1 := G.fwd (s := m) (by omega)
  have h2 := G.hi (m + k) (by omega)
  have := G.p0
  have := G.xm
  omega
/-- m steps less: q further round -/
theorem Gaps.bwd {W st : Int} {n : Nat} {p M : Int} {k m : Nat} (G : Gaps W st n p M k m) {s : Nat} (h : m ≤ s) (hs : s < n) (hne : s ≠ m) : xp W st (s - m) = xp W st s + (W - M) := by
  have e : (s - m) + m = s := by omega
  have hb := xp_bd G.pos st (s - m)
  have hm := G.m1
  have hl := G.hi s hs
  have hx := G.xm
  have hne2 : xp W st s ≠ xp W st m := fun e => hne (G.inj _ _ hs G.mn e)
  rcases xp_add G.pos st (s - m) m with ⟨h1, h2⟩ | ⟨h1, h2⟩ <;> rw [e] at h2
  · have := G.p0
    have hy : xp W st (s - m) ≠ xp W st 0 := fun e => by
      have := G.inj _ _ (by omega) (by omega) e
      omega
    rw [xp_zero] at hy
    omega
  · omega
theorem Gaps.bwd_none {W st : Int} {n : Nat} {p M : Int} {k m : Nat} (G : Gaps W st n p M k m) {s t : Nat} (h : m ≤ s) (hs : s < n) (hne : s ≠ m) (ht : t < n) (h1 : xp W st s < xp W st t) : xp W st s + (W - M) ≤ xp W st t := by
  have hf := G.bwd h hs hne
  have hm := G.m1
  rcases Nat.lt_trichotomy t s with h2 | h2 | h2
  · have := G.down h2 hs h1
    omega
  · subst h2; omega
  · refine Classical.byContradiction fun hc => ?_
    have := G.down (i := s - m) (j := t) (by omega) ht (by omega)
    omega
/-- both -/
theorem Gaps.both {W st : Int} {n : Nat} {p M : Int} {k m : Nat} (G : Gaps W st n p M k m) {s : Nat} (h : n ≤ s + k) (hs : s < m) : xp W st (s + k - m) = xp W st s + p + (W - M) := by
  have e : (s + k - m) + m = s + k := by have := G.mn; omega
  have hb := xp_bd G.pos st s
  have hb2 := xp_bd G.pos st (s + k - m)
  have hx := G.xm
  have hk := G.xk
  have hmn := G.mn
  have hlo := G.lo (s + k - m) (by omega) (by have := G.kn; omega)
  have hup := G.hi s (by omega)
  have hup2 := G.hi (s + k - m) (by have := G.kn; omega)
  have hp := G.p0
  have hq := G.q0
  have hl := G.hi k G.kn
  have hne2 : xp W st s ≠ xp W st m := fun e => by have := G.inj _ _ (by omega) G.mn e; omega
  have a1 := xp_add G.pos st s k
  have a2 := xp_add G.pos st (s + k - m) m
  rw [e] at a2
  rw [hk] at a1
  rw [hx] at a2
  rw [hx] at hne2
  omega
theorem Gaps.both_none {W st : Int} {n : Nat} {p M : Int} {k m : Nat} (G : Gaps W st n p M k m) {s t : Nat} (h : n ≤ s + k) (hs : s < m) (ht : t < n) (h1 : xp W st s < xp W st t) : xp W st s + p + (W - M) ≤ xp W st t := by
  have hf := G.both h hs
  have hp := G.p0
  have hq := G.q0
  have hkn := G.kn
  have hmn := G.mn
  have hm1 := G.m1
  have hk1 := G.k1
  have hxm := G.xm
  have hxk := G.xk
  refine Classical.byContradiction fun hc => ?_
  have hlt : xp W st t < xp W st (s + k - m) := by omega
  rcases Nat.lt_trichotomy t s with h2 | h2 | h2
  · have hd := G.down h2 (by omega) h1
    have hgt : W - M < xp W st t - xp W st s := by
      have : xp W st t - xp W st s ≠ W - M := fun e => by have := hd.2.2 e; omega
      omega
    rcases Nat.lt_trichotomy (s + k - m) t with h3 | h3 | h3
    · -- s + k - m < t < s
      have a := xp_add G.pos st (s - t) k
      have hlo := G.lo (s - t + k) (by omega) (by omega)
      have hup := G.hi (s - t + k) (by omega)
      rw [hxk] at a
      omega
    · rw [h3] at hlt; omega
    · have := G.up h3 (by omega) hlt
      omega
  · subst h2; omega
  · have hu := G.up h2 ht h1
    have hgt : p < xp W st t - xp W st s := by
      have : xp W st t - xp W st s ≠ p := fun e => by have := hu.2.2 e; omega
      omega
    rcases Nat.lt_trichotomy (s + k - m) t with h3 | h3 | h3
    · have := G.down h3 ht hlt
      omega
    · rw [h3] at hlt; omega
    · have a := xp_add G.pos st (t - s) m
      have hlo := G.lo (t - s + m) (by omega) (by omega)
      have hup := G.hi (t - s + m) (by omega)
      rw [hxm] at a
      omega
end Mine
end
section
open PySem PySem.W PySem.Calls PyProof.Rows
set_option maxHeartbeats 1000000
namespace Mine
theorem Gaps.succ {W st : Int} {n : Nat} {p M : Int} {k m : Nat} (G : Gaps W st n p M k m) {s : Nat} (hs : s < n) (hne : s ≠ m) : xp W st (nextS n k m s) = xp W st s + gapS n k m p (W - M) s ∧ (∀ t, t < n → xp W st s < xp W st t → xp W st s + gapS n k m p (W - M) s ≤ xp W st t) ∧ 0 < gapS n k m p (W - M) s := by
  have hp := G.p0
  have hq := G.q0
  unfold nextS gapS
  split
  · rename_i h
    exact ⟨G.fwd h, fun t ht h1 => G.fwd_none h ht h1, hp⟩
  · rename_i h
    split
    · rename_i h2
      exact ⟨G.bwd h2 hs hne, fun t ht h1 => G.bwd_none h2 hs hne ht h1, hq⟩
    · rename_i h2
      have e := G.both (s := s) (by omega) (by omega)
      refine ⟨by omega, fun t ht h1 => ?_, by omega⟩
      have := G.both_none (s := s) (by omega) (by omega) ht h1
      omega
/-- the pairs (place, steps) in the order of the steps -/
def kv (W st : Int) (n : Nat) : List (Int × Int) := (List.range n).map fun (j : Nat) => (xp W st j, (j : Int))
theorem kv_nd (W st : Int) (n : Nat) : (kv W st n).Nodup := by
  unfold kv
  refine List.Pairwise.map _ ?_ List.nodup_range
  intro a b h e
  injection e with e1 e2
  omega
section
variable {W st : Int} {n : Nat} {p M : Int} {k m : Nat} {ks : List (Int × Int)}
theorem kv_ex (hp : ks.Perm (kv W st n)) {i : Nat} (hi : i < n) : ∃ u, u < n ∧ ks[i]? = some (xp W st u, (u : Int)) := by
  have hl := hp.length_eq
  simp only [kv, List.length_map, List.length_range] at hl
  have hm : ks[i]'(by omega) ∈ kv W st n := hp.mem_iff.mp (List.getElem_mem _)
  obtain ⟨u, hu, e⟩ := List.mem_map.mp hm
  exact ⟨u, List.mem_range.mp hu, by rw [List.getElem?_eq_getElem (by omega), ← e]⟩
theorem kv_fi (hp : ks.Perm (kv W st n)) {u : Nat} (hu : u < n) : ∃ j, j < n ∧ ks[j]? = some (xp W st u, (u : Int)) := by
  have hl := hp.length_eq
  simp only [kv, List.length_map, List.length_range] at hl
  have hm : (xp W st u, (u : Int)) ∈ ks := hp.mem_iff.mpr (List.mem_map.mpr ⟨u, List.mem_range.mpr hu, rfl⟩)
  obtain ⟨j, hj, e⟩ := List.mem_iff_getElem.mp hm
  exact ⟨j, by omega, by rw [List.getElem?_eq_getElem hj, e]⟩
theorem kv_inj (hp : ks.Perm (kv W st n)) {i j : Nat} {a : Int × Int} (hi : ks[i]? = some a) (hj : ks[j]? = some a) : i = j := by
  have hn : ks.Nodup := hp.nodup_iff.mpr (kv_nd W st n)
  obtain ⟨h3, h5⟩ := List.getElem?_eq_some_iff.mp hi
  obtain ⟨h4, h6⟩ := List.getElem?_eq_some_iff.mp hj
  rcases Nat.lt_trichotomy i j with h7 | h7 | h7
  · exact absurd (h5.trans h6.symm) (List.pairwise_iff_getElem.mp hn i j h3 h4 h7)
  · exact h7
  · exact absurd (h6.trans h5.symm) (List.pairwise_iff_getElem.mp hn j i h4 h3 h7)
theorem kv_le (hs : ks.Pairwise (fun a b => a.1 ≤ b.1)) {i j : Nat} {a b : Int × Int} (hij : i ≤ j) (hi : ks[i]? = some a) (hj : ks[j]? = some b) : a.1 ≤ b.1 := by
  obtain ⟨h3, h5⟩ := List.getElem?_eq_some_iff.mp hi
  obtain ⟨h4, h6⟩ := List.getElem?_eq_some_iff.mp hj
  rcases Nat.lt_or_ge i j with h7 | h7
  · have := List.pairwise_iff_getElem.mp hs i j h3 h4 h7
    rw [h5, h6] at this; exact this
  · have e : i = j := by omega
    subst e
    rw [hi] at hj; injection hj with hj; rw [hj]; exact Int.le_refl _
/-- the walk comes to the points in their order -/
theorem visits (G : Gaps W st n p M k m) (hp : ks.Perm (kv W st n)) (hs : ks.Pairwise (fun a b => a.1 ≤ b.1)) : ∀ i, i < n → ks[i]? = some (xp W st (stepAt n k m i), ((stepAt n k m i : Nat) : Int))
  | 0, hi => by
    obtain ⟨u, hu, e⟩ := kv_ex hp hi
    obtain ⟨j, hj, e2⟩ := kv_fi hp (u := 0) hi
    have h1 := kv_le hs (Nat.zero_le j) e e2
    dsimp only at h1
    have h2 := xp_bd G.pos st u
    have h3 := xp_zero W st
    have : u = 0 := G.inj u 0 hu hi (by omega)
    subst this; exact e
  | i + 1, hi => by
    have ih := visits G hp hs i (by omega)
    obtain ⟨s, hs0⟩ : ∃ s, s = stepAt n k m i := ⟨_, rfl⟩
    have e1 : stepAt n k m (i + 1) = nextS n k m s := by rw [hs0]; rfl
    rw [← hs0] at ih
    rw [e1]
    have hsn : s < n := by rw [hs0]; exact stepAt_lt G.kn (by omega) i
    obtain ⟨u, hu, e⟩ := kv_ex hp hi
    have hle := kv_le hs (Nat.le_succ i) ih e
    dsimp only at hle
    have hne : xp W st s ≠ xp W st u := fun h => by
      have := G.inj _ _ hsn hu h
      subst this
      have := kv_inj hp ih e
      omega
    have hlt : xp W st s < xp W st u := by omega
    have hsm : s ≠ m := fun h => by
      have h1 := G.hi u hu
      have h2 := G.xm
      rw [h] at hlt; omega
    obtain ⟨g1, g2, g3⟩ := G.succ hsn hsm
    have hnn : nextS n k m s < n := by rw [← e1]; exact stepAt_lt G.kn (by omega) (i + 1)
    obtain ⟨j, hj, e2⟩ := kv_fi hp hnn
    have hji : i < j := by
      refine Classical.byContradiction fun hc => ?_
      have := kv_le hs (show j ≤ i by omega) e2 ih
      dsimp only at this
      omega
    have h4 := kv_le hs (show i + 1 ≤ j from hji) e e2
    have h5 := g2 u hu hlt
    dsimp only at h4
    have : u = nextS n k m s := G.inj _ _ hu hnn (by omega)
    rw [← this]; exact e
theorem visits_eq (G : Gaps W st n p M k m) (hp : ks.Perm (kv W st n)) (hs : ks.Pairwise (fun a b => a.1 ≤ b.1)) : ks = (List.range n).map fun j => (xp W st (stepAt n k m j), ((stepAt n k m j : Nat) : Int)) := by
  have hl := hp.length_eq
  simp only [kv, List.length_map, List.length_range] at hl
  refine List.ext_getElem? fun i => ?_
  by_cases hi : i < n
  · rw [visits G hp hs i hi]
    simp [hi]
  · rw [List.getElem?_eq_none (by omega), List.getElem?_eq_none (by simp; omega)]
theorem visits_last (G : Gaps W st n p M k m) (hp : ks.Perm (kv W st n)) (hs : ks.Pairwise (fun a b => a.1 ≤ b.1)) : stepAt n k m (n - 1) = m := by
  have h2 := G.n2
  have h := visits G hp hs (n - 1) (by omega)
  obtain ⟨j, hj, e2⟩ := kv_fi hp G.mn
  have h4 := kv_le hs (show j ≤ n - 1 by omega) e2 h
  have hl := stepAt_lt (m := m) G.kn (by omega) (n - 1)
  have h5 := G.hi _ hl
  have := G.xm
  dsimp only at h4
  exact G.inj _ _ hl G.mn (by omega)
/-- a gap: from a point to the next, and from the last to the ring's end -/
theorem visits_gap (G : Gaps W st n p M k m) (hp : ks.Perm (kv W st n)) (hs : ks.Pairwise (fun a b => a.1 ≤ b.1)) {i : Nat} (hi : i < n) : ∃ a b, (ks.map (·.1) ++ [W])[i]? = some a ∧ (ks.map (·.1) ++ [W])[i + 1]? = some b ∧ (gapL n k m p (W - M) n)[i]? = some (b - a) := by
  have hl := hp.length_eq
  simp only [kv, List.length_map, List.length_range] at hl
  have ha := visits G hp hs i hi
  have hg : (gapL n k m p (W - M) n)[i]? = some (gapS n k m p (W - M) (stepAt n k m i)) := by simp [gapL, hi]
  have ha2 : (ks.map (·.1) ++ [W])[i]? = some (xp W st (stepAt n k m i)) := by
    rw [List.getElem?_append_left (by simp; omega), List.getElem?_map, ha]; rfl
  have hsn := stepAt_lt (m := m) G.kn (by omega) i
  by_cases h1 : i + 1 < n
  · have hb := visits G hp hs (i + 1) h1
    have hb2 : (ks.map (·.1) ++ [W])[i + 1]? = some (xp W st (stepAt n k m (i + 1))) := by
      rw [List.getElem?_append_left (by simp; omega), List.getElem?_map, hb]; rfl
    refine ⟨_, _, ha2, hb2, ?_⟩
    have hsm : stepAt n k m i ≠ m := fun h => by
      have hmx := visits_last G hp hs
      have hz := visits G hp hs (n - 1) (by omega)
      rw [hmx] at hz
      rw [h] at ha
      have := kv_inj hp ha hz
      omega
    obtain ⟨g1, g2, g3⟩ := G.succ hsn hsm
    rw [hg]
    have e1 : stepAt n k m (i + 1) = nextS n k m (stepAt n k m i) := rfl
    rw [e1, g1]
    congr 1; omega
  · have e : i = n - 1 := by omega
    have hmx := visits_last G hp hs
    refine ⟨_, W, ha2, ?_, ?_⟩
    · rw [List.getElem?_append_right (by simp; omega)]
      simp [hl, show i + 1 - n = 0 by omega]
    · rw [hg, e, hmx, G.xm]
      have := G.km
      have := G.m1
      unfold gapS
      rw [if_neg (by omega), if_pos (Nat.le_refl _)]
theorem gap_range (n k m : Nat) (p q : Int) (hk : k ≤ n) (hm : m ≤ n) (h : n ≤ k + m) : (List.range n).map (gapS n k m p q) = List.replicate (n - k) p ++ (List.replicate (k + m - n) (p + q) ++ List.replicate (n - m) q) := by
  refine List.ext_getElem (by simp; omega) fun i h1 h2 => ?_
  simp only [List.length_map, List.length_range] at h1
  rw [List.getElem_map, List.getElem_range]
  simp only [List.getElem_append, List.getElem_replicate, List.length_replicate]
  unfold gapS
  by_cases a1 : i + k < n
  · rw [if_pos a1, dif_pos (by omega)]
  · rw [if_neg a1, dif_neg (by omega)]
    by_cases a2 : m ≤ i
    · rw [if_pos a2, dif_neg (by omega)]
    · rw [if_neg a2, dif_pos (by omega)]
theorem gap_perm (G : Gaps W st n p M k m) (hp : ks.Perm (kv W st n)) (hs : ks.Pairwise (fun a b => a.1 ≤ b.1)) (q : Int) : (gapL n k m p q n).Perm ((List.range n).map (gapS n k m p q)) := by
  have h1 := hp.map (fun z => gapS n k m p q z.2.toNat)
  rw [visits_eq G hp hs] at h1
  unfold kv at h1
  simp only [List.map_map] at h1
  refine (List.Perm.of_eq ?_).trans (h1.trans (.of_eq ?_))
  · unfold gapL
    refine List.map_congr_left fun a _ => ?_
    simp
  · refine List.map_congr_left fun a _ => ?_
    simp
theorem gap_count (G : Gaps W st n p M k m) (hp : ks.Perm (kv W st n)) (hs : ks.Pairwise (fun a b => a.1 ≤ b.1)) (q : Int) : (gapL n k m p q n).Perm ((List.replicate ((n : Int) - (k : Int)).toNat [p]).flatten ++ (List.replicate ((n : Int) - (m : Int)).toNat [q]).flatten ++ (List.replicate ((k : Int) + (m : Int) - (n : Int)).toNat [p + q]).flatten) := by
  have hk := G.kn
  have hm := G.mn
  have hkm := G.km
  refine (gap_perm G hp hs q).trans ?_
  rw [gap_range n k m p q (by omega) (by omega) (by omega)]
  simp only [List.flatten_replicate_singleton]
  rw [show ((n : Int) - (k : Int)).toNat = n - k by omega, show ((n : Int) - (m : Int)).toNat = n - m by omega, show ((k : Int) + (m : Int) - (n : Int)).toNat = k + m - n by omega, List.append_assoc]
  exact List.Perm.append_left _ List.perm_append_comm
theorem gap_mem (G : Gaps W st n p M k m) (hp : ks.Perm (kv W st n)) (hs : ks.Pairwise (fun a b => a.1 ≤ b.1)) (q : Int) (e : Int) : e ∈ gapL n k m p q n ↔ e = p ∨ e = q ∨ n < k + m ∧ e = p + q := by
  have hk := G.kn
  have hm := G.mn
  have hkm := G.km
  rw [(gap_perm G hp hs q).mem_iff, gap_range n k m p q (by omega) (by omega) (by omega)]
  simp only [List.mem_append, List.mem_replicate]
  omega
end
end Mine
end
section
open PySem PySem.W PySem.Calls PyProof.Rows
set_option maxHeartbeats 1000000
namespace Mine
theorem dedupF_fold (ns : List Int) : ∀ acc : List Int, acc.Nodup → (ns.foldl dedupF acc).Nodup ∧ ∀ e, e ∈ ns.foldl dedupF acc ↔ e ∈ acc ∨ e ∈ ns := by
  induction ns with
  | nil => intro acc h; exact ⟨h, fun e => by simp⟩
  | cons t r ih =>
    intro acc h
    rw [List.foldl_cons]
    have hn : (dedupF acc t).Nodup := by
      unfold dedupF
      split
      · exact h
      · rename_i hc
        rw [List.nodup_append]
        exact ⟨h, by simp, fun a ha b hb e => hc (by rw [List.mem_singleton] at hb; rw [← hb, ← e]; exact ha)⟩
    obtain ⟨h1, h2⟩ := ih _ hn
    refine ⟨h1, fun e => ?_⟩
    rw [h2 e]
    unfold dedupF
    split
    · rename_i hc
      simp only [List.mem_cons]
      constructor
      · rintro (h | h)
        · exact .inl h
        · exact .inr (.inr h)
      · rintro (h | h | h)
        · exact .inl h
        · exact .inl (h ▸ hc)
        · exact .inr h
    · simp only [List.mem_append, List.mem_singleton, List.mem_cons, List.not_mem_nil, or_false]
      rw [or_assoc]
theorem dedup_nd (ns : List Int) : (dedup ns).Nodup := (dedupF_fold ns [] (by simp)).1
theorem dedup_mem (ns : List Int) (e : Int) : e ∈ dedup ns ↔ e ∈ ns := by
  have := (dedupF_fold ns [] (by simp)).2 e
  simpa [dedup] using this
theorem rmAll_mem (es : List Int) : ∀ {ds : List Int} {e : Int}, e ∈ ds → e ∉ es → e ∈ rmAll ds es := by
  induction es with
  | nil => intro ds e h _; exact h
  | cons t r ih =>
    intro ds e h h2
    rw [List.mem_cons, not_or] at h2
    exact ih ((List.mem_erase_of_ne h2.1).mpr h) h2.2
theorem rmAll_nil (es : List Int) : ∀ {ds : List Int}, ds.Nodup → (∀ e ∈ ds, e ∈ es) → rmAll ds es = [] := by
  induction es with
  | nil => intro ds _ h; cases ds with
    | nil => rfl
    | cons a r => exact absurd (h a (.head _)) (by simp)
  | cons t r ih =>
    intro ds hn h
    refine ih (hn.erase t) ?_
    intro e he
    have h2 := (hn.mem_erase_iff).mp he
    rcases List.mem_cons.mp (h e h2.2) with h3 | h3
    · exact absurd h3 h2.1
    · exact h3
/-- each element of the one is still there to be taken from the other -/
theorem take_rm {ms ns : List Int} (h : ∀ e ∈ ms, e ∈ ns) (i : Nat) (e : Int) (hi : (dedup ms)[i]? = some e) : e ∈ rmAll (dedup ns) ((dedup ms).take i) := by
  refine rmAll_mem _ ((dedup_mem ns e).mpr (h e ((dedup_mem ms e).mp (List.mem_of_getElem? hi)))) ?_
  intro hc
  obtain ⟨j, hj, e2⟩ := List.mem_iff_getElem.mp hc
  rw [List.length_take] at hj
  rw [List.getElem_take] at e2
  obtain ⟨h1, h3⟩ := List.getElem?_eq_some_iff.mp hi
  exact absurd (e2.trans h3.symm) (List.pairwise_iff_getElem.mp (dedup_nd ms) j i (by omega) h1 (by omega))
theorem rm_nil {ms ns : List Int} (h : ∀ e ∈ ms, e ∈ ns) : rmAll (dedup ms) (dedup ns) = [] :=
  rmAll_nil _ (dedup_nd ms) fun e he => (dedup_mem ns e).mpr (h e ((dedup_mem ms e).mp he))
theorem rm_not_nil {ms ns : List Int} {e : Int} (h : e ∈ ms) (h2 : e ∉ ns) : rmAll (dedup ms) (dedup ns) ≠ [] := fun hc => by
  have := rmAll_mem (dedup ns) ((dedup_mem ms e).mpr h) (fun h3 => h2 ((dedup_mem ns e).mp h3))
  rw [hc] at this
  exact absurd this (by simp)
theorem stored_keys (a : List (Int × Value)) (n : Int) (v : Value) : (stored a n v).map (·.1) = dedupF (a.map (·.1)) n := by
  unfold stored dedupF
  by_cases h : n ∈ a.map (·.1)
  · rw [if_pos h, if_pos ?_]
    · rw [List.map_map]
      refine List.map_congr_left fun z _ => ?_
      dsimp only [Function.comp]
      split <;> rfl
    · obtain ⟨z, hz, e⟩ := List.mem_map.mp h
      exact List.any_eq_true.mpr ⟨z, hz, decide_eq_true e⟩
  · rw [if_neg h, if_neg ?_]
    · simp
    · intro hc
      obtain ⟨z, hz, e⟩ := List.any_eq_true.mp hc
      exact h (List.mem_map.mpr ⟨z, hz, of_decide_eq_true e⟩)
theorem fromK_keys (ns : List Int) : ∀ acc : List (Int × Value), (fromK acc ns).map (·.1) = ns.foldl dedupF (acc.map (·.1)) := by
  induction ns with
  | nil => intro acc; rfl
  | cons t r ih => intro acc; rw [List.foldl_cons, ← stored_keys]; exact ih _
theorem fromK_dedup (ns : List Int) : (fromK [] ns).map (·.1) = dedup ns := fromK_keys ns []
end Mine
end
section
open PySem PySem.W PySem.Calls PyProof.Rows
set_option maxHeartbeats 1000000
namespace Mine
theorem pts_getElem? {W st : Int} {n i : Nat} (hi : i < n) : (pts W st n)[i]? = some (xp W st i) := by
  simp [pts, hi, xp]
theorem pts_getD {W st : Int} {n i : Nat} (hi : i < n) : (pts W st n).getD i 0 = xp W st i := by
  rw [List.getD_eq_getElem?_getD, pts_getElem? hi]; rfl
theorem gaps_of {W st : Int} {n : Nat} {pp MM : Int} {kx mx : Nat} (hW : 13 ≤ W) (hn : 2 ≤ n) (hnd : (pts W st n).Nodup) (h1 : pp ∈ (pts W st n).drop 1) (h2 : ∀ a ∈ (pts W st n).drop 1, pp ≤ a) (h3 : MM ∈ (pts W st n).drop 1) (h4 : ∀ a ∈ (pts W st n).drop 1, a ≤ MM) (hk : (pts W st n)[kx]? = some pp) (hm : (pts W st n)[mx]? = some MM) : Gaps W st n pp MM kx mx := by
  have len := pts_len W st n
  have hkn : kx < n := by have := (List.getElem?_eq_some_iff.mp hk).1; omega
  have hmn : mx < n := by have := (List.getElem?_eq_some_iff.mp hm).1; omega
  have inj : ∀ i j, i < n → j < n → xp W st i = xp W st j → i = j := by
    intro i j hi hj e
    obtain ⟨h3, h5⟩ := List.getElem?_eq_some_iff.mp (pts_getElem? (W := W) (st := st) hi)
    obtain ⟨h4, h6⟩ := List.getElem?_eq_some_iff.mp (pts_getElem? (W := W) (st := st) hj)
    rcases Nat.lt_trichotomy i j with h7 | h7 | h7
    · exact absurd (h5.trans (e.trans h6.symm)) (List.pairwise_iff_getElem.mp hnd i j h3 h4 h7)
    · exact h7
    · exact absurd (h6.trans (e.symm.trans h5.symm)) (List.pairwise_iff_getElem.mp hnd j i h4 h3 h7)
  have hk2 : xp W st kx = pp := by rw [pts_getElem? hkn] at hk; exact Option.some.inj hk
  have hm2 : xp W st mx = MM := by rw [pts_getElem? hmn] at hm; exact Option.some.inj hm
  have drp : ∀ i, 1 ≤ i → i < n → xp W st i ∈ (pts W st n).drop 1 := by
    intro i h5 h6
    refine List.mem_of_getElem? (i := i - 1) ?_
    rw [List.getElem?_drop, show 1 + (i - 1) = i by omega]
    exact pts_getElem? h6
  have one : ∀ y, y ∈ (pts W st n).drop 1 → ∀ j, j < n → xp W st j = y → 1 ≤ j := by
    intro y hy j hj e
    obtain ⟨i, hi⟩ := List.getElem?_of_mem hy
    rw [List.getElem?_drop] at hi
    have hl := (List.getElem?_eq_some_iff.mp hi).1
    rw [pts_getElem? (by omega)] at hi
    have := inj _ _ (by omega) hj ((Option.some.inj hi).trans e.symm)
    omega
  refine ⟨by omega, hn, inj, one pp h1 kx hkn hk2, hkn, one MM h3 mx hmn hm2, hmn, hk2, hm2, fun i a b => h2 _ (drp i a b), fun i hi => ?_⟩
  by_cases h0 : i = 0
  · subst h0
    rw [xp_zero, ← hm2]
    exact (xp_bd (by omega) st mx).1
  · exact h4 _ (drp i (by omega) hi)
theorem prs_kv (W st : Int) (n : Nat) : prs (pts W st n) n = kv W st n := by
  unfold prs kv
  refine List.map_congr_left fun i hi => ?_
  rw [pts_getD (List.mem_range.mp hi)]
theorem keys_perm {W st : Int} {n : Nat} {its cs : List It} (h : its.map It.key = prs (pts W st n) n) (hp : cs.Perm its) : (cs.map It.key).Perm (kv W st n) := by
  rw [← prs_kv, ← h]; exact hp.map _
theorem keys_sorted {cs : List It} (h : cs.Pairwise (fun a b => b.lt a = false)) : (cs.map It.key).Pairwise (fun a b => a.1 ≤ b.1) := by
  refine List.Pairwise.map _ ?_ h
  intro a b hl
  unfold It.lt at hl
  simp only [decide_eq_false_iff_not] at hl
  show a.p ≤ b.p
  omega
theorem due_eq {W st : Int} {n k m : Nat} (hk : k < n) : dueL (pts W st n) n k m n = (List.range n).map fun j => (xp W st (stepAt n k m j), ((stepAt n k m j : Nat) : Int)) := by
  unfold dueL
  refine List.map_congr_left fun i hi => ?_
  rw [pts_getD (stepAt_lt hk (by omega) i)]
/-- the lengths without the least -/
def oths (n k m : Nat) (p q : Int) : List Int := if n < k + m then [q, p + q] else [q]
theorem oths_mem {n k m : Nat} {p q e : Int} : e ∈ oths n k m p q ↔ e = q ∨ n < k + m ∧ e = p + q := by
  unfold oths
  split
  · rename_i h
    simp [h]
  · rename_i h
    simp [h]
theorem oths_one {n k m : Nat} {p q : Int} (h : (n : Int) < (k : Int) + (m : Int)) : oths n k m p q = [q, p + q] := if_pos (by omega)
theorem oths_two {n k m : Nat} {p q : Int} (h : ¬ (n : Int) < (k : Int) + (m : Int)) : oths n k m p q = [q] := if_neg (by omega)
end Mine
end
section
open PySem PySem.W PySem.Calls PyProof.Rows
set_option maxRecDepth 100000
set_option maxHeartbeats 8000000
set_option pp.deepTerms.threshold 6
theorem Mine.warmJ (w : World) : (model PySem.Challenge.rw_ik0114_01.row.prog w, Mine.hd.heap_39 w.params) = (model PySem.Challenge.rw_ik0114_01.row.prog w, Mine.hd.heap_39 w.params) := by
  k_fill
  rfl
local macro_rules | `(tactic| walk_at "eval Name") => `(tactic| k_dflt (refine' ld ?k1 ?k2 ?_; (case k1 => k_asm); (case k2 => exact rfl); k_whole))
local macro_rules | `(tactic| walk_at "execs cons") => `(tactic| ((with_reducible refine wpAny_execs_cons ?_); (try dsimp only)))
local macro_rules | `(tactic| walk_at "exec Assign") => `(tactic| ((with_reducible show wpAny _ _ (exec (PySem.Stmt.Assign [PySem.Expr.Name _ _] _ _) _) _ _ _); (with_reducible refine wpAny_Assign_Name ?_)))
namespace Mine
/-- the law's frame, whole -/
theorem segs {w : World} {A A₀ : Around} {f : Addr} {cdv : Value} {outer : List Env} {base h₀ : Heap} {L : Addr} {m : Str → Option Value} {s : Shared} {p : Program} {loose : List Str} {mean : ExcName → Option Value} {mg mb : Str → Option Value} {Q : Flow → Shared → Prop} {E : Value → Shared → Prop}
    (B : Below A₀ base outer h₀) (F : Fr h₀ L s.heap m) (X : (Mine.hd.heap_39 w.params).In h₀) (T : Top p loose mean mg mb h₀) (hA : A.frames = some (envOfC (Str.ofString "law") lawPart.1 L f cdv :: outer)) (hh : A.handled = none) (hP : PassesOwn (model PySem.Challenge.rw_ik0114_01.row.prog w) A (envOfC (Str.ofString "law") lawPart.1 L f cdv) E)
    {cE cH : Obj} {ls : Addr} {vs : List Value} {ns : List Int} (hls : h₀.IsList ls vs.toArray) (hi : IntsAre vs ns) (hl : ns.length < 2 ^ 18)
    (N : News h₀ L s.heap [(L + 1 + 1, cE), (L + 1, cH)]) (hcE : cE.data = .cell none) (hcH : cH.data = .cell none)
    (hps : ∀ e ∈ ([(Str.ofString "script", .ref ls)] : List (Str × Value)), m e.1 = some e.2)
    (hd : A.depth + 10 < recursionLimit) (hu : A.units + 70 < cLine)
    (ret : ∀ h' tk' m', Fr h₀ L h' m' → Q (.ret (.bool true)) { s with heap := h', toks := tk' }) :
    wpAny (model PySem.Challenge.rw_ik0114_01.row.prog w) A (execs (lawPart.2.drop 0) (envOfC (Str.ofString "law") lawPart.1 L f cdv)) Q E s := by
  refine segA B F X T hA hh hP hls hi hl N hcE hcH hps hd hu ?_
  intro W st n tW tn r hl' D us k kk cH2 its cs nw m' h' tk' w1 w2 w3 w4 w5 w6 nd hus hkey hperm hsort hcs hcH2 mD mh mr mH mE hps' F' N'
  refine segB B F' X T hA hh hP w5 w6 nd hus mr hps' N' hd hu ?_
  intro pp MM kx mx t1 t2 t3 t4 t5 t6 du fi ds fus kd kf nw2 m2 h2 tk2 p1 p2 p3 p4 p5 p6 hds hdsn hfu mdu mfi hsub hps2 F2 N2
  have G : Gaps W st n pp MM kx mx := gaps_of w1 w5 nd p1 p2 p3 p4 p5 p6
  have kp := keys_perm hkey hperm
  have ks := keys_sorted hsort
  have hlen : cs.length = n := by
    have := kp.length_eq
    simpa [kv] using this
  have hge : cs.map It.p = (cs.map It.key).map (·.1) := by rw [List.map_map]; rfl
  have hgm := gap_mem G kp ks (W - MM)
  refine segC B F2 X T hA hh hP (q := W - MM) (gs := gapL n kx mx pp (W - MM) n) w6 G.kn G.mn hlen hcH2 hcE (hsub _ mH) (hsub _ mE) (hsub _ mh) (hsub _ mD) mdu mfi (fun z hz => hsub _ (hcs z hz)) hdsn
    (by simp [gapL]) (fun i hi => by rw [hge]; exact visits_gap G kp ks hi) (gap_count G kp ks _) (oths n kx mx pp (W - MM)) oths_one oths_two
    (fun i e h => take_rm (fun e he => ?_) i e h) (rm_nil fun e he => ?_) (fun i e h => take_rm (fun e he => ?_) i e h) ⟨fun h => ?_, fun h => ?_⟩
    ?_ hfu hps2 N2 (fromK_dedup _) hd hu ret
  · rw [List.mem_append, List.mem_singleton, oths_mem]
    exact (hgm e).mp he
  · rw [List.mem_append, List.mem_singleton, oths_mem] at he
    exact (hgm e).mpr he
  · rw [oths_mem] at he
    exact (hgm e).mpr (.inr he)
  · refine Classical.byContradiction fun hne => ?_
    refine rm_not_nil (e := pp) ((hgm pp).mpr (.inl rfl)) ?_ h
    rw [oths_mem]
    have := G.q0
    omega
  · refine rm_nil fun e he => ?_
    rw [oths_mem]
    rcases (hgm e).mp he with h1 | h1
    · exact .inl (h1.trans h)
    · exact h1
  · rw [visits_eq G kp ks, hds, due_eq G.kn]
end Mine
end
section
open PySem PySem.W PySem.Calls PyProof.Rows
set_option maxRecDepth 100000
set_option maxHeartbeats 8000000
set_option pp.deepTerms.threshold 6
theorem Mine.warmJL (w : World) : (model PySem.Challenge.rw_ik0114_01.row.prog w, Mine.hd.heap_39 w.params) = (model PySem.Challenge.rw_ik0114_01.row.prog w, Mine.hd.heap_39 w.params) := by
  k_fill
  rfl
local macro_rules | `(tactic| walk_at "eval Name") => `(tactic| k_dflt (refine' ld ?k1 ?k2 ?_; (case k1 => k_asm); (case k2 => exact rfl); k_whole))
local macro_rules | `(tactic| walk_at "execs cons") => `(tactic| ((with_reducible refine wpAny_execs_cons ?_); (try dsimp only)))
local macro_rules | `(tactic| walk_at "exec Assign") => `(tactic| ((with_reducible show wpAny _ _ (exec (PySem.Stmt.Assign [PySem.Expr.Name _ _] _ _) _) _ _ _); (with_reducible refine wpAny_Assign_Name ?_)))
namespace Mine
theorem law0 : PySem.Challenge.rw_ik0114_01.Holds := by
  refine Mine.hd ?_
  k_go0
  rename Below _ _ _ _ => K0
  rename Fr _ _ _ _ => F
  rename Top _ _ _ _ _ _ => T
  rename Frag.In _ _ => KX
  rename Heap.IsList _ _ _ => hL
  rename IntsAre _ _ => hI
  rename News _ _ _ _ => N0
  rename ¬ _ < _ => hlen
  rename (_ : Obj).data = Data.cell (bindC _ _ _ (Str.ofString "ends")) => hE
  rename (_ : Obj).data = Data.cell (bindC _ _ _ (Str.ofString "heap")) => hH
  show wpAny _ _ (execs (lawPart.2.drop 0) (envOfC (Str.ofString "law") lawPart.1 _ _ _)) _ _ _
  refine' segs K0 F KX T ?kA ?kh ?kP hL hI ?kl N0 ?kE ?kH ?kps ?kd ?ku ?_
  case kA => exact rfl
  case kh => exact rfl
  case kP => passes_own
  case kl => omega
  case kE => exact hE
  case kH => exact hH
  case kps => kst_all
  case kd => (dsimp only [Around.deeper]; decide)
  case ku => (dsimp only [Around.deeper]; decide)
  intro h' tk' m' F9
  dsimp only
  k_steps
end Mine
end
set_option maxRecDepth 100000 in
set_option maxHeartbeats 8000000 in
theorem PySem.Challenge.cw_ik0114_01_holds : PySem.Challenge.rw_ik0114_01.Holds :=
  Mine.law0

import PyProof.Rows.All
import Wide.All
import OpenK.AllK
import Wide.FinOn
import PySem.Challenge.RW_aa0056_01
set_option Elab.async false
section
open PySem PySem.W PyProof.Rows
namespace Mine
/-- a run over a tree heap; the look at a step and the step are letters -/
def runS (ok : Thread → Bool) (st : SharedT → Thread → Option (SharedT × Thread)) : Nat → SharedT → Thread → Option SharedT
  | 0, _, _ => none
  | n + 1, s, t => match through t with
    | true => some s
    | false => match ok t with
      | false => none
      | true => match st s t with
        | some (s', t') => runS ok st n s' t'
        | none => none
theorem runS_spec {tb : String → Option Builtin} {p : Program} {w : World} {n₀ : Nat} {ann : Option Value} : ∀ {n : Nat} {s s' : SharedT} {t : Thread}, runS (stepOk n₀ ann) (stepT (denote tb) p w) n s t = some s' → topRun tb p w n₀ ann n s.abs t = some s'.abs
  | 0, _, _, _, h => by cases h
  | n + 1, s, s', t, h => by
    unfold runS at h
    unfold topRun
    cases he : through t with
    | true => rw [he] at h; cases h; rfl
    | false =>
      rw [he] at h
      cases hk : stepOk n₀ ann t with
      | false => rw [hk] at h; cases h
      | true =>
        rw [hk] at h
        cases hs : stepT (denote tb) p w s t with
        | none => rw [hs] at h; cases h
        | some r => obtain ⟨s₂, t₂⟩ := r; rw [hs] at h; dsimp only; rw [stepT_spec hs]; exact runS_spec h
/-- a list as a tree -/
def btOf (os : List Obj) : Nat → Nat → Nat → BT
  | 0, _, _ => .nil
  | k + 1, a, b => match os[b]? with
    | some o => .node o (btOf os k (2 * a) (a + b)) (btOf os k (2 * a) (2 * a + b))
    | none => .nil
/-- the state behind the opening, as a tree -/
noncomputable def bootT (w : World) (n₀ : Nat) (os : OsState) : SharedT := ⟨btOf (boot_heap w.params).objs.toList 12 1 0, n₀, (boot_heap w.params).life, Array.mk [], boot_drawn, boot_toks, os⟩

theorem left_of_run {p q : Program} {loose : List Str} {Xt : Shared → Bool} {α : Type} {Yf : Shared → α} {Ya : World → α} {N : Nat} {g0 : Bool} {n₀ : Nat} {ann : Option Value}
    (hop : opening p = plainProg p.main.scope.names) (hN : Nat.ble 600 N = true) (hf : ∀ s, fenceModules? p s = some s)
    (hT : ∀ w os, (bootT w n₀ os).abs = ⟨boot_heap w.params, Array.mk [], boot_drawn, boot_toks, os⟩)
    (size : ∀ w : World, ((boot_heap w.params).isNs mainGlobals, (boot_heap w.params).objs.size, (boot_heap w.params).nsMap mainGlobals "__annotations__") = (true, n₀, ann))
    (run : ∀ w : World, (fun os => (runS (stepOk n₀ ann) (stepT (denote treeTable) p w) N (bootT w n₀ os) (topStub p)).map fun s =>
      ((staticsOk (importedModules p.main.body) (boot_heap w.params) s.abs.heap && namesBound p s.abs.heap && gensDone s.abs && laidKept (boot_heap w.params) s.abs.heap),
        openSeen q loose (importedModules p.main.body) Xt g0 s.abs, Yf s.abs)) = fun _ => some (true, openGood q loose, Ya w)) : LeftO p q loose Xt Yf Ya N g0 := fun w => by
  obtain ⟨⟨h, gs, d, k, os⟩, e, e'⟩ := Option.map_eq_some_iff.mp (boot_open hop hN hf w)
  obtain ⟨rfl, rfl, rfl, rfl⟩ : h = boot_heap w.params ∧ gs = Array.mk [] ∧ d = boot_drawn ∧ k = boot_toks := by simpa using e'
  obtain ⟨z1, z2, z3⟩ : _ ∧ _ ∧ _ := by simpa only [Prod.mk.injEq] using size w
  obtain ⟨s', r, l⟩ := Option.map_eq_some_iff.mp (congrFun (run w) os)
  obtain ⟨l1, l2, l3⟩ : _ ∧ _ ∧ _ := by simpa only [Prod.mk.injEq] using l
  have r := runS_spec r
  rw [hT w os] at r
  have t : topFrom treeTable p w N ⟨boot_heap w.params, Array.mk [], boot_drawn, boot_toks, os⟩ = some s'.abs := by
    unfold topFrom
    dsimp only
    rw [z1, z2, z3, r]
    show (match staticsOk (importedModules p.main.body) (boot_heap w.params) s'.abs.heap && namesBound p s'.abs.heap && gensDone s'.abs && laidKept (boot_heap w.params) s'.abs.heap with | true => _ | false => _) = _
    rw [l1]
  unfold openEnds
  rw [e]
  show (topFrom treeTable p w N _).map _ = _
  rw [t]
  exact congrArg some (Prod.ext l2 l3)
/-- the text's own names, less the four that no test holds -/
def vw : Program := view PySem.Challenge.rw_aa0056_01.row.prog [0, 2, 3, 4, 5, 6, 8, 9, 10, 11, 12, 13, 14, 15, 16, 17, 18, 19, 20, 21, 22, 23, 24, 25, 26, 27, 28, 29, 31, 32, 33, 34, 35, 37, 38, 39, 40, 41, 42]
set_option maxRecDepth 100000
set_option maxHeartbeats 8000000
theorem said_ok : PySem.Challenge.rw_aa0056_01.wellSaid = true := (congrFun PySem.W.Fast.te9446332074065402090 _).trans (by kernel_rfl)
local macro_rules | `(tactic| o_law) => `(tactic| refine holds_law Mine.said_ok fun said => ?_)
local macro_rules | `(tactic| o_head $H) => `(tactic| (
  refine holds_open (q := Mine.vw) (loose := [Str.ofString "_filemode_table", Str.ofString "_tuplegetter", Str.ofString "Mismatch", Str.ofString "_Mismatch"]) (Xt := fun s => xlAt Mine.vw [] s && recOk (RowW.records PySem.Challenge.rw_aa0056_01.row.toRowW) s) (XP := XL Mine.vw [])
    (Yf := Hook.obs $H) (Ya := Hook.val $H) (YP := Hook.says $H) (N := 2300) ?hl (Hook.of $H) (Hook.keeps $H) (fun s e => xl_of s (Bool.and_eq_true_iff.mp e).1) XL.keeps (by rfl) (by rfl) (by rfl) (fun s e => recFacts_of (Bool.and_eq_true_iff.mp e).2) rfl (by assumption) (by decide +kernel) ⟨rfl, rfl, rfl, rfl, rfl, by decide +kernel⟩ ?hw ?hc
  case hl =>
    refine Mine.left_of_run (n₀ := 11) (ann := some (.ref 6)) (by kernel_rfl) (by decide) (fun s => by kernel_rfl) (fun w os => by kernel_rfl) (fun w => by kernel_rfl) ?_
    rw [PySem.W.Fast.te10156331382660048174, PySem.W.Fast.te11892475500146522536, PySem.W.Fast.te14364793385576792824, PySem.W.Fast.te6613529449190102663, PySem.W.Fast.te4187177175401517315, PySem.W.Fast.te5923862056798008813]
    exact fun w => by kernel_rfl))
open_top hd for PySem.Challenge.rw_aa0056_01
end Mine
end
section
open PySem PySem.W PyProof.Rows PySem.Calls PySem.Spec
namespace Mine
/-- what a call of the def at f hands back: R, with room for calls d deep and u units; any ledger -/
abbrev Cl (d u : Nat) (w : World) (f : Addr) (news : List (Addr × Obj)) (vs : List Value) (R : Tok → Value) : Prop :=
  ∀ (mean : ExcName → Option Value) (mg mb : Str → Option Value) (dp un : Nat) (gd : Option (List Code)) (cn : Str) (cs : Scope) (a : Addr) (ccd : Value) (cl : List (Str × Addr)) (outer : List Env) (A₀ : Around) (base h₀ : Heap) (L : Addr) (m : Str → Option Value) (s : Shared) (Q E : Value → Shared → Prop),
    Below A₀ base outer h₀ → Fr h₀ L s.heap m → (Mine.hd.heap_1 w.params).In h₀ → News h₀ L s.heap news →
    Top Mine.vw (looseW Mine.vw [Str.ofString "_filemode_table", Str.ofString "_tuplegetter", Str.ofString "Mismatch", Str.ofString "_Mismatch"]) mean mg mb h₀ → cs.kind = .function →
    dp + d < recursionLimit → un + u < cLine → (∀ (t : Tok) (h' : Heap) (tk' : Nat), Fr h₀ L h' m → News h₀ L h' news → Q (R t) { s with heap := h', toks := tk' }) →
      wpAny (model PySem.Challenge.rw_aa0056_01.row.prog w) (ktrTop dp un gd cn cs L a ccd cl outer) (call (.ref f) vs) Q E s
end Mine
end
section
open PySem PySem.W PyProof.Rows PySem.Calls PySem.Spec
namespace Mine
theorem Fr.eqv {h₀ h : Heap} {L : Addr} {m m' : Str → Option Value} (F : Fr h₀ L h m) (e : ∀ y, m' y = m y) : Fr h₀ L h m' := by
  have : m' = m := funext e
  rw [this]; exact F

section
variable {prog : Program} {w : World} {A : Around} {E : Value → Shared → Prop} {Q : Flow → Shared → Prop} {s : Shared} {env : Env} {h₀ : Heap} {L : Addr}

/-- the end of one turn of a while that turns one int name -/
def WPost (h₀ : Heap) (L : Addr) (s : Shared) (news : List (Addr × Obj)) (x : Str) (m₀ : Str → Option Value) (P : Int → Prop) (μ : Int → Nat) (k : Int) (f : Flow) (s₂ : Shared) : Prop :=
  f = .next ∧ ∃ k' t' h' tk' m', s₂ = { s with heap := h', toks := tk' } ∧ Fr h₀ L h' m' ∧ News h₀ L h' news ∧ m' x = some (.int k' t') ∧ (∀ z, z ≠ x → m' z = m₀ z) ∧ P k' ∧ μ k' < μ k
/-- the while's own end -/
def WDone (h₀ : Heap) (L : Addr) (s : Shared) (news : List (Addr × Obj)) (x : Str) (m₀ : Str → Option Value) (P : Int → Prop) (k : Int) (s₂ : Shared) : Prop :=
  ∃ t' h' tk' m', s₂ = { s with heap := h', toks := tk' } ∧ Fr h₀ L h' m' ∧ News h₀ L h' news ∧ m' x = some (.int k t') ∧ (∀ z, z ≠ x → m' z = m₀ z) ∧ P k

theorem WPost.intro {news : List (Addr × Obj)} {x : Str} {m₀ m' : Str → Option Value} {P : Int → Prop} {μ : Int → Nat} {k k' : Int} {t' : Tok} {h' : Heap} {tk' : Nat} (F : Fr h₀ L h' m') (N : News h₀ L h' news) (hx : m' x = some (.int k' t')) (hz : ∀ z, z ≠ x → m' z = m₀ z) (hp : P k') (hm : μ k' < μ k) :
    WPost h₀ L s news x m₀ P μ k .next { s with heap := h', toks := tk' } := ⟨rfl, k', t', h', tk', m', rfl, F, N, hx, hz, hp, hm⟩
theorem WDone.intro {news : List (Addr × Obj)} {x : Str} {m₀ m' : Str → Option Value} {P : Int → Prop} {k : Int} {t' : Tok} {h' : Heap} {tk' : Nat} (F : Fr h₀ L h' m') (N : News h₀ L h' news) (hx : m' x = some (.int k t')) (hz : ∀ z, z ≠ x → m' z = m₀ z) (hp : P k) :
    WDone h₀ L s news x m₀ P k { s with heap := h', toks := tk' } := ⟨t', h', tk', m', rfl, F, N, hx, hz, hp⟩

theorem map_eq {x : Str} {m₀ m' : Str → Option Value} {v : Value} (hx : m' x = some v) (hz : ∀ z, z ≠ x → m' z = m₀ z) : m' = fun y => if y = x then some v else m₀ y := by
  funext y
  by_cases e : y = x
  · subst e; simp [hx]
  · simp [e, hz y e]

theorem while_cut {test : Expr} {body : List Stmt} {pos : Pos} {x : Str} {m₀ : Str → Option Value} {news : List (Addr × Obj)} {k₀ : Int} {t₀ : Tok} (P : Int → Prop) (μ : Int → Nat)
    (F : Fr h₀ L s.heap m₀) (N : News h₀ L s.heap news) (hk : m₀ x = some (.int k₀ t₀)) (hp : P k₀)
    (turn : ∀ k t h tk, P k → Fr h₀ L h (fun y => if y = x then some (.int k t) else m₀ y) → News h₀ L h news →
      wpAny (model prog w) A (isTrue test env (eval test env)) (fun b s₂ =>
        if b = true then wpAny (model prog w) A (execs body env) (WPost h₀ L s news x m₀ P μ k) E s₂ else WDone h₀ L s news x m₀ P k s₂) E { s with heap := h, toks := tk })
    (done : ∀ k t h tk, P k → Fr h₀ L h (fun y => if y = x then some (.int k t) else m₀ y) → News h₀ L h news → Q .next { s with heap := h, toks := tk })
    (hE : PassesOwn (model prog w) A env E := by passes_own) :
    wpAny (model prog w) A (exec (.While test body [] pos) env) Q E s := by
  refine While_inv2 (fun n m nx => ∃ k t, nx = news ∧ μ k = n ∧ m = (fun y => if y = x then some (.int k t) else m₀ y) ∧ P k) F N ⟨k₀, t₀, rfl, rfl, ?_, hp⟩ ?_ hE
  · exact map_eq hk fun _ _ => rfl
  rintro n m₁ nx h tk F₁ N₁ ⟨k, t, rfl, rfl, rfl, hp'⟩
  refine wpAny_mono (turn k t h tk hp' F₁ N₁) (fun b s₂ p => ?_) fun _ _ x => x
  cases b with
  | false =>
    simp only [Bool.false_eq_true, if_false] at p ⊢
    obtain ⟨t', h', tk', m', rfl, F', N', hx, hz, hp9⟩ := p
    rw [map_eq hx hz] at F'
    exact done k t' h' tk' hp9 F' N'
  | true =>
    simp only [if_true] at p ⊢
    refine wpAny_mono p (fun f s₃ q => ?_) fun _ _ x => x
    obtain ⟨rfl, k', t', h', tk', m', rfl, F', N', hx, hz, hp9, hm⟩ := q
    exact ⟨h', tk', m', nx, μ k', rfl, F', N', hm, k', t', rfl, rfl, map_eq hx hz, hp9⟩

/-- one statement that stores one name, its value told -/
def SEnd (h₀ : Heap) (L : Addr) (s : Shared) (news : List (Addr × Obj)) (x : Str) (m₀ : Str → Option Value) (V : Value → Prop) (f : Flow) (s₂ : Shared) : Prop :=
  f = .next ∧ ∃ v h' tk' m', s₂ = { s with heap := h', toks := tk' } ∧ Fr h₀ L h' m' ∧ News h₀ L h' news ∧ m' x = some v ∧ (∀ z, z ≠ x → m' z = m₀ z) ∧ V v
theorem SEnd.intro {news : List (Addr × Obj)} {x : Str} {m₀ m' : Str → Option Value} {V : Value → Prop} {v : Value} {h' : Heap} {tk' : Nat} (F : Fr h₀ L h' m') (N : News h₀ L h' news) (hx : m' x = some v) (hz : ∀ z, z ≠ x → m' z = m₀ z) (hp : V v) :
    SEnd h₀ L s news x m₀ V .next { s with heap := h', toks := tk' } := ⟨rfl, v, h', tk', m', rfl, F, N, hx, hz, hp⟩
structure CutMark : Prop where
theorem cut_one {st : Stmt} {x : Str} {m₀ : Str → Option Value} {news : List (Addr × Obj)} (V : Value → Prop) (F : Fr h₀ L s.heap m₀) (N : News h₀ L s.heap news)
    (one : CutMark → wpAny (model prog w) A (exec st env) (SEnd h₀ L s news x m₀ V) E s)
    (done : ∀ v h' tk, V v → Fr h₀ L h' (fun y => if y = x then some v else m₀ y) → News h₀ L h' news → Q .next { s with heap := h', toks := tk }) :
    wpAny (model prog w) A (exec st env) Q E s := by
  refine wpAny_mono (one CutMark.mk) (fun f s₂ p => ?_) fun _ _ x => x
  obtain ⟨rfl, v, h', tk', m', rfl, F', N', hx, hz, hp⟩ := p
  rw [map_eq hx hz] at F'
  exact done v h' tk' hp F' N'
end
end Mine
end
section
open PySem PySem.W PyProof.Rows PySem.Calls PySem.Spec
namespace Mine
section
variable {prog : Program} {w : World} {A : Around} {E : Value → Shared → Prop} {s : Shared}
theorem bool_index : typeLookup (.type "bool") "__index__" = pure (some (.builtin "int.__index__")) := by rw [typeLookup_type, builtinLookup_eq_fast]; kernel_rfl
theorem sub_bool {M : Model} {b : Bool} {k : Int} {Q : Option Int → Shared → Prop} (e : k = if b then 1 else 0) (h : Q (some k) s) :
    wpAny M A (Builtin.List.listSubscript? (.bool b)) Q E s := by
  unfold Builtin.List.listSubscript?
  refine wpAny_bind (wpAny_specialOf (T := "bool") (PySem.typeIs_bool s b) bool_index ?_)
  show wpAny M A (asIndex (.bool b) >>= _) Q E s
  refine wpAny_bind (wpAny_of_eq (a := k) (by subst e; cases b <;> rfl) ?_)
  show wpAny M A (if (!Builtin.List.listFitsIndex k) = true then _ else _) Q E s
  rw [if_neg (by subst e; cases b <;> decide)]
  exact wpAny_pure h
theorem getItem_bool {l : Addr} {x0 x1 : Value} {b : Bool} {Q : Value → Shared → Prop} (hl : s.heap.IsList l #[x0, x1])
    (h : Q (if b then x1 else x0) s) : wpAny (model prog w) A (getItem (.ref l) (.bool b)) Q E s := by
  obtain ⟨o, ho, hc, ne, hd⟩ := id hl
  unfold getItem
  refine wpAny_holding ?_
  refine wpAny_bind (wpAny_sequenceKey hl.typeIs (by decide) ?_)
  refine wpAny_bind (wpAny_callSpecial?_slot (name := Str.ofString "__getitem__") hl.typeIs slot_list_getitem
    (wpAny_call_entry slot_list_getitem hl.typeIs entry_list_getitem ?_ (args_list_getitem _ _)))
  show wpAny _ _ (Builtin.List.listSubscript? (.bool b) >>= _) _ _ s
  cases b with
  | true =>
    refine wpAny_bind (sub_bool (k := 1) rfl ?_)
    show wpAny _ _ ((seqItemAt l 1 >>= fun r => pure (r.map (1, ·))) >>= _) _ _ s
    refine wpAny_bind (wpAny_bind (wpAny_seqItemAt ho hd (wpAny_pure ?_)))
    exact wpAny_pure ⟨x1, rfl, wpAny_pure h⟩
  | false =>
    refine wpAny_bind (sub_bool (k := 0) rfl ?_)
    show wpAny _ _ ((seqItemAt l 0 >>= fun r => pure (r.map (0, ·))) >>= _) _ _ s
    refine wpAny_bind (wpAny_bind (wpAny_seqItemAt ho hd (wpAny_pure ?_)))
    exact wpAny_pure ⟨x0, rfl, wpAny_pure h⟩
theorem tail_bool {value slice : PySem.Expr} {l : Addr} {x0 x1 : Value} {b : Bool} {Q : Value → Shared → Prop} (hl : s.heap.IsList l #[x0, x1])
    (h : Q (if b then x1 else x0) s)
    (hs : subscripted slice false (.ref l) (.bool b) = operate [.ref l, .bool b] (getItem (.ref l) (.bool b)) := by with_unfolding_all rfl) :
    wpAny (model prog w) A (subscriptTail value slice (.ref l) (.bool b)) Q E s := tail_any hl.typeIs slot_list_getitem.lookup (getItem_bool hl h) hs
theorem tail_boolT {value slice : PySem.Expr} {l : Addr} {x0 x1 : Value} {b : Bool} {Q : Value → Shared → Prop} (hl : s.heap.IsList l #[x0, x1]) (hb : b = true) (h : Q x1 s)
    (hs : subscripted slice false (.ref l) (.bool b) = operate [.ref l, .bool b] (getItem (.ref l) (.bool b)) := by with_unfolding_all rfl) :
    wpAny (model prog w) A (subscriptTail value slice (.ref l) (.bool b)) Q E s := tail_bool hl (by rw [hb]; exact h) hs
theorem tail_boolF {value slice : PySem.Expr} {l : Addr} {x0 x1 : Value} {b : Bool} {Q : Value → Shared → Prop} (hl : s.heap.IsList l #[x0, x1]) (hb : b = false) (h : Q x0 s)
    (hs : subscripted slice false (.ref l) (.bool b) = operate [.ref l, .bool b] (getItem (.ref l) (.bool b)) := by with_unfolding_all rfl) :
    wpAny (model prog w) A (subscriptTail value slice (.ref l) (.bool b)) Q E s := tail_bool hl (by rw [hb]; exact h) hs
theorem two_list {h₀ h : Heap} {L l : Addr} {x0 x1 : Value} {news : List (Addr × Obj)} (N : News h₀ L h ((l, ({ cls := .type "list", data := .seq [x0, x1].toArray } : Obj)) :: news)) : h.IsList l #[x0, x1] :=
  ⟨_, (N _ (List.Mem.head _)).1, rfl, _, rfl⟩
end
end Mine
end
section
open PySem PySem.W PyProof.Rows
namespace Mine
/-- the letters that a row may hold -/
def AL : List Nat := [45, 63, 83, 84, 98, 99, 100, 108, 112, 114, 115, 116, 119, 120]
def phi (x : Nat) : Int := if x = 114 ∨ x = 119 ∨ x = 120 then 2 else if x = 115 ∨ x = 116 then 1 else 0
def chr1 (x : Nat) : Str := ⟨#[x]⟩
def scs (x y : Str) : Int := if (x == y) = true then 0 else if (Txt.lower x == Txt.lower y) = true then 1 else 2
def sc (x y : Nat) : Int := scs (chr1 x) (chr1 y)
def lw (x : Nat) : Nat := if x = 83 then 115 else if x = 84 then 116 else x
theorem lower_AL : ∀ x ∈ AL, Txt.lower (chr1 x) = chr1 (lw x) := by decide +kernel
theorem chr1_beq (x y : Nat) : (chr1 x == chr1 y) = decide (x = y) := by
  by_cases h : x = y
  · subst h; simp
  · simp [h, chr1]
theorem sc_eq {x y : Nat} (hx : x ∈ AL) (hy : y ∈ AL) : sc x y = if x = y then 0 else if lw x = lw y then 1 else 2 := by
  unfold sc scs
  rw [lower_AL x hx, lower_AL y hy, chr1_beq, chr1_beq]
  simp
theorem sc_self (x : Nat) : sc x x = 0 := by simp [sc, scs]
theorem sc_nonneg (x y : Nat) : 0 ≤ sc x y := by
  unfold sc scs; split
  · omega
  · split <;> omega
theorem sc_phi : ∀ x ∈ AL, ∀ y ∈ AL, phi x - phi y ≤ (if x = y then 0 else if lw x = lw y then 1 else 2 : Int) ∧ phi y - phi x ≤ (if x = y then 0 else if lw x = lw y then 1 else 2 : Int) := by decide +kernel
theorem sc_ge {x y : Nat} (hx : x ∈ AL) (hy : y ∈ AL) : phi x - phi y ≤ sc x y ∧ phi y - phi x ≤ sc x y := by
  rw [sc_eq hx hy]; exact sc_phi x hx y hy
theorem phi_bd (x : Nat) : 0 ≤ phi x ∧ phi x ≤ 2 := by
  unfold phi; split
  · omega
  · split <;> omega

def hamL : List Nat → List Nat → Int
  | x :: xs, y :: ys => sc y x + hamL xs ys
  | _, _ => 0
def phiL : List Nat → Int
  | [] => 0
  | x :: xs => phi x + phiL xs
theorem phiL_append (X Y : List Nat) : phiL (X ++ Y) = phiL X + phiL Y := by
  induction X with
  | nil => simp [phiL]
  | cons x X ih => simp only [List.cons_append, phiL, ih]; omega
theorem hamL_snoc : ∀ (X Y : List Nat) (x y : Nat), X.length = Y.length → hamL (X ++ [x]) (Y ++ [y]) = hamL X Y + sc y x
  | [], [], x, y, _ => by simp [hamL]
  | _ :: _, [], _, _, h => by simp at h
  | [], _ :: _, _, _, h => by simp at h
  | a :: X, b :: Y, x, y, h => by
    have ih := hamL_snoc X Y x y (by simpa using h)
    simp only [List.cons_append, hamL, ih]; omega
theorem hamL_nonneg : ∀ (X Y : List Nat), 0 ≤ hamL X Y
  | [], [] => by simp [hamL]
  | _ :: _, [] => by simp [hamL]
  | [], _ :: _ => by simp [hamL]
  | a :: X, b :: Y => by
    have ih := hamL_nonneg X Y
    have := sc_nonneg b a
    simp only [hamL]; omega

structure RL (X Y : List Nat) (D : Int) : Prop where
  len : X.length = Y.length
  le : X.length ≤ 40
  okx : ∀ c ∈ X, c ∈ AL
  oky : ∀ c ∈ Y, c ∈ AL
  ham : hamL X Y = D
  ph : phiL X - phiL Y = D ∨ phiL Y - phiL X = D
theorem RL.nonneg {X Y : List Nat} {D : Int} (h : RL X Y D) : 0 ≤ D := h.ham ▸ hamL_nonneg X Y
theorem RL.tail {c : Nat} {X Y : List Nat} {D : Int} (h : RL (c :: X) (c :: Y) D) : RL X Y D := by
  obtain ⟨h1, h2, h3, h4, h5, h6⟩ := h
  refine ⟨by simpa using h1, by simp at h2; omega, fun d hd => h3 d (List.mem_cons_of_mem _ hd), fun d hd => h4 d (List.mem_cons_of_mem _ hd), ?_, ?_⟩
  · simp only [hamL, sc_self] at h5; omega
  · simp only [phiL] at h6; omega
theorem RL.init {c : Nat} {X Y : List Nat} {D : Int} (h : RL (X ++ [c]) (Y ++ [c]) D) : RL X Y D := by
  obtain ⟨h1, h2, h3, h4, h5, h6⟩ := h
  have hl : X.length = Y.length := by simpa using h1
  refine ⟨hl, by simp at h2; omega, fun d hd => h3 d (by simp [hd]), fun d hd => h4 d (by simp [hd]), ?_, ?_⟩
  · rw [hamL_snoc _ _ _ _ hl, sc_self] at h5; omega
  · simp only [phiL_append, phiL] at h6; omega
theorem RL.drop {X Y : List Nat} {D : Int} {k : Nat} (h : RL (X.drop k) (Y.drop k) D) (hk : k < X.length) (hk' : k < Y.length) (e : X[k] = Y[k]) : RL (X.drop (k + 1)) (Y.drop (k + 1)) D := by
  rw [List.drop_eq_getElem_cons hk, List.drop_eq_getElem_cons hk', ← e] at h
  exact h.tail
theorem RL.take {X Y : List Nat} {D : Int} {k : Nat} (h : RL (X.take (k + 1)) (Y.take (k + 1)) D) (hk : k < X.length) (hk' : k < Y.length) (e : X[k] = Y[k]) : RL (X.take k) (Y.take k) D := by
  rw [List.take_succ_eq_append_getElem hk, List.take_succ_eq_append_getElem hk', ← e] at h
  exact h.init

/-! the table's rows -/
def PP (X : List Nat) (n : Nat) : Int := phiL (X.take n)
def HH (X Y : List Nat) (n : Nat) : Int := hamL (X.take n) (Y.take n)
theorem PP_succ {X : List Nat} {n : Nat} (h : n < X.length) : PP X (n + 1) = PP X n + phi X[n] := by
  unfold PP
  rw [List.take_succ_eq_append_getElem h, phiL_append]; simp [phiL]
theorem PP_zero (X : List Nat) : PP X 0 = 0 := by simp [PP, phiL]
theorem PP_bd (X : List Nat) (n : Nat) : 0 ≤ PP X n ∧ PP X n ≤ 2 * (n : Int) := by
  induction n with
  | zero => simp [PP_zero]
  | succ n ih =>
    by_cases h : n < X.length
    · have := phi_bd X[n]
      rw [PP_succ h]; omega
    · have : PP X (n + 1) = PP X n := by
        unfold PP; rw [List.take_of_length_le (by omega), List.take_of_length_le (by omega)]
      omega
theorem PP_step (X : List Nat) (n : Nat) : PP X n ≤ PP X (n + 1) ∧ PP X (n + 1) ≤ PP X n + 2 := by
  by_cases h : n < X.length
  · have := phi_bd X[n]
    rw [PP_succ h]; omega
  · have : PP X (n + 1) = PP X n := by
      unfold PP; rw [List.take_of_length_le (by omega), List.take_of_length_le (by omega)]
    omega
theorem HH_succ {X Y : List Nat} {n : Nat} (hl : X.length = Y.length) (h : n < X.length) (h' : n < Y.length) : HH X Y (n + 1) = HH X Y n + sc Y[n] X[n] := by
  unfold HH
  rw [List.take_succ_eq_append_getElem h, List.take_succ_eq_append_getElem h', hamL_snoc _ _ _ _ (by simp [hl])]
theorem HH_zero (X Y : List Nat) : HH X Y 0 = 0 := by simp [HH, hamL]
theorem HH_mono {X Y : List Nat} (hl : X.length = Y.length) (n : Nat) : ∀ k, HH X Y n ≤ HH X Y (n + k)
  | 0 => Int.le_refl _
  | k + 1 => by
    have ih := HH_mono hl n k
    by_cases h : n + k < X.length
    · have := sc_nonneg (Y[n + k]'(hl ▸ h)) X[n + k]
      have e := HH_succ (X := X) (Y := Y) (n := n + k) hl h (hl ▸ h)
      rw [← Nat.add_assoc]; omega
    · have : HH X Y (n + (k + 1)) = HH X Y (n + k) := by
        unfold HH; rw [List.take_of_length_le (by omega), List.take_of_length_le (l := Y) (by omega), List.take_of_length_le (by omega), List.take_of_length_le (l := Y) (by omega)]
      omega

structure OUT (X Y : List Nat) (i : Nat) (row : List Int) : Prop where
  len : row.length = X.length
  lo : ∀ k, k < X.length → PP Y i - PP X (k + 1) ≤ row.getD k 0 ∧ PP X (k + 1) - PP Y i ≤ row.getD k 0
  up : 0 < i → row.getD (i - 1) 0 ≤ HH X Y i
structure INN (X Y : List Nat) (i j : Nat) (d r mn : Int) (row : List Int) : Prop where
  len : row.length = X.length
  lo1 : ∀ k, k < j → k < X.length → PP Y (i + 1) - PP X (k + 1) ≤ row.getD k 0 ∧ PP X (k + 1) - PP Y (i + 1) ≤ row.getD k 0
  lo2 : ∀ k, j ≤ k → k < X.length → PP Y i - PP X (k + 1) ≤ row.getD k 0 ∧ PP X (k + 1) - PP Y i ≤ row.getD k 0
  ld : PP Y i - PP X j ≤ d ∧ PP X j - PP Y i ≤ d
  lr : PP Y (i + 1) - PP X (j + 1) ≤ r + 2 ∧ PP X (j + 1) - PP Y (i + 1) ≤ r + 2
  u1 : j + 1 ≤ i → row.getD (i - 1) 0 ≤ HH X Y i
  u2 : j = i → d ≤ HH X Y i
  u3 : i < j → row.getD i 0 ≤ HH X Y (i + 1) ∧ mn ≤ HH X Y (i + 1)
  rr : 0 < j → r = row.getD (j - 1) 0

theorem INN.start {X Y : List Nat} {i : Nat} {row : List Int} {mn : Int} (h : OUT X Y i row) : INN X Y i 0 (2 * (i : Int)) (2 * (i : Int)) mn row := by
  have b1 := PP_bd Y i
  have b2 := PP_bd X 0
  have b3 := PP_bd X 1
  have b4 := PP_bd Y (i + 1)
  have b5 := PP_zero X
  have b6 := HH_zero X Y
  refine ⟨h.len, fun k hk => absurd hk (Nat.not_lt_zero _), fun k _ hk => h.lo k hk, by omega, by simp only [Nat.zero_add] at *; omega, fun hi => h.up (by omega), fun hi => by subst hi; simp [b6], fun hi => absurd hi (Nat.not_lt_zero _), fun hi => absurd hi (Nat.not_lt_zero _)⟩

theorem getD_set_eq {row : List Int} {j : Nat} {v : Int} (h : j < row.length) : (row.set j v).getD j 0 = v := by
  simp [List.getD_eq_getElem?_getD, List.getElem?_set_self h]
theorem getD_set_ne {row : List Int} {j k : Nat} {v : Int} (h : j ≠ k) : (row.set j v).getD k 0 = row.getD k 0 := by
  simp [List.getD_eq_getElem?_getD, List.getElem?_set_ne h]

theorem INN.turn {X Y : List Nat} {i j : Nat} {d r mn : Int} {row : List Int} (okx : ∀ c ∈ X, c ∈ AL) (oky : ∀ c ∈ Y, c ∈ AL) (hl : X.length = Y.length) (h : INN X Y i j d r mn row) (hj : j < X.length) (hi : i < Y.length)
    {d' r' mn' : Int} (ed : d' = row.getD j 0) (er : r' ≤ r + 2 ∧ r' ≤ d' + 2 ∧ r' ≤ d + sc Y[i] X[j] ∧ (r' = r + 2 ∨ r' = d' + 2 ∨ r' = d + sc Y[i] X[j])) (em : mn' ≤ r' ∧ mn' ≤ mn) :
    INN X Y i (j + 1) d' r' mn' (row.set j r') := by
  have hjr : j < row.length := by rw [h.len]; exact hj
  have pY := PP_succ hi
  have pX := PP_succ hj
  have sY := PP_step Y i
  have sX := PP_step X (j + 1)
  have hsc := sc_ge (oky _ (List.getElem_mem hi)) (okx _ (List.getElem_mem hj))
  have hr : PP Y (i + 1) - PP X (j + 1) ≤ r' ∧ PP X (j + 1) - PP Y (i + 1) ≤ r' := by
    have l2 := h.lo2 j (Nat.le_refl _) hj
    have ld := h.ld
    have lr := h.lr
    rcases er.2.2.2 with e | e | e
    · omega
    · omega
    · omega
  refine ⟨by simpa using h.len, fun k hk hk' => ?_, fun k hk hk' => ?_, ?_, ?_, fun hi' => ?_, fun hi' => ?_, fun hi' => ?_, fun _ => ?_⟩
  · by_cases e : j = k
    · subst e; rw [getD_set_eq hjr]; exact hr
    · rw [getD_set_ne e]; exact h.lo1 k (by omega) hk'
  · rw [getD_set_ne (by omega)]; exact h.lo2 k (by omega) hk'
  · rw [ed]; exact h.lo2 j (Nat.le_refl _) hj
  · omega
  · rw [getD_set_ne (by omega)]; exact h.u1 (by omega)
  · have := h.u1 (by omega)
    rw [ed]
    have e : i - 1 = j := by omega
    rw [e] at this; exact this
  · by_cases e : i = j
    · subst e
      rw [getD_set_eq hjr]
      have := h.u2 rfl
      have e2 := HH_succ hl hj hi
      omega
    · have := h.u3 (by omega)
      rw [getD_set_ne (by omega)]; omega
  · rw [Nat.add_sub_cancel, getD_set_eq hjr]

theorem INN.end_ {X Y : List Nat} {i : Nat} {d r mn : Int} {row : List Int} (h : INN X Y i X.length d r mn row) (hi : i < X.length) : OUT X Y (i + 1) row ∧ mn ≤ HH X Y (i + 1) ∧ r = row.getD (X.length - 1) 0 := by
  refine ⟨⟨h.len, fun k hk => h.lo1 k hk hk, fun _ => ?_⟩, (h.u3 hi).2, h.rr (by omega)⟩
  rw [Nat.add_sub_cancel]; exact (h.u3 hi).1
theorem OUT.start {X Y : List Nat} {row : List Int} (hlen : row.length = X.length) (h : ∀ k, k < X.length → row.getD k 0 = 2 + 2 * (k : Int)) : OUT X Y 0 row := by
  refine ⟨hlen, fun k hk => ?_, fun h0 => absurd h0 (Nat.lt_irrefl _)⟩
  rw [h k hk, PP_zero]
  have := PP_bd X (k + 1)
  omega
theorem OUT.done {X Y : List Nat} {D : Int} {row : List Int} (hR : RL X Y D) (h0 : 0 < X.length) (h : OUT X Y X.length row) : row.getD (X.length - 1) 0 = D := by
  have l := h.lo (X.length - 1) (by omega)
  have u := h.up h0
  have e1 : X.length - 1 + 1 = X.length := by omega
  have e2 : PP X X.length = phiL X := by unfold PP; rw [List.take_of_length_le (Nat.le_refl _)]
  have e3 : PP Y X.length = phiL Y := by unfold PP; rw [List.take_of_length_le (by rw [hR.len]; exact Nat.le_refl _)]
  have e4 : HH X Y X.length = D := by
    unfold HH; rw [List.take_of_length_le (Nat.le_refl _), List.take_of_length_le (by rw [hR.len]; exact Nat.le_refl _)]; exact hR.ham
  rw [e1, e2, e3] at l
  rw [e4] at u
  have := hR.ph
  omega
theorem HH_le {X Y : List Nat} {D : Int} (hR : RL X Y D) {i : Nat} (hi : i ≤ X.length) : HH X Y i ≤ D := by
  have := HH_mono hR.len i (X.length - i)
  have e1 : i + (X.length - i) = X.length := by omega
  rw [e1] at this
  have e4 : HH X Y X.length = D := by
    unfold HH; rw [List.take_of_length_le (Nat.le_refl _), List.take_of_length_le (by rw [hR.len]; exact Nat.le_refl _)]; exact hR.ham
  omega
end Mine
end
section
open PySem PySem.W PyProof.Rows PySem.Builtin PySem.Builtin.Str
namespace Mine
theorem cut_from {x : Str} {k : Int} (h0 : 0 ≤ k) (h1 : k ≤ x.length) : (Txt.slice x (some k) none).cps.toList = x.cps.toList.drop k.toNat := by
  rw [slice_from_eq h0 h1 rfl]
  simp only [List.toList_toArray]
  apply List.take_of_length_le
  rw [List.length_drop, Array.length_toList]
  have : x.cps.size = x.length := rfl
  omega
theorem cut_len {x : Str} {k : Int} (h0 : 0 ≤ k) (h1 : k ≤ x.length) : ((Txt.slice x (some k) none).length : Int) = x.length - k := by
  have h := congrArg List.length (cut_from h0 h1)
  rw [List.length_drop, Array.length_toList, Array.length_toList] at h
  have e1 : x.cps.size = x.length := rfl
  have e2 : (Txt.slice x (some k) none).cps.size = (Txt.slice x (some k) none).length := rfl
  omega
theorem neg_indices {n : Nat} {j : Int} (hj : j < 0) (h : 0 ≤ j + n) : strSliceIndices none (some j) 1 n = strSliceIndices none (some (j + n)) 1 n := by
  have h1 : ¬ (j + n < 0) := by omega
  have h2 : (1 : Int) > 0 := by decide
  simp only [strSliceIndices, hj, h1, h2, if_false, if_true]
theorem cut_to {x : Str} {j : Int} (hj : j < 0) (h : 0 ≤ j + x.length) : (Txt.slice x none (some j)).cps.toList = x.cps.toList.take (j + x.length).toNat := by
  have e : Txt.slice x none (some j) = Txt.slice x none (some (j + x.length)) := by
    unfold Txt.slice
    rw [neg_indices hj h]
  have e1 : x.cps.toList.length = x.length := by rw [Array.length_toList]; rfl
  rw [e, beq_iff_eq.mp (slice_closes_to (x := x) (j := j + x.length) ⟨h, by omega⟩)]
  simp
theorem cut_to_len {x : Str} {j : Int} (hj : j < 0) (h : 0 ≤ j + x.length) : ((Txt.slice x none (some j)).length : Int) = j + x.length := by
  have h' := congrArg List.length (cut_to hj h)
  rw [List.length_take, Array.length_toList, Array.length_toList] at h'
  have e1 : x.cps.size = x.length := rfl
  have e2 : (Txt.slice x none (some j)).cps.size = (Txt.slice x none (some j)).length := rfl
  omega
theorem item_pos {x : Str} {i : Int} (h0 : 0 ≤ i) (h1 : i < x.length) : Txt.item x i = chr1 (x.cps.toList.getD i.toNat 0) := by
  rw [item_meets ⟨h0, h1⟩]
  simp [chr1, List.getD_eq_getElem?_getD, Array.getD_eq_getD_getElem?]
theorem item_neg {x : Str} {i : Int} (h0 : i < 0) (h1 : -(x.length : Int) ≤ i) : Txt.item x i = chr1 (x.cps.toList.getD (i + x.length).toNat 0) := by
  have : Txt.item x i = Txt.item x (i + x.length) := by
    have h2 : ¬ (i + (x.length : Int) < 0) := by omega
    simp only [Txt.item, Txt.charAt, seqIndex?, h0, h2, if_true, if_false]
  rw [this, item_pos (by omega) (by omega)]
theorem chr1_inj {x y : Nat} (h : (chr1 x == chr1 y) = true) : x = y := by
  rw [chr1_beq] at h; exact of_decide_eq_true h
theorem getD_getElem {l : List Nat} {k : Nat} (h : k < l.length) : l.getD k 0 = l[k] := by
  simp [List.getD_eq_getElem?_getD, h]

abbrev cpl (x : Str) : List Nat := x.cps.toList
theorem cpl_len (x : Str) : (cpl x).length = x.length := by rw [Array.length_toList]; rfl
def P1 (a b : Str) (D : Int) (k : Int) : Prop := 0 ≤ k ∧ k ≤ (a.length : Int) ∧ RL ((cpl a).drop k.toNat) ((cpl b).drop k.toNat) D
def SL (x : Str) (k : Int) : Str := Txt.slice x (some k) none
def P2 (a b : Str) (D : Int) (q : Int) : Prop := q ≤ 0 ∧ -(a.length : Int) ≤ q ∧ RL ((cpl a).take (q + a.length).toNat) ((cpl b).take (q + b.length).toNat) D
theorem P1.start {a b : Str} {D : Int} (h : RL (cpl a) (cpl b) D) : P1 a b D 0 := ⟨Int.le_refl _, by omega, by simpa using h⟩
theorem P1.lt {a b : Str} {D k : Int} (hab : a.length = b.length) (h : P1 a b D k) (e : (((Txt.slice a (some k) none).length : Int) != 0) = true) : k < a.length ∧ k < b.length := by
  have := cut_len h.1 h.2.1
  have e' : ((Txt.slice a (some k) none).length : Int) ≠ 0 := by simpa using e
  have := h.2.1
  omega
theorem P1.turn {a b : Str} {D k : Int} (hab : a.length = b.length) (h : P1 a b D k) (e : (((Txt.slice a (some k) none).length : Int) != 0) = true) (e2 : (Txt.item a k == Txt.item b k) = true) : P1 a b D (k + 1) := by
  obtain ⟨l1, l2⟩ := h.lt hab e
  obtain ⟨h0, h1, hR⟩ := h
  rw [item_pos h0 l1, item_pos h0 l2] at e2
  have ec := chr1_inj e2
  have k1 : k.toNat < (cpl a).length := by rw [cpl_len]; omega
  have k2 : k.toNat < (cpl b).length := by rw [cpl_len]; omega
  rw [getD_getElem k1, getD_getElem k2] at ec
  refine ⟨by omega, by omega, ?_⟩
  have e3 : (k + 1).toNat = k.toNat + 1 := by omega
  rw [e3]
  exact RL.drop hR k1 k2 ec
theorem P1.end_ {a b : Str} {D k : Int} (hab : a.length = b.length) (h : P1 a b D k) : RL (cpl (Txt.slice a (some k) none)) (cpl (Txt.slice b (some k) none)) D := by
  unfold cpl
  rw [cut_from h.1 h.2.1, cut_from h.1 (by rw [← hab]; exact h.2.1)]
  exact h.2.2
theorem RL.lenS {a b : Str} {D : Int} (h : RL (cpl a) (cpl b) D) : a.length = b.length := by rw [← cpl_len, ← cpl_len]; exact h.len
theorem RL.leS {a b : Str} {D : Int} (h : RL (cpl a) (cpl b) D) : a.length ≤ 40 := by rw [← cpl_len]; exact h.le
theorem P2.start {a b : Str} {D : Int} (h : RL (cpl a) (cpl b) D) : P2 a b D 0 := by
  refine ⟨Int.le_refl _, by omega, ?_⟩
  have e1 : ((0 : Int) + a.length).toNat = (cpl a).length := by rw [cpl_len]; omega
  have e2 : ((0 : Int) + b.length).toNat = (cpl b).length := by rw [cpl_len]; omega
  rw [e1, e2, List.take_length, List.take_length]; exact h
/-- what a cut behind holds -/
def QS (x : Str) (q : Int) : Str := if q = 0 then x else Txt.slice x none (some q)
theorem QS_nz {x : Str} {q : Int} (h : (q != 0) = true) : QS x q = Txt.slice x none (some q) := by
  unfold QS; rw [if_neg (by simpa using h)]
theorem QS_z {x : Str} {q : Int} (h : (q != 0) = false) : QS x q = x := by
  unfold QS; rw [if_pos (by simpa using h)]
theorem QS_n {x : Str} {q : Int} (h : q ≠ 0) : QS x q = Txt.slice x none (some q) := if_neg h
theorem QS_0 {x : Str} : QS x 0 = x := if_pos rfl
theorem QS_slice {x : Str} {q : Int} : (q = 0 ∧ QS x q = Txt.slice x none none) ∨ True := .inr trivial
theorem QS_len {x : Str} {q : Int} (h0 : q ≤ 0) (h1 : -(x.length : Int) ≤ q) : ((QS x q).length : Int) = q + x.length := by
  by_cases e : q = 0
  · subst e; rw [QS_0]; omega
  · rw [QS_n e]; exact cut_to_len (by omega) (by omega)
theorem QS_list {x : Str} {q : Int} (h0 : q ≤ 0) (h1 : -(x.length : Int) ≤ q) : cpl (QS x q) = (cpl x).take (q + x.length).toNat := by
  by_cases e : q = 0
  · subst e; rw [QS_0]
    have e1 : ((0 : Int) + x.length).toNat = (cpl x).length := by rw [cpl_len]; omega
    rw [e1, List.take_length]
  · rw [QS_n e]; exact cut_to (by omega) (by omega)
theorem P2.lt {a b : Str} {D q : Int} (hab : a.length = b.length) (h : P2 a b D q) (e : (((QS a q).length : Int) != 0) = true) : -(a.length : Int) ≤ q - 1 ∧ -(b.length : Int) ≤ q - 1 := by
  have := QS_len h.1 h.2.1
  have e' : ((QS a q).length : Int) ≠ 0 := by simpa using e
  have := h.2.1
  omega
theorem P2.turn {a b : Str} {D q : Int} (hab : a.length = b.length) (h : P2 a b D q) (e : (((QS a q).length : Int) != 0) = true) (e2 : (Txt.item a (q - 1) == Txt.item b (q - 1)) = true) : P2 a b D (q - 1) := by
  obtain ⟨l1, l2⟩ := h.lt hab e
  obtain ⟨h0, h1, hR⟩ := h
  rw [item_neg (by omega) l1, item_neg (by omega) l2] at e2
  have ec := chr1_inj e2
  rw [← hab] at ec
  have k1 : (q - 1 + a.length).toNat < (cpl a).length := by rw [cpl_len]; omega
  have k2 : (q - 1 + a.length).toNat < (cpl b).length := by rw [cpl_len]; omega
  rw [getD_getElem k1, getD_getElem k2] at ec
  refine ⟨by omega, by omega, ?_⟩
  have e3 : (q + a.length).toNat = (q - 1 + a.length).toNat + 1 := by omega
  rw [← hab, e3] at hR
  rw [← hab]
  exact RL.take hR k1 k2 ec
theorem P2.end_ {a b : Str} {D q : Int} (hab : a.length = b.length) (h : P2 a b D q) : RL (cpl (QS a q)) (cpl (QS b q)) D := by
  rw [QS_list h.1 h.2.1, QS_list h.1 (by rw [← hab]; exact h.2.1)]
  exact h.2.2
theorem slice_all {x : Str} : Txt.slice x none none = x := by
  unfold Txt.slice
  rw [if_pos]
  simp [strSliceIndices, sliceRange]
  split <;> omega

theorem QS_sl0 {x : Str} {q : Int} (h : (q != 0) = false) : Txt.slice x none none = QS x q := by rw [QS_z h, slice_all]
theorem QS_le {x : Str} {q : Int} (h : x.length ≤ 40) : (QS x q).length ≤ 40 := by
  unfold QS; split
  · exact h
  · exact Nat.le_trans (PyProof.Txt.length_slice_le x _ _) h
section
open PySem.Calls PySem.Spec PyProof.V
variable {prog : Program} {w : World} {A : Around} {E : Value → Shared → Prop} {s : Shared} {h₀ : Heap} {L : Addr} {m : Str → Option Value} {news : List (Addr × Obj)} {value : PySem.Expr} {x : Str} {t : Tok} {Q : Value → Shared → Prop}
def row2 (n : Nat) : List Int := (List.range n).map fun (i : Nat) => (2 : Int) + 2 * (i : Int)
theorem row2_len (n : Nat) : (row2 n).length = n := by simp [row2]
theorem row2_at {n k : Nat} (h : k < n) : (row2 n).getD k 0 = 2 + 2 * (k : Int) := by
  simp [row2, List.getD_eq_getElem?_getD, h]
theorem ints2 : ∀ (vs : List Value) (a : Int) (n : Nat), vs.length = n → (∀ (j : Nat) (v : Value), vs[j]? = some v → ∃ t, v = .int (a + j * 2) t) → IntsAre vs ((List.range n).map fun (i : Nat) => a + 2 * (i : Int))
  | [], a, n, e, _ => by subst e; exact IntsAre.nil
  | v :: r, a, n, e, h => by
    subst e
    obtain ⟨t, ht⟩ := h 0 v rfl
    have hv : v = .int a t := by rw [ht]; simp
    subst hv
    have ih := ints2 r (a + 2) r.length rfl fun j v hj => by
      obtain ⟨t', ht'⟩ := h (j + 1) v hj
      refine ⟨t', ht'.trans ?_⟩
      congr 1
      omega
    have e2 : (List.range (r.length + 1)).map (fun (i : Nat) => a + 2 * (i : Int)) = a :: (List.range r.length).map (fun (i : Nat) => a + 2 + 2 * (i : Int)) := by
      rw [List.range_succ_eq_map, List.map_cons, List.map_map]
      congr 1
      · simp
      · apply List.map_congr_left
        intro i _
        simp only [Function.comp]
        omega
    rw [List.length_cons, e2]
    exact IntsAre.cons _ _ ih
theorem small_two {n : Nat} (h : n ≤ 1000) : Builtin.Range.small 2 (2 * ((n : Int) + 1)) 2 = true ∧ Builtin.Range.rangeSize 2 (2 * ((n : Int) + 1)) 2 = (n : Int) := by
  have e : Builtin.Range.rangeSize 2 (2 * ((n : Int) + 1)) 2 = (n : Int) := by
    unfold Builtin.Range.rangeSize
    split
    · split <;> omega
    · omega
  refine ⟨?_, e⟩
  unfold Builtin.Range.small
  rw [e]
  have f : ∀ i : Int, -1000000 ≤ i → i ≤ 1000000 → Builtin.Range.rangeFitsLong i = true := fun i h1 h2 => by
    unfold Builtin.Range.rangeFitsLong
    rw [Bool.and_eq_true, decide_eq_true_eq, decide_eq_true_eq]
    omega
  rw [f 2 (by omega) (by omega), f (2 * ((n : Int) + 1)) (by omega) (by omega), f (n : Int) (by omega) (by omega), if_pos (by decide), f (2 * ((n : Int) + 1) + (2 - 1)) (by omega) (by omega)]
  simp
theorem list_two {r : Addr} {t₀ u₀ v₀ : Tok} {n : Nat} {b : Int} (hh : A.handled = none) (F : Fr h₀ L s.heap m) (N : News h₀ L s.heap news) (hr : IsRange s.heap r 2 b 2 t₀ u₀ v₀) (hb : b = 2 * ((n : Int) + 1)) (hz : n ≤ 1000)
    (h : ∀ D us c h' tk, Fr h₀ L h' m → News h₀ L h' ((D, listOf (List.toArray us) c) :: news) → (∀ p ∈ news, p.1 < D) → IntsAre us (row2 n) → Q (.ref D) { s with heap := h', toks := tk }) :
    wpAny (model prog w) A (call (.type "list") [.ref r]) Q E s := by
  subst hb
  refine call_list_range hh hr (small_two hz).1 (small_two hz).2 (by omega) fun h' tk acc c hk hD hI => ?_
  have hD' : h'.get? s.heap.objs.size = some (listOf (List.toArray acc.toList) c) := by
    rw [Array.toArray_toList]
    exact hD
  exact h _ acc.toList c h' tk (F.keeps hk) (news_pushed F N hk hD' rfl) (fun p hp => Heap.lt_size (N p hp).1) (ints2 _ _ _ (by rw [Array.length_toList]; exact hI.1) fun j v hj => hI.2 j v (by rw [← hj, Array.getElem?_toList]))
end
section
variable {X Y : List Nat} {D d r mn : Int} {row pre : List Int} {k : Int} {n m : Nat}
theorem st_outer0 {z : Int} (hn : n = X.length) : OUT X Y ([] : List Int).length (row2 n) ∧ (0 < ([] : List Int).length → r = z) :=
  ⟨OUT.start (by rw [row2_len, hn]) fun k hk => row2_at (by rw [hn]; exact hk), fun h => absurd h (Nat.lt_irrefl 0)⟩
theorem st_inner0 (h : OUT X Y pre.length row) (e : k = 0 + (pre.length : Int)) : INN X Y k.toNat ([] : List Int).length (k * 2) (k * 2) mn row := by
  have e1 : k.toNat = pre.length := by omega
  have e2 : k * 2 = 2 * (pre.length : Int) := by omega
  rw [e1, e2]
  exact INN.start h
theorem st_outer1 (h : INN X Y k.toNat (rangeKs 0 n).length d r mn row) (hn : n = X.length) (e : k = 0 + (pre.length : Int)) (hlt : pre.length < X.length) (hm : m = X.length) :
    OUT X Y (pre ++ [k]).length row ∧ (0 < (pre ++ [k]).length → r = row.getD (m - 1) 0) := by
  have e1 : k.toNat = pre.length := by omega
  rw [rangeKs_length, hn, e1] at h
  obtain ⟨h1, _, h3⟩ := h.end_ hlt
  rw [hm]
  exact ⟨by rw [List.length_append]; exact h1, fun _ => h3⟩
theorem st_prune (hR : RL X Y D) (h : INN X Y k.toNat (rangeKs 0 n).length d r mn row) (hn : n = X.length) (e : k = 0 + (pre.length : Int)) (hlt : pre.length < X.length) : mn ≤ D := by
  have e1 : k.toNat = pre.length := by omega
  rw [rangeKs_length, hn, e1] at h
  exact Int.le_trans (h.end_ hlt).2.1 (HH_le hR hlt)
theorem st_done (hR : RL X Y D) (h : OUT X Y (rangeKs 0 n).length row ∧ (0 < (rangeKs 0 n).length → r = row.getD (m - 1) 0)) (hn : n = X.length) (hm : m = X.length) (h0 : 0 < X.length) : r = D := by
  rw [rangeKs_length, hn, hm] at h
  rw [h.2 h0]
  exact OUT.done hR h0 h.1
end
theorem RL.self {X : List Nat} {D : Int} (h : RL X X D) : D = 0 := by
  have := h.ph; omega
theorem RL.nil {X Y : List Nat} {D : Int} (h : RL X Y D) (h0 : X.length = 0) : D = 0 := by
  have h1 : X = [] := List.length_eq_zero_iff.mp h0
  have h2 : Y = [] := List.length_eq_zero_iff.mp (by rw [← h.len]; exact h0)
  subst h1 h2
  have := h.ham; simp [hamL] at this; exact this.symm
theorem st_inner1 {a b : Str} {D d r mn mn' rr bi k : Int} {row pre pre0 : List Int} (hRX : RL (cpl a) (cpl b) D) (h : INN (cpl a) (cpl b) bi.toNat pre.length d r mn row) (e : k = 0 + (pre.length : Int)) (hlt : pre.length < ((a.length : Int) - 0).toNat)
    (hbi : bi = 0 + (pre0.length : Int)) (hbl : pre0.length < ((b.length : Int) - 0).toNat)
    (hr : rr = if d + scs (Txt.item b bi) (Txt.item a k) < (if row.getD k.toNat 0 < r then row.getD k.toNat 0 else r) + 2 then d + scs (Txt.item b bi) (Txt.item a k) else (if row.getD k.toNat 0 < r then row.getD k.toNat 0 else r) + 2)
    (hm : mn' ≤ rr ∧ mn' ≤ mn) : INN (cpl a) (cpl b) bi.toNat (pre ++ [k]).length (row.getD k.toNat 0) rr mn' (row.set k.toNat rr) := by
  have ek : k.toNat = pre.length := by rw [e, Int.zero_add, Int.toNat_natCast]
  have eb : bi.toNat = pre0.length := by rw [hbi, Int.zero_add, Int.toNat_natCast]
  have l1 : pre.length < (cpl a).length := by rw [cpl_len]; clear hr hm h hRX hbi hbl e ek eb; omega
  have l2 : bi.toNat < (cpl b).length := by rw [cpl_len, eb]; clear hr hm h hRX hlt l1 hbi e ek eb; omega
  have p1 : 0 ≤ k := by rw [e, Int.zero_add]; exact Int.natCast_nonneg _
  have p2 : 0 ≤ bi := by rw [hbi, Int.zero_add]; exact Int.natCast_nonneg _
  have p3 : k < (a.length : Int) := by clear hr hm h hRX hbi hbl ek eb l1 l2 p2; omega
  have p4 : bi < (b.length : Int) := by clear hr hm h hRX hlt e ek eb l1 l2 p1 p3; omega
  rw [item_pos (x := b) (i := bi) p2 p4, item_pos (x := a) (i := k) p1 p3, ek] at hr
  have s1 : scs (chr1 ((cpl b).getD bi.toNat 0)) (chr1 ((cpl a).getD pre.length 0)) = sc (cpl b)[bi.toNat] (cpl a)[pre.length] := by
    rw [getD_getElem l1, getD_getElem l2]; rfl
  rw [show b.cps.toList = cpl b from rfl, show a.cps.toList = cpl a from rfl, s1] at hr
  rw [ek, List.length_append]
  refine INN.turn hRX.okx hRX.oky hRX.len h l1 l2 rfl ?_ hm
  generalize sc (cpl b)[bi.toNat] (cpl a)[pre.length] = z at hr ⊢
  generalize row.getD pre.length 0 = y at hr ⊢
  clear hm hlt hbl hbi e ek eb p1 p2 p3 p4 hRX h s1
  by_cases c1 : y < r
  · rw [if_pos c1] at hr
    by_cases c2 : d + z < y + 2
    · rw [if_pos c2] at hr; omega
    · rw [if_neg c2] at hr; omega
  · rw [if_neg c1] at hr
    by_cases c2 : d + z < r + 2
    · rw [if_pos c2] at hr; omega
    · rw [if_neg c2] at hr; omega
theorem mn_lt {x y : Int} (h : x < y) : x ≤ x ∧ x ≤ y := by omega
theorem mn_ge {x y : Int} (h : ¬ x < y) : y ≤ x ∧ y ≤ y := by omega
end Mine
end
section
open PySem PySem.W PyProof.Rows
namespace Mine
set_option maxRecDepth 100000 in
set_option maxHeartbeats 4000000 in
theorem sub_c {w : World} {news : List (Addr × Obj)} (x y : Str) (tx ty : Tok) (hx : x.length = 1) (hy : y.length = 1) : Cl 1 8 w 28 news [.str x tx, .str y ty] (fun tk => .int (scs x y) tk) := by
  w_strict (
  k_with_none
  dsimp only [Cl]
  k_fill
  intros; rename_i hret
  have cbI : CbIn 28 := CbIn.mk
  refine wpAny_call ?_
  k_dflt cell_enter
  k_steps
  all_goals (refine cb_retI hret ?_ (by assumption) (by assumption))
  all_goals (simp only [scs, *]; simp))
end Mine
end
section
open PySem PySem.W PyProof.Rows
namespace Mine
theorem sz40 {x : Str} (h : x.length ≤ 40) : x.length ≤ sizeLine := Nat.le_trans h (by decide)
theorem sl40 {x : Str} {l u : Option Int} (h : x.length ≤ 40) : (Txt.slice x l u).length ≤ 40 := Nat.le_trans (PyProof.Txt.length_slice_le x l u) h
theorem sz63 {x : Str} (h : x.length ≤ 40) : ¬ (x.length : Int) ≥ 2 ^ 63 := by omega
section
open PySem.Calls PySem.Spec
variable {prog : Program} {w : World} {A : Around} {E : Value → Shared → Prop} {s : Shared} {h₀ : Heap} {L : Addr} {m : Str → Option Value} {news : List (Addr × Obj)} {value : PySem.Expr} {x : Str} {t : Tok} {Q : Value → Shared → Prop}
theorem item40 {slice : PySem.Expr} {i : Int} {u : Tok} (hx : x.length ≤ 40) (h1 : -(x.length : Int) ≤ i) (h2 : i < x.length)
    (h : (Txt.item x i).length = 1 → Q (.str (Txt.item x i) s.toks) { s with toks := s.toks + 1 })
    (hs : subscripted slice false (.str x t) (.int i u) = operate [.str x t, .int i u] (getItem (.str x t) (.int i u)) := by with_unfolding_all rfl)
    (ht : ∀ r, letTemporaryGo value (.str x t) r = pure () := by intro _; with_unfolding_all rfl) :
    wpAny (model prog w) A (subscriptTail value slice (.str x t) (.int i u)) Q E s :=
  item_str (fitsSsize_of (N := 9223372036854775808) (by omega) (by omega) (Int.le_refl _)) h1 h2 (fun e => h (by omega)) hs ht
end
local macro_rules | `(tactic| walk_at "subscriptTail Name Slice str ref") => `(tactic| (k_here; (with_reducible rename Fr _ _ _ _ => F'); (with_reducible rename News _ _ _ _ => N'); first
  | ((with_reducible show wpAny _ _ (subscriptTail _ (Expr.Slice (some _) none none _) (Value.str _ _) _) _ _ _); (refine slice_strN_sn (hsz := ?hsz) (s := ⟨_, _, _, _, _⟩) F' N' ?_); (case hsz => refine sz40 ?_; k_extra "s40"); intro _ _ _ _ _)
  | ((with_reducible show wpAny _ _ (subscriptTail _ (Expr.Slice none (some _) none _) (Value.str _ _) _) _ _ _); first
     | ((refine slice_strN_ns (hsz := ?hsz) (s := ⟨_, _, _, _, _⟩) F' N' ?_); (case hsz => refine sz40 ?_; k_extra "s40"); (rw [← QS_nz (by with_reducible assumption)]); intro _ _ _ _ _)
     | ((refine slice_strN_nn (hsz := ?hsz) (s := ⟨_, _, _, _, _⟩) F' N' ?_); (case hsz => refine sz40 ?_; k_extra "s40"); (rw [QS_sl0 (by with_reducible assumption)]); intro _ _ _ _ _))))
local macro_rules | `(tactic| walk_at "ite") => `(tactic| (k_openite; first | (with_reducible refine ite_tt ?_) | (with_reducible refine ite_ff ?_) | (refine ite_neg (by k_extra "prune") ?_) | (refine split_dec ?_ ?_ <;> intro _) | (refine split_bool ?_ ?_ <;> intro _)))
local macro_rules | `(tactic| walk_at "truthy str") => `(tactic| ((with_reducible show wpAny _ _ (PySem.truthy (Value.str _ _)) _ _ _); (refine P.truthy_str (sz63 (by k_extra "s40")) ?_)))
local macro_rules | `(tactic| walk_at "subscriptTail Name Name str int") => `(tactic| ((refine item40 ?i40 ?ilo ?ihi ?_); (case i40 => k_extra "s40"); (case ilo => k_extra "lo"); (case ihi => k_extra "hi"); intro _))
local macro_rules | `(tactic| walk_at "subscriptTail Name BinOp str int") => `(tactic| ((refine item40 ?i40 ?ilo ?ihi ?_); (case i40 => k_extra "s40"); (case ilo => k_extra "lo"); (case ihi => k_extra "hi"); intro _))
local macro_rules | `(tactic| walk_at "call type:list") => `(tactic| (k_here; (with_reducible show wpAny _ _ (call (Value.type _) [Value.ref _]) _ _ _); (rename IsRange _ _ _ _ _ _ _ _ => rgX); (with_unfolding_all refine' list_two ?k0 ?k1 ?k2 rgX ?k3 ?k4 ?_); (case k0 => rfl); (case k1 => k_asm); (case k2 => k_asm); (case k3 => with_reducible rfl); (case k4 => k_extra "size"); (intro D' vs' c' h' tk' F' N' l1 hI'; (try k_lt l1); (try k_sweep))))
local macro_rules | `(tactic| walk_at "subscriptTail Name Name ref int") => `(tactic| (k_here; (with_reducible show wpAny _ _ (subscriptTail _ _ (Value.ref _) (Value.int _ _)) _ _ _); k_dflt (refine' ksa_sub ?k1 ?k2 ?k3 ?k4 ?k5 ?k6 ?_ ?k7; (case k1 => k_asm); (case k2 => k_mem); (case k3 => with_reducible assumption); (case k4 => k_extra "idx"); (case k5 => k_extra "idx"); (case k6 => k_extra "idx"); (case k7 => with_unfolding_all rfl); k_whole); intro _))
local macro_rules | `(tactic| walk_at "setItem ref int") => `(tactic| (k_here; (with_reducible show wpAny _ _ (setItem (Value.ref _) (Value.int _ _) (Value.int _ _)) _ _ _); k_dflt (refine' ksa_set ?k1 ?k2 ?k3 ?k4 ?k5 ?k6 ?k7 ?_; (case k1 => k_asm); (case k2 => k_asm); (case k3 => k_upd); (case k4 => with_reducible assumption); (case k5 => k_extra "idx"); (case k6 => k_extra "idx"); (case k7 => k_extra "idx"); k_whole); intro h' F' N' hi' hl' hs'; (try k_sweep)))
local macro_rules | `(tactic| walk_at "InvEndN") => `(tactic| (k_dflt ((rename News _ _ _ _ => nE'); (try simp only [List.push_toArray] at nE'); first | (refine kst_end ⟨_, _, _, _, _, _, _, _, _⟩ (by assumption) nE' (by first | (dsimp only; refine List.forall_mem_cons.mpr ⟨List.Mem.head _, ?_⟩; intro p9 h9; refine List.Mem.tail _ ?_; first | exact h9 | exact List.mem_append_left _ h9) | kst_in | kst_inAny) (by first | (intro p hp; kst_mem) | kst_anyIn) (by rfl) (by kst_facts) (by kst_all) (by kst_same) (by kst_p)) | (refine kst_end ⟨_, _, _, _, _⟩ (by assumption) nE' (by first | (dsimp only; refine List.forall_mem_cons.mpr ⟨List.Mem.head _, ?_⟩; intro p9 h9; refine List.Mem.tail _ ?_; first | exact h9 | exact List.mem_append_left _ h9) | kst_in | kst_inAny) (by first | (intro p hp; kst_mem) | kst_anyIn) (by rfl) (by kst_facts) (by kst_all) (by kst_same) (by kst_p)))))
local macro_rules | `(tactic| walk_at "call ref") => `(tactic| (k_here; (with_reducible show wpAny _ _ (PySem.call (Value.ref 28) _) _ _ _); (with_unfolding_all refine' sub_c _ _ _ _ ?hx ?hy _ _ _ _ _ _ _ _ _ _ _ _ _ _ _ _ _ _ _ _ ?k1 ?k2 ?k3 ?k4 ?k5 ?kK ?kd ?ku ?kR); (case hx => first | assumption | omega); (case hy => first | assumption | omega); (case k1 => k_asm); (case k2 => k_asm); (case k3 => k_asm); (case k4 => k_asm); (case k5 => k_asm); (case kK => first | exact rfl | assumption); (case kd => ktr_room); (case ku => ktr_units); intro t9 h9 tk9 F9 N9; (try dsimp only); (try k_fold)))
set_option maxRecDepth 100000 in
set_option maxHeartbeats 8000000 in
theorem lev_c {w : World} {news : List (Addr × Obj)} (a b : Str) (c : Int) (ta tb tc : Tok) (D : Int) (hRL : RL (cpl a) (cpl b) D) (hc : D ≤ c) : Cl 4 60 w 35 news [.str a ta, .str b tb, .int c tc] (fun tk => .int D tk) := by
  have ha : a.length ≤ 40 := hRL.leS
  have hab : a.length = b.length := hRL.lenS
  have hb : b.length ≤ 40 := hab ▸ ha
  w_strict (
  k_with_none
  k_with "s40" => repeat' (first | with_reducible assumption | with_reducible refine sl40 ?_ | with_reducible refine QS_le ?_)
  k_with "lo" => first | (have q1 := (P2.lt (P1.end_ hab hP1).lenS hP2 (by with_reducible assumption)); with_reducible first | exact q1.1 | exact q1.2) | (have q1 := hP1.1; omega)
  k_with "hi" => first | (have q1 := hP2.1; omega) | (have q1 := (P1.lt hab hP1 (by with_reducible assumption)); with_reducible first | exact q1.1 | exact q1.2) | omega
  k_with "size" => with_reducible omega
  k_with "idx" => ((have q1 := INN.len kInv); rw [cpl_len] at q1; with_reducible omega)
  k_with "WPost" => ((rename Fr _ _ _ _ => lF'); (rename News _ _ _ _ => lN'); (with_unfolding_all refine WPost.intro (k' := k1 + 1) lF' lN' rfl ?_ ?_ ?_); ((intro z hz; simp only [hz, if_false])); (exact P1.turn hab hP1 (by with_reducible assumption) (by with_reducible assumption)); (have q1 := P1.lt hab hP1 (by with_reducible assumption); have q2 := hP1.1; with_reducible omega))
  k_with "WPost" => ((rename Fr _ _ _ _ => lF'); (rename News _ _ _ _ => lN'); (with_unfolding_all refine WPost.intro (k' := k2 - 1) lF' lN' rfl ?_ ?_ ?_); ((intro z hz; simp only [hz, if_false])); (exact P2.turn (P1.end_ hab hP1).lenS hP2 (by with_reducible assumption) (by with_reducible assumption)); (have q1 := P2.lt (P1.end_ hab hP1).lenS hP2 (by with_reducible assumption); have q2 := hP2.1; with_reducible omega))
  k_with "WDone" => (with_unfolding_all refine WDone.intro (by assumption) (by assumption) (by rfl) (by intro z hz; simp only [hz, if_false]) (by with_reducible assumption))
  k_with "SEnd" => (with_unfolding_all refine SEnd.intro (by assumption) (by assumption) (by rfl) (by intro z hz; simp only [hz, if_false]) ⟨_, rfl⟩)
  k_with "exec Assign" => (k_here; (fail_if_success (rename CutMark => hCut)); (with_reducible show wpAny _ _ (exec (PySem.Stmt.Assign [PySem.Expr.Name (PySem.Str.ofString "a") _] (PySem.Expr.Subscript _ (PySem.Expr.Slice none (some (PySem.Expr.BoolOp _ _ _)) none _) _) _) _) _ _ _); ((rename Fr _ _ _ _ => lF'); (rename News _ _ _ _ => lN'); (with_unfolding_all refine' cut_one (x := PySem.Str.ofString "a") (fun v => ∃ t, v = Value.str (QS (Txt.slice a (some k1) none) k2) t) lF' lN' ?_ ?_); rotate_left; (clear lF' lN'; intro v9 h9 tk9 hV9 F9' N9'; obtain ⟨t9, rfl⟩ := hV9); rotate_right; (intro hCutM; (try k_fold))))
  k_with "exec Assign" => (k_here; (fail_if_success (rename CutMark => hCut)); (with_reducible show wpAny _ _ (exec (PySem.Stmt.Assign [PySem.Expr.Name (PySem.Str.ofString "b") _] (PySem.Expr.Subscript _ (PySem.Expr.Slice none (some (PySem.Expr.BoolOp _ _ _)) none _) _) _) _) _ _ _); ((rename Fr _ _ _ _ => lF'); (rename News _ _ _ _ => lN'); (with_unfolding_all refine' cut_one (x := PySem.Str.ofString "b") (fun v => ∃ t, v = Value.str (QS (Txt.slice b (some k1) none) k2) t) lF' lN' ?_ ?_); rotate_left; (clear lF' lN'; intro v9 h9 tk9 hV9 F9' N9'; obtain ⟨t9, rfl⟩ := hV9; have hRX := P2.end_ (P1.end_ hab hP1).lenS hP2; have hlX := hRX.lenS; have hmX := hRX.leS; have hD0 := hRX.nonneg); rotate_right; (intro hCutM; (try k_fold))))
  k_with "exec While BoolOp cons nil" => (k_here; (rename Fr _ _ _ _ => lF'); (rename News _ _ _ _ => lN'); (with_unfolding_all refine' while_cut (x := PySem.Str.ofString "pre") (P1 a b D) (fun k => a.length - k.toNat) lF' lN' (by rfl) ?kp ?_ ?_); (case kp => exact P1.start hRL); (all_goals (clear lF' lN'; intro k1 t1 h1 tk1 hP1 F' N'; (try k_fold))))
  k_with "exec While BoolOp cons nil" => (k_here; (rename Fr _ _ _ _ => lF'); (rename News _ _ _ _ => lN'); (with_unfolding_all refine' while_cut (x := PySem.Str.ofString "post") (P2 (Txt.slice a (some k1) none) (Txt.slice b (some k1) none) D) (fun k => (Txt.slice a (some k1) none).length - (-k).toNat) lF' lN' (by rfl) ?kp ?_ ?_); (case kp => exact P2.start (P1.end_ hab hP1)); (all_goals (clear lF' lN'; intro k2 t2 h2 tk2 hP2 F' N'; (try k_fold))))
  k_with "prune" => (simp only [decide_eq_true_eq]; omega)
  k_with "state" => exact st_inner1 hRX kInv kEq kLt (by with_reducible assumption) (by with_reducible assumption) (by with_reducible rfl) (mn_lt (by with_reducible assumption))
  k_with "state" => exact st_inner1 hRX kInv kEq kLt (by with_reducible assumption) (by with_reducible assumption) (by with_reducible rfl) (mn_ge (by with_reducible assumption))
  k_with "state" => exact st_outer0 (by rw [cpl_len])
  k_with "state" => exact st_inner0 (by with_reducible assumption) kEq
  k_with "state" => exact st_outer1 kInv (by rw [cpl_len]; omega) kEq (by rw [cpl_len]; omega) (by rw [cpl_len])
  k_with "prune" => ((have q1 := st_prune hRX kInv (by rw [cpl_len]; omega) kEq (by rw [cpl_len]; omega)); simp only [decide_eq_true_eq]; omega)
  k_with "pyIter ref" => (k_of "bindex" => k_state (fun pre r row => OUT (cpl (QS (Txt.slice a (some k1) none) k2)) (cpl (QS (Txt.slice b (some k1) none) k2)) pre.length row ∧ (0 < pre.length → r = row.getD ((QS (Txt.slice a (some k1) none) k2).length - 1) 0)) "result" "row")
  k_with "pyIter ref" => (k_of "index" => k_state_given ["bindex"] (fun bi pre d r mn row => INN (cpl (QS (Txt.slice a (some k1) none) k2)) (cpl (QS (Txt.slice b (some k1) none) k2)) bi.toNat pre.length d r mn row) "distance" "result" "minimum" "row")
  dsimp only [Cl]
  k_fill
  intros; rename_i hret
  have cbI : CbIn 35 := CbIn.mk
  refine wpAny_call ?_
  k_dflt cell_enter
  k_steps
  all_goals (refine cb_retI hret ?_ (by assumption) (by first | assumption | exact cb_drop (by assumption) (fun p hp => List.Mem.tail _ hp))))
  · have e : a = b := by simpa using (show (a == b) = true by with_reducible assumption)
    subst e; exact hRL.self.symm
  · have e : (!((QS (Txt.slice a (some k1) none) k2).length : Int) != 0) = true := by with_reducible assumption
    have e2 : (QS (Txt.slice a (some k1) none) k2).length = 0 := by simp at e; omega
    have := hRX.nil (by rw [cpl_len]; exact e2)
    omega
  · have e : (!((QS (Txt.slice b (some k1) none) k2).length : Int) != 0) = true := by with_reducible assumption
    have e2 : (QS (Txt.slice b (some k1) none) k2).length = 0 := by simp at e; omega
    have := hRX.nil (by rw [cpl_len, hlX]; exact e2)
    omega
  · have e : (!((QS (Txt.slice a (some k1) none) k2).length : Int) != 0) = false := by with_reducible assumption
    have e2 : (QS (Txt.slice a (some k1) none) k2).length ≠ 0 := by simp at e; omega
    exact st_done hRX ⟨by with_reducible assumption, by with_reducible assumption⟩ (by rw [cpl_len]; omega) (by rw [cpl_len]) (by rw [cpl_len]; omega)
end Mine
end
section
open PySem PySem.W PyProof.Rows
namespace Mine
theorem ints3_of {h₀ h : Heap} {L l : Addr} {a b c : Int} {t1 t2 t3 : Tok} {news : List (Addr × Obj)} (_ : News h₀ L h ((l, ({ cls := .type "list", data := .seq [Value.int a t1, Value.int b t2, Value.int c t3].toArray } : Obj)) :: news)) : IntsAre [Value.int a t1, Value.int b t2, Value.int c t3] [a, b, c] := .cons _ _ (.cons _ _ (.cons _ _ .nil))
theorem fm {x m : Int} (h : 0 < m) : 0 ≤ x.fmod m ∧ x.fmod m < m := ⟨Int.fmod_nonneg_of_pos x h, Int.fmod_lt_of_pos x h⟩
theorem ix2 (x : Int) : 0 ≤ x.fmod 2 ∧ x.fmod 2 < ((2 : Nat) : Int) := fm (by decide)
theorem ix8 (x : Int) : 0 ≤ x.fmod 8 ∧ x.fmod 8 < ((8 : Nat) : Int) := fm (by decide)
theorem ix4 (x : Int) : 0 ≤ (x.fmod 8).fdiv 4 ∧ (x.fmod 8).fdiv 4 < ((2 : Nat) : Int) := by
  have := fm (x := x) (m := 8) (by decide)
  rw [Int.fdiv_eq_ediv_of_nonneg _ (by decide)]; omega
theorem ixl (x y : Int) : 0 ≤ x.fmod 2 + y.fmod 2 * 2 ∧ x.fmod 2 + y.fmod 2 * 2 < ((4 : Nat) : Int) := by
  have h1 := fm (x := x) (m := 2) (by decide)
  have h2 := fm (x := y) (m := 2) (by decide)
  omega
section
open PySem.Calls PySem.Spec
variable {prog : Program} {w : World} {A : Around} {E : Value → Shared → Prop} {s : Shared} {value slice : PySem.Expr} {x : PySem.Str} {t u : Tok} {n : Nat} {i : Int} {Q : Value → Shared → Prop}
theorem itemW (hk : x.length = n) (h01 : 0 ≤ i ∧ i < (n : Int)) (hn : n ≤ 16777216) (h : (Txt.item x i).length = 1 → Q (.str (Txt.item x i) s.toks) { s with toks := s.toks + 1 })
    (hs : subscripted slice false (.str x t) (.int i u) = operate [.str x t, .int i u] (getItem (.str x t) (.int i u)) := by with_unfolding_all rfl)
    (ht : ∀ r, letTemporaryGo value (.str x t) r = pure () := by intro _; with_unfolding_all rfl) :
    wpAny (model prog w) A (subscriptTail value slice (.str x t) (.int i u)) Q E s := KXi.item hk (by omega) h01.2 hn h hs ht
theorem addW {y : PySem.Str} {k m : Nat} (hx : x.length = k) (hy : y.length = m) (hz : k + m ≤ 16777216) (h : (x ++ y).length = k + m → ∀ t' c, Q (.str (x ++ y) t') { s with toks := c }) :
    wpAny (model prog w) A (binaryOp .Add (.str x t) (.str y u)) Q E s :=
  SBL.add (fun t' c g => h (by have := g.1; have := g.2; omega) t' c) (by rw [sizeLine_eq]; omega)
end
local macro_rules | `(tactic| walk_at "subscriptTail") => `(tactic| (k_here; (with_reducible show wpAny _ _ (subscriptTail _ _ (Value.ref _) (Value.bool _)) _ _ _); (with_reducible rename News _ _ _ _ => N'); (k_dflt (first | refine tail_boolT (two_list N') (by decide) ?_ | refine tail_boolF (two_list N') (by decide) ?_))))
local macro_rules | `(tactic| walk_at "binaryOp Add str str") => `(tactic| ((refine addW (by with_reducible assumption) (by with_reducible assumption) (by decide) ?_); intro _ _ _))
local macro_rules | `(tactic| walk_at "inplaceOp Add str str") => `(tactic| ((refine SBL.iadd (hsz := ?hsz) ?_); (case hsz => k_extra "isz"); intro _ _ _))
local macro_rules | `(tactic| walk_at "subscriptTail") => `(tactic| (k_here; (with_reducible show wpAny _ _ (subscriptTail _ _ (Value.str _ _) (Value.int _ _)) _ _ _); (refine itemW (by kxi_len) (by with_reducible first | exact ix2 _ | exact ix8 _ | exact ix4 _ | exact ixl _ _) (by decide) ?_); intro kxiE))
theorem ite_posQ {Q : Value → Shared → Prop} {b : Bool} {x y : Value} {s : Shared} (hb : b = true) (h : Q x s) : Q (if b then x else y) s := by rw [hb]; exact h
theorem ite_negQ {Q : Value → Shared → Prop} {b : Bool} {x y : Value} {s : Shared} (hb : b = false) (h : Q y s) : Q (if b then x else y) s := by rw [hb]; exact h
def piece (t r k : Int) : Str :=
  Txt.item (Str.ofString "-r") (((r.fdiv (8 ^ k.toNat)).fmod 8).fdiv 4) ++ Txt.item (Str.ofString "-w") ((((r.fdiv (8 ^ k.toNat)).fmod 8).fdiv 2).fmod 2) ++
    Txt.item (if 0 < k then Str.ofString "-xSs" else Str.ofString "-xTt") (((r.fdiv (8 ^ k.toNat)).fmod 8).fmod 2 + (((5 + t.fdiv 8).fmod 8).fdiv (2 ^ k.toNat)).fmod 2 * 2)
def rowF (t r : Int) (pre : List Int) : Str := pre.foldl (fun acc k => acc ++ piece t r k) (Txt.item (Str.ofString "d-lcbps?") (t.fmod 8))
def rowS (t r : Int) : Str := rowF t r [2, 1, 0]
theorem st_row0 {t r : Int} {x : Str} (e : x = Txt.item (Str.ofString "d-lcbps?") (t.fmod 8)) (h : x.length = 1) : x = rowF t r [] ∧ x.length = 1 + 3 * ([] : List Int).length := ⟨e, h⟩
theorem st_row {t r k : Int} {row x y z : Str} {pre : List Int} (h : row = rowF t r pre) (hl : row.length = 1 + 3 * pre.length) (hp : (x ++ y) ++ z = piece t r k) (hx : x.length = 1) (hy : y.length = 1) (hz : z.length = 1) :
    row ++ ((x ++ y) ++ z) = rowF t r (pre ++ [k]) ∧ (row ++ ((x ++ y) ++ z)).length = 1 + 3 * (pre ++ [k]).length := by
  refine ⟨?_, ?_⟩
  · rw [hp, h]; simp [rowF]
  · simp only [PySem.Str.length_append, List.length_append, List.length_cons, List.length_nil]; omega
theorem piece2 (t r : Int) : piece t r 2 = Txt.item (Str.ofString "-r") (((r.fdiv (8 ^ Int.toNat 2)).fmod 8).fdiv 4) ++ Txt.item (Str.ofString "-w") ((((r.fdiv (8 ^ Int.toNat 2)).fmod 8).fdiv 2).fmod 2) ++ Txt.item (Str.ofString "-xSs") (((r.fdiv (8 ^ Int.toNat 2)).fmod 8).fmod 2 + (((5 + t.fdiv 8).fmod 8).fdiv (2 ^ Int.toNat 2)).fmod 2 * 2) := by
  unfold piece; rw [if_pos (by decide)]
theorem piece1 (t r : Int) : piece t r 1 = Txt.item (Str.ofString "-r") (((r.fdiv (8 ^ Int.toNat 1)).fmod 8).fdiv 4) ++ Txt.item (Str.ofString "-w") ((((r.fdiv (8 ^ Int.toNat 1)).fmod 8).fdiv 2).fmod 2) ++ Txt.item (Str.ofString "-xSs") (((r.fdiv (8 ^ Int.toNat 1)).fmod 8).fmod 2 + (((5 + t.fdiv 8).fmod 8).fdiv (2 ^ Int.toNat 1)).fmod 2 * 2) := by
  unfold piece; rw [if_pos (by decide)]
theorem piece0 (t r : Int) : piece t r 0 = Txt.item (Str.ofString "-r") (((r.fdiv (8 ^ Int.toNat 0)).fmod 8).fdiv 4) ++ Txt.item (Str.ofString "-w") ((((r.fdiv (8 ^ Int.toNat 0)).fmod 8).fdiv 2).fmod 2) ++ Txt.item (Str.ofString "-xTt") (((r.fdiv (8 ^ Int.toNat 0)).fmod 8).fmod 2 + (((5 + t.fdiv 8).fmod 8).fdiv (2 ^ Int.toNat 0)).fmod 2 * 2) := by
  unfold piece; rw [if_neg (by decide)]
theorem mem3 {k : Int} (h : k ∈ [(2 : Int), 1, 0]) : k = 2 ∨ k = 1 ∨ k = 0 := by simpa using h
local macro_rules | `(tactic| walk_at "InvEndN") => `(tactic| (k_dflt ((rename News _ _ _ _ => nE'); (try simp only [List.push_toArray] at nE'); first | (refine kst_end ⟨_, _⟩ (by assumption) nE' (by (try dsimp only); (try (refine List.forall_mem_cons.mpr ⟨by k_memK, ?_⟩)); intro p9 h9; repeat (first | exact h9 | exact List.mem_append_left _ h9 | refine List.Mem.tail _ ?_)) (by first | (intro p hp; kst_mem) | kst_anyIn) (by rfl) (by kst_facts) (by kst_all) (by kst_same) (by kst_p)))))
set_option maxRecDepth 100000 in
set_option maxHeartbeats 4000000 in
theorem row_c {w : World} {news : List (Addr × Obj)} (t r : Int) (tt tr : Tok) : Cl 4 60 w 239 news [.int t tt, .int r tr] (fun tk => .str (rowS t r) tk) := by
  w_strict (
  k_with_none
  k_with "isz" => (have q := congrArg List.length kEq; simp only [List.length_append, List.length_cons, List.length_nil] at q; rw [sizeLine_eq]; omega)
  k_with "state" => exact st_row (by with_reducible assumption) (by with_reducible assumption) (piece2 t r).symm (by with_reducible assumption) (by with_reducible assumption) (by with_reducible assumption)
  k_with "state" => exact st_row (by with_reducible assumption) (by with_reducible assumption) (piece1 t r).symm (by with_reducible assumption) (by with_reducible assumption) (by with_reducible assumption)
  k_with "state" => exact st_row (by with_reducible assumption) (by with_reducible assumption) (piece0 t r).symm (by with_reducible assumption) (by with_reducible assumption) (by with_reducible assumption)
  k_with "state" => exact st_row0 rfl (by with_reducible assumption)
  k_with "pyIter ref" => ((rename News _ _ _ _ => lN9); (have hI9 := ints3_of lN9); k_state (fun pre row => row = rowF t r pre ∧ row.length = 1 + 3 * pre.length) "row"; (rcases mem3 kMem with h3 | h3 | h3) <;> subst h3)
  dsimp only [Cl]
  k_fill
  intros; rename_i hret
  have cbI : CbIn 239 := CbIn.mk
  refine wpAny_call ?_
  k_dflt cell_enter
  k_steps
  all_goals (refine cb_retS hret ?_ (by assumption) (by first | assumption | exact cb_drop (by assumption) (fun p hp => List.Mem.tail _ hp))))
  all_goals (show _ = rowF t r [2, 1, 0]; with_reducible assumption)
end Mine
end
section
open PySem PySem.W PyProof.Rows
namespace Mine
def priceF (t l : Int) : Int :=
  (List.foldl (fun (σ : Int × Int × Unit) k =>
            if ((l.fdiv (2 ^ k.toNat)).fmod 2 == 1) = true then
              if (k.fmod 3 == 0) = true then
                if ((σ.snd.fst.fdiv (2 ^ (k.fdiv 3).toNat)).fmod 2 == 1) = true then (σ.fst + 1, σ.snd.fst, ())
                else (σ.fst + 2, σ.snd.fst, ())
              else (σ.fst + 2, σ.snd.fst, ())
            else (σ.fst, σ.snd.fst, ()))
          (0, (5 + t.fdiv 8).fmod 8, ()) (rangeInts 0 1 (9 - 0 : Int).toNat)).fst
set_option maxRecDepth 100000 in
set_option maxHeartbeats 8000000 in
theorem price_c {w : World} {news : List (Addr × Obj)} (t l : Int) (tt tl : Tok) : Cl 4 60 w 232 news [.int t tt, .int l tl] (fun tk => .int (priceF t l) tk) := by
  w_strict (
  k_with_none
  dsimp only [Cl]
  k_fill
  intros; rename_i hret
  have cbI : CbIn 232 := CbIn.mk
  refine wpAny_call ?_
  k_dflt cell_enter
  k_steps)
  all_goals (refine cb_retI hret ?_ (by assumption) (by assumption))
  all_goals (unfold priceF; rfl)
set_option maxRecDepth 100000 in
set_option maxHeartbeats 8000000 in
theorem cmp_c {w : World} {news : List (Addr × Obj)} (a b : Str) (ta tb : Tok) : Cl 4 60 w 132 news [.str a ta, .str b tb] (fun tk => .int (b2i (decide (b.cps.toList < a.cps.toList)) - b2i (decide (a.cps.toList < b.cps.toList))) tk) := by
  w_strict (
  k_with_none
  dsimp only [Cl]
  k_fill
  intros; rename_i hret
  have cbI : CbIn 132 := CbIn.mk
  refine wpAny_call ?_
  k_dflt cell_enter
  k_steps)
  all_goals (refine cb_retI hret ?_ (by assumption) (by assumption))
  all_goals rfl
end Mine
end
section
open PySem PySem.W PyProof.Rows PySem.Calls PySem.Spec
set_option maxRecDepth 100000
namespace Mine
section
variable {prog : Program} {w : World} {A : Around} {E : Value → Shared → Prop} {s : Shared}
theorem nextOf_tuple_item {it l : Addr} {i : Nat} {items} {x : Value} {Q : Value → Shared → Prop} (hit : s.heap.IsTupleIter it l i)
    (hl : s.heap.IsTuple l items) (hx : items[i]? = some x)
    (hQ : ∀ h', h'.IsTupleIter it l (i + 1) → Heap.SameBut it s.heap h' → Q x { s with heap := h' }) :
    wpAny (model prog w) A (Builtin.SmallTypes.nextOf (.ref it)) Q E s := by
  obtain ⟨o, ho, hc, hd⟩ := id hit
  obtain ⟨ol, hol, _, nl, hdl⟩ := hl
  unfold Builtin.SmallTypes.nextOf
  refine wpAny_bind (wpAny_callSpecial?_slot (name := Str.ofString "__next__") hit.typeIs F.slot_tuple_iterator_next
    (wpAny_call_entry F.slot_tuple_iterator_next hit.typeIs F.entry_tuple_iterator_next ?_ (F.args_tuple_iterator_next_1 _)))
  show wpAny _ _ (field (.ref it) 0 >>= _) _ _ s
  refine wpAny_bind (wpAny_field ho hd (x := .ref l) rfl ?_)
  show wpAny _ _ (if (Value.ref l == Value.none) = true then _ else _) _ _ s
  rw [if_neg (show ¬ ((Value.ref l == Value.none) = true) from Bool.false_ne_true)]
  show wpAny _ _ (field (.ref it) 1 >>= _) _ _ s
  refine wpAny_bind (wpAny_field ho hd (x := .int i 0) rfl ?_)
  show wpAny _ _ (seqItems? (.ref l) >>= _) _ _ s
  refine wpAny_bind (wpAny_seqItems hol hdl ?_)
  simp only [Int.toNat_natCast, hx]
  refine wpAny_bind (wpAny_setField ho hd (by simp) (wpAny_pure ⟨x, rfl, wpAny_pure (hQ _ ?_ (Heap.SameBut.update ..))⟩))
  exact ⟨_, Heap.get?_update_self _ ho (Obj.isFreed_of_fields (Obj.data_mapFields hd _)), (Obj.cls_mapFields ..).trans hc, by
    rw [Obj.data_mapFields hd]; simp [rawInt]⟩
theorem nextOf_tuple_end {it l : Addr} {i : Nat} {items} {Q : Value → Shared → Prop} (hh : A.handled = none)
    (hit : s.heap.IsTupleIter it l i) (hl : s.heap.IsTuple l items) (hx : items[i]? = none)
    (hE : ∀ h' e, Heap.ExtBut it s.heap h' → (∃ o, h'.get? e = some o ∧ o.cls = .type "StopIteration") → E (.ref e) { s with heap := h' }) :
    wpAny (model prog w) A (Builtin.SmallTypes.nextOf (.ref it)) Q E s := by
  obtain ⟨o, ho, hc, hd⟩ := id hit
  obtain ⟨ol, hol, _, nl, hdl⟩ := hl
  unfold Builtin.SmallTypes.nextOf
  refine wpAny_bind (wpAny_callSpecial?_slot (name := Str.ofString "__next__") hit.typeIs F.slot_tuple_iterator_next
    (wpAny_call_entry F.slot_tuple_iterator_next hit.typeIs F.entry_tuple_iterator_next ?_ (F.args_tuple_iterator_next_1 _)))
  show wpAny _ _ (field (.ref it) 0 >>= _) _ _ s
  refine wpAny_bind (wpAny_field ho hd (x := .ref l) rfl ?_)
  show wpAny _ _ (if (Value.ref l == Value.none) = true then _ else _) _ _ s
  rw [if_neg (show ¬ ((Value.ref l == Value.none) = true) from Bool.false_ne_true)]
  show wpAny _ _ (field (.ref it) 1 >>= _) _ _ s
  refine wpAny_bind (wpAny_field ho hd (x := .int i 0) rfl ?_)
  show wpAny _ _ (seqItems? (.ref l) >>= _) _ _ s
  refine wpAny_bind (wpAny_seqItems hol hdl ?_)
  simp only [Int.toNat_natCast, hx]
  refine wpAny_bind (wpAny_rule (wpAny_bind (wpAny_setField ho hd (by simp) ?_)))
  show wpAny _ _ (newExc (.type "StopIteration") [] >>= _) _ _ _
  refine wpAny_bind ?_
  simp only [newExc, newTuple]
  refine wpAny_bind (wpAny_newObj_type ?_ (by size_fits))
  refine wpAny_bind (m := firstArgMember _ _) (wpAny_of_eq (a := Value.none) (by first | rfl | (simp only [firstArgMember]; rfl)) ?_)
  refine wpAny_newObj_type ?_ (by size_fits)
  simp only [raiseNew]
  refine wpAny_bind (wpAny_handled ?_)
  first | rw [show A.in1.handled = none from hh] | rw [hh]
  refine wpAny_bind (wpAny_pure (wpAny_throw ?_))
  exact hE _ _ (((Heap.SameBut.update ..).extBut.push _).push _) ⟨_, Heap.get?_push_size _ rfl, rfl⟩
end
theorem drawsTuple {prog : Program} {w : World} {A : Around} (hh : A.handled = none) (it l : Addr) (hne : l ≠ it) (items : Array Value) :
    Draws prog w A it [it, l] items.size (fun i v => items[i]? = some v) (fun i h => h.IsTupleIter it l i ∧ h.IsTuple l items) where
  live := fun _ _ st => let ⟨o, ho, _⟩ := st.1; ⟨o, ho⟩
  frame := fun _ _ _ st hk => ⟨st.1.at fun o e => hk it (by simp) o e, st.2.at fun o e => hk l (by simp) o e⟩
  item := fun i s Q E hi st hQ => by
    refine nextOf_tuple_item st.1 st.2 (x := items[i]) (by simp [hi]) fun h' hit' hs' => ?_
    exact hQ _ h' s.toks (by simp [hi]) ⟨hit', st.2.at fun o e => (hs'.2 l hne).trans e⟩ hs'
  done := fun s Q E st hE => nextOf_tuple_end hh st.1 st.2 (by simp) hE
theorem meets_enum_tuple (l : Addr) (items : Array Value) (n : Nat) (dct : Option Addr) (sl : Array (Option Value)) :
    Meets (Builtin.«enumerate.__new__» ⟨[.type "enumerate", .ref l], []⟩) (fun _ R s => s.heap.get? l = some { cls := .type "tuple", dict := dct, data := .seq items n, slots := sl } ∧
      R (.ok (.ret (.ref (s.heap.push { cls := .type "tuple_iterator", data := .fields #[.ref l, .int 0 0] }).objs.size)))
        { s with heap := (s.heap.push { cls := .type "tuple_iterator", data := .fields #[.ref l, .int 0 0] }).push { cls := .type "enumerate", data := .fields #[.none, .bool false, .ref s.heap.objs.size, rawInt 0, .none, .none] } }) :=
  .of_wp fun prog w A R s h => by
    obtain ⟨hp, g, d, tk, os⟩ := s; obtain ⟨hl, h⟩ := h
    have hsub := sub_enumerate
    have hL : Heap.IsTuple (Shared.heap ⟨hp, g, d, tk, os⟩) l items := ⟨_, hl, rfl, n, rfl⟩
    wp_walk using AutoSeq1.wpAny_loadPart' hl
    refine wpAny_stack_any fun st => wpAny_pure ?_
    split
    · rename_i c _ _ _ _ _
      cases (c == Value.type "enumerate")
      · wp_walk using AutoSeq1.wpAny_loadPart' hl, wpAny_pyIter_tuple hL
        exact ⟨_, rfl, h⟩
      · wp_walk using AutoSeq1.wpAny_loadPart' hl, wpAny_pyIter_tuple hL
        exact ⟨_, rfl, h⟩
    · wp_walk using AutoSeq1.wpAny_loadPart' hl, wpAny_pyIter_tuple hL
      exact ⟨_, rfl, h⟩
section
variable {prog : Program} {w : World} {A : Around} {E : Value → Shared → Prop} {s : Shared}
theorem call_enum_tuple {l : Addr} {items : Array Value} {Q : Value → Shared → Prop} (hL : s.heap.IsTuple l items)
    (h : ∀ h', IsEnum h' (s.heap.objs.size + 1) s.heap.objs.size 0 .none → h'.IsTupleIter s.heap.objs.size l 0 → h'.objs.size = s.heap.objs.size + 2 →
      (∀ b o, s.heap.get? b = some o → h'.get? b = some o) → Q (.ref (s.heap.objs.size + 1)) { s with heap := h' }) :
    wpAny (model prog w) A (call (.type "enumerate") [.ref l]) Q E s := by
  obtain ⟨⟨c, dct, dt, sl⟩, hl, hc, n, hd⟩ := hL
  replace hc : c = .type "tuple" := hc
  replace hd : dt = .seq items n := hd
  subst hc hd
  refine callType_new F.called_enumerate (by decide) (F.typeCall_enumerate_1 _) (F.newCall_enumerate_1 _) (fun obj => F.args_object_init_2 obj _) F.entry_enumerate_new
    (meets_enum_tuple l items n dct sl) ⟨hl, ?_⟩
  have hz : (s.heap.push { cls := .type "tuple_iterator", data := .fields #[.ref l, .int 0 0] }).objs.size = s.heap.objs.size + 1 := Heap.size_push ..
  show _ ∧ _
  rw [hz]
  have he : IsEnum ((s.heap.push { cls := .type "tuple_iterator", data := .fields #[.ref l, .int 0 0] }).push
      { cls := .type "enumerate", data := .fields #[.none, .bool false, .ref s.heap.objs.size, rawInt 0, .none, .none] }) (s.heap.objs.size + 1) s.heap.objs.size 0 .none := by
    have := Heap.get?_push_size (s.heap.push { cls := .type "tuple_iterator", data := .fields #[.ref l, .int 0 0] })
      (o := { cls := .type "enumerate", data := .fields #[.none, .bool false, .ref s.heap.objs.size, rawInt 0, .none, .none] }) rfl
    rw [hz] at this; exact this
  refine ⟨⟨_, he, rfl⟩, h _ he ⟨_, Heap.get?_push_of_some _ (Heap.get?_push_size _ rfl), rfl, rfl⟩ (by rw [Heap.size_push, hz]) fun b o x => Heap.get?_push_of_some _ (Heap.get?_push_of_some _ x)⟩
end
def valK : ItemKind Value := ⟨fun a v => v = a, some, fun _ _ h => by rw [h]⟩
section
variable {prog : Program} {w : World} {A : Around} {E : Value → Shared → Prop} {Q : Flow → Shared → Prop} {s : Shared} {env : Env} {h₀ : Heap}
theorem enum_tuple {l : Addr} {vs : List Value} {xi xc : Str} {body : List Stmt} {m : Str → Option Value} {news : List (Addr × Obj)} (J : Nat → (Str → Option Value) → List (Addr × Obj) → Prop)
    (hh : A.handled = none) (hl : h₀.IsTuple l vs.toArray) (F : Fr h₀ env.locals s.heap m) (N : News h₀ env.locals s.heap news) (h0 : J 0 m news)
    (step : ∀ (i : Nat) (v : Value) (t : Tok) (m₁ : Str → Option Value) (news₁ : List (Addr × Obj)) (h : Heap) (tk : Nat) (own : List (Addr × Obj)), vs[i]? = some v → J i m₁ news₁ → news₁.map (·.1) = news.map (·.1) → (∀ p ∈ own, ∀ q ∈ news, p.1 ≠ q.1) →
      Fr h₀ env.locals h (fun y => if y = xc then some v else if y = xi then some (.int i t) else m₁ y) → News h₀ env.locals h (own ++ news₁) →
      wpAny (model prog w) A (execs body env) (LoopStep3 h₀ env.locals own news₁ (J (i + 1)) { s with heap := h, toks := tk } (fun v s' => Q (.ret v) s') fun s' => Q .next s') E { s with heap := h, toks := tk })
    (done : ∀ (h' : Heap) (tk : Nat) (m' : Str → Option Value) (news' : List (Addr × Obj)), Fr h₀ env.locals h' m' → News h₀ env.locals h' news' → news'.map (·.1) = news.map (·.1) → J vs.length m' news' → Q .next { s with heap := h', toks := tk }) :
    wpAny (model prog w) A (call (.type "enumerate") [.ref l]) (fun xv s₁ => wpAny (model prog w) A (pyIter xv) (fun it s₂ => PairAt3 prog w A h₀ env xi xc body Q E it s₂) E s₁) E s := by
  have hls : s.heap.IsTuple l vs.toArray := let ⟨o, ho, r⟩ := hl; ⟨o, F.keep _ _ ho, r⟩
  obtain ⟨ol, hol, _⟩ := id hl
  have hlt : l < h₀.objs.size := Heap.lt_size hol
  have hLs : env.locals < s.heap.objs.size := F.ns.lt
  have hab : h₀.objs.size ≤ env.locals := F.above
  have hl2 : l < s.heap.objs.size := Nat.lt_trans (Nat.lt_of_lt_of_le hlt hab) hLs
  refine call_enum_tuple hls fun h' he hit hsz hk => ?_
  have F' : Fr h₀ env.locals h' m := ⟨F.ns.keeps hk, fun b o e => hk b o (F.keep b o e), F.above⟩
  have N' : News h₀ env.locals h' news := fun p hp => ⟨hk _ _ (N p hp).1, (N p hp).2⟩
  refine enumSrc (s := { s with heap := h' }) (K := valK) (as := vs) (drawsTuple (A := A.in1) hh s.heap.objs.size l (Nat.ne_of_lt hl2) vs.toArray) he ⟨hit, let ⟨o, ho, r⟩ := hls; ⟨o, hk _ _ ho, r⟩⟩ (Nat.succ_ne_self _) ?_ (by simp) ?_
    (Heap.get?_none_of_le (Nat.le_trans hab (Nat.le_of_lt (Nat.lt_succ_of_lt hLs)))) (Heap.get?_none_of_le (Nat.le_trans hab (Nat.le_of_lt hLs))) ?_ (by simp) (fun i x hx => ⟨x, by simpa using hx, rfl⟩) F' N' xi xc body Q J h0 ?_ ?_
  · intro hm
    rcases List.mem_cons.mp hm with e | hm
    · exact Nat.succ_ne_self _ e
    · exact Nat.ne_of_gt (Nat.lt_succ_of_lt hl2) (List.mem_singleton.mp hm)
  · intro hm
    rcases List.mem_cons.mp hm with e | hm
    · exact Nat.ne_of_lt (Nat.lt_succ_of_lt hLs) e
    · rcases List.mem_cons.mp hm with e | hm
      · exact Nat.ne_of_lt hLs e
      · exact Nat.ne_of_gt (Nat.lt_of_lt_of_le hlt hab) (List.mem_singleton.mp hm)
  · intro b hb q hq e
    have hq1 : q.1 < s.heap.objs.size := Heap.lt_size (N q hq).1
    rcases List.mem_cons.mp hb with e1 | hb
    · exact Nat.ne_of_gt (Nat.lt_succ_of_lt hq1) (e1.symm.trans e)
    · rcases List.mem_cons.mp hb with e1 | hb
      · exact Nat.ne_of_gt hq1 (e1.symm.trans e)
      · have e2 := List.mem_singleton.mp hb
        have hn := (N q hq).2.2
        rw [← e, e2, hol] at hn
        cases hn
  · rintro i a t v m₁ news₁ s₁ own ⟨hh₁, tk₁, rfl⟩ ha hv hJ hmap hoff F₁ N₁
    have hv' : v = a := hv
    subst hv'
    exact step i v t m₁ news₁ hh₁ tk₁ own ha hJ hmap hoff F₁ N₁
  · intro h'' tk m' news' F'' N'' hmap hJ
    exact done h'' tk m' news' F'' N'' hmap hJ
end
section
variable {prog : Program} {w : World} {A : Around} {E : Value → Shared → Prop} {Q : Flow → Shared → Prop} {s : Shared} {env : Env} {h₀ : Heap}
/-- the end of one turn of a loop that fills a list of texts -/
def EnPost (h₀ : Heap) (L : Addr) (s : Shared) (perm : Addr) (rest : List (Addr × Obj)) (stored : List Str) (m : Str → Option Value) (out : List Str) (f : Flow) (s' : Shared) : Prop :=
  f = .next ∧ ∃ h' tk' m' us c, s' = { s with heap := h', toks := tk' } ∧ Fr h₀ L h' m' ∧ News h₀ L h' ((perm, listOf (List.toArray us) c) :: rest) ∧ StrsAre us out ∧ ∀ z, stored.contains z = false → m' z = m z
theorem enum_list {l perm : Addr} {c₀ : Nat} {vs : List Value} {xi xc : Str} {body : List Stmt} {m : Str → Option Value} {news : List (Addr × Obj)} (stored : List Str) (out : List Str)
    (hh : A.handled = none) (hl : h₀.IsTuple l vs.toArray) (F : Fr h₀ env.locals s.heap m) (N : News h₀ env.locals s.heap ((perm, listOf (List.toArray []) c₀) :: news))
    (hoff : ∀ p ∈ news, p.1 ≠ perm) (hout : out.length = vs.length) (hxi : stored.contains xi = true) (hxc : stored.contains xc = true)
    (turn : ∀ (i : Nat) (v : Value) (t : Tok) (u : Str → Option Value) (us : List Value) (c : Nat) (h : Heap) (tk : Nat) (own : List (Addr × Obj)), vs[i]? = some v → StrsAre us (out.take i) → (∀ p ∈ news ++ own, p.1 ≠ perm) →
      Fr h₀ env.locals h (fun y => if y = xc then some v else if y = xi then some (.int i t) else if stored.contains y then u y else m y) → News h₀ env.locals h ((perm, listOf (List.toArray us) c) :: (news ++ own)) →
      wpAny (model prog w) A (execs body env) (EnPost h₀ env.locals { s with heap := h, toks := tk } perm (news ++ own) stored m (out.take (i + 1))) E { s with heap := h, toks := tk })
    (done : ∀ (h' : Heap) (tk : Nat) (u : Str → Option Value) (us : List Value) (c : Nat), StrsAre us out → Fr h₀ env.locals h' (fun y => if stored.contains y then u y else m y) → News h₀ env.locals h' ((perm, listOf (List.toArray us) c) :: news) → Q .next { s with heap := h', toks := tk }) :
    wpAny (model prog w) A (call (.type "enumerate") [.ref l]) (fun xv s₁ => wpAny (model prog w) A (pyIter xv) (fun it s₂ => PairAt3 prog w A h₀ env xi xc body Q E it s₂) E s₁) E s := by
  have em : ∀ m₁ : Str → Option Value, (∀ z, stored.contains z = false → m₁ z = m z) → m₁ = fun y => if stored.contains y then m₁ y else m y := fun m₁ hm => by
    funext y
    cases h3 : stored.contains y with
    | true => simp
    | false => simp only [Bool.false_eq_true, if_false]; exact hm y h3
  refine enum_tuple (fun i m₁ nx => (∃ us c, nx = (perm, listOf (List.toArray us) c) :: news ∧ StrsAre us (out.take i)) ∧ ∀ z, stored.contains z = false → m₁ z = m z) hh hl F N ⟨⟨[], c₀, rfl, by simpa using StrsAre.nil⟩, fun _ _ => rfl⟩ ?_ ?_
  · rintro i v t m₁ news₁ h tk own hv ⟨⟨us, c, rfl, hus⟩, hm⟩ _ hoffs F₁ N₁
    have hm9 := em m₁ hm
    have F₂ : Fr h₀ env.locals h (fun y => if y = xc then some v else if y = xi then some (.int i t) else if stored.contains y then m₁ y else m y) := by
      have e2 : (fun y => if y = xc then some v else if y = xi then some (Value.int i t) else m₁ y) = (fun y => if y = xc then some v else if y = xi then some (.int i t) else if stored.contains y then m₁ y else m y) := by
        funext y
        have := congrFun hm9 y
        by_cases h1 : y = xc
        · simp [h1]
        · by_cases h2 : y = xi
          · simp [h2]
          · simp only [h1, h2, if_false]; exact this
      rw [← e2]; exact F₁
    have N₂ : News h₀ env.locals h ((perm, listOf (List.toArray us) c) :: (news ++ own)) := fun p hp => N₁ p (by
      rcases List.mem_cons.mp hp with rfl | hp
      · exact List.mem_append_right _ (List.Mem.head _)
      · rcases List.mem_append.mp hp with hp | hp
        · exact List.mem_append_right _ (List.Mem.tail _ hp)
        · exact List.mem_append_left _ hp)
    have hoff2 : ∀ p ∈ news ++ own, p.1 ≠ perm := fun p hp => by
      rcases List.mem_append.mp hp with hp | hp
      · exact hoff p hp
      · exact hoffs p hp _ (List.Mem.head _)
    refine wpAny_mono (turn i v t m₁ us c h tk own hv hus hoff2 F₂ N₂) (fun f s₂ p => ?_) fun _ _ e => e
    obtain ⟨rfl, h', tk', m', us', c', rfl, F', N', hus', hm'⟩ := p
    refine LoopStep2.intro (news₂ := (perm, listOf (List.toArray us') c') :: news) F' (fun p hp => N' p ?_) rfl ⟨⟨us', c', rfl, hus'⟩, hm'⟩
    rcases List.mem_append.mp hp with hp | hp
    · exact List.Mem.tail _ (List.mem_append_right _ hp)
    · rcases List.mem_cons.mp hp with rfl | hp
      · exact List.Mem.head _
      · exact List.Mem.tail _ (List.mem_append_left _ hp)
  · rintro h' tk m' news' F' N' _ ⟨⟨us, c, rfl, hus⟩, hm⟩
    rw [← hout, List.take_length] at hus
    rw [em m' hm] at F'
    exact done h' tk m' us c hus F' N'
end
end Mine
end
section
open PySem PySem.W PyProof.Rows PySem.Calls PySem.Spec
set_option maxRecDepth 100000
namespace Mine
theorem isTuple_at {h h' : Heap} {a : Addr} {items : Array Value} (x : h.IsTuple a items) (e : ∀ o, h.get? a = some o → h'.get? a = some o) : h'.IsTuple a items := let ⟨o, ho, r⟩ := x; ⟨o, e _ ho, r⟩
section
variable {prog : Program} {w : World} {A : Around} {E : Value → Shared → Prop} {Q : Flow → Shared → Prop} {s : Shared} {env : Env} {h₀ : Heap}
/-- one turn's end of a loop that looks for its first hit -/
def FeEnd (h₀ : Heap) (L : Addr) (s : Shared) (led : List (Addr × Obj)) (xs : List Str) (m : Str → Option Value) (hit : Bool) (Q : Flow → Shared → Prop) (f : Flow) (s' : Shared) : Prop :=
  if hit = true then f = .brk ∧ Q .next s' else (f = .next ∧ ∃ h' tk' m', s' = { s with heap := h', toks := tk' } ∧ Fr h₀ L h' m' ∧ News h₀ L h' led ∧ ∀ z, xs.contains z = false → m' z = m z)
theorem for_else {T : Addr} {ps : List (Addr × Value × Value)} {xb xc : Str} {pb pc pt : Pos} {x1 : Nat} {body orelse : List Stmt} {m : Str → Option Value} {news : List (Addr × Obj)} (p : Nat → Bool)
    (hh : A.handled = none) (hT : h₀.IsTuple T (ps.map fun q => Value.ref q.1).toArray) (hps : ∀ q ∈ ps, h₀.IsTuple q.1 #[q.2.1, q.2.2])
    (hxb : env.kindOf xb = some .local) (hxc : env.kindOf xc = some .local)
    (hp : (env.scope.kind == .class || (env.scope.kind == .module && env.locals != env.globals)) = false)
    (F : Fr h₀ env.locals s.heap m) (N : News h₀ env.locals s.heap news)
    (turn : ∀ (k : Nat) (q : Addr × Value × Value) (h : Heap) (tk : Nat) (I : Addr) (o : Obj), ps[k]? = some q → (∀ k', k' < k → p k' = false) → (∀ b ∈ news.map (·.1), I ≠ b) →
      Fr h₀ env.locals h (fun y => if y = xc then some q.2.2 else if y = xb then some q.2.1 else m y) → News h₀ env.locals h (news ++ [(I, o)]) →
      wpAny (model prog w) A (execs body env) (FeEnd h₀ env.locals s (news ++ [(I, o)]) [xb, xc] m (p k) Q) E { s with heap := h, toks := tk })
    (els : (∀ k, k < ps.length → p k = false) → ∀ (h : Heap) (tk : Nat) (u : Str → Option Value), Fr h₀ env.locals h (fun y => if [xb, xc].contains y then u y else m y) → News h₀ env.locals h news →
      wpAny (model prog w) A (execs orelse env) Q E { s with heap := h, toks := tk })
    (hE : PassesOwn (model prog w) A env E := by passes_own) :
    wpAny (model prog w) A (pyIter (.ref T)) (fun it s₂ => codeAny (model prog w) A (.forLoop (.Tuple [.Name xb pb, .Name xc pc] x1 pt) it body orelse env)
      (fun r s' => match r with | .ok f => Q f s' | .error e => cameBackBy (model prog w) A env E e s') s₂) E s := by
  have hTs : s.heap.IsTuple T (ps.map fun q => Value.ref q.1).toArray := isTuple_at hT fun o e => F.keep _ o e
  obtain ⟨oT, hoT, _⟩ := id hT
  have hlt : T < h₀.objs.size := Heap.lt_size hoT
  have hne : T ≠ s.heap.objs.size := Nat.ne_of_lt (Nat.lt_trans (Nat.lt_of_lt_of_le hlt F.above) F.ns.lt)
  refine wpAny_pyIter_tuple hTs ?_
  have hI0 : (s.heap.push { cls := .type "tuple_iterator", data := .fields #[.ref T, .int 0 0] }).IsTupleIter s.heap.objs.size T 0 := ⟨_, Heap.get?_push_size _ rfl, rfl, rfl⟩
  have hIb : ∀ b ∈ news.map (·.1), s.heap.objs.size ≠ b := fun b hb e => by
    obtain ⟨q, hq, rfl⟩ := List.mem_map.mp hb
    exact absurd (Heap.lt_size (N q hq).1) (e ▸ Nat.lt_irrefl _)
  have hIn : h₀.get? s.heap.objs.size = none := next_is_new F
  have hIL : s.heap.objs.size ≠ env.locals := fun e => absurd F.ns.lt (e ▸ Nat.lt_irrefl _)
  refine codeAny_forLoop_any (fun n s' => ∃ h' tk m' i, s' = { s with heap := h', toks := tk } ∧ h'.IsTupleIter s.heap.objs.size T i ∧ Fr h₀ env.locals h' m' ∧ News h₀ env.locals h' news ∧
    (∀ z, [xb, xc].contains z = false → m' z = m z) ∧ (∀ k, k < i → p k = false) ∧ i ≤ ps.length ∧ n = ps.length + 1 - i) ?_ (ps.length + 1)
    ⟨_, s.toks, m, 0, rfl, hI0, F.push _, (fun q hq => ⟨Heap.get?_push_of_some _ (N q hq).1, (N q hq).2⟩), fun _ _ => rfl, fun k hk => absurd hk (Nat.not_lt_zero _), Nat.zero_le _, rfl⟩
  rintro n s' ⟨h', tk, m', i, rfl, hit, F', N', hm', hpi, hi, rfl⟩
  have hTs' : h'.IsTuple T (ps.map fun q => Value.ref q.1).toArray := isTuple_at hT fun o e => F'.keep _ o e
  have hwr : ∀ b o, h₀.get? b = some o → b ≠ s.heap.objs.size := fun b o e hb => by rw [hb, hIn] at e; cases e
  by_cases hlt' : i < ps.length
  · have hx : (ps.map fun q => Value.ref q.1).toArray[i]? = some (Value.ref (ps[i]).1) := by simp [hlt']
    refine wpAny_pyNext_tuple_item hit hTs' hx fun h₁ hit₁ hs₁ => ?_
    have F₁ : Fr h₀ env.locals h₁ m' := ⟨F'.ns.at' fun o e => (hs₁.2 _ (Ne.symm hIL)).trans e, fun b o e => (hs₁.2 b (hwr b o e)).trans (F'.keep b o e), F'.above⟩
    have N₁ : News h₀ env.locals h₁ news := fun q hq => ⟨(hs₁.2 _ (Ne.symm (hIb _ (List.mem_map.mpr ⟨q, hq, rfl⟩)))).trans (N' q hq).1, (N' q hq).2⟩
    refine letGo_tupleiter hit₁ ?_
    obtain ⟨oi, hoi, hci, hdi⟩ := id hit₁
    have N₂ : News h₀ env.locals h₁ (news ++ [(s.heap.objs.size, oi)]) := fun q hq => by
      rcases List.mem_append.mp hq with hq | hq
      · exact N₁ q hq
      · rw [List.mem_singleton.mp hq]; exact ⟨hoi, hIL, hIn⟩
    refine unpackN_ F₁ N₂ (isTuple_at (hps ps[i] (List.getElem_mem hlt')) fun o e => F₁.keep _ o e) hh rfl rfl fun h₂ F₂ N₂ => ?_
    refine wpAny_assignInOrder_more (wpAny_assign_Name (wpAny_storeName_local hxb F₂.ns (fun h₃ hn₃ hs₃ => ?_) hp))
    refine wpAny_assignInOrder_more (wpAny_assign_Name (wpAny_storeName_local hxc hn₃ (fun h₄ hn₄ hs₄ => ?_) hp))
    refine wpAny_assignInOrder_none ?_
    have F₄ := (F₂.set hn₃ hs₃).set hn₄ hs₄
    have N₄ := (N₂.set hs₃).set hs₄
    have em : (fun y => if y = xc then some (ps[i]).2.2 else if y = xb then some (ps[i]).2.1 else m' y) = (fun y => if y = xc then some (ps[i]).2.2 else if y = xb then some (ps[i]).2.1 else m y) := by
      funext y
      by_cases e1 : y = xc
      · simp [e1]
      · by_cases e2 : y = xb
        · simp [e2]
        · simp only [e1, e2, if_false]; exact hm' y (by simp [e1, e2])
    rw [em] at F₄
    refine wpAny_passesOwn hE (wpAny_mono (turn i ps[i] h₄ _ s.heap.objs.size oi (by simp [hlt']) hpi hIb F₄ N₄) (fun f s₅ h₅ => ?_) fun _ _ e => e)
    unfold FeEnd at h₅
    cases hpk : p i with
    | true =>
      rw [hpk, if_pos rfl] at h₅
      obtain ⟨rfl, hQ⟩ := h₅
      exact hQ
    | false =>
      rw [hpk, if_neg (by decide)] at h₅
      obtain ⟨rfl, h₆, tk₆, m₆, rfl, F₆, N₆, hm₆⟩ := h₅
      refine ⟨ps.length + 1 - (i + 1), by omega, h₆, tk₆, m₆, i + 1, rfl, ?_, F₆, (fun q hq => N₆ q (List.mem_append_left _ hq)), hm₆, fun k hk => ?_, hlt', rfl⟩
      · exact ⟨oi, (N₆ _ (List.mem_append_right _ (List.mem_singleton.mpr rfl))).1, hci, hdi⟩
      · by_cases e : k = i
        · subst e; exact hpk
        · exact hpi k (by omega)
  · have hin : i = ps.length := by omega
    subst hin
    have hx : (ps.map fun q => Value.ref q.1).toArray[ps.length]? = none := by simp
    refine wpAny_pyNext_tuple_end hh hit hTs' hx fun h₁ he₁ => ?_
    have F₁ : Fr h₀ env.locals h₁ m' := ⟨F'.ns.at' fun o e => he₁ _ o (Ne.symm hIL) e, fun b o e => he₁ b o (hwr b o e) (F'.keep b o e), F'.above⟩
    have N₁ : News h₀ env.locals h₁ news := fun q hq => ⟨he₁ _ _ (Ne.symm (hIb _ (List.mem_map.mpr ⟨q, hq, rfl⟩))) (N' q hq).1, (N' q hq).2⟩
    have em : m' = (fun y => if [xb, xc].contains y then m' y else m y) := by
      funext y
      cases h3 : [xb, xc].contains y with
      | true => simp
      | false => simp only [Bool.false_eq_true, if_false]; exact hm' y h3
    rw [em] at F₁
    exact wpAny_passesOwn hE (els (fun k hk => hpi k hk) h₁ _ m' F₁ N₁)
end
section
variable {prog : Program} {w : World} {A : Around} {E : Value → Shared → Prop} {Q : Flow → Shared → Prop} {s s' : Shared} {h₀ : Heap} {L : Addr} {led : List (Addr × Obj)} {xs : List Str} {m m' : Str → Option Value} {hit : Bool}
theorem fe_hit (h : hit = true) (hq : Q .next s') : FeEnd h₀ L s led xs m hit Q .brk s' := by
  unfold FeEnd; rw [if_pos h]; exact ⟨rfl, hq⟩
theorem fe_next {h' : Heap} {tk' : Nat} (h : hit = false) (F : Fr h₀ L h' m') (N : News h₀ L h' led) (hm : ∀ z, xs.contains z = false → m' z = m z) : FeEnd h₀ L s led xs m hit Q .next { s with heap := h', toks := tk' } := by
  unfold FeEnd; rw [if_neg (by rw [h]; decide)]; exact ⟨rfl, h', tk', m', rfl, F, N, hm⟩
theorem append_here {us : List Value} {x : Value} {perm : Addr} {c : Nat} {rest : List (Addr × Obj)} {Q : Value → Shared → Prop} (F : Fr h₀ L s.heap m) (N : News h₀ L s.heap ((perm, listOf us.toArray c) :: rest)) (hoff : ∀ p ∈ rest, p.1 ≠ perm) (hsz : us.length ≤ 1000)
    (h : ∀ h', Fr h₀ L h' m → News h₀ L h' ((perm, listOf (us ++ [x]).toArray (c + 1)) :: rest) → Q .none { s with heap := h' }) : wpAny (model prog w) A (call (.builtin "list.append") [.ref perm, x]) Q E s :=
  append_K F N (.head hoff) (fun h' F' N' => h h' F' (by simpa using N')) (by rw [List.size_toArray]; exact Nat.le_trans hsz (by decide))
theorem off_app {perm I : Addr} {o op : Obj} {rest : List (Addr × Obj)} (h1 : ∀ p ∈ rest, p.1 ≠ perm) (h2 : ∀ b ∈ ((perm, op) :: rest).map (·.1), I ≠ b) : ∀ p ∈ rest ++ [(I, o)], p.1 ≠ perm := fun p hp => by
  rcases List.mem_append.mp hp with hp | hp
  · exact h1 p hp
  · rw [List.mem_singleton.mp hp]; exact h2 _ (List.Mem.head _)
end
end Mine
end
section
open PySem PySem.W PyProof.Rows
namespace Mine
def tabsV : List (Addr × List (Addr × Value × Value)) := [(50, [(43, Value.int 40960 250, Value.str (Str.ofString "l") 278), (44, Value.int 49152 252, Value.str (Str.ofString "s") 279), (45, Value.int 32768 246, Value.str (Str.ofString "-") 280), (46, Value.int 24576 244, Value.str (Str.ofString "b") 281), (47, Value.int 16384 240, Value.str (Str.ofString "d") 282), (48, Value.int 8192 242, Value.str (Str.ofString "c") 283), (49, Value.int 4096 248, Value.str (Str.ofString "p") 284)]),
  (52, [(51, Value.int 256 260, Value.str (Str.ofString "r") 285)]),
  (54, [(53, Value.int 128 262, Value.str (Str.ofString "w") 286)]),
  (58, [(55, Value.int 2112 287, Value.str (Str.ofString "s") 288), (56, Value.int 2048 254, Value.str (Str.ofString "S") 289), (57, Value.int 64 264, Value.str (Str.ofString "x") 290)]),
  (60, [(59, Value.int 32 266, Value.str (Str.ofString "r") 291)]),
  (62, [(61, Value.int 16 268, Value.str (Str.ofString "w") 292)]),
  (66, [(63, Value.int 1032 293, Value.str (Str.ofString "s") 294), (64, Value.int 1024 256, Value.str (Str.ofString "S") 295), (65, Value.int 8 270, Value.str (Str.ofString "x") 296)]),
  (68, [(67, Value.int 4 272, Value.str (Str.ofString "r") 297)]),
  (70, [(69, Value.int 2 274, Value.str (Str.ofString "w") 298)]),
  (74, [(71, Value.int 513 299, Value.str (Str.ofString "t") 300), (72, Value.int 512 258, Value.str (Str.ofString "T") 301), (73, Value.int 1 276, Value.str (Str.ofString "x") 302)])]
set_option maxRecDepth 100000 in
theorem tab_facts {P : Params} {h : Heap} (X : (Mine.hd.heap_1 P).In h) : h.IsTuple 75 (tabsV.map fun r => Value.ref r.1).toArray ∧ ∀ r ∈ tabsV, h.IsTuple r.1 (r.2.map fun q => Value.ref q.1).toArray ∧ ∀ q ∈ r.2, h.IsTuple q.1 #[q.2.1, q.2.2] := by
  have k : ∀ (a : Addr) (vs : List Value), (Mine.hd.heap_1 P).lookup a = some ⟨.type "tuple", none, .seq vs.toArray 0, #[]⟩ → h.IsTuple a vs.toArray := fun a vs e => ⟨_, X _ _ e, rfl, 0, rfl⟩
  refine ⟨k _ _ rfl, ?_⟩
  unfold tabsV
  simp only [List.forall_mem_cons, List.not_mem_nil, false_implies, implies_true, and_true]
  refine ⟨?_, ?_, ?_, ?_, ?_, ?_, ?_, ?_, ?_, ?_⟩
  all_goals (refine ⟨k _ _ rfl, ?_⟩)
  all_goals (first | exact k _ [_, _] rfl | (repeat' (first | exact k _ [_, _] rfl | refine ⟨?_, ?_⟩)))
theorem tab_pairs : ∀ r ∈ tabsV, ∀ q ∈ r.2, ∃ a b tb x tx, q = (a, Value.int b tb, Value.str x tx) := by
  unfold tabsV
  simp only [List.forall_mem_cons, List.not_mem_nil, false_implies, implies_true, and_true]
  repeat' (first | exact ⟨_, _, _, _, _, rfl⟩ | refine ⟨?_, ?_⟩)
theorem tab_row {i : Nat} {v : Value} (h : (tabsV.map fun r => Value.ref r.1)[i]? = some v) : ∃ r, tabsV[i]? = some r ∧ r ∈ tabsV ∧ v = Value.ref r.1 := by
  rw [List.getElem?_map] at h
  cases e : tabsV[i]? with
  | none => rw [e] at h; cases h
  | some r => rw [e] at h; exact ⟨r, rfl, List.mem_of_getElem? e, (Option.some.inj h).symm⟩
def hitV (i : Nat) (M : Int) (v : Value) : Bool := match v with
  | .int b _ => if ((i : Int) == 0) = true then Builtin.bitAnd M 61440 == b else Builtin.bitAnd M b == b
  | _ => false
def chV (v : Value) : Str := match v with | .str x _ => x | _ => Str.empty
def fch (M : Int) (i : Nat) (r : Addr × List (Addr × Value × Value)) : Str := match r.2.find? (fun q => hitV i M q.2.1) with
  | some q => chV q.2.2
  | none => if ((i : Int) == 0) = true then Str.ofString "?" else Str.ofString "-"
def fmL (M : Int) : List Str := tabsV.mapIdx (fch M)
theorem fmL_len (M : Int) : (fmL M).length = (tabsV.map fun r => Value.ref r.1).length := by simp [fmL]
theorem fmL_take {M : Int} {i : Nat} {r : Addr × List (Addr × Value × Value)} (h : tabsV[i]? = some r) : (fmL M).take (i + 1) = (fmL M).take i ++ [fch M i r] := by
  rw [List.take_add_one]
  congr 1
  unfold fmL
  rw [List.getElem?_mapIdx, h]; rfl
def pK (i : Nat) (M : Int) (ps : List (Addr × Value × Value)) (k : Nat) : Bool := (ps[k]?).elim false fun q => hitV i M q.2.1
theorem find_hit {α : Type} {f : α → Bool} : ∀ {l : List α} {k : Nat} {q : α}, l[k]? = some q → f q = true → (∀ k', k' < k → (l[k']?).elim false f = false) → l.find? f = some q
  | [], _, _, h, _, _ => by simp at h
  | a :: l, 0, q, h, hf, _ => by
    have e : a = q := by simpa using h
    subst e; simp [List.find?_cons, hf]
  | a :: l, k + 1, q, h, hf, hb => by
    have h0 := hb 0 (Nat.succ_pos _)
    have h0' : f a = false := by simpa using h0
    rw [List.find?_cons, h0']
    exact find_hit (l := l) (k := k) (by simpa using h) hf fun k' hk' => by simpa using hb (k' + 1) (Nat.succ_lt_succ hk')
theorem find_miss {α : Type} {f : α → Bool} {l : List α} (h : ∀ k, k < l.length → (l[k]?).elim false f = false) : l.find? f = none := by
  rw [List.find?_eq_none]
  intro x hx
  obtain ⟨k, hk, rfl⟩ := List.mem_iff_getElem.mp hx
  have := h k hk
  simpa [hk] using this
theorem fch_hit {M : Int} {i k : Nat} {r : Addr × List (Addr × Value × Value)} {q : Addr × Value × Value} (h : r.2[k]? = some q) (hq : hitV i M q.2.1 = true) (hb : ∀ k', k' < k → pK i M r.2 k' = false) : fch M i r = chV q.2.2 := by
  unfold fch
  rw [find_hit h hq hb]
theorem fch_miss {M : Int} {i : Nat} {r : Addr × List (Addr × Value × Value)} (h : ∀ k, k < r.2.length → pK i M r.2 k = false) : fch M i r = if ((i : Int) == 0) = true then Str.ofString "?" else Str.ofString "-" := by
  unfold fch
  rw [find_miss h]
theorem pK_of {i : Nat} {M : Int} {ps : List (Addr × Value × Value)} {k : Nat} {q : Addr × Value × Value} {b : Bool} (h : ps[k]? = some q) (e : hitV i M q.2.1 = b) : pK i M ps k = b := by
  unfold pK; rw [h]; exact e
theorem hit0 {i : Nat} {M b : Int} {tb : Tok} {v : Bool} (h : ((i : Int) == 0) = true) (e : (Builtin.bitAnd M 61440 == b) = v) : hitV i M (.int b tb) = v := by
  unfold hitV; simp only [h, if_true]; exact e
theorem hit1 {i : Nat} {M b : Int} {tb : Tok} {v : Bool} (h : ((i : Int) == 0) = false) (e : (Builtin.bitAnd M b == b) = v) : hitV i M (.int b tb) = v := by
  unfold hitV; simp only [h, Bool.false_eq_true, if_false]; exact e
section
variable {s : Shared} {h₀ h' : Heap} {L perm : Addr} {rest : List (Addr × Obj)} {stored : List Str} {m m' : Str → Option Value} {M : Int} {i : Nat} {r : Addr × List (Addr × Value × Value)} {us : List Value} {c tk' : Nat} {x : Str} {tx : Tok}
theorem en_post (F : Fr h₀ L h' m') (N : News h₀ L h' ((perm, listOf (List.toArray (us ++ [Value.str x tx])) c) :: rest)) (hus : StrsAre us ((fmL M).take i)) (hr : tabsV[i]? = some r) (hx : fch M i r = x) (hm : ∀ z, stored.contains z = false → m' z = m z) :
    EnPost h₀ L s perm rest stored m ((fmL M).take (i + 1)) .next { s with heap := h', toks := tk' } := by
  refine ⟨rfl, h', tk', m', us ++ [.str x tx], c, rfl, F, N, ?_, hm⟩
  rw [fmL_take hr, hx]
  exact PyProof.Rows.StrsAre.append' hus (.cons _ _ .nil)
theorem strs_len {us : List Value} {xs : List Str} (h : StrsAre us xs) : us.length = xs.length := h.length
end
theorem us_le {us : List Value} {M : Int} {i : Nat} (h : StrsAre us ((fmL M).take i)) : us.length ≤ 1000 := by
  have h1 := strs_len h
  have h2 := List.length_take_le i (fmL M)
  have h3 : (fmL M).length = 10 := by rw [fmL_len]; rfl
  have : ((fmL M).take i).length ≤ (fmL M).length := by rw [List.length_take]; omega
  omega
end Mine
end
section
open PySem PySem.W PyProof.Rows
namespace Mine
set_option maxRecDepth 100000 in
set_option maxHeartbeats 4000000 in
theorem ifmt_c {w : World} {news : List (Addr × Obj)} (x : Int) (tx : Tok) : Cl 1 8 w 42 news [.int x tx] (fun tk => .int (Builtin.bitAnd x 61440) tk) := by
  w_strict (
  k_with_none
  dsimp only [Cl]
  k_fill
  intros; rename_i hret
  have cbI : CbIn 42 := CbIn.mk
  refine wpAny_call ?_
  k_dflt cell_enter
  k_steps
  all_goals (refine cb_retI hret ?_ (by assumption) (by assumption))
  all_goals (with_reducible rfl))
local macro_rules | `(tactic| walk_at "exec For Tuple Name cons cons") => `(tactic| (k_here; (with_unfolding_all refine' wpAny_For ?_); k_whole))
local macro_rules | `(tactic| walk_at "ite") => `(tactic| (k_openite; first | (with_reducible refine ite_tt ?_) | (with_reducible refine ite_ff ?_) | (refine split_dec ?_ ?_ <;> intro _) | (refine split_bool ?_ ?_ <;> intro _)))
local macro_rules | `(tactic| walk_at "call builtin:list.append") => `(tactic| (k_here; (rename Fr _ _ _ _ => lF'); (rename News _ _ _ _ => lN'); (k_dflt (refine append_here lF' lN' (by k_extra "off") (by k_extra "asz") ?_)); clear lF' lN'; intro h' F' N'))
local macro_rules | `(tactic| walk_at "call ref") => `(tactic| (k_here; (with_reducible show wpAny _ _ (PySem.call (Value.ref 42) _) _ _ _); (with_unfolding_all refine' ifmt_c _ _ _ _ _ _ _ _ _ _ _ _ _ _ _ _ _ _ _ _ _ _ ?k1 ?k2 ?k3 ?k4 ?k5 ?kK ?kd ?ku ?kR); (case k1 => k_asm); (case k2 => k_asm); (case k3 => k_asm); (case k4 => k_asm); (case k5 => k_asm); (case kK => first | exact rfl | assumption); (case kd => ktr_room); (case ku => ktr_units); intro t9 h9 tk9 F9 N9; (try dsimp only); (try k_fold)))
structure FmIs (M : Int) (fm : List Str) : Prop where
  len : fm.length = (tabsV.map fun r => Value.ref r.1).length
  take : ∀ (i : Nat) (r : Addr × List (Addr × Value × Value)), tabsV[i]? = some r → fm.take (i + 1) = fm.take i ++ [fch M i r]
  le : (fm.map (·.length)).sum ≤ 1000
section
variable {s : Shared} {h₀ h' : Heap} {L perm : Addr} {rest : List (Addr × Obj)} {stored : List Str} {m m' : Str → Option Value} {M : Int} {i : Nat} {r : Addr × List (Addr × Value × Value)} {us : List Value} {c tk' : Nat} {x : Str} {tx : Tok} {fm : List Str}
theorem FmIs.post (hI : FmIs M fm) (F : Fr h₀ L h' m') (N : News h₀ L h' ((perm, listOf (List.toArray (us ++ [Value.str x tx])) c) :: rest)) (hus : StrsAre us (fm.take i)) (hr : tabsV[i]? = some r) (hx : fch M i r = x) (hm : ∀ z, stored.contains z = false → m' z = m z) :
    EnPost h₀ L s perm rest stored m (fm.take (i + 1)) .next { s with heap := h', toks := tk' } := by
  refine ⟨rfl, h', tk', m', us ++ [.str x tx], c, rfl, F, N, ?_, hm⟩
  rw [hI.take _ _ hr, hx]
  exact PyProof.Rows.StrsAre.append' hus (.cons _ _ .nil)
theorem FmIs.us_le (hI : FmIs M fm) (h : StrsAre us (fm.take i)) : us.length ≤ 1000 := by
  have h1 := strs_len h
  have h3 : fm.length = 10 := by rw [hI.len]; rfl
  have : (fm.take i).length ≤ fm.length := by rw [List.length_take]; omega
  omega
end
theorem news_cut {h₀ h : Heap} {L : Addr} {p : Addr × Obj} {rest more : List (Addr × Obj)} (N : News h₀ L h (p :: (rest ++ more))) : News h₀ L h (p :: rest) := fun q hq => N q (by
  rcases List.mem_cons.mp hq with e | hq
  · exact e ▸ List.Mem.head _
  · exact List.Mem.tail _ (List.mem_append_left _ hq))
theorem ne_tt {b : Bool} (h : b = false) : ¬ b = true := by rw [h]; decide
theorem FmIs.join_le {M : Int} {fm : List Str} (h : FmIs M fm) : (fm.map (·.length)).sum + fm.length ≤ 1048576 := by
  have h1 := h.le
  have h3 : fm.length = 10 := by rw [h.len]; rfl
  omega
section
variable {xb xc xd xe z : Str} {a b c d e X : Option Value}
theorem map2 (h : [xb, xc].contains z = false) : (if z = xc then a else if z = xb then b else X) = X := by
  have h1 : z ≠ xb ∧ z ≠ xc := by simpa using h
  rw [if_neg h1.2, if_neg h1.1]
theorem map4 (h : [xe, xd, xb, xc].contains z = false) : (if z = xc then a else if z = xb then b else if z = xd then c else if z = xe then d else if [xe, xd, xb, xc].contains z then e else X) = X := by
  have h1 : z ≠ xe ∧ z ≠ xd ∧ z ≠ xb ∧ z ≠ xc := by simpa using h
  rw [if_neg h1.2.2.2, if_neg h1.2.2.1, if_neg h1.2.1, if_neg h1.1, if_neg (by rw [h]; decide)]
theorem map4' (h : [xe, xd, xb, xc].contains z = false) : (if [xb, xc].contains z then a else if z = xd then c else if z = xe then d else if [xe, xd, xb, xc].contains z then e else X) = X := by
  have h1 : z ≠ xe ∧ z ≠ xd ∧ z ≠ xb ∧ z ≠ xc := by simpa using h
  have h2 : [xb, xc].contains z = false := by simp [h1.2.2.1, h1.2.2.2]
  rw [if_neg (by rw [h2]; decide), if_neg h1.2.1, if_neg h1.1, if_neg (by rw [h]; decide)]
end
section
open PySem.Calls PySem.Spec
variable {prog : Program} {w : World} {A : Around} {E : Value → Shared → Prop} {Q : Value → Shared → Prop} {s : Shared} {h₀ : Heap} {L D : Addr} {us : List Value} {c : Nat} {rest : List (Addr × Obj)} {M : Int} {fm : List Str} {t : Tok}
theorem join_here (N : News h₀ L s.heap ((D, listOf (List.toArray us) c) :: rest)) (hus : StrsAre us fm) (hI : FmIs M fm)
    (h : ∀ t' k, Q (.str (Txt.join (Str.ofString "") fm) t') { s with toks := k }) : wpAny (model prog w) A (call (.builtin "str.join") [.str (Str.ofString "") t, .ref D]) Q E s :=
  join_listW (D := D) (items := us.toArray) ⟨_, (N _ (List.Mem.head _)).1, rfl, _, rfl⟩ (by simpa using hus) (by decide) hI.join_le h
end
local macro_rules | `(tactic| walk_at "call builtin:str.join") => `(tactic| (k_here; (refine join_here (by with_reducible assumption) (by with_reducible assumption) (by with_reducible assumption) ?_); intro _ _))
set_option maxRecDepth 100000 in
set_option maxHeartbeats 4000000 in
theorem fm_c {w : World} {news : List (Addr × Obj)} (M : Int) (tM : Tok) (fm : List Str) (hlen : FmIs M fm) : Cl 4 60 w 82 news [.int M tM] (fun tk => .str (Txt.join (Str.ofString "") fm) tk) := by
  w_strict (
  k_with_none
  k_with "off" => first | exact hoff9 | exact hoff2
  k_with "asz" => exact hlen.us_le hus
  k_with "FeEnd" => (first
    | ((with_reducible show FeEnd _ _ _ _ _ _ _ _ Flow.brk _); (have hch9 : fch M i r = qx := fch_hit hq9 (by first | exact hit0 (by with_reducible assumption) (by with_reducible assumption) | exact hit1 (by with_reducible assumption) (by with_reducible assumption)) hbef9); with_unfolding_all refine fe_hit (pK_of hq9 (by first | exact hit0 (by with_reducible assumption) (by with_reducible assumption) | exact hit1 (by with_reducible assumption) (by with_reducible assumption))) ?_; (try dsimp only))
    | ((with_reducible show FeEnd _ _ _ _ _ _ _ _ Flow.next _); (rename Fr _ _ _ _ => lF'); (rename News _ _ _ _ => lN'); with_unfolding_all refine fe_next (pK_of hq9 (by first | exact hit0 (by with_reducible assumption) (by with_reducible assumption) | exact hit1 (by with_reducible assumption) (by with_reducible assumption))) lF' lN' ?_; (intro z9 hz9; exact map2 hz9)))
  k_with "EnPost" => (first
    | ((rename fch _ _ _ = _ => hch9); (rename Fr _ _ _ _ => lF'); (rename News _ _ _ _ => lN'); with_unfolding_all refine hlen.post lF' (news_cut lN') hus hr hch9 ?_; (intro z9 hz9; exact map4 hz9))
    | ((rename Fr _ _ _ _ => lF'); (rename News _ _ _ _ => lN'); with_unfolding_all refine hlen.post lF' lN' hus hr ((fch_miss hall).trans ?_) ?_; (case _ => first | exact if_pos (by with_reducible assumption) | exact if_neg (ne_tt (by with_reducible assumption))); (intro z9 hz9; exact map4' hz9)))
  k_with "pyIter ref" => ((rename Fr _ _ _ _ => lF'); (rename News _ _ _ _ => lN'); (rename Frag.In _ _ => lX'); (with_unfolding_all refine for_else (ps := r.2) (pK i M r.2) (by rfl) ((tab_facts lX').2 r hrm).1 ((tab_facts lX').2 r hrm).2 (by rfl) (by rfl) (by rfl) lF' lN' ?_ ?_); (intro k q h9 tk9 I9 o9 hq9 hbef9 hI9 F9 N9); (obtain ⟨qa, qb, qtb, qx, qtx, rfl⟩ := tab_pairs r hrm q (List.mem_of_getElem? hq9)); ((have hoff9 := off_app (o := o9) hoff2 hI9)); (simp only [List.cons_append] at N9); clear lF' lN'; (try k_fold); rotate_left; (intro hall h9 tk9 u9 F9 N9; clear lF' lN'; (try k_fold)); rotate_right)
  k_with "call type:enumerate" => (k_here; (rename Fr _ _ _ _ => lF'); (rename News _ _ _ _ => lN'); (rename Frag.In _ _ => lX'); (have hT9 := (tab_facts lX').1); (have hL9 := hlen.len); (with_unfolding_all refine enum_list (vs := tabsV.map fun r => Value.ref r.1) [Str.ofString "index", Str.ofString "table", Str.ofString "bit", Str.ofString "char"] fm (by rfl) hT9 lF' lN' (fun p hp => Nat.ne_of_lt (by (rename ∀ p ∈ _, _ < _ => l9); exact l9 p hp)) hL9 (by rfl) (by rfl) ?_ ?_); (intro i v t u us c h7 tk7 own hv hus hoff2 F7 N7; obtain ⟨r, hr, hrm, rfl⟩ := tab_row hv; clear lF' lN'; (try k_fold)); rotate_left; (intro h7 tk7 u us c hus F7 N7; clear lF' lN'; dsimp only [envOf] at F7 N7); rotate_right)
  dsimp only [Cl]
  k_fill
  intros; rename_i hret
  have cbI : CbIn 82 := CbIn.mk
  refine wpAny_call ?_
  k_dflt cell_enter
  k_steps
  all_goals (refine cb_retS hret ?_ (by assumption) (by first | assumption | exact cb_drop (by assumption) (fun p hp => List.Mem.tail _ hp))))
  all_goals (with_reducible rfl)
end Mine
end
section
open PySem PySem.W PyProof.Rows
namespace Mine
open PySem.Calls PySem.Spec Builtin Builtin.ObjectAttr
set_option maxRecDepth 100000
set_option maxHeartbeats 4000000
abbrev mcls : ClassData := { name := Str.ofString "Mismatch", bases := [.type "tuple"], mro := [.ref 203, .type "tuple", .type "object"], ns := 202, qualname := Str.ofString "Mismatch", hasDict := false }
/-- what the look-ups find of the class at 203 -/
structure MK (K : Frag) : Prop where
  obj : ∃ sl : Array (Option Value), K.lookup 203 = some ⟨.type "type", none, .cls mcls, sl⟩ ∧ sl[4]? = some (some .none)
  call : specialIn K (.ref 203) "__call__" = some (some (.builtin "type.__call__"))
  typ : instIn K (.ref 203) (.type "type") = some true
  mc : typeIn K (.ref 203) = some (.type "type")
  rd : readsIn K 203 (.type "type") = true
  new : findCls K (.ref 203) (.type "type") "__new__" = some (.get (.builtin "staticmethod.__get__") (.ref 204) .none (.ref 203))
  rcd : recIn K 204 "staticmethod" = some [.ref 150]
  init : findIn K (.ref 203) "__init__" = some (some (.builtin "object.__init__"))
  get : findIn K (.ref 203) "__getitem__" = some (some (.builtin "tuple.__getitem__"))
  sub : subIn K (.ref 203) (.type "tuple") = some true
  sub0 : subIn K (.ref 203) (.type "object") = some true
  subt : subIn K (.ref 203) (.ref 203) = some true
theorem mk (P : Params) : MK (Mine.hd.heap_1 P) := by
  refine ⟨⟨_, rfl, rfl⟩, ?_, ?_, ?_, ?_, ?_, ?_, ?_, ?_, ?_, ?_, ?_⟩
  all_goals first | rfl | kernel_rfl | decide +kernel

theorem best_tuple : Builtin.Slots.bestBase [.type "tuple"] = pure (.type "tuple") := by kernel_rfl
section
variable {K : Frag} {M : Model} {h : Heap}
theorem MK.mro (Y : MK K) (X : K.In h) : Looks M h (mroOf (.ref 203)) mcls.mro := by
  obtain ⟨sl, ho, _⟩ := Y.obj
  exact ((Looks.ld (part := none) (X _ _ ho)).andThen .now).andThen .now
theorem MK.cd (Y : MK K) (X : K.In h) : Looks M h (classData 203) mcls := by
  obtain ⟨sl, ho, _⟩ := Y.obj
  exact (Looks.ld (part := none) (X _ _ ho)).andThen .now
theorem MK.ist (Y : MK K) (X : K.In h) : Looks M h (isType (.ref 203)) true := by
  obtain ⟨sl, ho, _⟩ := Y.obj
  exact (Looks.ld (X _ _ ho)).andThen .now
theorem MK.made (Y : MK K) (X : K.In h) : Looks M h (Bind.madeBy (.ref 203)) none := by
  obtain ⟨sl, ho, hs⟩ := id Y.obj
  intro A Q E s k q
  unfold Bind.madeBy
  refine wpAny_bind (Y.mro X A _ E s k ?_)
  rw [show mcls.mro = .ref 203 :: [.type "tuple", .type "object"] from rfl, List.forIn_cons]
  refine wpAny_bind (wpAny_bind (wpAny_bind (wpAny_bind (wpAny_loadPart (k _ _ (X _ _ ho)) (wpAny_pure ?_)))))
  dsimp only
  rw [hs]
  exact wpAny_pure (wpAny_pure (wpAny_pure q))
theorem MK.base (Y : MK K) (X : K.In h) : Looks M h (Bind.staticBase (.ref 203)) (.type "tuple") := by
  intro A Q E s k q
  unfold Bind.staticBase
  refine wpAny_bind (Y.mro X A _ E s k ?_)
  rw [show mcls.mro = .ref 203 :: .type "tuple" :: [.type "object"] from rfl, List.forIn_cons]
  refine wpAny_bind (wpAny_bind (wpAny_bind (Y.made X A _ E s k ?_)))
  refine wpAny_bind (Y.cd X A _ E s k ?_)
  rw [show mcls.bases = [.type "tuple"] from rfl, best_tuple]
  refine wpAny_bind (wpAny_pure ?_)
  refine wpAny_pure ?_
  dsimp only
  rw [List.forIn_cons]
  refine wpAny_bind (wpAny_bind (wpAny_of_eq (F.called_tuple.made) ?_))
  exact wpAny_pure (wpAny_pure (wpAny_pure q))
theorem MK.here (Y : MK K) (X : K.In h) : Looks M h (Bind.madeHere "tuple.__new__" (.ref 203)) () := by
  unfold Bind.madeHere
  exact (Y.base X).andThen ((Looks.of_pure F.called_tuple.made).andThen (Looks.of_pure rfl))
end

theorem tn_args (T : Addr) : argsOk "tuple.__new__" ⟨[.ref 203, .ref T], []⟩ := by unfold argsOk; kernel_rfl
theorem tn_kind : builtinKind "tuple.__new__" = some .builtinFn := by decide +kernel
theorem tn_split : splitId "tuple.__new__" = some ("tuple", "__new__") := by decide +kernel
theorem tn_quiet : (Code.builtin "tuple.__new__" ⟨[], []⟩).quiet = true := by decide +kernel
section
variable {prog : Program} {w : World} {A : Around} {K : Frag} {E : Value → Shared → Prop} {s : Shared}
theorem tn_check {T : Addr} {h : Heap} {g : Array GenState} {d : Drawn} {t : Nat} {os : OsState} {Q : Unit → Shared → Prop} (Y : MK K) (X : K.In h) (hq : Q () ⟨h, g, d, t, os⟩) :
    wpAny (model prog w) A (checkBuiltinCall "tuple.__new__" ⟨[.ref 203, .ref T], []⟩) Q E ⟨h, g, d, t, os⟩ := by
  have hs := looks_subIn (M := model prog w) X Y.sub
  have hb := Y.base (M := model prog w) X
  have hm : Looks (model prog w) h (Bind.madeBy (.type "tuple")) (some "tuple.__new__") := Looks.of_pure F.called_tuple.made
  have ht := Y.ist (M := model prog w) X
  simp only [checkBuiltinCall, tn_kind, tn_split]
  repeat (first | simp only [bne_self_eq_false, Bool.false_eq_true, if_false] | lk)
  exact hq
/-- the object that the class at 203 makes -/
abbrev misO (items : Array Value) (d : Addr) : Obj := { cls := .ref 203, dict := some d, data := .seq items }
theorem new_mis {T : Addr} {oT : Obj} {items : Array Value} {n : Nat} {Q : Value → Shared → Prop} (Y : MK K) (X : K.In s.heap) (hT : s.heap.get? T = some oT) (hc : oT.cls = .type "tuple") (hd : oT.data = .seq items n) (hz : items.size ≤ 1000)
    (h : ∀ h' : Heap, (∀ b o, s.heap.get? b = some o → h'.get? b = some o) → Q (.ref (h'.objs.size + 1)) { s with heap := (h'.push emptyDict).push (misO items h'.objs.size) }) :
    wpAny (model prog w) A (call (.builtin "tuple.__new__") [.ref 203, .ref T]) Q E s := by
  obtain ⟨hp, g, d, tk, os⟩ := s
  refine wpAny_call (codeAny_call_builtin_code (Code.quiet_builtin _ (by decide +kernel)) (tn_check Y X (codeAny_builtin F.entry_tuple_new ?_)))
  unfold Builtin.«tuple.__new__»
  have hs := looks_subIn (M := model prog w) X Y.sub
  have ht := Y.ist (M := model prog w) X
  have hh := Y.here (M := model prog w) X
  have hi := looks_findIn (M := model prog w) X Y.init
  repeat (first | simp only [bne_self_eq_false, Bool.false_eq_true, if_false] | with_reducible refine wpAny_collect_seq (hsz := Nat.le_trans hz (by decide)) T (.inr rfl) hT hc hd ?_ | lk)
  intro h' hk
  obtain ⟨sl, ho, _⟩ := id Y.obj
  have hC := hk _ _ (X _ _ ho)
  have e : items.toList.toArray = items := by simp
  rw [e]
  refine wpAny_bind (wpAny_pure (wpAny_bind (wpAny_alloc (wpAny_bind ?_))))
  unfold newObj
  show wpAny _ _ (if items.size > sizeLine then _ else _) _ _ _
  rw [if_neg (by have : (1000 : Nat) ≤ sizeLine := by decide
                 omega)]
  show wpAny _ _ (newObjAsIs _ _ _) _ _ _
  unfold newObjAsIs classHasDel
  refine wpAny_bind (wpAny_alloc (wpAny_bind (wpAny_bind (wpAny_load (Heap.get?_push_of_some _ (Heap.get?_push_of_some _ hC)) (wpAny_pure ?_)))))
  show wpAny _ _ (if false = true then _ else _) _ _ _
  rw [if_neg (by decide)]
  refine wpAny_pure (wpAny_pure ?_)
  have := h h' hk
  rw [← Heap.size_push (h := h') (o := emptyDict)] at this
  exact this
end
end Mine
end
section
open PySem PySem.W PyProof.Rows
namespace Mine
open PySem.Calls PySem.Spec Builtin Builtin.ObjectAttr
set_option maxRecDepth 100000
set_option maxHeartbeats 4000000
section
variable {prog : Program} {w : World} {A : Around} {K : Frag} {E : Value → Shared → Prop} {s : Shared} {h₀ : Heap} {L : Addr} {m : Str → Option Value}
theorem oi_args2 (a : Value) (r : List Value) : argsOk "object.__init__" ⟨a :: r, []⟩ := by unfold argsOk; kernel_rfl
theorem call_mis {rest : List Value} {Q : Value → Shared → Prop} (Y : MK K) (F : Fr h₀ L s.heap m) (X₀ : K.In h₀)
    (h : wpAny (model prog w) (A.under (.builtin "type.__call__" ⟨.ref 203 :: rest, []⟩)) (call (.ref 150) (.ref 203 :: rest)) (fun v s' => ∃ x ox, v = .ref x ∧ s'.heap.get? x = some ox ∧ ox.cls = .ref 203 ∧ K.In s'.heap ∧ Q (.ref x) s') E { s with toks := s.toks + 1 }) :
    wpAny (model prog w) A (call (.ref 203) rest) Q E s := by
  obtain ⟨hp, g, d, t, os⟩ := s
  have X := X₀.keeps F.keep
  obtain ⟨sl, ho, _⟩ := id Y.obj
  have hC := X _ _ ho
  have call := looks_specialIn (M := model prog w) X Y.call
  have typ := looks_instIn (M := model prog w) X Y.typ
  have made := Y.made (M := model prog w) X
  refine wpAny_call (codeAny_of_tree ?_)
  show wpAny _ _ (callAny (.ref 203) _) _ _ _
  refine nd_load hC ?_
  show wpAny _ _ (callAny.viaDunder (.ref 203) _) _ _ _
  unfold callAny.viaDunder
  refine wpAny_bind (call.at ?_)
  dsimp only
  rw [tc_bind]
  refine wpAny_bind (wpAny_pure (wpAny_bind (wpAny_pure ?_)))
  refine wpAny_pure (a := Fin.again (.call (.builtin "type.__call__") ⟨.ref 203 :: rest, []⟩)) (And.intro rfl ?_)
  refine codeAny_call_builtin_at (Code.quiet_builtin _ (by decide +kernel)) entry_typeCall (check_slot tc_kind tc_split typ (tc_args _ _ _) ?_)
  unfold Builtin.«type.__call__»
  have hm := Y.mro (M := model prog w) X
  refine wpAny_bind (hm.at ?_)
  dsimp only
  rw [if_neg (by decide)]
  refine wpAny_bind (made.at ?_)
  dsimp only
  refine wpAny_bind (cls_sm F X₀ Y.mc Y.rd Y.new Y.rcd rfl ?_)
  refine wpAny_bind (wpAny_holding ?_)
  refine wpAny_mono h (fun v s' hq => ?_) fun _ _ e => e
  obtain ⟨x, ox, rfl, hx, hc, X', hQ⟩ := hq
  obtain ⟨hp', g', d', t', os'⟩ := s'
  have t1 : Looks (model prog w) hp' (typeOf (.ref x)) (.ref 203) := hc ▸ (Looks.ld hx).andThen .now
  have s1 := looks_subIn (M := model prog w) X' Y.subt
  have s2 := looks_subIn (M := model prog w) X' Y.sub0
  have i1 := looks_findIn (M := model prog w) X' Y.init
  have m1 := Y.made (M := model prog w) X'
  unfold isInstance
  refine wpAny_bind (wpAny_bind (t1.at (s1.at ?_)))
  rw [if_neg (by decide)]
  refine wpAny_bind (wpAny_holding ?_)
  unfold callSpecial? specialOf
  refine wpAny_bind (wpAny_bind (t1.at (i1.at ?_)))
  dsimp only
  rw [oi_bind]
  refine wpAny_holding (wpAny_bind (wpAny_pure (wpAny_bind (wpAny_call ?_))))
  refine codeAny_call_builtin oi_plain entry_oi (@check_slot (model prog w) _ _ _ "object.__init__" "object" "__init__" (.ref x) rest [] _ oi_kind oi_split (t1.andThen s2) (oi_args2 _ _) ?_)
  unfold Builtin.«object.__init__»
  dsimp only
  have i2 : Looks (model prog w) hp' (typeLookup (.ref 203) "__init__") (some (.builtin "object.__init__")) := i1
  rcases rest with _ | ⟨r0, rr⟩
  all_goals (repeat (first | exact hQ | simp only [bne_self_eq_false, Bool.false_eq_true, if_false] | lk))
end
end Mine
end
section
open PySem PySem.W PyProof.Rows
namespace Mine
open PySem.Calls PySem.Spec Builtin Builtin.ObjectAttr
set_option maxRecDepth 100000
set_option maxHeartbeats 4000000
theorem tuple_found (P : Params) : findCls (Mine.hd.heap_1 P) (.type "tuple") (.type "type") "__new__" = some (.val (.builtin "tuple.__new__")) := by kernel_rfl
theorem tuple_ga (P : Params) : findIn (Mine.hd.heap_1 P) (.type "type") "__getattribute__" = some (some (.builtin "type.__getattribute__")) := by kernel_rfl
theorem tuple_opq {M : Model} {h : Heap} : Looks M h (opaqueClassAbove (.type "tuple")) none := Looks.of_pure (by kernel_rfl)
theorem tuple_ty {M : Model} {h : Heap} : Looks M h (typeOf (.type "tuple")) (.type "type") := Looks.of_pure (by kernel_rfl)
theorem tuple_hook {M : Model} {h : Heap} : Looks M h (hookBefore (.type "type")) none := Looks.of_pure (by kernel_rfl)
theorem tuple_sub (P : Params) : subIn (Mine.hd.heap_1 P) (.type "type") (.type "type") = some true := by kernel_rfl
section
variable {prog : Program} {w : World} {A : Around} {E : Value → Shared → Prop} {s : Shared} {P : Params}
theorem method_tn {pl : Sem Bool} {Q : Value × List Value → Shared → Prop} (X : (Mine.hd.heap_1 P).In s.heap) (h : Q (.builtin "tuple.__new__", []) { s with toks := s.toks + 1 }) :
    wpAny (model prog w) A (getMethod (.type "tuple") "__new__" pl) Q E s := by
  have ha : wpAny (model prog w) A (getAttr (.type "tuple") "__new__") (fun v => Q (v, [])) E s :=
    cls_open X tuple_opq tuple_ty (tuple_ga P) tuple_hook (tuple_sub P) (tuple_found P) (wpAny_pure (by show wpAny _ _ (handedOut _) _ _ _; rw [handedOut_of rfl]; exact wpAny_pure h))
  unfold getMethod specialOf
  refine wpAny_bind (wpAny_bind (tuple_ty.here ((looks_findIn X (tuple_ga P)).here ?_)))
  dsimp only
  rw [if_pos canon_tga]
  exact wpAny_bind (wpAny_mono ha (fun _ _ z => wpAny_pure z) fun _ _ z => z)
end
end Mine
end
section
open PySem PySem.W PyProof.Rows
namespace Mine
open PySem.Calls PySem.Spec
section
variable {prog : Program} {w : World} {A : Around} {K : Frag} {E : Value → Shared → Prop} {s : Shared} {h₀ : Heap} {L : Addr} {m : Str → Option Value} {news : List (Addr × Obj)}
theorem new_misN {T : Addr} {items : Array Value} {n : Nat} {Q : Value → Shared → Prop} (Y : MK K) (F : Fr h₀ L s.heap m) (X₀ : K.In h₀) (N : News h₀ L s.heap news) (hT : (T, ({ cls := .type "tuple", data := .seq items n } : Obj)) ∈ news) (hz : items.size ≤ 1000)
    (h : ∀ x d h', Fr h₀ L h' m → News h₀ L h' ((x, misO items d) :: news) → (∀ p ∈ news, p.1 < x) → Q (.ref x) { s with heap := h' }) :
    wpAny (model prog w) A (call (.builtin "tuple.__new__") [.ref 203, .ref T]) Q E s := by
  refine new_mis Y (X₀.keeps F.keep) (N _ hT).1 rfl rfl hz fun h' hk => ?_
  have F₁ : Fr h₀ L h' m := F.keeps hk
  have N₁ : News h₀ L h' news := fun p hp => ⟨hk _ _ (N p hp).1, (N p hp).2⟩
  have N₂ := (N₁.push F₁ emptyDict).push (F₁.push _) (misO items h'.objs.size)
  rw [Heap.size_push] at N₂
  refine h _ h'.objs.size _ ((F₁.push _).push _) (fun p hp => N₂ p ?_) fun p hp => ?_
  · rcases List.mem_cons.mp hp with e | hp
    · exact e ▸ List.Mem.head _
    · exact List.Mem.tail _ (List.Mem.tail _ hp)
  · exact Nat.lt_succ_of_lt (Heap.lt_size (N₁ p hp).1)
end
theorem news_drop2 {h₀ h : Heap} {L : Addr} {p q : Addr × Obj} {news : List (Addr × Obj)} (N : News h₀ L h (p :: q :: news)) : News h₀ L h (p :: news) := fun r hr => N r (by
  rcases List.mem_cons.mp hr with e | hr
  · exact e ▸ List.Mem.head _
  · exact List.Mem.tail _ (List.Mem.tail _ hr))
theorem lt_drop {x : Addr} {q : Addr × Obj} {news : List (Addr × Obj)} (l : ∀ p ∈ q :: news, p.1 < x) : ∀ p ∈ news, p.1 < x := fun p hp => l p (List.Mem.tail _ hp)
abbrev ClM (d u : Nat) (w : World) (f : Addr) (news : List (Addr × Obj)) (vs : List Value) (items : Array Value) : Prop :=
  ∀ (mean : ExcName → Option Value) (mg mb : Str → Option Value) (dp un : Nat) (gd : Option (List Code)) (cn : Str) (cs : Scope) (a : Addr) (ccd : Value) (cl : List (Str × Addr)) (outer : List Env) (A₀ : Around) (base h₀ : Heap) (L : Addr) (m : Str → Option Value) (s : Shared) (Q E : Value → Shared → Prop),
    Below A₀ base outer h₀ → Fr h₀ L s.heap m → (Mine.hd.heap_1 w.params).In h₀ → News h₀ L s.heap news →
    Top Mine.vw (looseW Mine.vw [Str.ofString "_filemode_table", Str.ofString "_tuplegetter", Str.ofString "Mismatch", Str.ofString "_Mismatch"]) mean mg mb h₀ → cs.kind = .function →
    dp + d < recursionLimit → un + u < cLine → (∀ (x d : Addr) (h' : Heap) (tk' : Nat), Fr h₀ L h' m → News h₀ L h' ((x, misO items d) :: news) → (∀ p ∈ news, p.1 < x) → Q (.ref x) { s with heap := h', toks := tk' }) →
      wpAny (model PySem.Challenge.rw_aa0056_01.row.prog w) (ktrTop dp un gd cn cs L a ccd cl outer) (call (.ref f) vs) Q E s
local macro_rules | `(tactic| walk_at "getMethod type:tuple") => `(tactic| (k_here; (rename Fr _ _ _ _ => lF'); (rename Frag.In _ _ => lX'); (refine method_tn (lX'.keeps lF'.keep) ?_)))
local macro_rules | `(tactic| walk_at "call builtin:tuple.__new__") => `(tactic| (k_here; (rename Fr _ _ _ _ => lF'); (rename News _ _ _ _ => lN'); (rename Frag.In _ _ => lX'); (refine new_misN (mk _) lF' lX' lN' (List.Mem.head _) (Nat.le_of_ble_eq_true rfl) ?_); intro x' d' h' F' N' l1))
set_option maxRecDepth 100000 in
set_option maxHeartbeats 4000000 in
theorem new150_c {w : World} {news : List (Addr × Obj)} (x y : Int) (z : Str) (tx ty tz : Tok) : ClM 2 20 w 150 news [.ref 203, .int x tx, .int y ty, .str z tz] #[.int x tx, .int y ty, .str z tz] := by
  w_strict (
  k_with_none
  dsimp only [ClM]
  k_fill
  intros; rename_i hret
  have cbI : CbIn 150 := CbIn.mk
  refine wpAny_call ?_
  k_dflt cell_enter
  k_steps
  all_goals ((rename Fr _ _ _ _ => rF'); (rename News _ _ _ _ => rN'); exact hret _ _ _ _ rF' (news_drop2 rN') (lt_drop (by assumption))))
end Mine
end
section
open PySem PySem.W PyProof.Rows
namespace Mine
open PySem.Calls PySem.Spec
set_option maxRecDepth 100000 in
set_option maxHeartbeats 4000000 in
theorem mis_c {w : World} {news : List (Addr × Obj)} (x y : Int) (z : Str) (tx ty tz : Tok) : ClM 3 40 w 203 news [.int x tx, .int y ty, .str z tz] #[.int x tx, .int y ty, .str z tz] := by
  intro mean mg mb dp un gd cn cs a ccd cl outer A₀ base h₀ L m s Q E hB hF hX hN hT hk hd hu hret
  refine call_mis (mk _) hF hX ?_
  have key := fun (gd' : Option (List Code)) (un' : Nat) (hu' : un' + 20 < cLine) => new150_c (w := w) (news := news) x y z tx ty tz mean mg mb (dp + 1) un' gd' cn cs a ccd cl outer A₀ base h₀ L m { s with toks := s.toks + 1 } (fun v s' => ∃ x ox, v = .ref x ∧ s'.heap.get? x = some ox ∧ ox.cls = .ref 203 ∧ (Mine.hd.heap_1 w.params).In s'.heap ∧ Q (.ref x) s') E hB hF hX hN hT hk (by omega) hu' (fun x d h' tk' F' N' hlt => ⟨x, _, rfl, (N' _ (List.Mem.head _)).1, rfl, hX.keeps F'.keep, hret x d h' tk' F' N' hlt⟩)
  refine key _ _ ?_
  show un + Code.cUnits _ + 20 < cLine
  have : Code.cUnits (.builtin "type.__call__" ⟨[.ref 203, .int x tx, .int y ty, .str z tz], []⟩) ≤ 20 := by
    show_term exact Nat.le_of_ble_eq_true rfl
  omega
end Mine
end
section
open PySem PySem.W PyProof.Rows
namespace Mine
open PySem.Calls PySem.Spec
set_option maxRecDepth 100000
set_option maxHeartbeats 4000000
theorem sub_str_object : isSubtype (.type "str") (.type "object") = pure true := by rw [isSubtype_type]; kernel_rfl
abbrev objO : Obj := { cls := .type "object", data := .plain }
theorem str_eq_obj (b : Str) (u : Tok) (l : Addr) : Meets (Builtin.«str.__eq__» ⟨[.str b u, .ref l], []⟩) (fun _ R s => s.heap.get? l = some objO ∧ R (.ok (.ret .notImplemented)) s) :=
  .of_wp fun prog w A R s h => by
    obtain ⟨hp, g, d, tk, os⟩ := s; obtain ⟨hl, h⟩ := h
    have f1 : isSubtype (.type "object") (.type "str") = pure false := by rw [isSubtype_type]; kernel_rfl
    wp_walk using AutoSeq1.wpAny_loadPart' hl
    exact ⟨_, rfl, h⟩
theorem obj_eq_str (b : Str) (u : Tok) (l : Addr) : Meets (Builtin.«object.__eq__» ⟨[.ref l, .str b u], []⟩) (fun _ R s => s.heap.get? l = some objO ∧ R (.ok (.ret .notImplemented)) s) :=
  .of_wp fun prog w A R s h => by
    obtain ⟨hp, g, d, tk, os⟩ := s; obtain ⟨hl, h⟩ := h
    wp_walk using AutoSeq1.wpAny_loadPart' hl
    exact ⟨_, rfl, h⟩
section
variable {prog : Program} {w : World} {A : Around} {E : Value → Shared → Prop} {s : Shared}
theorem rc_obj_str {a b : Value} {Ta Tb ida idb : String} {k : Bool} {Q : Value → Shared → Prop} (ha : s.TypeIs a Ta) (hb : s.TypeIs b Tb)
    (hne : (Value.type Ta != Value.type Tb) = true) (hsub : isSubtype (.type Tb) (.type Ta) = pure true) (h1 : Slot Ta (cmpInfo .Eq).2.1 ida) (h2 : Slot Tb (cmpInfo .Eq).2.2 idb)
    (hc1 : ∀ Q' : Value → Shared → Prop, Q' .notImplemented s → wpAny (model prog w) A (call (.builtin ida) [a, b]) Q' E s)
    (hc2 : ∀ Q' : Value → Shared → Prop, Q' .notImplemented s → wpAny (model prog w) A (call (.builtin idb) [b, a]) Q' E s)
    (hk : ∀ Q' : Bool → Shared → Prop, Q' k s → wpAny (model prog w) A (isSame a b) Q' E s)
    (hr : [a, b].any Value.onHeap = false ∨ A.units < cLine) (h : Q (.bool k) s) : wpAny (model prog w) A (richCompare .Eq a b) Q E s := by
  rcases hi : cmpInfo CmpOp.Eq with ⟨sym, f, r⟩
  rw [hi] at h1 h2
  simp only [richCompare, hi, ha.oneThing_none]
  try with_reducible refine wpAny_holding ?_
  refine wpAny_bind (wpAny_cRoomFor_or hr ?_)
  refine wpAny_bind (wpAny_typeOf ha (wpAny_bind (wpAny_typeOf hb ?_)))
  simp only [hne, if_true]
  refine wpAny_bind (wpAny_of_eq hsub ?_)
  simp only [if_true, Bool.not_true, Bool.false_eq_true, if_false]
  refine wpAny_bind (m := tryCompare b _ a) (wpAny_tryCompare_declines hb h2 (hc2 _ ⟨rfl, ?_⟩))
  refine wpAny_bind (m := tryCompare a _ b) (wpAny_tryCompare_declines ha h1 (hc1 _ ⟨rfl, ?_⟩))
  exact wpAny_bind (wpAny_rule (wpAny_bind (hk _ (wpAny_pure h))))
theorem eq_obj_str {l : Addr} {b : Str} {u : Tok} {Q : Value → Shared → Prop} (hl : s.heap.get? l = some objO) (hu : A.units < cLine) (h : Q (.bool false) s) :
    wpAny (model prog w) A (compareOp .Eq (.ref l) (.str b u)) Q E s :=
  rc_obj_str (k := false) ⟨_, hl, rfl⟩ (typeIs_str s b u) (by decide) sub_str_object F.slot_object_eq F.slot_str_eq_refl
    (fun _ hq => call_meets F.slot_object_eq ⟨_, hl, rfl⟩ F.entry_object_eq (F.args_object_eq_2 _ _) (obj_eq_str b u l) ⟨hl, hq⟩)
    (fun _ hq => call_meets F.slot_str_eq_refl (typeIs_str s b u) F.entry_str_eq (F.args_str_eq_2 _ _) (str_eq_obj b u l) ⟨hl, hq⟩)
    (fun _ hq => wpAny_of_eq (rfl : isSame (.ref l) (.str b u) = pure false) hq) (.inr hu) h
end
end Mine
end
section
open PySem PySem.W PyProof.Rows
namespace Mine
open PySem.Calls PySem.Spec
set_option maxRecDepth 100000
set_option maxHeartbeats 4000000
theorem mro_object : mroOf (.type "object") = pure [.type "object"] := by rw [mroOf_type]; kernel_rfl
theorem lookup_object_new : typeLookup (.type "object") "__new__" = pure (some (.builtin "object.__new__")) := by rw [typeLookup_type, builtinLookup_eq_fast]; kernel_rfl
theorem called_object : TypeCalled "object" "object.__new__" "object.__init__" :=
  ⟨by decide +kernel, by decide +kernel, ⟨_, _, mro_object⟩, madeBy_type mro_object lookup_object_new (by decide +kernel), by decide +kernel, by rw [isSubtype_type]; kernel_rfl, F.slot_object_init⟩
theorem typeCall_object : checkTypeCall "object" ⟨[], []⟩ = pure () := by kernel_rfl
theorem newCall_object : checkBuiltinCall "object.__new__" ⟨[.type "object"], []⟩ = pure () := by kernel_rfl
theorem madeHere_object : Bind.madeHere "object.__new__" (.type "object") = pure () := by
  unfold Bind.madeHere
  have e : Bind.staticBase (.type "object") = pure (.type "object") := by first | rfl | kernel_rfl
  rw [e]
  simp only [pure_bind, called_object.made]
  first | rfl | kernel_rfl | (simp; rfl)
theorem object_new_meets : Meets (Builtin.«object.__new__» ⟨[.type "object"], []⟩) (fun _ R s => R (.ok (.ret (.ref s.heap.objs.size))) { s with heap := s.heap.push objO }) :=
  .of_wp fun prog w A R s h => by
    have hmh := madeHere_object
    wp_walk
    exact ⟨_, rfl, h⟩
theorem oi_args1 (obj : Value) : argsOk "object.__init__" ⟨[obj], []⟩ := by unfold argsOk; kernel_rfl
theorem object_init_0 {T : String} {self : Value} : Meets (Builtin.«object.__init__» ⟨[self], []⟩) (fun _ R s => s.TypeIs self T ∧ R (.ok (.ret .none)) s) := by
  refine Meets.of_wp fun prog w A R s hs => ?_
  obtain ⟨hT, hq⟩ := hs
  exact wpAny_pure ⟨_, rfl, hq⟩
section
variable {prog : Program} {w : World} {A : Around} {E : Value → Shared → Prop} {s : Shared} {h₀ : Heap} {L : Addr} {m : Str → Option Value} {news : List (Addr × Obj)} {Q : Value → Shared → Prop}
theorem call_obj (h : Q (.ref s.heap.objs.size) { s with heap := s.heap.push objO }) : wpAny (model prog w) A (call (.type "object") []) Q E s :=
  callType_meets (Q₁ := fun obj s₁ => s₁.TypeIs obj "object" ∧ Q obj s₁) called_object typeCall_object newCall_object F.entry_object_new F.entry_object_init object_new_meets
    ⟨⟨_, Heap.get?_push_size _ rfl, rfl⟩, h⟩ fun obj s₁ hq => ⟨hq.1, oi_args1 obj, _, object_init_0, hq.1, rfl, hq.2⟩
theorem obj_here (F : Fr h₀ L s.heap m) (N : News h₀ L s.heap news) (h : ∀ D h', Fr h₀ L h' m → News h₀ L h' ((D, objO) :: news) → (∀ p ∈ news, p.1 < D) → Q (.ref D) { s with heap := h' }) :
    wpAny (model prog w) A (call (.type "object") []) Q E s :=
  call_obj (h _ _ (F.push _) (N.push F _) fun p hp => Heap.lt_size (N p hp).1)
theorem list_here {x : Str} {t : Tok} (hh : A.handled = none) (F : Fr h₀ L s.heap m) (N : News h₀ L s.heap news) (hz : x.length ≤ 1000)
    (h : ∀ D us c h' tk, Fr h₀ L h' m → News h₀ L h' ((D, listOf (List.toArray us) c) :: news) → (∀ p ∈ news, p.1 < D) → StrsAre us (signs x) → Q (.ref D) { s with heap := h', toks := tk }) :
    wpAny (model prog w) A (call (.type "list") [.str x t]) Q E s :=
  list_strD hh F N (fun h' tk ys F' N' hk hn hl hp hc => by
    obtain ⟨⟨c, hc'⟩, _⟩ := hp
    have N₂ : News h₀ L h' ((s.heap.objs.size, listOf (List.toArray ys) c) :: news) := fun p hp => by
      rcases List.mem_cons.mp hp with e | hp
      · subst e
        exact ⟨hc', fun e => absurd F.ns.lt (by rw [← e]; exact Nat.lt_irrefl _), hn⟩
      · exact N' p hp
    exact h _ ys c h' tk F' N₂ (fun p hp => Heap.lt_size (N p hp).1) (StrsAre.of_carried hc)) (Nat.le_trans hz (by decide))
end
end Mine
end
section
open PySem PySem.W PyProof.Rows PySem.Calls PySem.Spec
set_option maxRecDepth 100000
namespace Mine
section
variable {prog : Program} {w : World} {A : Around} {E : Value → Shared → Prop} {Q : Flow → Shared → Prop} {s : Shared} {env : Env} {h₀ : Heap}
/-- one turn's end of a loop whose state is a ledger -/
def TEnd (h₀ : Heap) (L : Addr) (s : Shared) (own : List (Addr × Obj)) (J : (Str → Option Value) → List (Addr × Obj) → Prop) (f : Flow) (s' : Shared) : Prop :=
  (f = .next ∨ f = .cont) ∧ ∃ h' tk' m' nx, s' = { s with heap := h', toks := tk' } ∧ Fr h₀ L h' m' ∧ News h₀ L h' (nx ++ own) ∧ OwnOff own (nx.map (·.1)) ∧ J m' nx
theorem TEnd.next {L : Addr} {own nx : List (Addr × Obj)} {J : (Str → Option Value) → List (Addr × Obj) → Prop} {h' : Heap} {tk' : Nat} {m' : Str → Option Value} (F : Fr h₀ L h' m') (N : News h₀ L h' (nx ++ own)) (ho : OwnOff own (nx.map (·.1))) (hj : J m' nx) :
    TEnd h₀ L s own J .next { s with heap := h', toks := tk' } := ⟨.inl rfl, h', tk', m', nx, rfl, F, N, ho, hj⟩
theorem TEnd.cont {L : Addr} {own nx : List (Addr × Obj)} {J : (Str → Option Value) → List (Addr × Obj) → Prop} {h' : Heap} {tk' : Nat} {m' : Str → Option Value} (F : Fr h₀ L h' m') (N : News h₀ L h' (nx ++ own)) (ho : OwnOff own (nx.map (·.1))) (hj : J m' nx) :
    TEnd h₀ L s own J .cont { s with heap := h', toks := tk' } := ⟨.inr rfl, h', tk', m', nx, rfl, F, N, ho, hj⟩

theorem range_inv {r : Addr} {a₀ b₀ : Int} {t₀ u₀ v₀ : Tok} {n : Nat} {x : Str} {body : List Stmt} {m₀ : Str → Option Value} {news : List (Addr × Obj)} (J : Nat → (Str → Option Value) → List (Addr × Obj) → Prop)
    (hh : A.handled = none) (hr : IsRange s.heap r a₀ b₀ 1 t₀ u₀ v₀) (hsmall : Builtin.Range.small a₀ b₀ 1 = true) (hsz : Builtin.Range.rangeSize a₀ b₀ 1 = (n : Int)) (F : Fr h₀ env.locals s.heap m₀) (N : News h₀ env.locals s.heap news) (hj : J 0 m₀ news)
    (turn : ∀ i t m₁ nx h tk own, i < n → OwnOff own (nx.map (·.1)) → J i m₁ nx → Fr h₀ env.locals h (fun y => if y = x then some (.int (a₀ + (i : Int)) t) else m₁ y) → News h₀ env.locals h (nx ++ own) →
      wpAny (model prog w) A (execs body env) (TEnd h₀ env.locals { s with heap := h, toks := tk } own (J (i + 1))) E { s with heap := h, toks := tk })
    (done : ∀ m₁ nx h tk, J n m₁ nx → Fr h₀ env.locals h m₁ → News h₀ env.locals h nx → Q .next { s with heap := h, toks := tk }) :
    wpAny (model prog w) A (pyIter (.ref r)) (fun it s₂ => LoopAtV prog w A h₀ env x body Q E it s₂) E s := by
  refine wpAny_pyIter_range hr hsmall ?_
  have W : Walks prog w A s.heap.objs.size [s.heap.objs.size] [s.heap.objs.size] n (fun i v => i < n ∧ ∃ t, v = .int (a₀ + i * 1) t)
      (fun i h => IsRangeIter h s.heap.objs.size (a₀ + (i : Nat) * 1) ((n : Int) - (i : Nat)) 1) := (Walks.range hh _ a₀ 1 n).bound
  refine kdr_loop J W (fun _ h => h) (fun _ h => h) ?_ ?_ ?_ ?_ (by show IsRangeIter _ _ _ _ _; rw [hsz]; simpa using Heap.get?_push_size _ rfl) (F.push _) (fun p hp => ⟨Heap.get?_push_of_some _ (N p hp).1, (N p hp).2⟩) hj ?_ ?_
  · intro i h hi b hb
    rw [List.mem_singleton.mp hb]
    exact ⟨_, hi⟩
  · intro hm
    exact absurd F.ns.lt ((List.mem_singleton.mp hm) ▸ Nat.lt_irrefl _)
  · intro b hb
    rw [List.mem_singleton.mp hb]
    exact next_is_new F
  · intro p hp hI
    exact absurd (Heap.lt_size (N p hp).1) ((List.mem_singleton.mp hI) ▸ Nat.lt_irrefl _)
  · rintro i v m₁ nx h tk own hi ⟨_, t, rfl⟩ hoff hJ F₁ N₁
    have e1 : a₀ + (i : Int) * 1 = a₀ + (i : Int) := by omega
    rw [e1] at F₁
    refine wpAny_mono (turn i t m₁ nx h tk own hi hoff hJ F₁ N₁) (fun f s₂ p => ?_) fun _ _ e => e
    obtain ⟨hf, h', tk', m', nx', rfl, F', N', ho, hj'⟩ := p
    have fin : InvEndG h₀ env.locals (J (i + 1)) own { s with heap := h, toks := tk } { s with heap := h', toks := tk' } :=
      InvEndG.intro F' N' hj' ho (fun q hq => List.mem_append_left _ hq) (fun q hq => List.mem_append_right _ hq)
    rcases hf with rfl | rfl <;> exact fin
  · rintro m₁ nx h tk hJ F₁ N₁
    exact done m₁ nx h tk hJ F₁ N₁

theorem enum_mut {l : Addr} {n : Nat} {xi xc : Str} {pi pc pt : Pos} {x1 : Nat} {body : List Stmt} {m : Str → Option Value} {news : List (Addr × Obj)} (J : Nat → (Str → Option Value) → List (Addr × Obj) → Prop)
    (hh : A.handled = none) (hJl : ∀ i m nx, J i m nx → ∃ us c, (l, listOf (List.toArray us) c) ∈ nx ∧ us.length = n)
    (hxi : env.kindOf xi = some .local) (hxc : env.kindOf xc = some .local)
    (hp : (env.scope.kind == .class || (env.scope.kind == .module && env.locals != env.globals)) = false)
    (F : Fr h₀ env.locals s.heap m) (N : News h₀ env.locals s.heap news) (h0 : J 0 m news)
    (turn : ∀ i v t m₁ nx us c h tk own, i < n → (l, listOf (List.toArray us) c) ∈ nx → us[i]? = some v → J i m₁ nx → OwnOff own (nx.map (·.1)) →
      Fr h₀ env.locals h (fun y => if y = xc then some v else if y = xi then some (.int i t) else m₁ y) → News h₀ env.locals h (nx ++ own) →
      wpAny (model prog w) A (execs body env) (TEnd h₀ env.locals { s with heap := h, toks := tk } own (J (i + 1))) E { s with heap := h, toks := tk })
    (done : ∀ h tk m₁ nx, J n m₁ nx → Fr h₀ env.locals h m₁ → News h₀ env.locals h nx → Q .next { s with heap := h, toks := tk })
    (hE : PassesOwn (model prog w) A env E := by passes_own) :
    wpAny (model prog w) A (call (.type "enumerate") [.ref l]) (fun xv s₁ => wpAny (model prog w) A (pyIter xv) (fun it s₂ => codeAny (model prog w) A (.forLoop (.Tuple [.Name xi pi, .Name xc pc] x1 pt) it body [] env)
      (fun r s' => match r with | .ok f => Q f s' | .error e => cameBackBy (model prog w) A env E e s') s₂) E s₁) E s := by
  obtain ⟨us₀, c₀, hl₀, hn₀⟩ := hJl 0 m news h0
  have hlt : l < s.heap.objs.size := Heap.lt_size (N _ hl₀).1
  refine call_enumerate_1 (N _ hl₀).1 fun h₁ he hit hsz hk => ?_
  refine wpAny_pyIter_enum (s := { s with heap := h₁ }) he ?_
  have hLs : env.locals < s.heap.objs.size := F.ns.lt
  have heq : ∀ b o, h₀.get? b = some o → b < s.heap.objs.size := fun b o e => Heap.lt_size (F.keep b o e)
  generalize hz : s.heap.objs.size = z at he hit hlt hLs heq
  have hN0 : ∀ p ∈ news, p.1 < z := fun p hp => hz ▸ Heap.lt_size (N p hp).1
  have F₁ : Fr h₀ env.locals h₁ m := ⟨F.ns.keeps hk, fun b o e => hk b o (F.keep b o e), F.above⟩
  have N₁ : News h₀ env.locals h₁ news := fun p hp => ⟨hk _ _ (N p hp).1, (N p hp).2⟩
  have hne0 : h₀.get? (z + 1) = none := by
    cases e : h₀.get? (z + 1) with
    | none => rfl
    | some o => exact absurd (heq _ _ e) (Nat.not_lt.mpr (Nat.le_succ z))
  have hni0 : h₀.get? z = none := by
    cases e : h₀.get? z with
    | none => rfl
    | some o => exact absurd (heq _ _ e) (Nat.lt_irrefl _)
  refine codeAny_forLoop_any (fun k s' => ∃ h' tk m' nx i old, s' = { s with heap := h', toks := tk } ∧ IsEnum h' (z + 1) z (i : Nat) old ∧ h'.IsListIter z l i ∧ Fr h₀ env.locals h' m' ∧ News h₀ env.locals h' nx ∧
    (∀ p ∈ nx, p.1 ≠ z ∧ p.1 ≠ z + 1) ∧ J i m' nx ∧ i ≤ n ∧ k = n + 1 - i) ?_ (n + 1)
    ⟨h₁, s.toks, m, news, 0, .none, rfl, he, hit, F₁, N₁, (fun p hp => ⟨Nat.ne_of_lt (hN0 p hp), Nat.ne_of_lt (Nat.lt_succ_of_lt (hN0 p hp))⟩), h0, Nat.zero_le _, rfl⟩
  rintro k s' ⟨h', tk, m', nx, i, old, rfl, he', hit', F', N', hoff, hJ, hi, rfl⟩
  obtain ⟨us, c, hl, hn⟩ := hJl i m' nx hJ
  have hls : h'.IsList l us.toArray := ⟨_, (N' _ hl).1, rfl, _, rfl⟩
  have hwr : ∀ b o, h₀.get? b = some o → b ≠ z ∧ b ≠ z + 1 := fun b o e => ⟨Nat.ne_of_lt (heq b o e), Nat.ne_of_lt (Nat.lt_succ_of_lt (heq b o e))⟩
  have hLz : env.locals ≠ z ∧ env.locals ≠ z + 1 := ⟨Nat.ne_of_lt hLs, Nat.ne_of_lt (Nat.lt_succ_of_lt hLs)⟩
  by_cases hlt' : i < n
  · have hx : us.toArray[i]? = some (us[i]'(hn ▸ hlt')) := by simp [hn ▸ hlt']
    refine wpAny_pyNext_enum_item (s := { s with heap := h', toks := tk }) he' hit' hls hx (Nat.succ_ne_self z) fun h₂ ho hit₂ hT hsz₂ hk₂ => ?_
    have F₂ : Fr h₀ env.locals h₂ m' := ⟨F'.ns.at' fun o e => hk₂ _ o hLz.2 hLz.1 e, fun b o e => hk₂ b o (hwr b o e).2 (hwr b o e).1 (F'.keep b o e), F'.above⟩
    have N₂ : News h₀ env.locals h₂ nx := fun q hq => ⟨hk₂ _ _ (hoff q hq).2 (hoff q hq).1 (N' q hq).1, (N' q hq).2⟩
    refine wpAny_letOwnedTupleGo_enum ho fun h₃ he₃ hs₃ => ?_
    have F₃ : Fr h₀ env.locals h₃ m' := ⟨F₂.ns.at' fun o e => (hs₃.2 _ hLz.2).trans e, fun b o e => (hs₃.2 b (hwr b o e).2).trans (F₂.keep b o e), F₂.above⟩
    have N₃ : News h₀ env.locals h₃ nx := fun q hq => ⟨(hs₃.2 _ (hoff q hq).2).trans (N₂ q hq).1, (N₂ q hq).2⟩
    obtain ⟨oi, hoi, hci, hdi⟩ := id hit₂
    have hoi₃ : h₃.get? z = some oi := (hs₃.2 _ (Nat.ne_of_lt (Nat.lt_succ_self z))).trans hoi
    have hTz : h'.objs.size ≠ z + 1 := Nat.ne_of_gt (Heap.lt_size he')
    have hT₃ : h₃.get? h'.objs.size = some { cls := .type "tuple", data := .seq #[.int i tk, us[i]'(hn ▸ hlt')] } := (hs₃.2 _ hTz).trans hT
    have N₄ : News h₀ env.locals h₃ (nx ++ [(z + 1, _), (z, oi)]) := fun q hq => by
      rcases List.mem_append.mp hq with hq | hq
      · exact N₃ q hq
      · rcases List.mem_cons.mp hq with e | hq
        · rw [e]; exact ⟨he₃, Ne.symm hLz.2, hne0⟩
        · rw [List.mem_singleton.mp hq]; exact ⟨hoi₃, Ne.symm hLz.1, hni0⟩
    refine unpackN_ F₃ N₄ ⟨_, hT₃, rfl, _, rfl⟩ hh rfl rfl fun h₄ F₄ N₅ => ?_
    refine wpAny_assignInOrder_more (wpAny_assign_Name (wpAny_storeName_local hxi F₄.ns (fun h₅ hn₅ hs₅ => ?_) hp))
    refine wpAny_assignInOrder_more (wpAny_assign_Name (wpAny_storeName_local hxc hn₅ (fun h₆ hn₆ hs₆ => ?_) hp))
    refine wpAny_assignInOrder_none ?_
    have F₆ := (F₄.set hn₅ hs₅).set hn₆ hs₆
    have N₆ := (N₅.set hs₅).set hs₆
    have hown : ∀ oe : Obj, OwnOff [(z + 1, oe), (z, oi)] (nx.map (·.1)) := fun oe p hp b hb => by
      obtain ⟨q, hq, rfl⟩ := List.mem_map.mp hb
      rcases List.mem_cons.mp hp with e | hp
      · rw [e]; exact Ne.symm (hoff q hq).2
      · rw [List.mem_singleton.mp hp]; exact Ne.symm (hoff q hq).1
    refine wpAny_passesOwn hE (wpAny_mono (turn i (us[i]'(hn ▸ hlt')) tk m' nx us c h₆ _ _ hlt' hl (by simp [hn ▸ hlt']) hJ (hown _) F₆ N₆) (fun f s₅ h₅ => ?_) fun _ _ e => e)
    obtain ⟨hf, h₇, tk₇, m₇, nx₇, rfl, F₇, N₇, ho₇, hj₇⟩ := h₅
    have fin : ∃ k', k' < n + 1 - i ∧ ∃ h' tk m' nx i old, ({ s with heap := h₇, toks := tk₇ } : Shared) = { s with heap := h', toks := tk } ∧ IsEnum h' (z + 1) z (i : Nat) old ∧ h'.IsListIter z l i ∧ Fr h₀ env.locals h' m' ∧ News h₀ env.locals h' nx ∧
        (∀ p ∈ nx, p.1 ≠ z ∧ p.1 ≠ z + 1) ∧ J i m' nx ∧ i ≤ n ∧ k' = n + 1 - i := by
      refine ⟨n + 1 - (i + 1), by omega, h₇, tk₇, m₇, nx₇, i + 1, _, rfl, (N₇ _ (List.mem_append_right _ (List.Mem.head _))).1, ?_, F₇, (fun q hq => N₇ q (List.mem_append_left _ hq)), (fun q hq => ?_), hj₇, hlt', rfl⟩
      · exact ⟨oi, (N₇ _ (List.mem_append_right _ (List.Mem.tail _ (List.Mem.head _)))).1, hci, hdi⟩
      · have hb : q.1 ∈ nx₇.map (·.1) := List.mem_map.mpr ⟨q, hq, rfl⟩
        exact ⟨fun e => ho₇ _ (List.Mem.tail _ (List.Mem.head _)) _ hb e.symm, fun e => ho₇ _ (List.Mem.head _) _ hb e.symm⟩
    rcases hf with rfl | rfl <;> exact fin
  · have hin : i = n := by omega
    subst hin
    have hx : us.toArray[i]? = none := by simp [hn]
    refine wpAny_pyNext_enum_end (s := { s with heap := h', toks := tk }) hh he' hit' hls hx fun h₂ he₂ => ?_
    have F₂ : Fr h₀ env.locals h₂ m' := ⟨F'.ns.at' fun o e => he₂ _ o hLz.1 e, fun b o e => he₂ b o (hwr b o e).1 (F'.keep b o e), F'.above⟩
    have N₂ : News h₀ env.locals h₂ nx := fun q hq => ⟨he₂ _ _ (hoff q hq).1 (N' q hq).1, (N' q hq).2⟩
    exact wpAny_execs_nil (done h₂ tk m' nx hJ F₂ N₂)
end
end Mine
end
section
open PySem PySem.W PyProof.Rows
namespace Mine
/-! signs that are taken out one after the other -/
def bl (c : Nat) (o : Option Nat) : Option Nat := if o = some c then none else o
def blk (c : Nat) (l : List (Option Nat)) : List (Option Nat) := l.map (bl c)
def cn (c : Nat) : List (Option Nat) → Int
  | [] => 0
  | o :: l => (if o = some c then 1 else 0) + cn c l
theorem cn_append (c : Nat) (l k : List (Option Nat)) : cn c (l ++ k) = cn c l + cn c k := by
  induction l with
  | nil => simp [cn]
  | cons o l ih => simp only [List.cons_append, cn, ih]; omega
theorem cn_nonneg (c : Nat) (l : List (Option Nat)) : 0 ≤ cn c l := by
  induction l with
  | nil => simp [cn]
  | cons o l ih => simp only [cn]; split <;> omega
theorem cn_none (c : Nat) (l : List (Option Nat)) (h : ∀ o ∈ l, o = none) : cn c l = 0 := by
  induction l with
  | nil => rfl
  | cons o l ih =>
    have h1 := h o (List.Mem.head _)
    subst h1
    have h2 := ih fun p hp => h p (List.Mem.tail _ hp)
    simp [cn, h2]
theorem blk_none (c : Nat) (l : List (Option Nat)) (h : ∀ o ∈ l, o = none) : blk c l = l := by
  induction l with
  | nil => rfl
  | cons o l ih =>
    have h1 := h o (List.Mem.head _)
    subst h1
    have h2 := ih fun p hp => h p (List.Mem.tail _ hp)
    simp only [blk, List.map_cons] at h2 ⊢
    rw [h2]; rfl
theorem cn_blk (c d : Nat) (l : List (Option Nat)) : cn d (blk c l) = if d = c then 0 else cn d l := by
  induction l with
  | nil => simp [blk, cn]
  | cons o l ih =>
    simp only [blk, List.map_cons, cn] at ih ⊢
    rw [ih]
    by_cases h : d = c
    · subst h
      simp only [if_true, bl]
      by_cases h2 : o = some d
      · simp [h2]
      · simp [h2]
    · simp only [h, if_false, bl]
      by_cases h2 : o = some c
      · subst h2
        have h3 : ¬ (some c = some d) := fun e => h (Option.some.inj e).symm
        simp [h3]
      · simp [h2]
theorem blk_length (c : Nat) (l : List (Option Nat)) : (blk c l).length = l.length := by simp [blk]
/-- a loop that takes out c has come to j -/
structure InC (c : Nat) (l : List (Option Nat)) (j : Nat) (n : Int) (l' : List (Option Nat)) : Prop where
  eq : l' = blk c (l.take j) ++ l.drop j
  num : n = cn c (l.take j)
theorem InC.start {c : Nat} {l : List (Option Nat)} {i : Nat} (h : ∀ o ∈ l.take i, o = none) : InC c l i 0 l :=
  ⟨by rw [blk_none c _ h, List.take_append_drop], (cn_none c _ h).symm⟩
theorem InC.len {c : Nat} {l l' : List (Option Nat)} {j : Nat} {n : Int} (h : InC c l j n l') : l'.length = l.length := by
  rw [h.eq, List.length_append, blk_length, List.length_take, List.length_drop]; omega
theorem InC.at {c : Nat} {l l' : List (Option Nat)} {j : Nat} {n : Int} (h : InC c l j n l') (hj : j < l.length) : l'[j]? = l[j]? := by
  rw [h.eq, List.getElem?_append_right (by rw [blk_length, List.length_take]; omega), blk_length, List.length_take, List.getElem?_drop]
  congr 1; omega
theorem InC.hit {c : Nat} {l l' : List (Option Nat)} {j : Nat} {n : Int} (h : InC c l j n l') (hj : l[j]? = some (some c)) : InC c l (j + 1) (n + 1) (l'.set j none) := by
  obtain ⟨hlt, e⟩ := List.getElem?_eq_some_iff.mp hj
  have ht : l.take (j + 1) = l.take j ++ [some c] := by rw [List.take_add_one, hj]; rfl
  have hd : l.drop j = some c :: l.drop (j + 1) := by rw [List.drop_eq_getElem_cons hlt, e]
  have hlen : (blk c (l.take j)).length = j := by rw [blk_length, List.length_take]; omega
  refine ⟨?_, ?_⟩
  · rw [ht, h.eq, hd, List.set_append_right _ _ (by omega), hlen]
    simp [blk, bl]
  · rw [ht, cn_append, ← h.num]; simp [cn]
theorem InC.miss {c : Nat} {l l' : List (Option Nat)} {j : Nat} {n : Int} {o : Option Nat} (h : InC c l j n l') (hj : l[j]? = some o) (ho : o ≠ some c) : InC c l (j + 1) n l' := by
  obtain ⟨hlt, e⟩ := List.getElem?_eq_some_iff.mp hj
  have ht : l.take (j + 1) = l.take j ++ [o] := by rw [List.take_add_one, hj]; rfl
  have hd : l.drop j = o :: l.drop (j + 1) := by rw [List.drop_eq_getElem_cons hlt, e]
  refine ⟨?_, ?_⟩
  · rw [ht, h.eq, hd]
    simp [blk, bl, ho]
  · rw [ht, cn_append, ← h.num]; simp [cn, ho]
theorem InC.done {c : Nat} {l l' : List (Option Nat)} {j : Nat} {n : Int} (h : InC c l j n l') (hj : j = l.length) : l' = blk c l ∧ n = cn c l := by
  subst hj
  have h1 := h.eq
  have h2 := h.num
  rw [List.take_length] at h1 h2
  rw [List.drop_length, List.append_nil] at h1
  exact ⟨h1, h2⟩

/-! what the differences weigh -/
def wt (c : Nat) : Int := if c = 115 ∨ c = 116 then 1 else 2
def bagOf : List (Int × Int × Nat) → Int
  | [] => 0
  | x :: l => (if x.1 > x.2.1 then (x.1 - x.2.1) * wt x.2.2 else 0) + bagOf l
theorem bagOf_snoc (l : List (Int × Int × Nat)) (x : Int × Int × Nat) : bagOf (l ++ [x]) = bagOf l + (if x.1 > x.2.1 then (x.1 - x.2.1) * wt x.2.2 else 0) := by
  induction l with
  | nil => simp [bagOf]
  | cons y l ih => simp only [List.cons_append, bagOf, ih]; omega
def tm (cs ct : List (Option Nat)) (c : Nat) : Int := if cn c cs > cn c ct then (cn c cs - cn c ct) * wt c else 0
def TTL (cs ct : List (Option Nat)) : List Nat → Int
  | [] => 0
  | c :: l => tm cs ct c + TTL cs ct l
def TT (cs ct : List (Option Nat)) : Int := TTL cs ct AL
theorem TTL_blk (cs ct : List (Option Nat)) (c : Nat) (l : List Nat) (hn : l.Nodup) : TTL (blk c cs) (blk c ct) l = TTL cs ct l - (if c ∈ l then tm cs ct c else 0) := by
  induction l with
  | nil => simp [TTL]
  | cons d l ih =>
    have h1 := ih (List.nodup_cons.mp hn).2
    have h2 := (List.nodup_cons.mp hn).1
    simp only [TTL, h1, tm, cn_blk]
    by_cases h : d = c
    · subst h
      simp [h2]
      omega
    · have h3 : ¬ c = d := fun e => h e.symm
      simp only [h, if_false, List.mem_cons, h3, false_or]
      omega
theorem AL_nodup : AL.Nodup := by decide
theorem TT_blk {cs ct : List (Option Nat)} {c : Nat} (h : c ∈ AL) : TT (blk c cs) (blk c ct) = TT cs ct - tm cs ct c := by
  unfold TT; rw [TTL_blk _ _ _ _ AL_nodup, if_pos h]
theorem TTL_none {cs ct : List (Option Nat)} (h : ∀ o ∈ cs, o = none) (l : List Nat) : TTL cs ct l = 0 := by
  induction l with
  | nil => rfl
  | cons d l ih =>
    have h1 := cn_none d cs h
    have h2 := cn_nonneg d ct
    simp only [TTL, ih, tm, h1]
    rw [if_neg (by omega)]; rfl

/-- the first outer loop -/
structure I1 (T : Int) (i : Nat) (cs ct : List (Option Nat)) (ms : List (Int × Int × Nat)) : Prop where
  ls : cs.length = 10
  lt : ct.length = 10
  blank : ∀ o ∈ cs.take i, o = none
  al : ∀ c, some c ∈ cs → c ∈ AL
  alt : ∀ c, some c ∈ ct → c ∈ AL
  alm : ∀ x ∈ ms, x.2.2 ∈ AL
  tot : bagOf ms + TT cs ct = T
  small : ms.length ≤ i
theorem take_blank {l : List (Option Nat)} {i : Nat} (h : ∀ o ∈ l.take i, o = none) (e : l[i]? = some none) : ∀ o ∈ l.take (i + 1), o = none := by
  intro o ho
  rw [List.take_add_one, e] at ho
  rcases List.mem_append.mp ho with ho | ho
  · exact h o ho
  · simpa using ho
theorem blk_take {c : Nat} {l : List (Option Nat)} {i : Nat} (h : ∀ o ∈ l.take i, o = none) (e : l[i]? = some (some c)) : ∀ o ∈ (blk c l).take (i + 1), o = none := by
  have h1 : (blk c l)[i]? = some none := by simp [blk, e, bl]
  have h2 : (blk c l).take i = l.take i := by
    have := blk_none c _ h
    rw [← this]; simp [blk, List.map_take]
  exact take_blank (by rw [h2]; exact h) h1
theorem blk_mem {c d : Nat} {l : List (Option Nat)} (h : some d ∈ blk c l) : some d ∈ l := by
  obtain ⟨o, ho, e⟩ := List.mem_map.mp h
  unfold bl at e
  split at e
  · cases e
  · rw [← e]; exact ho
theorem I1.skip {T : Int} {i : Nat} {cs ct : List (Option Nat)} {ms : List (Int × Int × Nat)} (h : I1 T i cs ct ms) (e : cs[i]? = some none) : I1 T (i + 1) cs ct ms :=
  ⟨h.ls, h.lt, take_blank h.blank e, h.al, h.alt, h.alm, h.tot, Nat.le_succ_of_le h.small⟩
theorem I1.same {T : Int} {i c : Nat} {cs ct : List (Option Nat)} {ms : List (Int × Int × Nat)} (h : I1 T i cs ct ms) (e : cs[i]? = some (some c)) (hc : cn c cs = cn c ct) : I1 T (i + 1) (blk c cs) (blk c ct) ms := by
  refine ⟨by rw [blk_length, h.ls], by rw [blk_length, h.lt], blk_take h.blank e, fun d hd => h.al d (blk_mem hd), fun d hd => h.alt d (blk_mem hd), h.alm, ?_, Nat.le_succ_of_le h.small⟩
  have h1 := h.tot
  rw [TT_blk (h.al c (List.mem_of_getElem? e))]
  have h2 : tm cs ct c = 0 := by unfold tm; rw [if_neg (by omega)]
  omega
theorem I1.more {T : Int} {i c : Nat} {cs ct : List (Option Nat)} {ms : List (Int × Int × Nat)} (h : I1 T i cs ct ms) (e : cs[i]? = some (some c)) : I1 T (i + 1) (blk c cs) (blk c ct) (ms ++ [(cn c cs, cn c ct, c)]) := by
  have hc := h.al c (List.mem_of_getElem? e)
  refine ⟨by rw [blk_length, h.ls], by rw [blk_length, h.lt], blk_take h.blank e, fun d hd => h.al d (blk_mem hd), fun d hd => h.alt d (blk_mem hd), fun x hx => ?_, ?_, by have := h.small; simp; omega⟩
  · rcases List.mem_append.mp hx with hx | hx
    · exact h.alm x hx
    · rw [List.mem_singleton.mp hx]; exact hc
  · have h1 := h.tot
    rw [TT_blk hc, bagOf_snoc]
    unfold tm
    simp only
    omega
/-- the second outer loop -/
structure I2 (T : Int) (i : Nat) (ct : List (Option Nat)) (ms : List (Int × Int × Nat)) : Prop where
  lt : ct.length = 10
  blank : ∀ o ∈ ct.take i, o = none
  alt : ∀ c, some c ∈ ct → c ∈ AL
  alm : ∀ x ∈ ms, x.2.2 ∈ AL
  tot : bagOf ms = T
  small : ms.length ≤ 10 + i
theorem I1.done {T : Int} {cs ct : List (Option Nat)} {ms : List (Int × Int × Nat)} (h : I1 T 10 cs ct ms) : I2 T 0 ct ms := by
  have h1 := h.blank
  rw [List.take_of_length_le (by rw [h.ls]; exact Nat.le_refl _)] at h1
  have h2 := h.tot
  unfold TT at h2
  rw [TTL_none h1] at h2
  exact ⟨h.lt, by simp, h.alt, h.alm, by omega, h.small⟩
theorem I2.skip {T : Int} {i : Nat} {ct : List (Option Nat)} {ms : List (Int × Int × Nat)} (h : I2 T i ct ms) (e : ct[i]? = some none) : I2 T (i + 1) ct ms :=
  ⟨h.lt, take_blank h.blank e, h.alt, h.alm, h.tot, Nat.le_succ_of_le h.small⟩
theorem I2.more {T : Int} {i c : Nat} {ct : List (Option Nat)} {ms : List (Int × Int × Nat)} (h : I2 T i ct ms) (e : ct[i]? = some (some c)) : I2 T (i + 1) (blk c ct) (ms ++ [(0, cn c ct, c)]) := by
  have hc := h.alt c (List.mem_of_getElem? e)
  refine ⟨by rw [blk_length, h.lt], blk_take h.blank e, fun d hd => h.alt d (blk_mem hd), fun x hx => ?_, ?_, by have := h.small; simp; omega⟩
  · rcases List.mem_append.mp hx with hx | hx
    · exact h.alm x hx
    · rw [List.mem_singleton.mp hx]; exact hc
  · have h1 := cn_nonneg c ct
    rw [bagOf_snoc, if_neg (by simp only; omega), h.tot]; omega
theorem I1.start {a b : List Nat} (ha : a.length = 10) (hb : b.length = 10) (oa : ∀ c ∈ a, c ∈ AL) (ob : ∀ c ∈ b, c ∈ AL) : I1 (TT (a.map some) (b.map some)) 0 (a.map some) (b.map some) [] :=
  ⟨by simpa using ha, by simpa using hb, by simp, fun c hc => oa c (by simpa using hc), fun c hc => ob c (by simpa using hc), by simp, by simp [bagOf], Nat.le_refl _⟩

/-! how the heap bears them -/
inductive OV (NU : Addr) : List Value → List (Option Nat) → Prop
  | nil : OV NU [] []
  | sm (c : Nat) (t : Tok) {vs : List Value} {os : List (Option Nat)} : OV NU vs os → OV NU (.str (chr1 c) t :: vs) (some c :: os)
  | nn {vs : List Value} {os : List (Option Nat)} : OV NU vs os → OV NU (.ref NU :: vs) (none :: os)
theorem OV.length {NU : Addr} {vs : List Value} {os : List (Option Nat)} (h : OV NU vs os) : vs.length = os.length := by
  induction h with
  | nil => rfl
  | sm _ _ _ ih => simp [ih]
  | nn _ ih => simp [ih]
theorem OV.at {NU : Addr} {vs : List Value} {os : List (Option Nat)} (h : OV NU vs os) : ∀ {i : Nat} {v : Value}, vs[i]? = some v → (os[i]? = some none ∧ v = .ref NU) ∨ ∃ c t, os[i]? = some (some c) ∧ v = .str (chr1 c) t := by
  induction h with
  | nil => intro i v hv; simp at hv
  | sm c t _ ih =>
    intro i v hv
    cases i with
    | zero => exact .inr ⟨c, t, rfl, by simpa using hv.symm⟩
    | succ i => simpa using ih (i := i) (by simpa using hv)
  | nn _ ih =>
    intro i v hv
    cases i with
    | zero => exact .inl ⟨rfl, by simpa using hv.symm⟩
    | succ i => simpa using ih (i := i) (by simpa using hv)
theorem OV.set {NU : Addr} {vs : List Value} {os : List (Option Nat)} (h : OV NU vs os) : ∀ (i : Nat), OV NU (vs.set i (.ref NU)) (os.set i none) := by
  induction h with
  | nil => intro i; simpa using OV.nil
  | sm c t h ih =>
    intro i
    cases i with
    | zero => exact OV.nn h
    | succ i => exact OV.sm c t (ih i)
  | nn h ih =>
    intro i
    cases i with
    | zero => exact OV.nn h
    | succ i => exact OV.nn (ih i)
theorem OV.of {NU : Addr} : ∀ {us : List Value} {l : List Nat}, StrsAre us (l.map chr1) → OV NU us (l.map some)
  | [], [], _ => .nil
  | [], _ :: _, h => by cases h
  | _ :: _, [], h => by cases h
  | _ :: _, c :: l, h => by
    cases h with
    | cons _ t r => exact OV.sm c _ (OV.of r)
inductive MV (news : List (Addr × Obj)) : List Value → List (Int × Int × Nat) → Prop
  | nil : MV news [] []
  | cons {A d : Addr} {p q : Int} {c : Nat} {tp tq tc : Tok} {vs : List Value} {ms : List (Int × Int × Nat)} : (A, misO #[.int p tp, .int q tq, .str (chr1 c) tc] d) ∈ news → MV news vs ms → MV news (.ref A :: vs) ((p, q, c) :: ms)
theorem MV.mono {n n' : List (Addr × Obj)} (hs : ∀ p ∈ n, p ∈ n') {vs : List Value} {ms : List (Int × Int × Nat)} (h : MV n vs ms) : MV n' vs ms := by
  induction h with
  | nil => exact .nil
  | cons hm _ ih => exact .cons (hs _ hm) ih
theorem MV.snoc {n : List (Addr × Obj)} {vs : List Value} {ms : List (Int × Int × Nat)} (h : MV n vs ms) {A d : Addr} {p q : Int} {c : Nat} {tp tq tc : Tok} (hm : (A, misO #[.int p tp, .int q tq, .str (chr1 c) tc] d) ∈ n) : MV n (vs ++ [.ref A]) (ms ++ [(p, q, c)]) := by
  induction h with
  | nil => exact .cons hm .nil
  | cons hm' _ ih => exact .cons hm' ih
theorem MV.length {n : List (Addr × Obj)} {vs : List Value} {ms : List (Int × Int × Nat)} (h : MV n vs ms) : vs.length = ms.length := by
  induction h with
  | nil => rfl
  | cons _ _ ih => simp [ih]
end Mine
end
section
open PySem PySem.W PyProof.Rows PySem.Calls PySem.Spec
set_option maxRecDepth 100000
namespace Mine
section
variable {prog : Program} {w : World} {A : Around} {E : Value → Shared → Prop} {s : Shared} {h₀ : Heap} {L D : Addr} {m : Str → Option Value} {us : List Value} {c : Nat} {rest news : List (Addr × Obj)}
theorem set_here {k : Nat} {t : Tok} {v : Value} {Q : Unit → Shared → Prop} (F : Fr h₀ L s.heap m) (N : News h₀ L s.heap ((D, listOf us.toArray c) :: rest)) (hoff : ∀ p ∈ rest, p.1 ≠ D) (hk : k < us.length) (hz : us.length ≤ 1000)
    (h : ∀ h', Fr h₀ L h' m → News h₀ L h' ((D, listOf (us.set k v).toArray c) :: rest) → Q () { s with heap := h' }) :
    wpAny (model prog w) A (setItem (.ref D) (.int (k : Int) t) v) Q E s := by
  have z := N _ (List.Mem.head _)
  refine ki_setAt z.1 (by omega) (by omega) (by rw [List.size_toArray]; omega) (h _ (F.change (Heap.SameBut.update ..) z.2.1 z.2.2) (ki_turn (pre := []) _ N (fun _ hp => nomatch hp) hoff ?_ ?_))
  · show us.toArray.setIfInBounds (k : Int).toNat v = (us.set k v).toArray
    apply Array.toList_inj.mp
    simp
  · simp
theorem item_here {k : Nat} {u : Tok} {value slice : PySem.Expr} {v : Value} {Q : Value → Shared → Prop} (N : News h₀ L s.heap news) (hm : (D, listOf us.toArray c) ∈ news) (hk : us[k]? = some v) (hz : us.length ≤ 1000) (h : Q v s)
    (hs : subscripted slice false (.ref D) (.int (k : Int) u) = operate [.ref D, .int (k : Int) u] (getItem (.ref D) (.int (k : Int) u)) := by with_unfolding_all rfl) (hg : ∀ r, letTemporaryGo value (.ref D) r = pure () := by intro _; with_unfolding_all rfl) :
    wpAny (model prog w) A (subscriptTail value slice (.ref D) (.int (k : Int) u)) Q E s := by
  have hlt : k < us.length := (List.getElem?_eq_some_iff.mp hk).1
  exact item_list (items := us.toArray) ⟨_, (N _ hm).1, rfl, _, rfl⟩ (by omega) (by omega) (by simpa using hk) h hs hg
theorem len_here {n : Nat} {Q : Value → Shared → Prop} (N : News h₀ L s.heap news) (hm : (D, listOf us.toArray c) ∈ news) (hn : us.length = n) (hz : n ≤ 1000) (h : ∀ t k, Q (.int (n : Int) t) { s with toks := k }) :
    wpAny (model prog w) A (call (.builtin "len") [.ref D]) Q E s :=
  len_list (items := us.toArray) ⟨_, (N _ hm).1, rfl, _, rfl⟩ (by rw [List.size_toArray, hn]; omega) (by rw [List.size_toArray, hn]; exact h _ _)
theorem signs_len {us : List Value} {a : Str} {k : Nat} (h : StrsAre us (signs a)) (ha : a.length = k) : us.length = k := by
  rw [h.length, signs_length, ha]
theorem eq_strT {x y : Str} {t u : Tok} {Q : Value → Shared → Prop} (e : x = y) (h : Q (.bool true) s) : wpAny (model prog w) A (compareOp .Eq (.str x t) (.str y u)) Q E s :=
  eq_str (by have : (x == y) = true := by rw [e]; exact beq_self_eq_true _
             rw [this]; exact h)
theorem eq_strF {x y : Nat} {t u : Tok} {Q : Value → Shared → Prop} (e : x ≠ y) (h : Q (.bool false) s) : wpAny (model prog w) A (compareOp .Eq (.str (chr1 x) t) (.str (chr1 y) u)) Q E s :=
  eq_str (by rw [show (chr1 x == chr1 y) = false by rw [chr1_beq]; exact decide_eq_false e]; exact h)
end
section
variable {prog : Program} {w : World} {A : Around} {E : Value → Shared → Prop} {Q : Flow → Shared → Prop} {s : Shared} {env : Env} {h₀ : Heap}
/-- the end of a turn that may have raised one count -/
def KEnd (h₀ : Heap) (L : Addr) (s : Shared) (led : List (Addr × Obj)) (x : Str) (n : Int) (m : Str → Option Value) (f : Flow) (s' : Shared) : Prop :=
  f = .next ∧ ∃ h' tk' m' t, s' = { s with heap := h', toks := tk' } ∧ Fr h₀ L h' m' ∧ News h₀ L h' led ∧ m' x = some (.int n t) ∧ ∀ z, z ≠ x → m' z = m z
theorem KEnd.intro {L : Addr} {led : List (Addr × Obj)} {x : Str} {n : Int} {m m' : Str → Option Value} {h' : Heap} {tk' : Nat} {t : Tok} (F : Fr h₀ L h' m') (N : News h₀ L h' led) (hx : m' x = some (.int n t)) (hz : ∀ z, z ≠ x → m' z = m z) :
    KEnd h₀ L s led x n m .next { s with heap := h', toks := tk' } := ⟨rfl, h', tk', m', t, rfl, F, N, hx, hz⟩
theorem fr_eq {L : Addr} {h : Heap} {m m' : Str → Option Value} (F : Fr h₀ L h m) (e : ∀ z, m' z = m z) : Fr h₀ L h m' := by
  have : m' = m := funext e
  rw [this]; exact F
theorem cnt_range {r D NU : Addr} {a₀ b₀ : Int} {t₁ u₁ v₁ t₀ : Tok} {xj xn : Str} {body : List Stmt} {m₀ : Str → Option Value} {us : List Value} {cD c i : Nat} {rest : List (Addr × Obj)} {l : List (Option Nat)}
    (hh : A.handled = none) (hr : IsRange s.heap r a₀ b₀ 1 t₁ u₁ v₁) (ha : a₀ = (i : Int)) (hb : b₀ = 10) (hi : i < 10) (hne : xn ≠ xj)
    (F : Fr h₀ env.locals s.heap m₀) (N : News h₀ env.locals s.heap ((D, listOf us.toArray cD) :: (NU, objO) :: rest)) (hoff : ∀ p ∈ (NU, objO) :: rest, p.1 ≠ D) (hn : m₀ xn = some (.int 0 t₀))
    (hU : OV NU us l) (hl : l.length = 10) (hbl : ∀ o ∈ l.take i, o = none)
    (hit : ∀ (k : Nat) (n : Int) t tn te us' tl h tk, k < 10 → us'.length = 10 → us'[k]? = some (.str (chr1 c) te) → (∀ p ∈ (NU, objO) :: tl, p.1 ≠ D) →
      Fr h₀ env.locals h (fun y => if y = xj then some (.int (k : Int) t) else if y = xn then some (.int n tn) else m₀ y) → News h₀ env.locals h ((D, listOf (List.toArray us') cD) :: (NU, objO) :: tl) →
      wpAny (model prog w) A (execs body env) (KEnd h₀ env.locals { s with heap := h, toks := tk } ((D, listOf (us'.set k (.ref NU)).toArray cD) :: (NU, objO) :: tl) xn (n + 1) (fun y => if y = xj then some (.int (k : Int) t) else m₀ y)) E { s with heap := h, toks := tk })
    (missS : ∀ (k : Nat) (n : Int) d t tn te us' tl h tk, k < 10 → us'.length = 10 → us'[k]? = some (.str (chr1 d) te) → d ≠ c → (∀ p ∈ (NU, objO) :: tl, p.1 ≠ D) →
      Fr h₀ env.locals h (fun y => if y = xj then some (.int (k : Int) t) else if y = xn then some (.int n tn) else m₀ y) → News h₀ env.locals h ((D, listOf (List.toArray us') cD) :: (NU, objO) :: tl) →
      wpAny (model prog w) A (execs body env) (KEnd h₀ env.locals { s with heap := h, toks := tk } ((D, listOf us'.toArray cD) :: (NU, objO) :: tl) xn n (fun y => if y = xj then some (.int (k : Int) t) else m₀ y)) E { s with heap := h, toks := tk })
    (missN : ∀ (k : Nat) (n : Int) t tn us' tl h tk, k < 10 → us'.length = 10 → us'[k]? = some (.ref NU) → (∀ p ∈ (NU, objO) :: tl, p.1 ≠ D) →
      Fr h₀ env.locals h (fun y => if y = xj then some (.int (k : Int) t) else if y = xn then some (.int n tn) else m₀ y) → News h₀ env.locals h ((D, listOf (List.toArray us') cD) :: (NU, objO) :: tl) →
      wpAny (model prog w) A (execs body env) (KEnd h₀ env.locals { s with heap := h, toks := tk } ((D, listOf us'.toArray cD) :: (NU, objO) :: tl) xn n (fun y => if y = xj then some (.int (k : Int) t) else m₀ y)) E { s with heap := h, toks := tk })
    (done : ∀ us' tn u h tk, OV NU us' (blk c l) → us'.length = 10 → Fr h₀ env.locals h (fun y => if y = xn then some (.int (cn c l) tn) else if y = xj then u else m₀ y) → News h₀ env.locals h ((D, listOf (List.toArray us') cD) :: (NU, objO) :: rest) → Q .next { s with heap := h, toks := tk }) :
    wpAny (model prog w) A (pyIter (.ref r)) (fun it s₂ => LoopAtV prog w A h₀ env xj body Q E it s₂) E s := by
  subst ha hb
  have hsm : Builtin.Range.small (i : Int) 10 1 = true ∧ Builtin.Range.rangeSize (i : Int) 10 1 = ((10 - i : Nat) : Int) := by
    have hq : i = 0 ∨ i = 1 ∨ i = 2 ∨ i = 3 ∨ i = 4 ∨ i = 5 ∨ i = 6 ∨ i = 7 ∨ i = 8 ∨ i = 9 := by omega
    rcases hq with e | e | e | e | e | e | e | e | e | e <;> subst e <;> exact ⟨by decide +kernel, by decide +kernel⟩
  refine range_inv (fun k m nx => ∃ us' l' n tn, nx = (D, listOf (List.toArray us') cD) :: (NU, objO) :: rest ∧ OV NU us' l' ∧ InC c l (i + k) n l' ∧ m xn = some (.int n tn) ∧ ∀ z, z ≠ xn → z ≠ xj → m z = m₀ z) hh hr hsm.1 hsm.2 F N
    ⟨us, l, 0, t₀, rfl, hU, InC.start hbl, hn, fun _ _ _ => rfl⟩ ?_ ?_
  · rintro k t m₁ nx h tk own hk hown ⟨us', l', n, tn, rfl, hU', hC, hn', hm'⟩ F₁ N₁
    have hk10 : i + k < 10 := by omega
    have e1 : (i : Int) + (k : Int) = ((i + k : Nat) : Int) := by omega
    rw [e1] at F₁
    have F₂ : Fr h₀ env.locals h (fun y => if y = xj then some (.int ((i + k : Nat) : Int) t) else if y = xn then some (.int n tn) else m₀ y) := fr_eq F₁ fun z => by
      by_cases h1 : z = xj
      · simp [h1]
      · by_cases h2 : z = xn
        · subst h2; simp [h1, hn']
        · simp [h1, h2, hm' z h2 h1]
    have hD : ∀ p ∈ (NU, objO) :: (rest ++ own), p.1 ≠ D := fun p hp => by
      rcases List.mem_cons.mp hp with e | hp
      · rw [e]; exact hoff _ (List.Mem.head _)
      · rcases List.mem_append.mp hp with hp | hp
        · exact hoff _ (List.Mem.tail _ hp)
        · exact hown p hp D (List.Mem.head _)
    have hlen : us'.length = 10 := by rw [hU'.length, hC.len, hl]
    have at' := hC.at (by rw [hl]; exact hk10)
    have ho' : ∀ (us₂ : List Value), OwnOff own ((((D, listOf (List.toArray us₂) cD) :: (NU, objO) :: rest) : List (Addr × Obj)).map (·.1)) := fun us₂ => hown
    have ends : ∀ (us₂ : List Value) (l₂ : List (Option Nat)) (n₂ : Int), OV NU us₂ l₂ → InC c l (i + (k + 1)) n₂ l₂ → ∀ f s', KEnd h₀ env.locals { s with heap := h, toks := tk } ((D, listOf us₂.toArray cD) :: (NU, objO) :: (rest ++ own)) xn n₂ (fun y => if y = xj then some (.int ((i + k : Nat) : Int) t) else m₀ y) f s' →
        TEnd h₀ env.locals { s with heap := h, toks := tk } own (fun m nx => ∃ us' l' n tn, nx = (D, listOf (List.toArray us') cD) :: (NU, objO) :: rest ∧ OV NU us' l' ∧ InC c l (i + (k + 1)) n l' ∧ m xn = some (.int n tn) ∧ ∀ z, z ≠ xn → z ≠ xj → m z = m₀ z) f s' := by
      rintro us₂ l₂ n₂ hU₂ hC₂ f s' ⟨rfl, h', tk', m', tn', rfl, F', N', hx, hz⟩
      refine TEnd.next (nx := (D, listOf us₂.toArray cD) :: (NU, objO) :: rest) F' N' (ho' us₂) ⟨us₂, l₂, n₂, tn', rfl, hU₂, hC₂, hx, fun z h1 h2 => ?_⟩
      rw [hz z h1]; simp [h2]
    obtain ⟨v, hv⟩ : ∃ v, us'[i + k]? = some v := ⟨_, List.getElem?_eq_getElem (by rw [hlen]; exact hk10)⟩
    rcases hU'.at hv with ⟨e, rfl⟩ | ⟨d, te, e, rfl⟩
    · exact wpAny_mono (missN (i + k) n t tn us' _ h tk hk10 hlen hv hD F₂ N₁) (ends us' l' n hU' (by have := hC.miss (at' ▸ e) (by simp); rwa [Nat.add_assoc] at this)) fun _ _ x => x
    · by_cases hd : d = c
      · subst hd
        exact wpAny_mono (hit (i + k) n t tn te us' _ h tk hk10 hlen hv hD F₂ N₁) (ends _ _ (n + 1) (hU'.set (i + k)) (by have := hC.hit (at' ▸ e); rwa [Nat.add_assoc] at this)) fun _ _ x => x
      · exact wpAny_mono (missS (i + k) n d t tn te us' _ h tk hk10 hlen hv hd hD F₂ N₁) (ends us' l' n hU' (by have := hC.miss (at' ▸ e) (by simpa using hd); rwa [Nat.add_assoc] at this)) fun _ _ x => x
  · rintro m₁ nx h tk ⟨us', l', n, tn, rfl, hU', hC, hn', hm'⟩ F₁ N₁
    obtain ⟨e1, e2⟩ := hC.done (by omega)
    subst e1 e2
    refine done us' tn (m₁ xj) h tk hU' (by rw [hU'.length, blk_length, hl]) (fr_eq F₁ fun z => ?_) N₁
    by_cases h2 : z = xn
    · subst h2; simp [hn']
    · by_cases h1 : z = xj
      · subst h1; simp [h2]
      · simp [h1, h2, hm' z h2 h1]

theorem cnt_enum {D NU : Addr} {xj xc xn : Str} {pi pc pt : Pos} {x1 : Nat} {body : List Stmt} {m₀ : Str → Option Value} {us : List Value} {cD c : Nat} {t₀ : Tok} {rest : List (Addr × Obj)} {l : List (Option Nat)}
    (hh : A.handled = none) (hxi : env.kindOf xj = some .local) (hxc : env.kindOf xc = some .local)
    (hp : (env.scope.kind == .class || (env.scope.kind == .module && env.locals != env.globals)) = false) (hne : xn ≠ xj) (hnc : xn ≠ xc)
    (F : Fr h₀ env.locals s.heap m₀) (N : News h₀ env.locals s.heap ((D, listOf us.toArray cD) :: (NU, objO) :: rest)) (hoff : ∀ p ∈ (NU, objO) :: rest, p.1 ≠ D) (hn : m₀ xn = some (.int 0 t₀))
    (hU : OV NU us l) (hl : l.length = 10)
    (hit : ∀ (k : Nat) (n : Int) t tn te us' tl h tk, k < 10 → us'.length = 10 → us'[k]? = some (.str (chr1 c) te) → (∀ p ∈ (NU, objO) :: tl, p.1 ≠ D) →
      Fr h₀ env.locals h (fun y => if y = xc then some (.str (chr1 c) te) else if y = xj then some (.int (k : Int) t) else if y = xn then some (.int n tn) else m₀ y) → News h₀ env.locals h ((D, listOf (List.toArray us') cD) :: (NU, objO) :: tl) →
      wpAny (model prog w) A (execs body env) (KEnd h₀ env.locals { s with heap := h, toks := tk } ((D, listOf (us'.set k (.ref NU)).toArray cD) :: (NU, objO) :: tl) xn (n + 1) (fun y => if y = xc then some (.str (chr1 c) te) else if y = xj then some (.int (k : Int) t) else m₀ y)) E { s with heap := h, toks := tk })
    (missS : ∀ (k : Nat) (n : Int) d t tn te us' tl h tk, k < 10 → us'.length = 10 → us'[k]? = some (.str (chr1 d) te) → d ≠ c → (∀ p ∈ (NU, objO) :: tl, p.1 ≠ D) →
      Fr h₀ env.locals h (fun y => if y = xc then some (.str (chr1 d) te) else if y = xj then some (.int (k : Int) t) else if y = xn then some (.int n tn) else m₀ y) → News h₀ env.locals h ((D, listOf (List.toArray us') cD) :: (NU, objO) :: tl) →
      wpAny (model prog w) A (execs body env) (KEnd h₀ env.locals { s with heap := h, toks := tk } ((D, listOf us'.toArray cD) :: (NU, objO) :: tl) xn n (fun y => if y = xc then some (.str (chr1 d) te) else if y = xj then some (.int (k : Int) t) else m₀ y)) E { s with heap := h, toks := tk })
    (missN : ∀ (k : Nat) (n : Int) t tn us' tl h tk, k < 10 → us'.length = 10 → us'[k]? = some (.ref NU) → (∀ p ∈ (NU, objO) :: tl, p.1 ≠ D) →
      Fr h₀ env.locals h (fun y => if y = xc then some (.ref NU) else if y = xj then some (.int (k : Int) t) else if y = xn then some (.int n tn) else m₀ y) → News h₀ env.locals h ((D, listOf (List.toArray us') cD) :: (NU, objO) :: tl) →
      wpAny (model prog w) A (execs body env) (KEnd h₀ env.locals { s with heap := h, toks := tk } ((D, listOf us'.toArray cD) :: (NU, objO) :: tl) xn n (fun y => if y = xc then some (.ref NU) else if y = xj then some (.int (k : Int) t) else m₀ y)) E { s with heap := h, toks := tk })
    (done : ∀ us' tn u u' h tk, OV NU us' (blk c l) → us'.length = 10 → Fr h₀ env.locals h (fun y => if y = xn then some (.int (cn c l) tn) else if y = xj then u else if y = xc then u' else m₀ y) → News h₀ env.locals h ((D, listOf (List.toArray us') cD) :: (NU, objO) :: rest) → Q .next { s with heap := h, toks := tk })
    (hE : PassesOwn (model prog w) A env E := by passes_own) :
    wpAny (model prog w) A (call (.type "enumerate") [.ref D]) (fun xv s₁ => wpAny (model prog w) A (pyIter xv) (fun it s₂ => codeAny (model prog w) A (.forLoop (.Tuple [.Name xj pi, .Name xc pc] x1 pt) it body [] env)
      (fun r s' => match r with | .ok f => Q f s' | .error e => cameBackBy (model prog w) A env E e s') s₂) E s₁) E s := by
  refine enum_mut (n := 10) (fun k m nx => ∃ us' l' n tn, nx = (D, listOf (List.toArray us') cD) :: (NU, objO) :: rest ∧ OV NU us' l' ∧ InC c l k n l' ∧ m xn = some (.int n tn) ∧ ∀ z, z ≠ xn → z ≠ xj → z ≠ xc → m z = m₀ z) hh ?_ hxi hxc hp F N
    ⟨us, l, 0, t₀, rfl, hU, InC.start (by simp), hn, fun _ _ _ _ => rfl⟩ ?_ ?_ hE
  · rintro i m nx ⟨us', l', n, tn, rfl, hU', hC, _⟩
    exact ⟨us', cD, List.Mem.head _, by rw [hU'.length, hC.len, hl]⟩
  · rintro k v t m₁ nx usx cx h tk own hk hmx hvx ⟨us', l', n, tn, rfl, hU', hC, hn', hm'⟩ hown F₁ N₁
    have hlen : us'.length = 10 := by rw [hU'.length, hC.len, hl]
    have hv : us'[k]? = some v := by
      rcases List.mem_cons.mp hmx with e | hmx
      · have e2 : listOf usx.toArray cx = listOf us'.toArray cD := (Prod.mk.inj e).2
        have e3 : usx = us' := by
          have : (Data.seq usx.toArray cx) = Data.seq us'.toArray cD := congrArg Obj.data e2
          have := (Data.seq.inj this).1
          simpa using this
        rw [← e3]; exact hvx
      · exact absurd rfl (hoff _ hmx)
    have F₂ : Fr h₀ env.locals h (fun y => if y = xc then some v else if y = xj then some (.int (k : Int) t) else if y = xn then some (.int n tn) else m₀ y) := fr_eq F₁ fun z => by
      by_cases h0 : z = xc
      · simp [h0]
      · by_cases h1 : z = xj
        · simp [h1]
        · by_cases h2 : z = xn
          · subst h2; simp [h0, h1, hn']
          · simp [h0, h1, h2, hm' z h2 h1 h0]
    have hD : ∀ p ∈ (NU, objO) :: (rest ++ own), p.1 ≠ D := fun p hp => by
      rcases List.mem_cons.mp hp with e | hp
      · rw [e]; exact hoff _ (List.Mem.head _)
      · rcases List.mem_append.mp hp with hp | hp
        · exact hoff _ (List.Mem.tail _ hp)
        · exact hown p hp D (List.Mem.head _)
    have at' := hC.at (by rw [hl]; exact hk)
    have ho' : ∀ (us₂ : List Value), OwnOff own ((((D, listOf (List.toArray us₂) cD) :: (NU, objO) :: rest) : List (Addr × Obj)).map (·.1)) := fun us₂ => hown
    have ends : ∀ (us₂ : List Value) (l₂ : List (Option Nat)) (n₂ : Int), OV NU us₂ l₂ → InC c l (k + 1) n₂ l₂ → ∀ f s', KEnd h₀ env.locals { s with heap := h, toks := tk } ((D, listOf us₂.toArray cD) :: (NU, objO) :: (rest ++ own)) xn n₂ (fun y => if y = xc then some v else if y = xj then some (.int (k : Int) t) else m₀ y) f s' →
        TEnd h₀ env.locals { s with heap := h, toks := tk } own (fun m nx => ∃ us' l' n tn, nx = (D, listOf (List.toArray us') cD) :: (NU, objO) :: rest ∧ OV NU us' l' ∧ InC c l (k + 1) n l' ∧ m xn = some (.int n tn) ∧ ∀ z, z ≠ xn → z ≠ xj → z ≠ xc → m z = m₀ z) f s' := by
      rintro us₂ l₂ n₂ hU₂ hC₂ f s' ⟨rfl, h', tk', m', tn', rfl, F', N', hx, hz⟩
      refine TEnd.next (nx := (D, listOf us₂.toArray cD) :: (NU, objO) :: rest) F' N' (ho' us₂) ⟨us₂, l₂, n₂, tn', rfl, hU₂, hC₂, hx, fun z h1 h2 h3 => ?_⟩
      rw [hz z h1]; simp [h2, h3]
    rcases hU'.at hv with ⟨e, rfl⟩ | ⟨d, te, e, rfl⟩
    · exact wpAny_mono (missN k n t tn us' _ h tk hk hlen hv hD F₂ N₁) (ends us' l' n hU' (hC.miss (at' ▸ e) (by simp))) fun _ _ x => x
    · by_cases hd : d = c
      · subst hd
        exact wpAny_mono (hit k n t tn te us' _ h tk hk hlen hv hD F₂ N₁) (ends _ _ (n + 1) (hU'.set k) (hC.hit (at' ▸ e))) fun _ _ x => x
      · exact wpAny_mono (missS k n d t tn te us' _ h tk hk hlen hv hd hD F₂ N₁) (ends us' l' n hU' (hC.miss (at' ▸ e) (by simpa using hd))) fun _ _ x => x
  · rintro h tk m₁ nx ⟨us', l', n, tn, rfl, hU', hC, hn', hm'⟩ F₁ N₁
    obtain ⟨e1, e2⟩ := hC.done hl.symm
    subst e1 e2
    refine done us' tn (m₁ xj) (m₁ xc) h tk hU' (by rw [hU'.length, blk_length, hl]) (fr_eq F₁ fun z => ?_) N₁
    by_cases h2 : z = xn
    · subst h2; simp [hn']
    · by_cases h1 : z = xj
      · subst h1; simp [h2]
      · by_cases h0 : z = xc
        · subst h0; simp [h1, h2]
        · simp [h0, h1, h2, hm' z h2 h1 h0]
end
end Mine
end
section
open PySem PySem.W PyProof.Rows PySem.Calls PySem.Spec
set_option maxRecDepth 100000
namespace Mine
section
variable {prog : Program} {w : World} {A : Around} {E : Value → Shared → Prop} {Q : Flow → Shared → Prop} {s : Shared} {env : Env} {h₀ : Heap}
/-- a turn that goes on at once -/
def OEnd0 (h₀ : Heap) (L : Addr) (s : Shared) (led : List (Addr × Obj)) (stored : List Str) (m : Str → Option Value) (f : Flow) (s' : Shared) : Prop :=
  f = .cont ∧ ∃ h' tk' m', s' = { s with heap := h', toks := tk' } ∧ Fr h₀ L h' m' ∧ News h₀ L h' led ∧ ∀ z, stored.contains z = false → m' z = m z
theorem OEnd0.intro {L : Addr} {led : List (Addr × Obj)} {stored : List Str} {m m' : Str → Option Value} {h' : Heap} {tk' : Nat} (F : Fr h₀ L h' m') (N : News h₀ L h' led) (hz : ∀ z, stored.contains z = false → m' z = m z) :
    OEnd0 h₀ L s led stored m .cont { s with heap := h', toks := tk' } := ⟨rfl, h', tk', m', rfl, F, N, hz⟩
def OEnd1 (h₀ : Heap) (L : Addr) (s : Shared) (S T R NU : Addr) (cS cT c : Nat) (cs ct : List (Option Nat)) (rs : List Value) (tl : List (Addr × Obj)) (stored : List Str) (m : Str → Option Value) (f : Flow) (s' : Shared) : Prop :=
  f = .next ∧ ∃ h' tk' m' ss' tt' rs' cR' ml', s' = { s with heap := h', toks := tk' } ∧ Fr h₀ L h' m' ∧ News h₀ L h' ((S, listOf (List.toArray ss') cS) :: (T, listOf (List.toArray tt') cT) :: (R, listOf (List.toArray rs') cR') :: (NU, objO) :: (ml' ++ tl)) ∧ OV NU ss' (blk c cs) ∧ OV NU tt' (blk c ct) ∧
    ((cn c cs = cn c ct ∧ rs' = rs ∧ ml' = []) ∨ ∃ x d tp tq tc, rs' = rs ++ [.ref x] ∧ ml' = [(x, misO #[.int (cn c cs) tp, .int (cn c ct) tq, .str (chr1 c) tc] d)] ∧ S < x ∧ T < x ∧ R < x ∧ ∀ p ∈ tl, p.1 < x) ∧ ∀ z, stored.contains z = false → m' z = m z
section
variable {L S T R NU : Addr} {cS cT c : Nat} {cs ct : List (Option Nat)} {rs : List Value} {tl : List (Addr × Obj)} {stored : List Str} {m m' : Str → Option Value} {h' : Heap} {tk' : Nat} {ss' tt' : List Value} {cR' : Nat}
theorem OEnd1.same (F : Fr h₀ L h' m') (N : News h₀ L h' ((S, listOf (List.toArray ss') cS) :: (T, listOf (List.toArray tt') cT) :: (R, listOf (List.toArray rs) cR') :: (NU, objO) :: tl)) (hs : OV NU ss' (blk c cs)) (ht : OV NU tt' (blk c ct)) (e : cn c cs = cn c ct) (hz : ∀ z, stored.contains z = false → m' z = m z) :
    OEnd1 h₀ L s S T R NU cS cT c cs ct rs tl stored m .next { s with heap := h', toks := tk' } := ⟨rfl, h', tk', m', ss', tt', rs, cR', [], rfl, F, N, hs, ht, .inl ⟨e, rfl, rfl⟩, hz⟩
theorem OEnd1.more {x d : Addr} {tp tq tc : Tok} (F : Fr h₀ L h' m') (N : News h₀ L h' ((S, listOf (List.toArray ss') cS) :: (T, listOf (List.toArray tt') cT) :: (R, listOf (List.toArray (rs ++ [.ref x])) cR') :: (NU, objO) :: (x, misO #[.int (cn c cs) tp, .int (cn c ct) tq, .str (chr1 c) tc] d) :: tl)) (hs : OV NU ss' (blk c cs)) (ht : OV NU tt' (blk c ct))
    (h1 : S < x) (h2 : T < x) (h3 : R < x) (h4 : ∀ p ∈ tl, p.1 < x) (hz : ∀ z, stored.contains z = false → m' z = m z) :
    OEnd1 h₀ L s S T R NU cS cT c cs ct rs tl stored m .next { s with heap := h', toks := tk' } := ⟨rfl, h', tk', m', ss', tt', _, cR', _, rfl, F, N, hs, ht, .inr ⟨x, d, tp, tq, tc, rfl, rfl, h1, h2, h3, h4⟩, hz⟩
end
theorem map_stored {stored : List Str} {m₁ m₀ : Str → Option Value} (hm : ∀ z, stored.contains z = false → m₁ z = m₀ z) (y : Str) : (if stored.contains y then m₁ y else m₀ y) = m₁ y := by
  cases h3 : stored.contains y with
  | true => simp
  | false => simp only [Bool.false_eq_true, if_false]; exact (hm y h3).symm

theorem outer1 {S T R NU : Addr} {xi xc : Str} {pi pc pt : Pos} {x1 : Nat} {body : List Stmt} {m₀ : Str → Option Value} {us vs : List Value} {cS cT cR : Nat} {rest : List (Addr × Obj)} {cs ct : List (Option Nat)} {TV : Int} (stored : List Str)
    (hh : A.handled = none) (hxi : env.kindOf xi = some .local) (hxc : env.kindOf xc = some .local)
    (hp : (env.scope.kind == .class || (env.scope.kind == .module && env.locals != env.globals)) = false) (hsi : stored.contains xi = true) (hsc : stored.contains xc = true)
    (F : Fr h₀ env.locals s.heap m₀) (N : News h₀ env.locals s.heap ((S, listOf us.toArray cS) :: (T, listOf vs.toArray cT) :: (R, listOf (List.toArray []) cR) :: (NU, objO) :: rest))
    (hd : S ≠ T ∧ S ≠ R ∧ S ≠ NU ∧ T ≠ R ∧ T ≠ NU ∧ R ≠ NU) (hoff : ∀ p ∈ rest, p.1 ≠ S ∧ p.1 ≠ T ∧ p.1 ≠ R)
    (hU : OV NU us cs) (hV : OV NU vs ct) (hI : I1 TV 0 cs ct [])
    (skip : ∀ (i : Nat) t (u : Str → Option Value) ss tt rs cR tl h tk, Fr h₀ env.locals h (fun y => if y = xc then some (.ref NU) else if y = xi then some (.int (i : Int) t) else if stored.contains y then u y else m₀ y) →
      News h₀ env.locals h ((S, listOf (List.toArray ss) cS) :: (T, listOf (List.toArray tt) cT) :: (R, listOf (List.toArray rs) cR) :: (NU, objO) :: tl) →
      wpAny (model prog w) A (execs body env) (OEnd0 h₀ env.locals { s with heap := h, toks := tk } ((S, listOf (List.toArray ss) cS) :: (T, listOf (List.toArray tt) cT) :: (R, listOf (List.toArray rs) cR) :: (NU, objO) :: tl) stored m₀) E { s with heap := h, toks := tk })
    (main : ∀ (i c : Nat) te t (u : Str → Option Value) ss tt rs cR cs ct tl h tk, i < 10 → ss.length = 10 → tt.length = 10 → rs.length ≤ 100 → OV NU ss cs → OV NU tt ct → cs.length = 10 → ct.length = 10 → (∀ o ∈ cs.take i, o = none) → (∀ p ∈ tl, p.1 ≠ S ∧ p.1 ≠ T ∧ p.1 ≠ R) →
      Fr h₀ env.locals h (fun y => if y = xc then some (.str (chr1 c) te) else if y = xi then some (.int (i : Int) t) else if stored.contains y then u y else m₀ y) →
      News h₀ env.locals h ((S, listOf (List.toArray ss) cS) :: (T, listOf (List.toArray tt) cT) :: (R, listOf (List.toArray rs) cR) :: (NU, objO) :: tl) →
      wpAny (model prog w) A (execs body env) (OEnd1 h₀ env.locals { s with heap := h, toks := tk } S T R NU cS cT c cs ct rs tl stored m₀) E { s with heap := h, toks := tk })
    (done : ∀ (u : Str → Option Value) ss tt rs cR ml ct ms h tk, OV NU tt ct → MV ml rs ms → I2 TV 0 ct ms → (∀ p ∈ ml, p.1 ≠ T ∧ p.1 ≠ R) → Fr h₀ env.locals h (fun y => if stored.contains y then u y else m₀ y) →
      News h₀ env.locals h ((S, listOf (List.toArray ss) cS) :: (T, listOf (List.toArray tt) cT) :: (R, listOf (List.toArray rs) cR) :: (NU, objO) :: (ml ++ rest)) → Q .next { s with heap := h, toks := tk })
    (hE : PassesOwn (model prog w) A env E := by passes_own) :
    wpAny (model prog w) A (call (.type "enumerate") [.ref S]) (fun xv s₁ => wpAny (model prog w) A (pyIter xv) (fun it s₂ => codeAny (model prog w) A (.forLoop (.Tuple [.Name xi pi, .Name xc pc] x1 pt) it body [] env)
      (fun r s' => match r with | .ok f => Q f s' | .error e => cameBackBy (model prog w) A env E e s') s₂) E s₁) E s := by
  let J : Nat → (Str → Option Value) → List (Addr × Obj) → Prop := fun i m nx => ∃ ss tt rs cR ml cs ct ms, nx = (S, listOf (List.toArray ss) cS) :: (T, listOf (List.toArray tt) cT) :: (R, listOf (List.toArray rs) cR) :: (NU, objO) :: (ml ++ rest) ∧ OV NU ss cs ∧ OV NU tt ct ∧ MV ml rs ms ∧ I1 TV i cs ct ms ∧
    (∀ p ∈ ml, p.1 ≠ S ∧ p.1 ≠ T ∧ p.1 ≠ R) ∧ ∀ z, stored.contains z = false → m z = m₀ z
  refine enum_mut (n := 10) J hh ?_ hxi hxc hp F N ⟨us, vs, [], cR, [], cs, ct, [], rfl, hU, hV, .nil, hI, (fun _ hp => nomatch hp), fun _ _ => rfl⟩ ?_ ?_ hE
  · rintro i m nx ⟨ss, tt, rs, cR, ml, cs, ct, ms, rfl, hs, _, _, hI, _⟩
    exact ⟨ss, cS, List.Mem.head _, by rw [hs.length, hI.ls]⟩
  · rintro i v t m₁ nx usx cx h tk own hi hmx hvx ⟨ss, tt, rs, cR, ml, cs, ct, ms, rfl, hs, ht, hM, hI, hml, hm⟩ hown F₁ N₁
    have hSoff : ∀ p ∈ (T, listOf (List.toArray tt) cT) :: (R, listOf (List.toArray rs) cR) :: (NU, objO) :: (ml ++ rest), p.1 ≠ S := fun p hp => by
      rcases List.mem_cons.mp hp with e | hp
      · rw [e]; exact Ne.symm hd.1
      rcases List.mem_cons.mp hp with e | hp
      · rw [e]; exact Ne.symm hd.2.1
      rcases List.mem_cons.mp hp with e | hp
      · rw [e]; exact Ne.symm hd.2.2.1
      rcases List.mem_append.mp hp with hp | hp
      · exact (hml p hp).1
      · exact (hoff p hp).1
    have hv : ss[i]? = some v := by
      rcases List.mem_cons.mp hmx with e | hmx
      · have e2 : listOf usx.toArray cx = listOf ss.toArray cS := (Prod.mk.inj e).2
        have e3 : usx = ss := by
          have : (Data.seq usx.toArray cx) = Data.seq ss.toArray cS := congrArg Obj.data e2
          have := (Data.seq.inj this).1
          simpa using this
        rw [← e3]; exact hvx
      · exact absurd rfl (hSoff _ hmx)
    have F₂ : Fr h₀ env.locals h (fun y => if y = xc then some v else if y = xi then some (.int (i : Int) t) else if stored.contains y then m₁ y else m₀ y) := fr_eq F₁ fun z => by
      rw [map_stored hm]
    have htl : ∀ p ∈ ml ++ (rest ++ own), p.1 ≠ S ∧ p.1 ≠ T ∧ p.1 ≠ R := fun p hp => by
      rcases List.mem_append.mp hp with hp | hp
      · exact hml p hp
      rcases List.mem_append.mp hp with hp | hp
      · exact hoff p hp
      · exact ⟨hown p hp S (List.Mem.head _), hown p hp T (List.Mem.tail _ (List.Mem.head _)), hown p hp R (List.Mem.tail _ (List.Mem.tail _ (List.Mem.head _)))⟩
    have N₂ : News h₀ env.locals h ((S, listOf (List.toArray ss) cS) :: (T, listOf (List.toArray tt) cT) :: (R, listOf (List.toArray rs) cR) :: (NU, objO) :: (ml ++ (rest ++ own))) := by
      simpa [List.append_assoc] using N₁
    rcases hs.at hv with ⟨e, rfl⟩ | ⟨c, te, e, rfl⟩
    · refine wpAny_mono (skip i t m₁ ss tt rs cR _ h tk F₂ N₂) (fun f s' p => ?_) fun _ _ x => x
      obtain ⟨rfl, h', tk', m', rfl, F', N', hz⟩ := p
      exact TEnd.cont (nx := _) F' (by simpa [List.append_assoc] using N') hown ⟨ss, tt, rs, cR, ml, cs, ct, ms, rfl, hs, ht, hM, hI.skip e, hml, hz⟩
    · refine wpAny_mono (main i c te t m₁ ss tt rs cR cs ct _ h tk hi (by rw [hs.length, hI.ls]) (by rw [ht.length, hI.lt]) (by rw [hM.length]; have := hI.small; omega) hs ht hI.ls hI.lt hI.blank htl F₂ N₂) (fun f s' p => ?_) fun _ _ x => x
      obtain ⟨rfl, h', tk', m', ss', tt', rs', cR', ml', rfl, F', N', hs', ht', hw, hz⟩ := p
      have hO : ∀ (us₂ ts₂ rs₂ : List Value) (c₂ : Nat), OwnOff own (List.map (·.1) ((S, listOf (List.toArray us₂) cS) :: (T, listOf (List.toArray ts₂) cT) :: (R, listOf (List.toArray rs₂) c₂) :: (NU, objO) :: (ml ++ rest))) := fun _ _ _ _ => hown
      rcases hw with ⟨hcn, rfl, rfl⟩ | ⟨x, d, tp, tq, tc, rfl, rfl, hx1, hx2, hx3, hx4⟩
      · exact TEnd.next (nx := _) F' (by simpa [List.append_assoc] using N') (hO ss' tt' rs' cR') ⟨ss', tt', rs', cR', ml, _, _, ms, rfl, hs', ht', hM, hI.same e hcn, hml, hz⟩
      · refine TEnd.next (nx := (S, listOf (List.toArray ss') cS) :: (T, listOf (List.toArray tt') cT) :: (R, listOf (List.toArray (rs ++ [.ref x])) cR') :: (NU, objO) :: (((x, misO #[.int (cn c cs) tp, .int (cn c ct) tq, .str (chr1 c) tc] d) :: ml) ++ rest)) F' (by simpa [List.append_assoc] using N') ?_
          ⟨ss', tt', _, cR', _, _, _, _, rfl, hs', ht', (hM.mono (fun p hp => List.Mem.tail _ hp)).snoc (List.Mem.head _), hI.more e, ?_, hz⟩
        · intro p hp b hb
          have hpx : p.1 ≠ x := Nat.ne_of_lt (hx4 p (List.mem_append_right _ (List.mem_append_right _ hp)))
          have hbase := hO ss' tt' (rs ++ [.ref x]) cR' p hp
          simp only [List.map_cons, List.cons_append, List.mem_cons] at hb hbase
          rcases hb with e | e | e | e | e | hb
          · exact hbase b (.inl e)
          · exact hbase b (.inr (.inl e))
          · exact hbase b (.inr (.inr (.inl e)))
          · exact hbase b (.inr (.inr (.inr (.inl e))))
          · rw [e]; exact hpx
          · exact hbase b (.inr (.inr (.inr (.inr hb))))
        · intro p hp
          rcases List.mem_cons.mp hp with e | hp
          · rw [e]; exact ⟨Nat.ne_of_gt hx1, Nat.ne_of_gt hx2, Nat.ne_of_gt hx3⟩
          · exact hml p hp
  · rintro h tk m₁ nx ⟨ss, tt, rs, cR, ml, cs, ct, ms, rfl, hs, ht, hM, hI, hml, hm⟩ F₁ N₁
    exact done m₁ ss tt rs cR ml ct ms h tk ht hM hI.done (fun p hp => (hml p hp).2) (fr_eq F₁ fun z => map_stored hm z) N₁
def OEnd2 (h₀ : Heap) (L : Addr) (s : Shared) (T R NU : Addr) (cT c : Nat) (ct : List (Option Nat)) (rs : List Value) (tl : List (Addr × Obj)) (stored : List Str) (m : Str → Option Value) (f : Flow) (s' : Shared) : Prop :=
  f = .next ∧ ∃ h' tk' m' tt' cR' x d tp tq tc, s' = { s with heap := h', toks := tk' } ∧ Fr h₀ L h' m' ∧ News h₀ L h' ((T, listOf (List.toArray tt') cT) :: (R, listOf (List.toArray (rs ++ [.ref x])) cR') :: (NU, objO) :: (x, misO #[.int 0 tp, .int (cn c ct) tq, .str (chr1 c) tc] d) :: tl) ∧ OV NU tt' (blk c ct) ∧
    T < x ∧ R < x ∧ (∀ p ∈ tl, p.1 < x) ∧ ∀ z, stored.contains z = false → m' z = m z
theorem OEnd2.intro {L T R NU : Addr} {cT c : Nat} {ct : List (Option Nat)} {rs : List Value} {tl : List (Addr × Obj)} {stored : List Str} {m m' : Str → Option Value} {h' : Heap} {tk' : Nat} {tt' : List Value} {cR' : Nat} {x d : Addr} {tp tq tc : Tok} (F : Fr h₀ L h' m')
    (N : News h₀ L h' ((T, listOf (List.toArray tt') cT) :: (R, listOf (List.toArray (rs ++ [.ref x])) cR') :: (NU, objO) :: (x, misO #[.int 0 tp, .int (cn c ct) tq, .str (chr1 c) tc] d) :: tl)) (ht : OV NU tt' (blk c ct))
    (h2 : T < x) (h3 : R < x) (h4 : ∀ p ∈ tl, p.1 < x) (hz : ∀ z, stored.contains z = false → m' z = m z) :
    OEnd2 h₀ L s T R NU cT c ct rs tl stored m .next { s with heap := h', toks := tk' } := ⟨rfl, h', tk', m', tt', cR', x, d, tp, tq, tc, rfl, F, N, ht, h2, h3, h4, hz⟩
theorem outer2 {T R NU : Addr} {xi xc : Str} {pi pc pt : Pos} {x1 : Nat} {body : List Stmt} {m₀ : Str → Option Value} {vs rs₀ : List Value} {cT cR : Nat} {rest : List (Addr × Obj)} {ct : List (Option Nat)} {ms₀ : List (Int × Int × Nat)} {TV : Int} (stored : List Str)
    (hh : A.handled = none) (hxi : env.kindOf xi = some .local) (hxc : env.kindOf xc = some .local)
    (hp : (env.scope.kind == .class || (env.scope.kind == .module && env.locals != env.globals)) = false) (hsi : stored.contains xi = true) (hsc : stored.contains xc = true)
    (F : Fr h₀ env.locals s.heap m₀) (N : News h₀ env.locals s.heap ((T, listOf vs.toArray cT) :: (R, listOf rs₀.toArray cR) :: (NU, objO) :: rest))
    (hd : T ≠ R ∧ T ≠ NU ∧ R ≠ NU) (hoff : ∀ p ∈ rest, p.1 ≠ T ∧ p.1 ≠ R)
    (hV : OV NU vs ct) (hM : MV rest rs₀ ms₀) (hI : I2 TV 0 ct ms₀)
    (skip : ∀ (i : Nat) t (u : Str → Option Value) tt rs cR tl h tk, Fr h₀ env.locals h (fun y => if y = xc then some (.ref NU) else if y = xi then some (.int (i : Int) t) else if stored.contains y then u y else m₀ y) →
      News h₀ env.locals h ((T, listOf (List.toArray tt) cT) :: (R, listOf (List.toArray rs) cR) :: (NU, objO) :: tl) →
      wpAny (model prog w) A (execs body env) (OEnd0 h₀ env.locals { s with heap := h, toks := tk } ((T, listOf (List.toArray tt) cT) :: (R, listOf (List.toArray rs) cR) :: (NU, objO) :: tl) stored m₀) E { s with heap := h, toks := tk })
    (main : ∀ (i c : Nat) te t (u : Str → Option Value) tt rs cR ct tl h tk, i < 10 → tt.length = 10 → rs.length ≤ 100 → OV NU tt ct → ct.length = 10 → (∀ o ∈ ct.take i, o = none) → (∀ p ∈ tl, p.1 ≠ T ∧ p.1 ≠ R) →
      Fr h₀ env.locals h (fun y => if y = xc then some (.str (chr1 c) te) else if y = xi then some (.int (i : Int) t) else if stored.contains y then u y else m₀ y) →
      News h₀ env.locals h ((T, listOf (List.toArray tt) cT) :: (R, listOf (List.toArray rs) cR) :: (NU, objO) :: tl) →
      wpAny (model prog w) A (execs body env) (OEnd2 h₀ env.locals { s with heap := h, toks := tk } T R NU cT c ct rs tl stored m₀) E { s with heap := h, toks := tk })
    (done : ∀ (u : Str → Option Value) rs cR led ms h tk, MV led rs ms → bagOf ms = TV → (∀ x ∈ ms, x.2.2 ∈ AL) → ms.length ≤ 20 → (∀ p ∈ rest, p ∈ led) → (R, listOf (List.toArray rs) cR) ∈ led → Fr h₀ env.locals h (fun y => if stored.contains y then u y else m₀ y) →
      News h₀ env.locals h led → Q .next { s with heap := h, toks := tk })
    (hE : PassesOwn (model prog w) A env E := by passes_own) :
    wpAny (model prog w) A (call (.type "enumerate") [.ref T]) (fun xv s₁ => wpAny (model prog w) A (pyIter xv) (fun it s₂ => codeAny (model prog w) A (.forLoop (.Tuple [.Name xi pi, .Name xc pc] x1 pt) it body [] env)
      (fun r s' => match r with | .ok f => Q f s' | .error e => cameBackBy (model prog w) A env E e s') s₂) E s₁) E s := by
  let J : Nat → (Str → Option Value) → List (Addr × Obj) → Prop := fun i m nx => ∃ tt rs cR ml ct ms, nx = (T, listOf (List.toArray tt) cT) :: (R, listOf (List.toArray rs) cR) :: (NU, objO) :: (ml ++ rest) ∧ OV NU tt ct ∧ MV (ml ++ rest) rs ms ∧ I2 TV i ct ms ∧
    (∀ p ∈ ml, p.1 ≠ T ∧ p.1 ≠ R) ∧ ∀ z, stored.contains z = false → m z = m₀ z
  refine enum_mut (n := 10) J hh ?_ hxi hxc hp F N ⟨vs, rs₀, cR, [], ct, ms₀, rfl, hV, hM, hI, (fun _ hp => nomatch hp), fun _ _ => rfl⟩ ?_ ?_ hE
  · rintro i m nx ⟨tt, rs, cR, ml, ct, ms, rfl, ht, _, hI, _⟩
    exact ⟨tt, cT, List.Mem.head _, by rw [ht.length, hI.lt]⟩
  · rintro i v t m₁ nx usx cx h tk own hi hmx hvx ⟨tt, rs, cR, ml, ct, ms, rfl, ht, hM, hI, hml, hm⟩ hown F₁ N₁
    have hSoff : ∀ p ∈ (R, listOf (List.toArray rs) cR) :: (NU, objO) :: (ml ++ rest), p.1 ≠ T := fun p hp => by
      rcases List.mem_cons.mp hp with e | hp
      · rw [e]; exact Ne.symm hd.1
      rcases List.mem_cons.mp hp with e | hp
      · rw [e]; exact Ne.symm hd.2.1
      rcases List.mem_append.mp hp with hp | hp
      · exact (hml p hp).1
      · exact (hoff p hp).1
    have hv : tt[i]? = some v := by
      rcases List.mem_cons.mp hmx with e | hmx
      · have e2 : listOf usx.toArray cx = listOf tt.toArray cT := (Prod.mk.inj e).2
        have e3 : usx = tt := by
          have : (Data.seq usx.toArray cx) = Data.seq tt.toArray cT := congrArg Obj.data e2
          have := (Data.seq.inj this).1
          simpa using this
        rw [← e3]; exact hvx
      · exact absurd rfl (hSoff _ hmx)
    have F₂ : Fr h₀ env.locals h (fun y => if y = xc then some v else if y = xi then some (.int (i : Int) t) else if stored.contains y then m₁ y else m₀ y) := fr_eq F₁ fun z => by
      rw [map_stored hm]
    have htl : ∀ p ∈ ml ++ (rest ++ own), p.1 ≠ T ∧ p.1 ≠ R := fun p hp => by
      rcases List.mem_append.mp hp with hp | hp
      · exact hml p hp
      rcases List.mem_append.mp hp with hp | hp
      · exact hoff p hp
      · exact ⟨hown p hp T (List.Mem.head _), hown p hp R (List.Mem.tail _ (List.Mem.head _))⟩
    have N₂ : News h₀ env.locals h ((T, listOf (List.toArray tt) cT) :: (R, listOf (List.toArray rs) cR) :: (NU, objO) :: (ml ++ (rest ++ own))) := by
      simpa [List.append_assoc] using N₁
    rcases ht.at hv with ⟨e, rfl⟩ | ⟨c, te, e, rfl⟩
    · refine wpAny_mono (skip i t m₁ tt rs cR _ h tk F₂ N₂) (fun f s' p => ?_) fun _ _ x => x
      obtain ⟨rfl, h', tk', m', rfl, F', N', hz⟩ := p
      exact TEnd.cont (nx := _) F' (by simpa [List.append_assoc] using N') hown ⟨tt, rs, cR, ml, ct, ms, rfl, ht, hM, hI.skip e, hml, hz⟩
    · refine wpAny_mono (main i c te t m₁ tt rs cR ct _ h tk hi (by rw [ht.length, hI.lt]) (by rw [hM.length]; have := hI.small; omega) ht hI.lt hI.blank htl F₂ N₂) (fun f s' p => ?_) fun _ _ x => x
      obtain ⟨rfl, h', tk', m', tt', cR', x, d, tp, tq, tc, rfl, F', N', ht', hx2, hx3, hx4, hz⟩ := p
      have hO : ∀ (ts₂ rs₂ : List Value) (c₂ : Nat), OwnOff own (List.map (·.1) ((T, listOf (List.toArray ts₂) cT) :: (R, listOf (List.toArray rs₂) c₂) :: (NU, objO) :: (ml ++ rest))) := fun _ _ _ => hown
      have hMx : MV (((x, misO #[.int 0 tp, .int (cn c ct) tq, .str (chr1 c) tc] d) :: ml) ++ rest) (rs ++ [.ref x]) (ms ++ [(0, cn c ct, c)]) :=
        MV.snoc (hM.mono (n' := (x, misO #[.int 0 tp, .int (cn c ct) tq, .str (chr1 c) tc] d) :: (ml ++ rest)) fun p hp => List.Mem.tail _ hp) (List.Mem.head _)
      refine TEnd.next (nx := (T, listOf (List.toArray tt') cT) :: (R, listOf (List.toArray (rs ++ [.ref x])) cR') :: (NU, objO) :: (((x, misO #[.int 0 tp, .int (cn c ct) tq, .str (chr1 c) tc] d) :: ml) ++ rest)) F' (by simpa [List.append_assoc] using N') ?_
          ⟨tt', rs ++ [.ref x], cR', (x, misO #[.int 0 tp, .int (cn c ct) tq, .str (chr1 c) tc] d) :: ml, blk c ct, ms ++ [(0, cn c ct, c)], rfl, ht', hMx, hI.more e, ?_, hz⟩
      · intro p hp b hb
        have hpx : p.1 ≠ x := Nat.ne_of_lt (hx4 p (List.mem_append_right _ (List.mem_append_right _ hp)))
        have hbase := hO tt' (rs ++ [.ref x]) cR' p hp
        simp only [List.map_cons, List.cons_append, List.mem_cons] at hb hbase
        rcases hb with e | e | e | e | hb
        · exact hbase b (.inl e)
        · exact hbase b (.inr (.inl e))
        · exact hbase b (.inr (.inr (.inl e)))
        · rw [e]; exact hpx
        · exact hbase b (.inr (.inr (.inr hb)))
      · intro p hp
        rcases List.mem_cons.mp hp with e | hp
        · rw [e]; exact ⟨Nat.ne_of_gt hx2, Nat.ne_of_gt hx3⟩
        · exact hml p hp
  · rintro h tk m₁ nx ⟨tt, rs, cR, ml, ct, ms, rfl, ht, hM, hI, hml, hm⟩ F₁ N₁
    exact done m₁ rs cR _ ms h tk (hM.mono fun p hp => List.Mem.tail _ (List.Mem.tail _ (List.Mem.tail _ hp))) hI.tot hI.alm (by have := hI.small; omega)
      (fun p hp => List.Mem.tail _ (List.Mem.tail _ (List.Mem.tail _ (List.mem_append_right _ hp)))) (List.Mem.tail _ (List.Mem.head _)) (fr_eq F₁ fun z => map_stored hm z) N₁
end
end Mine
end
section
open PySem PySem.W PyProof.Rows PySem.Calls PySem.Spec
namespace Mine
section
variable {M : Model} {A : Around} {E : Value → Shared → Prop} {s : Shared} {h₀ h : Heap} {L : Addr} {m : Str → Option Value} {news n : List (Addr × Obj)}
theorem nil_here {Q : Value → Shared → Prop} (F : Fr h₀ L s.heap m) (N : News h₀ L s.heap news) (h : ∀ D h', Fr h₀ L h' m → News h₀ L h' ((D, listOf (List.toArray []) 0) :: news) → (∀ p ∈ news, p.1 < D) → Q (.ref D) { s with heap := h' }) : wpAny M A (newList []) Q E s :=
  wpAny_newObj_type (h _ _ (F.push _) (N.push F _) fun p hp => Heap.lt_size (N p hp).1)
theorem is_strref {x : Str} {t : Tok} {a : Addr} {Q : Value → Shared → Prop} (h : Q (.bool false) s) : wpAny M A (compareOp .Is (.str x t) (.ref a)) Q E s := wpAny_is_other (by rfl) (by intro x; cases x) h
theorem perm1 {r nu t1 t2 t s' : Addr × Obj} (N : News h₀ L h (r :: nu :: t1 :: t2 :: t :: s' :: n)) : News h₀ L h (s' :: t :: r :: nu :: n) := fun p hp => N p (by
  simp only [List.mem_cons] at hp ⊢; rcases hp with h | h | h | h | h <;> simp [h])
theorem perm2 {a b c d : Addr × Obj} (N : News h₀ L h (a :: b :: c :: d :: n)) : News h₀ L h (a :: d :: b :: c :: n) := fun p hp => N p (by
  simp only [List.mem_cons] at hp ⊢; rcases hp with h | h | h | h | h <;> simp [h])
theorem perm2' {a b c d : Addr × Obj} (N : News h₀ L h (a :: d :: b :: c :: n)) : News h₀ L h (a :: b :: c :: d :: n) := fun p hp => N p (by
  simp only [List.mem_cons] at hp ⊢; rcases hp with h | h | h | h | h <;> simp [h])
/-- s nu t r -> t nu s r -/
theorem perm3 {a b c d : Addr × Obj} (N : News h₀ L h (a :: b :: c :: d :: n)) : News h₀ L h (c :: b :: a :: d :: n) := fun p hp => N p (by
  simp only [List.mem_cons] at hp ⊢; rcases hp with h | h | h | h | h <;> simp [h])
/-- t nu s r -> s t r nu -/
theorem perm4 {a b c d : Addr × Obj} (N : News h₀ L h (a :: b :: c :: d :: n)) : News h₀ L h (c :: a :: d :: b :: n) := fun p hp => N p (by
  simp only [List.mem_cons] at hp ⊢; rcases hp with h | h | h | h | h <;> simp [h])
/-- x t nu s r -> r s t nu x -/
theorem perm5 {x a b c d : Addr × Obj} (N : News h₀ L h (x :: a :: b :: c :: d :: n)) : News h₀ L h (d :: c :: a :: b :: x :: n) := fun p hp => N p (by
  simp only [List.mem_cons] at hp ⊢; rcases hp with h | h | h | h | h | h <;> simp [h])
/-- r s t nu x -> s t r nu x -/
theorem perm6 {x a b c d : Addr × Obj} (N : News h₀ L h (a :: b :: c :: d :: x :: n)) : News h₀ L h (b :: c :: a :: d :: x :: n) := fun p hp => N p (by
  simp only [List.mem_cons] at hp ⊢; rcases hp with h | h | h | h | h | h <;> simp [h])
theorem off_perm {D : Addr} {a b c : Addr × Obj} (h1 : a.1 ≠ D) (h2 : b.1 ≠ D) (h3 : c.1 ≠ D) (h : ∀ p ∈ n, p.1 ≠ D) : ∀ p ∈ a :: b :: c :: n, p.1 ≠ D := fun p hp => by
  rcases List.mem_cons.mp hp with e | hp
  · rw [e]; exact h1
  rcases List.mem_cons.mp hp with e | hp
  · rw [e]; exact h2
  rcases List.mem_cons.mp hp with e | hp
  · rw [e]; exact h3
  · exact h p hp
theorem off_perm4 {D : Addr} {a b c d : Addr × Obj} (h1 : a.1 ≠ D) (h2 : b.1 ≠ D) (h3 : c.1 ≠ D) (h4 : d.1 ≠ D) (h : ∀ p ∈ n, p.1 ≠ D) : ∀ p ∈ a :: b :: c :: d :: n, p.1 ≠ D := fun p hp => by
  rcases List.mem_cons.mp hp with e | hp
  · rw [e]; exact h1
  · exact off_perm h2 h3 h4 h p hp
end
section
variable {S T R NU : Addr} {oS oT oU o1 o2 : Obj} {a1 a2 : Addr} {news : List (Addr × Obj)}
theorem pre_d (lT : ∀ p ∈ (S, oS) :: news, p.1 < T) (lU : ∀ p ∈ (a1, o1) :: (a2, o2) :: (T, oT) :: (S, oS) :: news, p.1 < NU) (lR : ∀ p ∈ (NU, oU) :: (a1, o1) :: (a2, o2) :: (T, oT) :: (S, oS) :: news, p.1 < R) :
    S ≠ T ∧ S ≠ R ∧ S ≠ NU ∧ T ≠ R ∧ T ≠ NU ∧ R ≠ NU := by
  have h1 : S < T := lT _ (List.Mem.head _)
  have h2 : T < NU := lU _ (List.Mem.tail _ (List.Mem.tail _ (List.Mem.head _)))
  have h3 : NU < R := lR _ (List.Mem.head _)
  exact ⟨Nat.ne_of_lt h1, Nat.ne_of_lt (Nat.lt_trans h1 (Nat.lt_trans h2 h3)), Nat.ne_of_lt (Nat.lt_trans h1 h2), Nat.ne_of_lt (Nat.lt_trans h2 h3), Nat.ne_of_lt h2, Nat.ne_of_gt h3⟩
theorem pre_off (lS : ∀ p ∈ news, p.1 < S) (lT : ∀ p ∈ (S, oS) :: news, p.1 < T) (lR : ∀ p ∈ (NU, oU) :: (a1, o1) :: (a2, o2) :: (T, oT) :: (S, oS) :: news, p.1 < R) : ∀ p ∈ news, p.1 ≠ S ∧ p.1 ≠ T ∧ p.1 ≠ R := fun p hp =>
  ⟨Nat.ne_of_lt (lS p hp), Nat.ne_of_lt (lT p (List.Mem.tail _ hp)), Nat.ne_of_lt (lR p (List.Mem.tail _ (List.Mem.tail _ (List.Mem.tail _ (List.Mem.tail _ (List.Mem.tail _ hp))))))⟩
end
section
variable {h₀ h : Heap} {L : Addr} {n : List (Addr × Obj)}
theorem perm7 {a b c : Addr × Obj} (N : News h₀ L h (a :: b :: c :: n)) : News h₀ L h (a :: c :: b :: n) := fun p hp => N p (by
  simp only [List.mem_cons] at hp ⊢; rcases hp with h | h | h | h <;> simp [h])
theorem perm8 {x a b c : Addr × Obj} (N : News h₀ L h (x :: a :: b :: c :: n)) : News h₀ L h (c :: a :: b :: x :: n) := fun p hp => N p (by
  simp only [List.mem_cons] at hp ⊢; rcases hp with h | h | h | h | h <;> simp [h])
theorem perm9 {a b c d : Addr × Obj} (N : News h₀ L h (a :: b :: c :: d :: n)) : News h₀ L h (b :: a :: c :: d :: n) := fun p hp => N p (by
  simp only [List.mem_cons] at hp ⊢; rcases hp with h | h | h | h | h <;> simp [h])
theorem off_perm2 {D : Addr} {a b : Addr × Obj} (h1 : a.1 ≠ D) (h2 : b.1 ≠ D) (h : ∀ p ∈ n, p.1 ≠ D) : ∀ p ∈ a :: b :: n, p.1 ≠ D := fun p hp => by
  rcases List.mem_cons.mp hp with e | hp
  · rw [e]; exact h1
  rcases List.mem_cons.mp hp with e | hp
  · rw [e]; exact h2
  · exact h p hp
theorem off_app2 {T R : Addr} {ml news : List (Addr × Obj)} (h1 : ∀ p ∈ ml, p.1 ≠ T ∧ p.1 ≠ R) (h2 : ∀ p ∈ news, p.1 ≠ T ∧ p.1 ≠ R) : ∀ p ∈ ml ++ news, p.1 ≠ T ∧ p.1 ≠ R := fun p hp => (List.mem_append.mp hp).elim (h1 p) (h2 p)
theorem st7 {z x1 x2 x3 x4 x5 x6 x7 : Str} (h : [x1, x2, x3, x4, x5, x6, x7].contains z = false) : z ≠ x1 ∧ z ≠ x2 ∧ z ≠ x3 ∧ z ≠ x4 ∧ z ≠ x5 ∧ z ≠ x6 ∧ z ≠ x7 := by simpa using h
theorem eq_of_bne {x y : Int} (h : (x != y) = false) : x = y := by simpa using h
end
end Mine
end
section
open PySem PySem.W PyProof.Rows
namespace Mine
open PySem.Calls PySem.Spec
abbrev ClD (d u : Nat) (w : World) (f : Addr) (news : List (Addr × Obj)) (vs : List Value) (TV : Int) : Prop :=
  ∀ (mean : ExcName → Option Value) (mg mb : Str → Option Value) (dp un : Nat) (gd : Option (List Code)) (cn : Str) (cs : Scope) (a : Addr) (ccd : Value) (cl : List (Str × Addr)) (outer : List Env) (A₀ : Around) (base h₀ : Heap) (L : Addr) (m : Str → Option Value) (s : Shared) (Q E : Value → Shared → Prop),
    Below A₀ base outer h₀ → Fr h₀ L s.heap m → (Mine.hd.heap_1 w.params).In h₀ → News h₀ L s.heap news →
    Top Mine.vw (looseW Mine.vw [Str.ofString "_filemode_table", Str.ofString "_tuplegetter", Str.ofString "Mismatch", Str.ofString "_Mismatch"]) mean mg mb h₀ → cs.kind = .function →
    dp + d < recursionLimit → un + u < cLine → (∀ (R : Addr) (rs : List Value) (cR : Nat) (ms : List (Int × Int × Nat)) (led : List (Addr × Obj)) (h' : Heap) (tk' : Nat), MV led rs ms → bagOf ms = TV → (∀ x ∈ ms, x.2.2 ∈ AL) → ms.length ≤ 20 → (R, listOf (List.toArray rs) cR) ∈ led → (∀ p ∈ news, p ∈ led) → Fr h₀ L h' m → News h₀ L h' led → Q (.ref R) { s with heap := h', toks := tk' }) →
      wpAny (model PySem.Challenge.rw_aa0056_01.row.prog w) (ktrTop dp un gd cn cs L a ccd cl outer) (call (.ref f) vs) Q E s
local macro_rules | `(tactic| walk_at "call builtin:len") => `(tactic| (k_here; (with_reducible show wpAny _ _ (call (Value.builtin "len") [Value.ref _]) _ _ _); (with_unfolding_all refine' len_here (n := 10) ?k1 ?k2 ?k3 (by decide) ?_; (case k1 => with_reducible assumption); (case k2 => k_mem); (case k3 => exact signs_len (by with_reducible assumption) (by with_reducible assumption)); intro _ _)))
local macro_rules | `(tactic| walk_at "exec For Tuple Call") => `(tactic| (k_here; (with_unfolding_all refine' wpAny_For ?_); k_whole))
local macro_rules | `(tactic| walk_at "compareOp Is") => `(tactic| (k_here; first | (with_reducible refine is_strref ?_) | (with_reducible refine wpAny_is_ref_self ?_)))
local macro_rules | `(tactic| walk_at "compareOp Eq str str") => `(tactic| (k_here; first | (with_reducible refine eq_strT rfl ?_) | (with_reducible refine eq_strF (by with_reducible assumption) ?_)))
local macro_rules | `(tactic| walk_at "compareOp Eq ref str") => `(tactic| (k_here; (rename News _ _ _ _ => lN'); (refine eq_obj_str (lN' _ (List.Mem.tail _ (List.Mem.head _))).1 (by ktr_units) ?_)))
local macro_rules | `(tactic| walk_at "subscriptTail Name Name ref int") => `(tactic| (k_here; (with_reducible show wpAny _ _ (subscriptTail _ _ (Value.ref _) (Value.int _ _)) _ _ _); (rename News _ _ _ _ => lN'); (with_unfolding_all refine item_here lN' (List.Mem.head _) (by with_reducible assumption) (by omega) ?_)))
local macro_rules | `(tactic| walk_at "setItem ref int") => `(tactic| (k_here; (rename Fr _ _ _ _ => lF'); (rename News _ _ _ _ => lN'); (with_unfolding_all refine set_here lF' lN' (by with_reducible assumption) (by omega) (by omega) ?_); clear lF' lN'; intro h' F' N'; (try k_fold)))
set_option maxRecDepth 100000 in
set_option maxHeartbeats 1000000 in
theorem cnt_c {w : World} {news : List (Addr × Obj)} (a b : Str) (ta tb : Tok) (ha : a.length = 10) (hb : b.length = 10) (oa : ∀ c ∈ cpl a, c ∈ AL) (ob : ∀ c ∈ cpl b, c ∈ AL) : ClD 8 100 w 213 news [.str a ta, .str b tb] (TT ((cpl a).map some) ((cpl b).map some)) := by
  w_strict (
  k_with_none
  k_with "call type:list" => (k_here; (with_reducible show wpAny _ _ (call (Value.type _) [Value.str _ _]) _ _ _); (rename Fr _ _ _ _ => lF'); (rename News _ _ _ _ => lN'); (with_unfolding_all refine list_here (by rfl) lF' lN' (by omega) ?_); clear lF' lN'; first | ((fail_if_success (have q := lS)); intro DS us1 c1 h1 tk1 F1 N1 lS hS1) | (intro DT us2 c2 h2 tk2 F2 N2 lT hT1); (try k_fold))
  k_with "call type:object" => (k_here; (rename Fr _ _ _ _ => lF'); (rename News _ _ _ _ => lN'); (with_unfolding_all refine obj_here lF' lN' ?_); clear lF' lN'; intro NU h3 F3 N3 lU; (try k_fold))
  k_with "newList" => (k_here; (rename Fr _ _ _ _ => lF'); (rename News _ _ _ _ => lN'); (with_unfolding_all refine nil_here lF' lN' ?_); clear lF' lN'; intro R h4 F4 N4 lR; (try k_fold))
  k_with "KEnd" => ((rename Fr _ _ _ _ => lF'); (rename News _ _ _ _ => lN'); (with_unfolding_all refine KEnd.intro lF' lN' rfl ?_); (intro z hz; simp only [hz, if_false]))
  k_with "OEnd0" => ((rename Fr _ _ _ _ => lF'); (rename News _ _ _ _ => lN'); (with_unfolding_all refine OEnd0.intro lF' lN' ?_); (intro z hz; obtain ⟨q1, q2, q3, q4, q5, q6, q7⟩ := st7 hz; simp only [q1, q2, q3, q4, q5, q6, q7, hz, if_false, Bool.false_eq_true]))
  k_with "OEnd1" => ((have qq := htl6); (rename Fr _ _ _ _ => lF'); (rename News _ _ _ _ => lN'); first
    | ((rename cn _ _ = cn _ _ => e9); (with_unfolding_all refine OEnd1.same lF' (perm4 lN') hO9 hO10 e9 ?_); (intro z hz; obtain ⟨q1, q2, q3, q4, q5, q6, q7⟩ := st7 hz; simp only [q1, q2, q3, q4, q5, q6, q7, hz, if_false, Bool.false_eq_true]))
    | ((with_unfolding_all refine OEnd1.more lF' (perm6 lN') hO9 hO10 (l11 _ (List.Mem.tail _ (List.Mem.tail _ (List.Mem.head _)))) (l11 _ (List.Mem.head _)) (l11 _ (List.Mem.tail _ (List.Mem.tail _ (List.Mem.tail _ (List.Mem.head _))))) (fun p hp => l11 p (List.Mem.tail _ (List.Mem.tail _ (List.Mem.tail _ (List.Mem.tail _ hp))))) ?_); (intro z hz; obtain ⟨q1, q2, q3, q4, q5, q6, q7⟩ := st7 hz; simp only [q1, q2, q3, q4, q5, q6, q7, hz, if_false, Bool.false_eq_true])))
  k_with "OEnd2" => ((have qq := htl12); (rename Fr _ _ _ _ => lF'); (rename News _ _ _ _ => lN'); (with_unfolding_all refine OEnd2.intro lF' (perm9 lN') hO13 (l11 _ (List.Mem.head _)) (l11 _ (List.Mem.tail _ (List.Mem.tail _ (List.Mem.head _)))) (fun p hp => l11 p (List.Mem.tail _ (List.Mem.tail _ (List.Mem.tail _ hp)))) ?_); (intro z hz; obtain ⟨q1, q2, q3, q4, q5, q6, q7⟩ := st7 hz; simp only [q1, q2, q3, q4, q5, q6, q7, hz, if_false, Bool.false_eq_true]))
  k_with "call ref" => (k_here; (with_reducible show wpAny _ _ (PySem.call (Value.ref 203) _) _ _ _); (with_unfolding_all refine mis_c _ _ _ _ _ _ _ _ _ _ _ _ _ _ _ _ _ _ _ _ _ _ _ _ _ _ (by k_asm) (by k_asm) (by k_asm) (by k_asm) (by k_asm) (by first | exact rfl | assumption) (by ktr_room) (by ktr_units) ?_); intro x11 d11 h11 tk11 F11 N11 l11; (try dsimp only); (try k_fold))
  k_with "call builtin:list.append" => (k_here; (rename Fr _ _ _ _ => lF'); (rename News _ _ _ _ => lN'); first
    | ((have qq := htl12); (with_unfolding_all refine append_here lF' (perm8 lN') (off_perm hD8.1 (Ne.symm hD8.2.2) (Nat.ne_of_gt (l11 _ (List.Mem.tail _ (List.Mem.tail _ (List.Mem.head _))))) (fun p hp => (htl12 p hp).2)) (by omega) ?_); clear lF' lN'; intro h16 F16 N16; (try k_fold))
    | ((have qq := htl6); (with_unfolding_all refine append_here lF' (perm5 lN') (off_perm4 hD9.2.1 hD9.2.2.2.1 (Ne.symm hD9.2.2.2.2.2) (Nat.ne_of_gt (l11 _ (List.Mem.tail _ (List.Mem.tail _ (List.Mem.tail _ (List.Mem.head _)))))) (fun p hp => (htl6 p hp).2.2)) (by omega) ?_); clear lF' lN'; intro h16 F16 N16; (try k_fold)))
  k_with "pyIter ref" => ((rename Fr _ _ _ _ => lF'); (rename News _ _ _ _ => lN'); (rename IsRange _ _ _ _ _ _ _ _ => rg'); first
    | ((have qq := htl12); (with_unfolding_all refine cnt_range (xn := Str.ofString "cnt_t") (D := DT) (NU := NU) (c := c12) (i := i12) (by rfl) rg' (by rfl) (by rfl) hi12 (by decide) lF' (perm7 lN') (off_perm2 (Ne.symm hD8.2.1) (Ne.symm hD8.1) (fun p hp => (htl12 p hp).1)) (by rfl) hOt12 hct12 hbl12 ?_ ?_ ?_ ?_); clear lF' lN'; (intro k8 n8 t8 tn8 te8 us8 tl8 h8 tk8 hk8 hl8 hu8 ho8 F8 N8); rotate_left; (intro k8 n8 d8 t8 tn8 te8 us8 tl8 h8 tk8 hk8 hl8 hu8 hd8 ho8 F8 N8); rotate_left; (intro k8 n8 t8 tn8 us8 tl8 h8 tk8 hk8 hl8 hu8 ho8 F8 N8); rotate_left; (intro us13 tn13 u13 h13 tk13 hO13 hl13 F13 N13); rotate_left; (all_goals (try k_fold)))
    | ((have qq := htl6); (with_unfolding_all refine cnt_range (xn := Str.ofString "cnt_s") (D := DS) (NU := NU) (c := c6) (i := i6) (by rfl) rg' (by rfl) (by rfl) hi6 (by decide) lF' (perm2 lN') (off_perm (Ne.symm hD9.2.2.1) (Ne.symm hD9.1) (Ne.symm hD9.2.1) (fun p hp => (htl6 p hp).1)) (by rfl) hOs6 hcs6 hbl6 ?_ ?_ ?_ ?_); clear lF' lN'; (intro k8 n8 t8 tn8 te8 us8 tl8 h8 tk8 hk8 hl8 hu8 ho8 F8 N8); rotate_left; (intro k8 n8 d8 t8 tn8 te8 us8 tl8 h8 tk8 hk8 hl8 hu8 hd8 ho8 F8 N8); rotate_left; (intro k8 n8 t8 tn8 us8 tl8 h8 tk8 hk8 hl8 hu8 ho8 F8 N8); rotate_left; (intro us9 tn9 u9 h9 tk9 hO9 hl9 F9 N9); rotate_left; (all_goals (try k_fold))))
  k_with "call type:enumerate" => (k_here; (rename Fr _ _ _ _ => lF'); (rename News _ _ _ _ => lN'); (have hP9 := perm1 lN'); (have hD9 := pre_d lT lU lR); (have hO8 := pre_off lS lT lR); (have hS9 := OV.of (NU := NU) hS1); (have hT9 := OV.of (NU := NU) hT1); (have hI9 := I1.start (by rw [cpl_len]; exact ha) (by rw [cpl_len]; exact hb) oa ob); (with_unfolding_all refine outer1 (S := DS) (T := DT) (R := R) (NU := NU) [Str.ofString "i", Str.ofString "elem", Str.ofString "cnt_s", Str.ofString "cnt_t", Str.ofString "j", Str.ofString "other_elem", Str.ofString "diff"] (by rfl) (by rfl) (by rfl) (by rfl) (by rfl) (by rfl) lF' hP9 hD9 hO8 hS9 hT9 hI9 ?_ ?_ ?_); clear lF' lN'; (intro i5 t5 u5 ss5 tt5 rs5 cR5 tl5 h5 tk5 F5 N5); rotate_left; (intro i6 c6 te6 t6 u6 ss6 tt6 rs6 cR6 cs6 ct6 tl6 h6 tk6 hi6 hss6 htt6 hrs6 hOs6 hOt6 hcs6 hct6 hbl6 htl6 F6 N6); rotate_left; (intro u7 ss7 tt7 rs7 cR7 ml7 ct7 ms7 h7 tk7 hO7 hM7 hI7 hm7 F7 N7); rotate_left; (all_goals (try k_fold)))
  k_with "call type:enumerate" => ((have qq := htl6); k_here; (rename Fr _ _ _ _ => lF'); (rename News _ _ _ _ => lN'); (with_unfolding_all refine cnt_enum (xn := Str.ofString "cnt_t") (D := DT) (NU := NU) (c := c6) (by rfl) (by rfl) (by rfl) (by rfl) (by decide) (by decide) lF' (perm3 lN') (off_perm (Ne.symm hD9.2.2.2.2.1) hD9.1 (Ne.symm hD9.2.2.2.1) (fun p hp => (htl6 p hp).2.1)) (by rfl) hOt6 hct6 ?_ ?_ ?_ ?_); clear lF' lN'; (intro k8 n8 t8 tn8 te8 us8 tl8 h8 tk8 hk8 hl8 hu8 ho8 F8 N8); rotate_left; (intro k8 n8 d8 t8 tn8 te8 us8 tl8 h8 tk8 hk8 hl8 hu8 hd8 ho8 F8 N8); rotate_left; (intro k8 n8 t8 tn8 us8 tl8 h8 tk8 hk8 hl8 hu8 ho8 F8 N8); rotate_left; (intro us10 tn10 u10 v10 h10 tk10 hO10 hl10 F10 N10); rotate_left; (all_goals (try k_fold)))
  k_with "call type:enumerate" => ((have qq := hI7); k_here; (rename Fr _ _ _ _ => lF'); (rename News _ _ _ _ => lN'); (have hD8 := hD9.2.2.2); (with_unfolding_all refine outer2 (T := DT) (R := R) (NU := NU) [Str.ofString "i", Str.ofString "elem", Str.ofString "cnt_s", Str.ofString "cnt_t", Str.ofString "j", Str.ofString "other_elem", Str.ofString "diff"] (by rfl) (by rfl) (by rfl) (by rfl) (by rfl) (by rfl) lF' (kst_newsOf lN' (fun p hp => List.Mem.tail _ hp)) hD8 (off_app2 hm7 (fun p hp => (hO8 p hp).2)) hO7 (hM7.mono (fun p hp => List.mem_append_left _ hp)) hI7 ?_ ?_ ?_); clear lF' lN'; (intro i5 t5 u5 tt5 rs5 cR5 tl5 h5 tk5 F5 N5); rotate_left; (intro i12 c12 te12 t12 u12 tt12 rs12 cR12 ct12 tl12 h12 tk12 hi12 htt12 hrs12 hOt12 hct12 hbl12 htl12 F12 N12); rotate_left; (intro u15 rs15 cR15 led15 ms15 h15 tk15 hM15 hb15 ha15 hl15 hsub15 hmem15 F15 N15; dsimp only [envOf] at F15 N15); rotate_left; (all_goals (try k_fold)))
  dsimp only [ClD]
  k_fill
  intros; rename_i hret
  have cbI : CbIn 213 := CbIn.mk
  refine wpAny_call ?_
  k_dflt cell_enter
  k_steps
  all_goals (exact hret _ _ _ _ _ _ _ hM15 hb15 ha15 hl15 hmem15 (fun p hp => hsub15 p (List.mem_append_right _ hp)) (by assumption) (by assumption)))
end Mine
end
section
open PySem PySem.W PyProof.Rows PySem.Calls PySem.Spec
set_option maxRecDepth 100000
namespace Mine
abbrev tupO (vs : List Value) : Obj := { cls := .type "tuple", data := .seq vs.toArray }
def pD (x : Int × Int) : Dat := .tuple [.int x.1, .int x.1, .int x.1, .int x.2]
section
variable {prog : Program} {w : World} {A : Around} {E : Value → Shared → Prop} {Q : Flow → Shared → Prop} {s : Shared} {env : Env} {h₀ : Heap}
/-- one tuple more in the list at TD -/
def TuEnd (h₀ : Heap) (L : Addr) (s : Shared) (TD : Addr) (us : List Value) (led : List (Addr × Obj)) (x : Int × Int) (stored : List Str) (m : Str → Option Value) (f : Flow) (s' : Shared) : Prop :=
  f = .next ∧ ∃ h' tk' m' a c' t1 t2 t3 t4, s' = { s with heap := h', toks := tk' } ∧ Fr h₀ L h' m' ∧ News h₀ L h' ((TD, listOf (List.toArray (us ++ [.ref a])) c') :: (a, tupO [.int x.1 t1, .int x.1 t2, .int x.1 t3, .int x.2 t4]) :: led) ∧ TD < a ∧ (∀ p ∈ led, p.1 < a) ∧ ∀ z, stored.contains z = false → m' z = m z
theorem TuEnd.intro {L TD a : Addr} {us : List Value} {led : List (Addr × Obj)} {p q : Int} {stored : List Str} {m m' : Str → Option Value} {h' : Heap} {tk' c' : Nat} {t1 t2 t3 t4 : Tok} (F : Fr h₀ L h' m')
    (N : News h₀ L h' ((TD, listOf (List.toArray (us ++ [.ref a])) c') :: (a, tupO [.int p t1, .int p t2, .int p t3, .int q t4]) :: led)) (h1 : TD < a) (h2 : ∀ p ∈ led, p.1 < a) (hz : ∀ z, stored.contains z = false → m' z = m z) :
    TuEnd h₀ L s TD us led (p, q) stored m .next { s with heap := h', toks := tk' } := ⟨rfl, h', tk', m', a, c', t1, t2, t3, t4, rfl, F, N, h1, h2, hz⟩
/-- a row of tuples more -/
def PoEnd (h₀ : Heap) (L : Addr) (s : Shared) (TD : Addr) (fx tl dl : List (Addr × Obj)) (ds : List Dat) (stored : List Str) (m : Str → Option Value) (f : Flow) (s' : Shared) : Prop :=
  f = .next ∧ ∃ h' tk' m' us c ml, s' = { s with heap := h', toks := tk' } ∧ Fr h₀ L h' m' ∧ News h₀ L h' ((TD, listOf (List.toArray us) c) :: (fx ++ (ml ++ tl))) ∧ DatAll (fx ++ (ml ++ dl)) us ds ∧ (∀ p ∈ ml, p.1 ≠ TD ∧ ∀ q ∈ tl, q.1 ≠ p.1) ∧ ∀ z, stored.contains z = false → m' z = m z
theorem PoEnd.intro {L TD : Addr} {us : List Value} {fx ml tl dl : List (Addr × Obj)} {ds : List Dat} {stored : List Str} {m m' : Str → Option Value} {h' : Heap} {tk' c : Nat} (F : Fr h₀ L h' m')
    (N : News h₀ L h' ((TD, listOf (List.toArray us) c) :: (fx ++ (ml ++ tl)))) (hd : DatAll (fx ++ (ml ++ dl)) us ds) (hm : ∀ p ∈ ml, p.1 ≠ TD ∧ ∀ q ∈ tl, q.1 ≠ p.1) (hz : ∀ z, stored.contains z = false → m' z = m z) :
    PoEnd h₀ L s TD fx tl dl ds stored m .next { s with heap := h', toks := tk' } := ⟨rfl, h', tk', m', us, c, ml, rfl, F, N, hd, hm, hz⟩
theorem rng0 {n : Nat} (hn : n ≤ 10) : Builtin.Range.small 0 (n : Int) 1 = true ∧ Builtin.Range.rangeSize 0 (n : Int) 1 = ((n : Nat) : Int) := by
  revert n; decide +kernel
theorem pr_inner {r TD : Addr} {a₀ b₀ : Int} {t₁ u₁ v₁ : Tok} {xi : Str} {body : List Stmt} {m₀ : Str → Option Value} {us : List Value} {c j : Nat} {fx tl dl : List (Addr × Obj)} {ds₀ : List Dat} (stored : List Str) (pf : Nat → Int × Int)
    (hh : A.handled = none) (hr : IsRange s.heap r a₀ b₀ 1 t₁ u₁ v₁) (ha : a₀ = 0) (hb : b₀ = (j : Int)) (hj : j ≤ 10) (hxi : stored.contains xi = true)
    (F : Fr h₀ env.locals s.heap m₀) (N : News h₀ env.locals s.heap ((TD, listOf us.toArray c) :: (fx ++ tl))) (hoff : ∀ p ∈ fx ++ tl, p.1 ≠ TD)
    (hD : DatAll (fx ++ dl) us ds₀) (hds : ds₀.length ≤ 100)
    (turn : ∀ (i : Nat) t (u : Str → Option Value) us' c' tl' h tk, i < j → us'.length ≤ 200 → (∀ p ∈ fx ++ tl', p.1 ≠ TD) →
      Fr h₀ env.locals h (fun y => if y = xi then some (.int (i : Int) t) else if stored.contains y then u y else m₀ y) → News h₀ env.locals h ((TD, listOf (List.toArray us') c') :: (fx ++ tl')) →
      wpAny (model prog w) A (execs body env) (TuEnd h₀ env.locals { s with heap := h, toks := tk } TD us' (fx ++ tl') (pf i) stored m₀) E { s with heap := h, toks := tk })
    (done : ∀ (u : Str → Option Value) us' c' ml h tk, DatAll (fx ++ (ml ++ dl)) us' (ds₀ ++ (List.range j).map fun i => pD (pf i)) → (∀ p ∈ ml, p.1 ≠ TD ∧ ∀ q ∈ tl, q.1 ≠ p.1) → Fr h₀ env.locals h (fun y => if stored.contains y then u y else m₀ y) →
      News h₀ env.locals h ((TD, listOf (List.toArray us') c') :: (fx ++ (ml ++ tl))) → Q .next { s with heap := h, toks := tk }) :
    wpAny (model prog w) A (pyIter (.ref r)) (fun it s₂ => LoopAtV prog w A h₀ env xi body Q E it s₂) E s := by
  subst ha hb
  refine range_inv (fun k m nx => ∃ us' c' ml, nx = (TD, listOf (List.toArray us') c') :: (fx ++ (ml ++ tl)) ∧ DatAll (fx ++ (ml ++ dl)) us' (ds₀ ++ (List.range k).map fun i => pD (pf i)) ∧ (∀ p ∈ ml, p.1 ≠ TD ∧ ∀ q ∈ tl, q.1 ≠ p.1) ∧ ∀ z, stored.contains z = false → m z = m₀ z)
    hh hr (rng0 hj).1 (rng0 hj).2 F N ⟨us, c, [], rfl, by simpa using hD, (fun _ hp => nomatch hp), fun _ _ => rfl⟩ ?_ ?_
  · rintro k t m₁ nx h tk own hk hown ⟨us', c', ml, rfl, hD', hml, hm⟩ F₁ N₁
    have e1 : (0 : Int) + (k : Int) = (k : Int) := by omega
    rw [e1] at F₁
    have F₂ : Fr h₀ env.locals h (fun y => if y = xi then some (.int (k : Int) t) else if stored.contains y then m₁ y else m₀ y) := fr_eq F₁ fun z => by
      rw [map_stored hm]
    have hT : ∀ p ∈ fx ++ (ml ++ (tl ++ own)), p.1 ≠ TD := fun p hp => by
      rcases List.mem_append.mp hp with hp | hp
      · exact hoff p (List.mem_append_left _ hp)
      rcases List.mem_append.mp hp with hp | hp
      · exact (hml p hp).1
      rcases List.mem_append.mp hp with hp | hp
      · exact hoff p (List.mem_append_right _ hp)
      · exact hown p hp TD (List.Mem.head _)
    have hlen : us'.length ≤ 200 := by
      rw [hD'.length]; simp; omega
    refine wpAny_mono (turn k t m₁ us' c' (ml ++ (tl ++ own)) h tk hk hlen hT F₂ (by simpa [List.append_assoc] using N₁)) (fun f s' p => ?_) fun _ _ x => x
    obtain ⟨rfl, h', tk', m', a, c2, t1, t2, t3, t4, rfl, F', N', hTa, hla, hz⟩ := p
    refine TEnd.next (nx := (TD, listOf (List.toArray (us' ++ [.ref a])) c2) :: (fx ++ (((a, tupO [.int (pf k).1 t1, .int (pf k).1 t2, .int (pf k).1 t3, .int (pf k).2 t4]) :: ml) ++ tl))) F' (fun p hp => N' p ?_) ?_
      ⟨us' ++ [.ref a], c2, (a, tupO [.int (pf k).1 t1, .int (pf k).1 t2, .int (pf k).1 t3, .int (pf k).2 t4]) :: ml, rfl, ?_, ?_, hz⟩
    · simp only [List.cons_append, List.mem_cons, List.mem_append] at hp ⊢
      rcases hp with e | (e | e | e | e) | e
      · exact .inl e
      · exact .inr (.inr (.inl e))
      · exact .inr (.inl e)
      · exact .inr (.inr (.inr (.inl e)))
      · exact .inr (.inr (.inr (.inr (.inl e))))
      · exact .inr (.inr (.inr (.inr (.inr e))))
    · intro p hp b hb
      have hpa : p.1 ≠ a := Nat.ne_of_lt (hla p (List.mem_append_right _ (List.mem_append_right _ (List.mem_append_right _ hp))))
      have hbase := hown p hp
      simp only [List.map_cons, List.map_append, List.cons_append, List.mem_cons, List.mem_append] at hb hbase
      rcases hb with e | e | e | e | e
      · exact hbase b (.inl e)
      · exact hbase b (.inr (.inl e))
      · rw [e]; exact hpa
      · exact hbase b (.inr (.inr (.inl e)))
      · exact hbase b (.inr (.inr (.inr e)))
    · rw [show ds₀ ++ (List.range (k + 1)).map (fun i => pD (pf i)) = (ds₀ ++ (List.range k).map fun i => pD (pf i)) ++ [pD (pf k)] by simp [List.range_succ]]
      refine DatAll.append (hD'.mono fun p hp => ?_) (DatAll.one (DatIn.tuple (n := 0) (vs := [.int (pf k).1 t1, .int (pf k).1 t2, .int (pf k).1 t3, .int (pf k).2 t4]) ?_ (.cons (.int _ _) (.cons (.int _ _) (.cons (.int _ _) (.cons (.int _ _) .nil))))))
      · simp only [List.cons_append, List.mem_cons, List.mem_append] at hp ⊢
        rcases hp with h | h | h
        · exact .inl h
        · exact .inr (.inr (.inl h))
        · exact .inr (.inr (.inr h))
      · exact List.mem_append_right _ (List.Mem.head _)
    · intro p hp
      rcases List.mem_cons.mp hp with e | hp
      · rw [e]; exact ⟨Nat.ne_of_gt hTa, fun q hq => Nat.ne_of_lt (hla q (List.mem_append_right _ (List.mem_append_right _ (List.mem_append_left _ hq))))⟩
      · exact hml p hp
  · rintro m₁ nx h tk ⟨us', c', ml, rfl, hD', hml, hm⟩ F₁ N₁
    exact done m₁ us' c' ml h tk hD' hml (fr_eq F₁ fun z => map_stored hm z) N₁
/-- the rows of tuples up to j -/
def dUp (pf : Nat → Nat → Int × Int) : Nat → List Dat
  | 0 => []
  | j + 1 => dUp pf j ++ (List.range j).map fun i => pD (pf j i)
theorem dUp_length (pf : Nat → Nat → Int × Int) : ∀ j, j ≤ 10 → (dUp pf j).length ≤ 10 * j
  | 0, _ => by simp [dUp]
  | j + 1, h => by
    have := dUp_length pf j (by omega)
    simp only [dUp, List.length_append, List.length_map, List.length_range]
    omega
theorem pr_outer {r TD : Addr} {a₀ b₀ : Int} {t₁ u₁ v₁ : Tok} {xj : Str} {body : List Stmt} {m₀ : Str → Option Value} {us : List Value} {c n : Nat} {fx tl : List (Addr × Obj)} {d0 : Dat} (stored : List Str) (pf : Nat → Nat → Int × Int)
    (hh : A.handled = none) (hr : IsRange s.heap r a₀ b₀ 1 t₁ u₁ v₁) (ha : a₀ = 0) (hb : b₀ = (n : Int)) (hj : n ≤ 8) (hxi : stored.contains xj = true)
    (F : Fr h₀ env.locals s.heap m₀) (N : News h₀ env.locals s.heap ((TD, listOf us.toArray c) :: (fx ++ tl))) (hoff : ∀ p ∈ fx ++ tl, p.1 ≠ TD)
    (hD : DatAll (fx ++ tl) us [d0])
    (turn : ∀ (j : Nat) t (u : Str → Option Value) us' c' tl' dl h tk, j < n → DatAll (fx ++ dl) us' (d0 :: dUp pf j) → (d0 :: dUp pf j).length ≤ 100 → (∀ p ∈ fx ++ tl', p.1 ≠ TD) →
      Fr h₀ env.locals h (fun y => if y = xj then some (.int (j : Int) t) else if stored.contains y then u y else m₀ y) → News h₀ env.locals h ((TD, listOf (List.toArray us') c') :: (fx ++ tl')) →
      wpAny (model prog w) A (execs body env) (PoEnd h₀ env.locals { s with heap := h, toks := tk } TD fx tl' dl (d0 :: (dUp pf j ++ (List.range j).map fun i => pD (pf j i))) stored m₀) E { s with heap := h, toks := tk })
    (done : ∀ (u : Str → Option Value) us' c' ml h tk, DatAll (fx ++ (ml ++ tl)) us' (d0 :: dUp pf n) → (∀ p ∈ ml, p.1 ≠ TD ∧ ∀ q ∈ tl, q.1 ≠ p.1) → Fr h₀ env.locals h (fun y => if stored.contains y then u y else m₀ y) →
      News h₀ env.locals h ((TD, listOf (List.toArray us') c') :: (fx ++ (ml ++ tl))) → Q .next { s with heap := h, toks := tk }) :
    wpAny (model prog w) A (pyIter (.ref r)) (fun it s₂ => LoopAtV prog w A h₀ env xj body Q E it s₂) E s := by
  subst ha hb
  refine range_inv (fun k m nx => ∃ us' c' ml, nx = (TD, listOf (List.toArray us') c') :: (fx ++ (ml ++ tl)) ∧ DatAll (fx ++ (ml ++ tl)) us' (d0 :: dUp pf k) ∧ (∀ p ∈ ml, p.1 ≠ TD ∧ ∀ q ∈ tl, q.1 ≠ p.1) ∧ ∀ z, stored.contains z = false → m z = m₀ z)
    hh hr (rng0 (by omega)).1 (rng0 (by omega)).2 F N ⟨us, c, [], rfl, by simpa [dUp] using hD, (fun _ hp => nomatch hp), fun _ _ => rfl⟩ ?_ ?_
  · rintro k t m₁ nx h tk own hk hown ⟨us', c', ml, rfl, hD', hml, hm⟩ F₁ N₁
    have e1 : (0 : Int) + (k : Int) = (k : Int) := by omega
    rw [e1] at F₁
    have F₂ : Fr h₀ env.locals h (fun y => if y = xj then some (.int (k : Int) t) else if stored.contains y then m₁ y else m₀ y) := fr_eq F₁ fun z => by
      rw [map_stored hm]
    have hT : ∀ p ∈ fx ++ (ml ++ (tl ++ own)), p.1 ≠ TD := fun p hp => by
      rcases List.mem_append.mp hp with hp | hp
      · exact hoff p (List.mem_append_left _ hp)
      rcases List.mem_append.mp hp with hp | hp
      · exact (hml p hp).1
      rcases List.mem_append.mp hp with hp | hp
      · exact hoff p (List.mem_append_right _ hp)
      · exact hown p hp TD (List.Mem.head _)
    have hlen : (d0 :: dUp pf k).length ≤ 100 := by
      have := dUp_length pf k (by omega)
      simp; omega
    refine wpAny_mono (turn k t m₁ us' c' (ml ++ (tl ++ own)) (ml ++ tl) h tk hk hD' hlen hT F₂ (by simpa [List.append_assoc] using N₁)) (fun f s' p => ?_) fun _ _ x => x
    obtain ⟨rfl, h', tk', m', us2, c2, ml2, rfl, F', N', hD2, hml2, hz⟩ := p
    refine TEnd.next (nx := (TD, listOf (List.toArray us2) c2) :: (fx ++ ((ml2 ++ ml) ++ tl))) F' (fun p hp => N' p ?_) ?_ ⟨us2, c2, ml2 ++ ml, rfl, ?_, ?_, hz⟩
    · simp only [List.cons_append, List.mem_cons, List.mem_append] at hp ⊢
      rcases hp with e | (e | (e | e) | e) | e
      · exact .inl e
      · exact .inr (.inl e)
      · exact .inr (.inr (.inl e))
      · exact .inr (.inr (.inr (.inl e)))
      · exact .inr (.inr (.inr (.inr (.inl e))))
      · exact .inr (.inr (.inr (.inr (.inr e))))
    · intro p hp b hb
      have hbase := hown p hp
      simp only [List.map_cons, List.map_append, List.mem_cons, List.mem_append] at hb hbase
      rcases hb with e | e | (e | e) | e
      · exact hbase b (.inl e)
      · exact hbase b (.inr (.inl e))
      · obtain ⟨q, hq, rfl⟩ := List.mem_map.mp e
        exact (hml2 q hq).2 p (List.mem_append_right _ (List.mem_append_right _ hp))
      · exact hbase b (.inr (.inr (.inl e)))
      · exact hbase b (.inr (.inr (.inr e)))
    · simpa [List.append_assoc, dUp] using hD2
    · intro p hp
      rcases List.mem_append.mp hp with hp | hp
      · exact ⟨(hml2 p hp).1, fun q hq => (hml2 p hp).2 q (List.mem_append_right _ (List.mem_append_left _ hq))⟩
      · exact hml p hp
  · rintro m₁ nx h tk ⟨us', c', ml, rfl, hD', hml, hm⟩ F₁ N₁
    exact done m₁ us' c' ml h tk hD' hml (fr_eq F₁ fun z => map_stored hm z) N₁
end
end Mine
end
section
open PySem PySem.W PyProof.Rows
namespace Mine
open PySem.Calls PySem.Spec Builtin Builtin.ObjectAttr
set_option maxRecDepth 100000
set_option maxHeartbeats 4000000
theorem mk_seq (P : Params) : noSeq (Mine.hd.heap_1 P) 203 = true := by first | rfl | kernel_rfl | decide +kernel
theorem mis_getitem (l : Addr) (items : Array Value) (d : Addr) (i : Int) (u : Tok) (k : Nat) (y : Value) (hlo : -2 ^ 63 ≤ i) (hhi : i < 2 ^ 63) (hk : seqIndex? i items.size = some k) (hy : items[k]? = some y) :
    Meets (Builtin.«tuple.__getitem__» ⟨[.ref l, .int i u], []⟩)
      (fun _ R s => s.heap.get? l = some (misO items d) ∧ R (.ok (.ret y)) s) :=
  .of_wp fun prog w A R s h => by
    obtain ⟨hp, g, dd, tk, os⟩ := s; obtain ⟨hl, h⟩ := h
    have f1 := AutoSeq1.idx_int
    have hf : ¬ (decide (i < -2 ^ 63) || decide (i ≥ 2 ^ 63)) = true := by simp; omega
    wp_walk using AutoSeq1.wpAny_loadPart' hl
    simp only [hk, hy, Option.bind_some]
    refine wpAny_ite_false (by simp; omega) ?_
    wp_walk
    exact ⟨_, rfl, h⟩
section
variable {prog : Program} {w : World} {A : Around} {K : Frag} {E : Value → Shared → Prop} {s : Shared} {h₀ : Heap} {L : Addr} {m : Str → Option Value} {news : List (Addr × Obj)}
theorem mis_item {a d : Addr} {items : Array Value} {k : Nat} {u : Tok} {v : Value} {value slice : PySem.Expr} {Q : Value → Shared → Prop} (Y : MK K) (hq : noSeq K 203 = true) (X : K.In s.heap) (ha : s.heap.get? a = some (misO items d)) (hk : items[k]? = some v) (hz : items.size ≤ 1000) (h : Q v s)
    (hs : subscripted slice false (.ref a) (.int (k : Int) u) = operate [.ref a, .int (k : Int) u] (getItem (.ref a) (.int (k : Int) u)) := by with_unfolding_all rfl) :
    wpAny (model prog w) A (subscriptTail value slice (.ref a) (.int (k : Int) u)) Q E s := by
  obtain ⟨hp, g, dd, tk, os⟩ := s
  have hlt : k < items.size := (Array.getElem?_eq_some_iff.mp hk).1
  have t1 : Looks (model prog w) hp (typeOf (.ref a)) (.ref 203) := (Looks.ld ha).andThen .now
  have g1 := looks_findIn (M := model prog w) X Y.get
  have s2 := looks_subIn (M := model prog w) X Y.sub
  have hsx : seqIndex? (k : Int) items.size = some k := by
    have hn : ¬ ((k : Int) < 0) := by omega
    unfold seqIndex?
    simp [hn]; omega
  have get : wpAny (model prog w) A (getItem (.ref a) (.int (k : Int) u)) Q E ⟨hp, g, dd, tk, os⟩ := by
    unfold getItem sequenceKey
    refine wpAny_holding (wpAny_bind (wpAny_bind (t1.at ?_)))
    refine wpAny_bind ((anyM_none X hq).at ?_)
    rw [if_pos (show (!false) = true from rfl)]
    refine wpAny_pure (wpAny_bind ?_)
    unfold callSpecial? specialOf
    refine wpAny_bind (wpAny_bind (t1.at (g1.at ?_)))
    dsimp only
    refine wpAny_holding ?_
    rw [PySem.F.slot_tuple_getitem.bind]
    refine wpAny_bind (wpAny_pure (wpAny_bind (wpAny_call ?_)))
    refine codeAny_call_builtin PySem.F.slot_tuple_getitem.plain PySem.F.entry_tuple_getitem (@check_slot (model prog w) _ _ _ "tuple.__getitem__" "tuple" "__getitem__" (.ref a) [.int (k : Int) u] [] _ (by decide +kernel) (by decide +kernel) (t1.andThen s2) (PySem.F.args_tuple_getitem_2 _ _) ?_)
    have mt := mis_getitem a items d (k : Int) u k v (by omega) (by omega) hsx hk prog w A (fun r s' => r = .ok (.ret v) ∧ s' = ⟨hp, g, dd, tk, os⟩) ⟨hp, g, dd, tk, os⟩ ⟨ha, rfl, rfl⟩
    refine wpAny_mono mt (fun fin s' hf => ?_) fun e s' he => ?_
    · cases fin with
      | done f =>
        obtain ⟨e, rfl⟩ := hf
        cases e
        exact wpAny_pure (wpAny_pure h)
      | again c' =>
        refine ⟨hf.1, codeAny_mono hf.2 fun r s'' hr => ?_⟩
        obtain ⟨rfl, rfl⟩ := hr
        exact wpAny_pure (wpAny_pure h)
    · exact absurd he.1 (by simp)
  unfold subscriptTail getitemInPython specialOf
  refine wpAny_bind (wpAny_bind (wpAny_bind (t1.at (g1.at ?_))))
  dsimp only
  refine wpAny_pure ?_
  rw [hs]
  exact wpAny_bind (wpAny_operating (wpAny_mono get (fun r s₃ h₃ => wpAny_bind (wpAny_letTemporaryGo (wpAny_pure h₃))) fun _ _ x => x))
end
end Mine
end
section
open PySem PySem.W PyProof.Rows PySem.Calls PySem.Spec
set_option maxRecDepth 100000
namespace Mine
section
variable {prog : Program} {w : World} {A : Around} {E : Value → Shared → Prop} {s : Shared} {env : Env} {h₀ : Heap} {L : Addr} {m : Str → Option Value} {led : List (Addr × Obj)}
/-- where a comprehension with one test goes on, its source in hand -/
def MoreAt (prog : Program) (w : World) (A : Around) (E : Value → Shared → Prop) (env : Env) (x y : Str) (elt c : Expr) (scope : Scope) (cl : List (Str × Addr)) (Q : Flow → Shared → Prop) (it : Value) (s₂ : Shared) : Prop :=
  ∃ (p : Value → Bool) (F : Value → Value → Prop) (I : Addr) (fp wr : List Addr) (n : Nat) (P : Nat → Value → Prop) (St : Nat → Heap → Prop) (m : Str → Option Value), it = .ref I ∧ Walks prog w A I fp wr n P St ∧ n ≤ sizeLine ∧ St 0 s₂.heap ∧ (∀ b ∈ fp, b < s₂.heap.objs.size) ∧
    env.locals ∉ wr ∧ s₂.heap.Ns env.locals m ∧ QuietOnC prog w A env scope cl x [c] elt wr P p F s₂ ∧
    (∀ D h' tk ys (vs : List Value), s₂.heap.get? D = none → h'.IsList D ys → h'.PlainList D ys → vs.length = n → (∀ j v, vs[j]? = some v → P j v) → Paired F (vs.filter p) ys.toList →
      h'.Ns env.locals (fun z => if z = y then some (.ref D) else m z) → (∀ b o, b ≠ env.locals → b ∉ wr → s₂.heap.get? b = some o → h'.get? b = some o) → Q .next { s₂ with heap := h', toks := tk })
theorem assign_more {elt iter c : Expr} {x y : Str} {px py : Pos} {scope : Scope} {cl : List (Str × Addr)} {pos spos : Pos} {Q : Flow → Shared → Prop}
    (hsw : swapsWith (.ListComp elt [⟨.Name x px, iter, [c], 0⟩] scope pos) (some (.Name y py)) spos.line env = pure true)
    (hclos : closureFor scope env = pure cl) (hcell : ∀ z ∈ scope.names, z.2 ≠ .cell) (hkind : scope.kind = .function)
    (hnames : ∀ z ∈ scope.names, z.2 = .local → scope.names.lookup z.1 = some .local) (hx : scope.names.lookup x = some .local)
    (hy : env.kindOf y = some .local) (hp : (env.scope.kind == .class || (env.scope.kind == .module && env.locals != env.globals)) = false)
    (h : wpAny (model prog w) A (eval iter env) (fun xv s₁ => wpAny (model prog w) A (pyIter xv) (fun it s₂ => MoreAt prog w A E env x y elt c scope cl Q it s₂) E s₁) E s)
    (hs : ∀ x, foldedSetIterable iter env x = pure x := by intro _; rfl) :
    wpAny (model prog w) A (exec (.Assign [.Name y py] (.ListComp elt [⟨.Name x px, iter, [c], 0⟩] scope pos) spos) env) Q E s := by
  rw [exec_Assign_Name_used _ _ _ _ hsw]
  refine wpAny_bind (wpAny_standAt (wpAny_bind ?_))
  show wpAny _ A (do let _ ← comprehension (.ListComp elt [⟨.Name x px, iter, [c], 0⟩] scope pos) scope env _ (newList []) false (eval iter env) (some (assign (.Name y py) env))) _ _ s
  refine wpAny_bind (wpAny_mono (wpAny_comprehension_free (use := some (assign (.Name y py) env)) (Q := fun _ s' => Q .next s') rfl hs hclos hkind hnames
    (wpAny_mono h (fun xv s₁ h₁ => wpAny_mono h₁ (fun it s₂ h₂ => ?_) fun _ _ e => e) fun _ _ e => e)) (fun _ s' hq => wpAny_pure (wpAny_pure hq)) fun _ _ e => e)
  obtain ⟨p, F, I, fp, wr, n, P, St, m, rfl, W, hsz, hst, hfp, hLf, hn, hq, hQ⟩ := h₂
  refine comp_block_walkC (RR := fun acc C => compPost (model prog w) A E (some (assign (.Name y py) env)) (fun _ s' => Q .next s') acc C) W hsz p F hcell hkind hx hst hfp hq ?_
  intro D C h' tk m' ys vs hD hC hDC hnC hlD hplD hlen hP hF hk
  have hLC : env.locals ≠ C := by rintro rfl; obtain ⟨o, _, _, ho, _⟩ := hn; rw [hC] at ho; cases ho
  have hLD : env.locals ≠ D := by rintro rfl; obtain ⟨o, _, _, ho, _⟩ := hn; rw [hD] at ho; cases ho
  show wpAny _ A (assign (.Name y py) env (.ref D)) _ _ _
  refine wpAny_assign_Name (wpAny_storeName_local hy (hn.at' fun o e => hk _ o hLf e) (fun h₂ hn₂ hs₂ => ?_) hp)
  refine ⟨m', hnC.sameBut hs₂ (Ne.symm hLC), fun h₃ hs₃ => ?_⟩
  exact hQ D h₃ _ ys vs hD ((hlD.extBut hs₂.extBut (Ne.symm hLD)).extBut hs₃.extBut hDC) ((hplD.extBut hs₂.extBut (Ne.symm hLD)).extBut hs₃.extBut hDC) hlen hP hF (hn₂.sameBut hs₃ hLC) fun b o hbL hbf e =>
    hs₃.extBut b o (by rintro rfl; rw [hC] at e; cases e) (hs₂.extBut b o hbL (hk b o hbf e))
def TstEnd (v : Bool) (s₃ : Shared) (b : Bool) (s₄ : Shared) : Prop := b = v ∧ Keeps s₃ s₄
def gtM (x : Int × Int × Nat) : Bool := decide (x.1 > x.2.1)
theorem paired_eq : ∀ {us ys : List Value}, Paired (fun v y => y = v) us ys → ys = us
  | _, _, .nil => rfl
  | _, _, .cons h t => by rw [h, paired_eq t]
open Classical in
theorem more_src {R : Addr} {rs : List Value} {cR : Nat} {ms : List (Int × Int × Nat)} {x y : Str} {px : Pos} {c : Expr} {scope : Scope} {cl : List (Str × Addr)} {Q : Flow → Shared → Prop}
    (hh : A.handled = none) (F : Fr h₀ env.locals s.heap m) (N : News h₀ env.locals s.heap led) (hR : (R, listOf rs.toArray cR) ∈ led) (hM : MV led rs ms) (hl : ms.length ≤ 20)
    (hkc : ∀ C, (compEnvC scope cl C env).scope.kind = .function) (hlc : ∀ C, (compEnvC scope cl C env).kindOf x = some .local) (hxd : (x == ("__debug__" : Str)) = false)
    (test : ∀ (a d : Addr) p q ch tp tq tc C oC m₂ h g dr tk os (E' : Value → Shared → Prop), (a, misO #[.int p tp, .int q tq, .str (chr1 ch) tc] d) ∈ led → LCg.NsObj oC m₂ → m₂ x = some (.ref a) → Fr h₀ env.locals h m → News h₀ env.locals h ((C, oC) :: led) →
      wpAny (model prog w) A (isTrue c (compEnvC scope cl C env) (eval c (compEnvC scope cl C env))) (TstEnd (decide (p > q)) ⟨h, g, dr, tk, os⟩) E' ⟨h, g, dr, tk, os⟩)
    (hQ : ∀ D ys cD led' h' tk, MV led' ys (ms.filter gtM) → (D, listOf (List.toArray ys) cD) ∈ led' → (∀ p ∈ led, p ∈ led') → Fr h₀ env.locals h' (fun z => if z = y then some (.ref D) else m z) → News h₀ env.locals h' led' → Q .next { s with heap := h', toks := tk }) :
    wpAny (model prog w) A (pyIter (.ref R)) (fun it s₂ => MoreAt prog w A E env x y (.Name x px) c scope cl Q it s₂) E s := by
  have hol : s.heap.get? R = some (listOf rs.toArray cR) := (N _ hR).1
  have hls : s.heap.IsList R rs.toArray := ⟨_, hol, rfl, cR, rfl⟩
  have hne : R ≠ s.heap.objs.size := Nat.ne_of_lt (Heap.lt_size hol)
  refine wpAny_pyIter_list hls ?_
  have W := Walks.list (prog := prog) (w := w) hh s.heap.objs.size R hne rs.toArray
  have up : ∀ b o, s.heap.get? b = some o → (s.heap.push { cls := .type "list_iterator", data := .fields #[.ref R, .int 0 0] }).get? b = some o := fun b o e => Heap.get?_push_of_some _ e
  have hsz' : (s.heap.push { cls := .type "list_iterator", data := .fields #[.ref R, .int 0 0] }).objs.size = s.heap.objs.size + 1 := Heap.size_push ..
  have inI : ∀ b o, s.heap.get? b = some o → b ≠ s.heap.objs.size := fun b o e => Nat.ne_of_lt (Heap.lt_size e)
  have hmem : ∀ (i : Nat) (v : Value), rs[i]? = some v → ∃ a d p q ch tp tq tc, v = .ref a ∧ ms[i]? = some (p, q, ch) ∧ (a, misO #[.int p tp, .int q tq, .str (chr1 ch) tc] d) ∈ led := by
    clear W hls hol hR hQ
    induction hM with
    | nil => intro i v hv; simp at hv
    | cons hm _ ih =>
      intro i v hv
      cases i with
      | zero => exact ⟨_, _, _, _, _, _, _, _, (by simpa using hv.symm), rfl, hm⟩
      | succ i => simpa using ih (by simp at hl; omega) i v (by simpa using hv)
  let p : Value → Bool := fun v => decide (∃ a d p q ch tp tq tc, v = .ref a ∧ (a, misO #[.int p tp, .int q tq, .str (chr1 ch) tc] d) ∈ led ∧ p > q)
  have hp : ∀ a d (pp q : Int) ch tp tq tc, (a, misO #[.int pp tp, .int q tq, .str (chr1 ch) tc] d) ∈ led → p (.ref a) = decide (pp > q) := by
    intro a d pp q ch tp tq tc hm
    by_cases hg : pp > q
    · have : p (.ref a) = true := decide_eq_true ⟨a, d, pp, q, ch, tp, tq, tc, rfl, hm, hg⟩
      rw [this, decide_eq_true hg]
    · rw [decide_eq_false hg]
      refine decide_eq_false ?_
      rintro ⟨a', d', p', q', ch', tp', tq', tc', e, hm', hg'⟩
      cases e
      have e1 := (N _ hm).1
      have e2 := (N _ hm').1
      rw [e1] at e2
      have e3 := congrArg Obj.data (Option.some.inj e2)
      have e4 := (Data.seq.inj e3).1
      have e5 := congrArg Array.toList e4
      simp only [List.cons.injEq, Value.int.injEq] at e5
      obtain ⟨⟨h1, _⟩, ⟨h2, _⟩, _⟩ := e5
      exact hg (by rw [h1, h2]; exact hg')
  refine ⟨p, fun v y => y = v, s.heap.objs.size, _, _, _, _, _, m, rfl, W, ?_, ⟨⟨_, Heap.get?_push_size _ rfl, rfl, rfl⟩, hls.at fun o e => up _ o e⟩, ?_, ?_, F.ns.keeps up, ⟨?_, ?_⟩, ?_⟩
  · rw [List.size_toArray, hM.length]
    have : (20 : Nat) ≤ sizeLine := by decide
    omega
  · intro b hb
    rw [hsz']
    rcases List.mem_cons.mp hb with rfl | hb
    · exact Nat.lt_succ_self _
    · rw [List.mem_singleton.mp hb]; exact Nat.lt_succ_of_lt (Heap.lt_size hol)
  · intro hm
    exact absurd F.ns.lt ((List.mem_singleton.mp hm) ▸ Nat.lt_irrefl _)
  · intro C i v s₃ m₃ E' hC hv hn hx hk htk
    obtain ⟨a, d, pp, q, ch, tp, tq, tc, rfl, _, hm⟩ := hmem i v (by simpa using hv)
    have hCs : s.heap.objs.size ≤ C := Nat.le_trans (Nat.le_succ _) (Nat.le_trans (Nat.le_of_eq hsz'.symm) hC)
    have kk : ∀ b o, s.heap.get? b = some o → s₃.heap.get? b = some o := fun b o e => hk b o (by simpa using inI b o e) (up b o e)
    have F₃ : Fr h₀ env.locals s₃.heap m := ⟨F.ns.keeps kk, fun b o e => kk b o (F.keep b o e), F.above⟩
    have N₃ : News h₀ env.locals s₃.heap led := fun r hr => ⟨kk _ _ (N r hr).1, (N r hr).2⟩
    obtain ⟨oC, hoC, hNs⟩ := LCg.ns_obj hn
    have hCL : C ≠ env.locals := fun e => absurd F.ns.lt (Nat.not_lt.mpr (e ▸ hCs))
    have hC0 : h₀.get? C = none := by
      cases e : h₀.get? C with
      | none => rfl
      | some o => exact absurd (Heap.lt_size (F.keep C o e)) (Nat.not_lt.mpr hCs)
    have N₄ : News h₀ env.locals s₃.heap ((C, oC) :: led) := fun r hr => by
      rcases List.mem_cons.mp hr with e | hr
      · rw [e]; exact ⟨hoC, hCL, hC0⟩
      · exact N₃ r hr
    rw [hp a d pp q ch tp tq tc hm]
    obtain ⟨hp3, g3, dr3, tk3, os3⟩ := s₃
    exact wpAny_tests_one (test a d pp q ch tp tq tc C oC m₃ hp3 g3 dr3 tk3 os3 E' hm hNs hx F₃ N₄)
  · intro C i v s₃ m₃ E' hC hv hpv hn hx hk htk
    exact wpAny_Name (wpAny_loadName_local (hkc C) (hlc C) hn hx ⟨rfl, s₃.heap, s₃.toks, rfl, fun _ _ e => e⟩) hxd
  · intro D h' tk ys vs hD hlD hpD hlen hP hF hns hk
    have hvs : vs = rs := by
      apply List.ext_getElem?
      intro j
      by_cases hj : j < vs.length
      · have h1 := hP j (vs[j]) (by simp [hj])
        rw [List.getElem?_eq_getElem hj]
        simpa using h1.symm
      · rw [List.getElem?_eq_none (by omega), List.getElem?_eq_none (by rw [hlen, List.size_toArray] at hj; omega)]
    subst hvs
    have hys : ys.toList = vs.filter p := paired_eq hF
    obtain ⟨cD, hcD⟩ := hpD
    have hDn : s.heap.get? D = none := by
      cases e : s.heap.get? D with
      | none => rfl
      | some o => rw [up D o e] at hD; cases hD
    have hDL : D ≠ env.locals := fun e => by
      obtain ⟨o, _, _, ho, _⟩ := F.ns
      rw [e, ho] at hDn; cases hDn
    have hD0 : h₀.get? D = none := by
      cases e : h₀.get? D with
      | none => rfl
      | some o => rw [F.keep D o e] at hDn; cases hDn
    have kk : ∀ b o, b ≠ env.locals → s.heap.get? b = some o → h'.get? b = some o := fun b o hb e => hk b o hb (by simpa using inI b o e) (up b o e)
    refine hQ D ys.toList cD ((D, listOf (List.toArray ys.toList) cD) :: led) h' tk ?_ (List.Mem.head _) (fun r hr => List.Mem.tail _ hr) ⟨hns, fun b o e => kk b o (Nat.ne_of_lt (Nat.lt_of_lt_of_le (Heap.lt_size e) F.above)) (F.keep b o e), F.above⟩ ?_
    · rw [hys]
      refine MV.mono (n := led) (fun r hr => List.Mem.tail _ hr) ?_
      clear hys hF hlen hP W hls hol hR hQ hmem
      have : ∀ {us : List Value} {ns : List (Int × Int × Nat)}, MV led us ns → MV led (us.filter p) (ns.filter gtM) := by
        intro us ns h
        induction h with
        | nil => exact .nil
        | @cons a d pp q ch tp tq tc us ns hm _ ih =>
          have e1 := hp a d pp q ch tp tq tc hm
          by_cases hg : pp > q
          · rw [List.filter_cons_of_pos (by rw [e1]; exact decide_eq_true hg), List.filter_cons_of_pos (by exact decide_eq_true hg)]
            exact .cons hm ih
          · rw [List.filter_cons_of_neg (by rw [e1]; simpa using hg), List.filter_cons_of_neg (by simpa [gtM] using hg)]
            exact ih
      exact this hM
    · intro r hr
      rcases List.mem_cons.mp hr with e | hr
      · rw [e]; exact ⟨by simpa using hcD, hDL, hD0⟩
      · exact ⟨kk _ _ (N r hr).2.1 (N r hr).1, (N r hr).2⟩
end
end Mine
end
section
open PySem PySem.W PyProof.Rows PySem.Calls PySem.Spec
set_option maxRecDepth 100000
namespace Mine
section
variable {prog : Program} {w : World} {A : Around} {h₀ : Heap} {L : Addr} {m : Str → Option Value} {env : Env} {elt : Expr} {x : Str} {scope : Scope} {cl : List (Str × Addr)} {s : Shared} {S : List (Addr × Obj) → Prop} {Fin : List Value → List (Addr × Obj) → Prop} {news : List (Addr × Obj)}
theorem MV.at {n : List (Addr × Obj)} {vs : List Value} {ms : List (Int × Int × Nat)} (h : MV n vs ms) : ∀ {i : Nat} {v : Value}, vs[i]? = some v → ∃ a d p q ch tp tq tc, v = .ref a ∧ ms[i]? = some (p, q, ch) ∧ (a, misO #[.int p tp, .int q tq, .str (chr1 ch) tc] d) ∈ n := by
  induction h with
  | nil => intro i v hv; simp at hv
  | cons hm _ ih =>
    intro i v hv
    cases i with
    | zero => exact ⟨_, _, _, _, _, _, _, _, (by simpa using hv.symm), rfl, hm⟩
    | succ i => simpa using ih (i := i) (v := v) (by simpa using hv)
def wtM (x : Int × Int × Nat) : Int := (x.1 - x.2.1) * wt x.2.2
theorem mv_rest {vs : List Value} {ms : List (Int × Int × Nat)} (hM : MV news vs ms) (hal : ∀ x ∈ ms, x.2.2 ∈ AL)
    (turn : ∀ a d p q ch tp tq tc I oI C oC D m₂ ys h tk (E' : Value → Shared → Prop), (a, misO #[.int p tp, .int q tq, .str (chr1 ch) tc] d) ∈ news → ch ∈ AL → LCg.NsObj oC m₂ → m₂ x = some (.ref a) → Fr h₀ L h m → News h₀ L h ((I, oI) :: (C, oC) :: (D, LCg.lst ys) :: news) → LCg.Off3 I C D news → ((@Ne Nat I C) ∧ (@Ne Nat I D) ∧ (@Ne Nat C D)) →
      wpAny (model prog w) A (eval elt (compEnvC scope cl C env)) (LCg.CompEnd h₀ L m { s with heap := h, toks := tk } I oI C oC D (LCg.lst ys) S (fun y news' => KCfEl news ((p - q) * wt ch) y news')) E' { s with heap := h, toks := tk })
    (fin : ∀ ys, IntsAre ys (ms.map wtM) → Fin ys news) : LCg.CompRest prog w A h₀ L m env elt x scope cl s S (fun i v => vs.toArray[i]? = some v) Fin vs.toArray.size 0 [] news := by
  have hlen := hM.length
  have key : ∀ (j i : Nat) (ys : List Value), i + j = vs.length → IntsAre ys ((ms.take i).map wtM) → LCg.CompRest prog w A h₀ L m env elt x scope cl s S (fun i v => vs.toArray[i]? = some v) Fin j i ys news := by
    intro j
    induction j with
    | zero =>
      intro i ys hi hy
      rw [List.take_of_length_le (by omega)] at hy
      exact LCg.CompRest.zero (fin ys hy)
    | succ j ih =>
      intro i ys hi hy
      refine LCg.CompRest.succ ?_
      intro v I oI C oC D m₂ h tk E' hv hC hx F N off ne
      obtain ⟨a, d, p, q, ch, tp, tq, tc, hv', hms, hmem⟩ := hM.at (i := i) (v := v) (by simpa using hv)
      rw [hv'] at hx
      refine wpAny_mono (turn a d p q ch tp tq tc I oI C oC D m₂ ys h tk E' hmem (hal _ (List.mem_of_getElem? hms)) hC hx F N off ne) (fun y s₂ hq => ?_) fun _ _ e => e
      obtain ⟨h', tk', nw, e, F', N', off', hS, hn, t', hy'⟩ := hq
      rw [hn] at N' off' hS
      refine ⟨h', tk', news, e, F', N', off', hS, ?_⟩
      rw [hy']
      refine ih (i + 1) _ (by omega) ?_
      rw [List.take_add_one, hms]
      simpa [wtM] using IntsAre.append hy (.cons ((p - q) * wt ch) t' .nil)
  rw [List.size_toArray]
  exact key vs.length 0 [] (by omega) (by simp only [List.take_zero, List.map_nil]; exact .nil)
theorem st_is : ∀ c ∈ AL, Txt.contains (Str.ofString "st") (chr1 c) = decide (c = 115 ∨ c = 116) := by decide +kernel
theorem bag_sum : ∀ (ms : List (Int × Int × Nat)), ((ms.filter gtM).map wtM).sum = bagOf ms
  | [] => rfl
  | x :: ms => by
    have ih := bag_sum ms
    by_cases h : x.1 > x.2.1
    · rw [List.filter_cons_of_pos (by exact decide_eq_true h), List.map_cons, List.sum_cons, ih]
      simp only [bagOf, if_pos h, wtM]
    · rw [List.filter_cons_of_neg (by simpa [gtM] using h), ih]
      simp only [bagOf, if_neg h, Int.zero_add]
end
end Mine
end
section
open PySem PySem.W PyProof.Rows PySem.Calls PySem.Spec
set_option maxRecDepth 100000
namespace Mine
abbrev ClT (d u : Nat) (w : World) (f : Addr) (news : List (Addr × Obj)) (vs : List Value) (D : List Dat) : Prop :=
  ∀ (mean : ExcName → Option Value) (mg mb : Str → Option Value) (dp un : Nat) (gd : Option (List Code)) (cn : Str) (cs : Scope) (a : Addr) (ccd : Value) (cl : List (Str × Addr)) (outer : List Env) (A₀ : Around) (base h₀ : Heap) (L : Addr) (m : Str → Option Value) (s : Shared) (Q E : Value → Shared → Prop),
    Below A₀ base outer h₀ → Fr h₀ L s.heap m → (Mine.hd.heap_1 w.params).In h₀ → News h₀ L s.heap news →
    Top Mine.vw (looseW Mine.vw [Str.ofString "_filemode_table", Str.ofString "_tuplegetter", Str.ofString "Mismatch", Str.ofString "_Mismatch"]) mean mg mb h₀ → cs.kind = .function →
    dp + d < recursionLimit → un + u < cLine → (∀ (R : Addr) (rs : List Value) (cR : Nat) (led : List (Addr × Obj)) (h' : Heap) (tk' : Nat), DatAll led rs D → (R, listOf (List.toArray rs) cR) ∈ led → (∀ p ∈ news, p ∈ led) → Fr h₀ L h' m → News h₀ L h' led → Q (.ref R) { s with heap := h', toks := tk' }) →
      wpAny (model PySem.Challenge.rw_aa0056_01.row.prog w) (ktrTop dp un gd cn cs L a ccd cl outer) (call (.ref f) vs) Q E s
def qf (P : Int) : Int := if P > 0 then -1 else 0
def pfT (T : Int) (rs : List Int) (j i : Nat) : Int × Int := (priceF T (rs.getD i 0 - rs.getD j 0), qf (priceF T (rs.getD i 0 - rs.getD j 0)))
def rowsD (T : Int) (rs : List Int) : Dat := .list (rs.map fun x => Dat.str (rowS T x))
def dT (T : Int) (rs : List Int) : List Dat := rowsD T rs :: dUp (pfT T rs) rs.length
theorem qf_pos {P : Int} (h : P > 0) : qf P = -1 := if_pos h
theorem qf_neg {P : Int} (h : ¬ P > 0) : qf P = 0 := if_neg h
section
variable {M : Model} {prog : Program} {w : World} {A : Around} {E : Value → Shared → Prop} {s : Shared} {h₀ h : Heap} {L : Addr} {m : Str → Option Value} {news : List (Addr × Obj)}
theorem tup_here {vs : List Value} {Q : Value → Shared → Prop} (F : Fr h₀ L s.heap m) (N : News h₀ L s.heap news) (hz : vs.length ≤ 1000) (h : ∀ D h', Fr h₀ L h' m → News h₀ L h' ((D, tupO vs) :: news) → (∀ p ∈ news, p.1 < D) → Q (.ref D) { s with heap := h' }) : wpAny M A (newTuple vs) Q E s :=
  wpAny_newObj_type (h _ _ (F.push _) (N.push F _) fun p hp => Heap.lt_size (N p hp).1) (by show vs.toArray.size ≤ sizeLine; rw [List.size_toArray]; exact Nat.le_trans hz (by decide))
theorem listn_here {vs : List Value} {Q : Value → Shared → Prop} (F : Fr h₀ L s.heap m) (N : News h₀ L s.heap news) (hz : vs.length ≤ 1000) (h : ∀ D h', Fr h₀ L h' m → News h₀ L h' ((D, listOf (List.toArray vs) 0) :: news) → (∀ p ∈ news, p.1 < D) → Q (.ref D) { s with heap := h' }) : wpAny M A (newList vs) Q E s :=
  wpAny_newObj_type (h _ _ (F.push _) (N.push F _) fun p hp => Heap.lt_size (N p hp).1) (by show vs.toArray.size ≤ sizeLine; rw [List.size_toArray]; exact Nat.le_trans hz (by decide))
theorem item_ints {D : Addr} {us : List Value} {c : Nat} {ns : List Int} {k : Nat} {u : Tok} {value slice : PySem.Expr} {Q : Value → Shared → Prop} (N : News h₀ L s.heap news) (hm : (D, listOf us.toArray c) ∈ news) (hI : IntsAre us ns) (hk : k < ns.length) (hz : ns.length ≤ 1000) (h : ∀ t, Q (.int (ns.getD k 0) t) s)
    (hs : subscripted slice false (.ref D) (.int (k : Int) u) = operate [.ref D, .int (k : Int) u] (getItem (.ref D) (.int (k : Int) u)) := by with_unfolding_all rfl) (hg : ∀ r, letTemporaryGo value (.ref D) r = pure () := by intro _; with_unfolding_all rfl) :
    wpAny (model prog w) A (subscriptTail value slice (.ref D) (.int (k : Int) u)) Q E s := by
  obtain ⟨t, ht⟩ := hI.get k (ns.getD k 0) (by simp [List.getD_eq_getElem?_getD, hk])
  exact item_here N hm ht (by rw [hI.length]; exact hz) (h t) hs hg
theorem item_strs {D : Addr} {us : List Value} {c : Nat} {ys : List Str} {k : Nat} {u : Tok} {y : Str} {value slice : PySem.Expr} {Q : Value → Shared → Prop} (N : News h₀ L s.heap news) (hm : (D, listOf us.toArray c) ∈ news) (hI : StrsAre us ys) (hk : ys[k]? = some y) (hz : ys.length ≤ 1000) (h : ∀ t, Q (.str y t) s)
    (hs : subscripted slice false (.ref D) (.int (k : Int) u) = operate [.ref D, .int (k : Int) u] (getItem (.ref D) (.int (k : Int) u)) := by with_unfolding_all rfl) (hg : ∀ r, letTemporaryGo value (.ref D) r = pure () := by intro _; with_unfolding_all rfl) :
    wpAny (model prog w) A (subscriptTail value slice (.ref D) (.int (k : Int) u)) Q E s := by
  have : ∃ t, us[k]? = some (.str y t) := by
    clear hm hz h hs hg N
    induction hI generalizing k with
    | nil => simp at hk
    | cons z t r ih =>
      cases k with
      | zero => exact ⟨t, by simp at hk; rw [hk]; rfl⟩
      | succ k => simpa using ih (k := k) (by simpa using hk)
  obtain ⟨t, ht⟩ := this
  exact item_here N hm ht (by rw [hI.length]; exact hz) (h t) hs hg
theorem strs_dat : ∀ {us : List Value} {ys : List Str} {n : List (Addr × Obj)}, StrsAre us ys → DatAll n us (ys.map Dat.str)
  | _, _, _, .nil => .nil
  | _, _, _, .cons y t r => .cons (.str y t) (strs_dat r)
end
theorem TuEnd.introE {h₀ : Heap} {s : Shared} {L TD a : Addr} {us : List Value} {led : List (Addr × Obj)} {p q : Int} {x : Int × Int} {stored : List Str} {m m' : Str → Option Value} {h' : Heap} {tk' c' : Nat} {t1 t2 t3 t4 : Tok} (F : Fr h₀ L h' m')
    (N : News h₀ L h' ((TD, listOf (List.toArray (us ++ [.ref a])) c') :: (a, tupO [.int p t1, .int p t2, .int p t3, .int q t4]) :: led)) (h1 : TD < a) (h2 : ∀ p ∈ led, p.1 < a) (e : x = (p, q)) (hz : ∀ z, stored.contains z = false → m' z = m z) :
    TuEnd h₀ L s TD us led x stored m .next { s with heap := h', toks := tk' } := by subst e; exact TuEnd.intro F N h1 h2 hz
end Mine
end
section
open PySem PySem.W PyProof.Rows
namespace Mine
open PySem.Calls PySem.Spec
theorem st3 {z x1 x2 x3 : Str} (h : [x1, x2, x3].contains z = false) : z ≠ x1 ∧ z ≠ x2 ∧ z ≠ x3 := by simpa using h
theorem st2 {z x1 x2 : Str} (h : [x1, x2].contains z = false) : z ≠ x1 ∧ z ≠ x2 := by simpa using h
section
variable {h₀ h : Heap} {L : Addr} {n : List (Addr × Obj)}
theorem swap2 {a b : Addr × Obj} (N : News h₀ L h (a :: b :: n)) : News h₀ L h (b :: a :: n) := fun p hp => N p (by
  simp only [List.mem_cons] at hp ⊢; rcases hp with h | h | h <;> simp [h])
theorem off_cons {D : Addr} {a : Addr × Obj} (h1 : a.1 ≠ D) (h : ∀ p ∈ n, p.1 ≠ D) : ∀ p ∈ a :: n, p.1 ≠ D := fun p hp => by
  rcases List.mem_cons.mp hp with e | hp
  · rw [e]; exact h1
  · exact h p hp
end
theorem carried_rows {g : Int → Str} {ys : List Value} {rs : List Int} (h : CarriedAll ys (rs.map fun k => PyData.str (g k))) : StrsAre ys (rs.map g) := StrsAre.of_carried (by rw [List.map_map]; exact h)
section
variable {prog : Program} {w : World} {A : Around} {E : Value → Shared → Prop} {s : Shared} {h₀ : Heap} {L : Addr} {m : Str → Option Value} {news : List (Addr × Obj)}
theorem range_here {Q : Value → Shared → Prop} {n : Int} {t : Tok} (F : Fr h₀ L s.heap m) (N : News h₀ L s.heap news) (h : ∀ r h' tk t₁ u₁ v₁, IsRange h' r 0 n 1 t₁ u₁ v₁ → Fr h₀ L h' m → News h₀ L h' news → Q (.ref r) { s with heap := h', toks := tk }) : wpAny (model prog w) A (call (.type "range") [.int n t]) Q E s :=
  range1_rows F N fun h' tk t u v hr F' N' _ => h _ h' tk t u v hr F' N'
end
section
variable {h₀ h : Heap} {L : Addr} {TD W c RL : Addr} {o1 o2 o3 oR : Obj} {news : List (Addr × Obj)}
theorem due_mem (N : News h₀ L h ((TD, o1) :: (W, o2) :: (c, o3) :: news)) (hR : (RL, oR) ∈ news) : News h₀ L h ((TD, o1) :: ([(W, o2), (RL, oR), (c, o3)] ++ news)) := fun p hp => N p (by
  simp only [List.cons_append, List.nil_append, List.mem_cons] at hp ⊢
  rcases hp with e | e | e | e | e
  · exact .inl e
  · exact .inr (.inl e)
  · exact .inr (.inr (.inr (e ▸ hR)))
  · exact .inr (.inr (.inl e))
  · exact .inr (.inr (.inr e)))
theorem due_off (l : ∀ p ∈ (W, o2) :: (c, o3) :: news, p.1 < TD) (hR : (RL, oR) ∈ news) : ∀ p ∈ [(W, o2), (RL, oR), (c, o3)] ++ news, p.1 ≠ TD := fun p hp => by
  simp only [List.cons_append, List.nil_append, List.mem_cons] at hp
  refine Nat.ne_of_lt (l p ?_)
  simp only [List.mem_cons]
  rcases hp with e | e | e | e
  · exact .inl e
  · exact .inr (.inr (e ▸ hR))
  · exact .inr (.inl e)
  · exact .inr (.inr e)
theorem rows_dat {T : Int} {rs : List Int} {ys : List Value} {n : List (Addr × Obj)} {k : Nat} (h : StrsAre ys (rs.map fun x => rowS T x)) (hm : (W, listOf ys.toArray k) ∈ n) : DatIn n (.ref W) (rowsD T rs) := by
  refine DatIn.list hm ?_
  have : (rs.map fun x => Dat.str (rowS T x)) = (rs.map fun x => rowS T x).map Dat.str := by rw [List.map_map]; rfl
  rw [this]
  exact strs_dat h
end
theorem ct2 {z x1 x2 : Str} (h1 : z ≠ x1) (h2 : z ≠ x2) : [x1, x2].contains z = false := by simp [h1, h2]
end Mine
end
section
open PySem PySem.W PyProof.Rows
namespace Mine
open PySem.Calls PySem.Spec
local macro_rules | `(tactic| walk_at "call type:range") => `(tactic| (k_here; (rename Fr _ _ _ _ => lF'); (rename News _ _ _ _ => lN'); (with_unfolding_all refine range_here lF' lN' ?_); clear lF' lN'; intro r' h' tk' t' u' v' hr' F' N'; (try k_fold)))
local macro_rules | `(tactic| walk_at "newTuple") => `(tactic| (k_here; (rename Fr _ _ _ _ => lF'); (rename News _ _ _ _ => lN'); (with_unfolding_all refine tup_here lF' lN' (Nat.le_of_ble_eq_true rfl) ?_); clear lF' lN'; intro a' h' F' N' l'; (try k_fold)))
local macro_rules | `(tactic| walk_at "subscriptTail Name Name ref int") => `(tactic| (k_here; (with_reducible show wpAny _ _ (subscriptTail _ _ (Value.ref _) (Value.int _ _)) _ _ _); (rename News _ _ _ _ => lN'); (rename IntsAre _ _ => lI'); (with_unfolding_all refine item_ints lN' (List.Mem.tail _ (List.Mem.tail _ (List.Mem.head _))) lI' (by omega) (by omega) ?_); intro _))
local macro_rules | `(tactic| walk_at "call ref") => `(tactic| (k_here; (with_reducible show wpAny _ _ (PySem.call (Value.ref 239) _) _ _ _); (with_unfolding_all refine row_c _ _ _ _ _ _ _ _ _ _ _ _ _ _ _ _ _ _ _ _ _ _ _ _ (by k_asm) (by k_asm) (by k_asm) (by k_asm) (by k_asm) (by first | exact rfl | assumption) (by ktr_room) (by ktr_units) ?_); intro t9 h9 tk9 F9 N9; (try dsimp only); (try k_fold)))
local macro_rules | `(tactic| walk_at "call ref") => `(tactic| (k_here; (with_reducible show wpAny _ _ (PySem.call (Value.ref 232) _) _ _ _); (with_unfolding_all refine price_c _ _ _ _ _ _ _ _ _ _ _ _ _ _ _ _ _ _ _ _ _ _ _ _ (by k_asm) (by k_asm) (by k_asm) (by k_asm) (by k_asm) (by first | exact rfl | assumption) (by ktr_room) (by ktr_units) ?_); intro t9 h9 tk9 F9 N9; (try dsimp only); (try k_fold)))
set_option maxRecDepth 100000 in
set_option maxHeartbeats 1000000 in
theorem due_c {w : World} {news : List (Addr × Obj)} (T : Int) (tT : Tok) (RL : Addr) (rvs : List Value) (cR : Nat) (rs : List Int) (hR : (RL, listOf (List.toArray rvs) cR) ∈ news) (hI : IntsAre rvs rs) (hn : rs.length ≤ 8) : ClT 12 200 w 244 news [.int T tT, .ref RL] (dT T rs) := by
  have hlv : rvs.length = rs.length := hI.length
  w_strict (
  k_with_none
  k_with "CompSrc" => ((rename Fr _ _ _ _ => lF'); (rename News _ _ _ _ => lN'); (with_unfolding_all refine LCg.CompSrc.ledger (by rfl) lF' lN' (List.Mem.tail _ hR) (by rw [List.size_toArray, hlv]; exact Nat.le_trans hn (by decide)) ?_); intro g9; (refine kct_list (fun x => rowS T x) hI ?_ ?_); clear lF' lN'; (intro k5 t5 I5 oI5 C5 oC5 D5 m5 ys5 h5 tk5 E5 hk5 hC5 hx5 F5 N5 off5 ne5 mk5); rotate_left; (unfold KPfDone; intro ys6 hc6 hl6; unfold LCg.FinE; intro D6 h6 tk6 F6 N6 o6; (have hS6 := carried_rows hc6); clear hc6); rotate_right; (all_goals (try k_fold)))
  k_with "CompEnd" => ((rename Fr _ _ _ _ => lF'); (rename News _ _ _ _ => lN'); (with_unfolding_all refine LCg.CompEnd.intro lF' lN' _ (fun p hp => hp) off5 (Or.inr ⟨_, List.Mem.tail _ hR, rfl, _, rfl⟩) ?_))
  k_with "KCtEl" => (exact ⟨rfl, _, rfl⟩)
  k_with "newList" => (k_here; (rename Fr _ _ _ _ => lF'); (rename News _ _ _ _ => lN'); (with_unfolding_all refine listn_here lF' lN' (Nat.le_of_ble_eq_true rfl) ?_); clear lF' lN'; intro TD h7 F7 N7 lTD; (try k_fold))
  k_with "call builtin:len" => (k_here; (rename News _ _ _ _ => lN'); (with_unfolding_all refine len_here (n := rs.length) lN' (List.Mem.tail _ (List.Mem.tail _ (List.Mem.tail _ hR))) hlv (by omega) ?_); intro _ _)
  k_with "pyIter ref" => ((rename Fr _ _ _ _ => lF'); (rename News _ _ _ _ => lN'); (rename IsRange _ _ _ _ _ _ _ _ => rg'); (with_unfolding_all refine pr_outer (TD := TD) (n := rs.length) (fx := [(D6, LCg.lst ys6), (RL, listOf (List.toArray rvs) cR), (L' + 1, oT)]) (tl := news) (d0 := rowsD T rs) [Str.ofString "j", Str.ofString "i", Str.ofString "price"] (pfT T rs) (by rfl) rg' (by rfl) (by rfl) hn (by rfl) lF' (due_mem lN' hR) (due_off lTD hR) (DatAll.one (rows_dat hS6 (List.Mem.head _))) ?_ ?_); clear lF' lN'; (intro j8 t8 u8 us8 c8 tl8 dl8 h8 tk8 hj8 hD8 hl8 ho8 F8 N8; simp only [List.cons_append, List.nil_append] at N8); rotate_left; (intro u13 us13 c13 ml13 h13 tk13 hD13 hm13 F13 N13; dsimp only [envOfC] at F13 N13); rotate_right; (all_goals (try k_fold)))
  k_with "pyIter ref" => ((have qq := hj8); (rename Fr _ _ _ _ => lF'); (rename News _ _ _ _ => lN'); (rename IsRange _ _ _ _ _ _ _ _ => rg'); (with_unfolding_all refine pr_inner (TD := TD) (j := j8) (fx := [(D6, LCg.lst ys6), (RL, listOf (List.toArray rvs) cR), (L' + 1, oT)]) (tl := tl8) (dl := dl8) [Str.ofString "i", Str.ofString "price"] (pfT T rs j8) (by rfl) rg' (by rfl) (by rfl) (by omega) (by rfl) lF' lN' ho8 hD8 hl8 ?_ ?_); clear lF' lN'; (intro i9 t9 u9 us9 c9 tl9 h9 tk9 hi9 hl9 ho9 F9 N9; simp only [List.cons_append, List.nil_append] at N9); rotate_left; (intro u10 us10 c10 ml10 h10 tk10 hD10 hm10 F10 N10); rotate_right; (all_goals (try k_fold)))
  k_with "call builtin:list.append" => (k_here; (rename Fr _ _ _ _ => lF'); (rename News _ _ _ _ => lN'); (rename ∀ p ∈ _, _ < _ => l11); (with_unfolding_all refine append_here lF' (swap2 lN') (off_cons (Nat.ne_of_gt (l11 _ (List.Mem.head _))) ho9) (by omega) ?_); clear lF' lN'; intro h16 F16 N16; (try k_fold))
  k_with "TuEnd" => ((rename Fr _ _ _ _ => lF'); (rename News _ _ _ _ => lN'); (rename ∀ p ∈ _, _ < _ => l11); (with_unfolding_all refine TuEnd.introE lF' lN' (l11 _ (List.Mem.head _)) (fun p hp => l11 p (List.Mem.tail _ hp)) ?_ ?_); (first | exact congrArg (Prod.mk _) (qf_pos (by with_reducible first | assumption | omega)) | exact congrArg (Prod.mk _) (qf_neg (by with_reducible first | assumption | omega))); (intro z hz; obtain ⟨q1, q2⟩ := st2 hz; simp only [q1, q2, hz, if_false, Bool.false_eq_true]))
  k_with "PoEnd" => ((rename Fr _ _ _ _ => lF'); (rename News _ _ _ _ => lN'); (with_unfolding_all refine PoEnd.intro lF' lN' hD10 hm10 ?_); (intro z hz; obtain ⟨q1, q2, q3⟩ := st3 hz; simp only [q1, ct2 q2 q3, hz, if_false, Bool.false_eq_true]))
  dsimp only [ClT]
  k_fill
  intros; rename_i hret
  have cbI : CbIn 244 := CbIn.mk
  refine wpAny_call ?_
  k_dflt (refine' code_defC ?k1 ?k2 ?k3 ?k4 ?k5 ?kA ?kF ?kK ?k6 ?k7 ?k8 ?k9 ?kB ?kD ?_ ?c2 ?c3 ?c4; (case kA => exact rfl); (case kF => exact rfl); (case kK => assumption); (case k1 => k_asm); (case k2 => k_asm); (case k3 => k_asm); (case k4 => k_asm); (case k5 => k_asm); (case k6 => k_is); (case k7 => k_is); (case k8 => ktr_room); (case k9 => exact BindsTo.of_eq rfl); (case kB => exact rfl); (case kD => decide +kernel); (case c2 => exact rfl); (case c3 => exact rfl); (case c4 => exact rfl); k_whole; intro g' L' h' tk' cells' FG' F' N' Y' B' X' T' lL; (have lL2 := lL; (try k_lt lL2)); (obtain ⟨oT, hE9, dT9⟩ := CellsAre.one Y'; subst hE9; clear Y'); (try simp only [List.cons_append, List.nil_append] at N'); (try dsimp only); (try k_lift B'); (try k_fold))
  k_steps
  all_goals (have qq := hD13; exact hret _ _ _ _ _ _ (hD13.mono fun p hp => List.Mem.tail _ hp) (List.Mem.head _) (fun p hp => by simp [hp]) (by assumption) (by assumption)))
end Mine
end
section
open PySem PySem.W PyProof.Rows PySem.Calls PySem.Spec
set_option maxRecDepth 100000
namespace Mine
structure RP (a b : Str) (P : Int) : Prop where
  la : a.length = 10
  lb : b.length = 10
  oa : ∀ c ∈ cpl a, c ∈ AL
  ob : ∀ c ∈ cpl b, c ∈ AL
  rl : RL (cpl a) (cpl b) P
  rl' : RL (cpl b) (cpl a) P
  tt : TT ((cpl a).map some) ((cpl b).map some) = P
  cmp : b2i (decide (cpl a < cpl b)) - b2i (decide (cpl b < cpl a)) = qf P
  p99 : P ≤ 99
def kindsL : List Int := [16384, 32768, 40960, 8192, 24576, 4096, 49152, 0]
def MM (T x : Int) : Int := kindsL.getD (T.fmod 8).toNat 0 + (5 + T.fdiv 8).fmod 8 * 512 + x
def FmR (T x : Int) : Prop := ∃ fm, FmIs (MM T x) fm ∧ Txt.join (Str.ofString "") fm = rowS T x
theorem fm_row {w : World} {news : List (Addr × Obj)} (T x : Int) (tM : Tok) (h : FmR T x) : Cl 4 60 w 82 news [.int (MM T x) tM] (fun tk => .str (rowS T x) tk) := by
  obtain ⟨fm, h1, h2⟩ := h
  rw [← h2]
  exact fm_c (MM T x) tM fm h1
theorem cmp_r {w : World} {news : List (Addr × Obj)} (a b : Str) (ta tb : Tok) (P : Int) (h : RP a b P) : Cl 4 60 w 132 news [.str b tb, .str a ta] (fun tk => .int (qf P) tk) := by
  rw [← h.cmp]
  exact cmp_c b a tb ta
theorem far_r {w : World} {news : List (Addr × Obj)} (a b : Str) (ta tb tc : Tok) (P : Int) (h : RP a b P) : Cl 4 60 w 35 news [.str b tb, .str a ta, .int 99 tc] (fun tk => .int P tk) := lev_c b a 99 tb ta tc P h.rl' h.p99
theorem near_r {w : World} {news : List (Addr × Obj)} (a b : Str) (ta tb tc : Tok) (P : Int) (h : RP a b P) : Cl 4 60 w 35 news [.str a ta, .str b tb, .int P tc] (fun tk => .int P tk) := lev_c a b P ta tb tc P h.rl (Int.le_refl _)
section
variable {prog : Program} {w : World} {A : Around} {E : Value → Shared → Prop} {s : Shared} {h₀ h : Heap} {L : Addr} {m : Str → Option Value} {news news' : List (Addr × Obj)}
theorem sum_here {D : Addr} {vs : List Value} {k : Nat} {ns : List Int} {V : Int} {Q : Value → Shared → Prop} (hh : A.handled = none) (F : Fr h₀ L s.heap m) (N : News h₀ L s.heap news) (hm : (D, listOf vs.toArray k) ∈ news) (hi : IntsAre vs ns) (e : ns.sum = V) (hs : ∀ p ∈ news', p ∈ news)
    (hq : ∀ h' tk t', Fr h₀ L h' m → News h₀ L h' news' → Q (.int V t') { s with heap := h', toks := tk }) :
    wpAny (model prog w) A (call (.builtin "sum") [.ref D]) Q E s :=
  sumK hh F N ⟨_, (N _ hm).1, rfl, _, rfl⟩ hi fun h' tk t' F' N' => by rw [e]; exact hq h' tk t' F' (kst_newsOf N' hs)
theorem in_st {c : Nat} {t u : Tok} {Q : Value → Shared → Prop} (hc : c ∈ AL) (h : Q (.bool (decide (c = 115 ∨ c = 116))) s) : wpAny (model prog w) A (compareOp .In (.str (chr1 c) t) (.str (Str.ofString "st") u)) Q E s :=
  SB.contains (by rw [st_is c hc]; exact h)
theorem wt_pos {c : Nat} (h : c = 115 ∨ c = 116) : wt c = 1 := if_pos h
theorem wt_neg {c : Nat} (h : ¬ (c = 115 ∨ c = 116)) : wt c = 2 := if_neg h
theorem wt_2 {c : Nat} {t : Str} (hc : c ∈ AL) (ht : t = chr1 c) (h : (Builtin.Str.occurrences (Str.ofString "st") t 0 (Str.ofString "st").length 1).isEmpty = true) : wt c = 2 := by
  subst ht; revert h; revert c; decide +kernel
theorem wt_1 {c : Nat} {t : Str} (hc : c ∈ AL) (ht : t = chr1 c) (h : (Builtin.Str.occurrences (Str.ofString "st") t 0 (Str.ofString "st").length 1).isEmpty = false) : wt c = 1 := by
  subst ht; revert h; revert c; decide +kernel
theorem told_mem {TD W kd ck c RL : Addr} {o1 o2 o3 o4 o5 oR : Obj} {nw : List (Addr × Obj)} (N : News h₀ L h ((TD, o1) :: (W, o2) :: (kd, o3) :: (ck, o4) :: (c, o5) :: nw)) (hR : (RL, oR) ∈ nw) : News h₀ L h ((TD, o1) :: ([(W, o2), (RL, oR), (c, o5)] ++ ((kd, o3) :: (ck, o4) :: nw))) := fun p hp => N p (by
  simp only [List.cons_append, List.nil_append, List.mem_cons] at hp ⊢
  rcases hp with e | e | e | e | e | e | e
  · exact .inl e
  · exact .inr (.inl e)
  · exact .inr (.inr (.inr (.inr (.inr (e ▸ hR)))))
  · exact .inr (.inr (.inr (.inr (.inl e))))
  · exact .inr (.inr (.inl e))
  · exact .inr (.inr (.inr (.inl e)))
  · exact .inr (.inr (.inr (.inr (.inr e)))))
theorem told_off {TD W kd ck c RL : Addr} {o2 o3 o4 o5 oR : Obj} {nw : List (Addr × Obj)} (l : ∀ p ∈ (W, o2) :: (kd, o3) :: (ck, o4) :: (c, o5) :: nw, p.1 < TD) (hR : (RL, oR) ∈ nw) : ∀ p ∈ [(W, o2), (RL, oR), (c, o5)] ++ ((kd, o3) :: (ck, o4) :: nw), p.1 ≠ TD := fun p hp => by
  simp only [List.cons_append, List.nil_append, List.mem_cons] at hp
  refine Nat.ne_of_lt (l p ?_)
  simp only [List.mem_cons]
  rcases hp with e | e | e | e | e | e
  · exact .inl e
  · exact .inr (.inr (.inr (.inr (e ▸ hR))))
  · exact .inr (.inr (.inr (.inl e)))
  · exact .inr (.inl e)
  · exact .inr (.inr (.inl e))
  · exact .inr (.inr (.inr (.inr e)))
theorem mis_at0 {K : Frag} {a d : Addr} {v0 v1 v2 : Value} {u : Tok} {value slice : PySem.Expr} {Q : Value → Shared → Prop} (Y : MK K) (hq : noSeq K 203 = true) (X : K.In s.heap) (N : News h₀ L s.heap news) (hm : (a, misO #[v0, v1, v2] d) ∈ news) (h : Q v0 s)
    (hs : subscripted slice false (.ref a) (.int 0 u) = operate [.ref a, .int 0 u] (getItem (.ref a) (.int 0 u)) := by with_unfolding_all rfl) :
    wpAny (model prog w) A (subscriptTail value slice (.ref a) (.int 0 u)) Q E s := mis_item (k := 0) Y hq X (N _ hm).1 rfl (Nat.le_of_ble_eq_true rfl) h hs
theorem mis_at1 {K : Frag} {a d : Addr} {v0 v1 v2 : Value} {u : Tok} {value slice : PySem.Expr} {Q : Value → Shared → Prop} (Y : MK K) (hq : noSeq K 203 = true) (X : K.In s.heap) (N : News h₀ L s.heap news) (hm : (a, misO #[v0, v1, v2] d) ∈ news) (h : Q v1 s)
    (hs : subscripted slice false (.ref a) (.int 1 u) = operate [.ref a, .int 1 u] (getItem (.ref a) (.int 1 u)) := by with_unfolding_all rfl) :
    wpAny (model prog w) A (subscriptTail value slice (.ref a) (.int 1 u)) Q E s := mis_item (k := 1) Y hq X (N _ hm).1 rfl (Nat.le_of_ble_eq_true rfl) h hs
theorem mis_at2 {K : Frag} {a d : Addr} {v0 v1 v2 : Value} {u : Tok} {value slice : PySem.Expr} {Q : Value → Shared → Prop} (Y : MK K) (hq : noSeq K 203 = true) (X : K.In s.heap) (N : News h₀ L s.heap news) (hm : (a, misO #[v0, v1, v2] d) ∈ news) (h : Q v2 s)
    (hs : subscripted slice false (.ref a) (.int 2 u) = operate [.ref a, .int 2 u] (getItem (.ref a) (.int 2 u)) := by with_unfolding_all rfl) :
    wpAny (model prog w) A (subscriptTail value slice (.ref a) (.int 2 u)) Q E s := mis_item (k := 2) Y hq X (N _ hm).1 rfl (Nat.le_of_ble_eq_true rfl) h hs
theorem map_get {g : Int → Str} {rs : List Int} {k : Nat} (hk : k < rs.length) : (rs.map g)[k]? = some (g (rs.getD k 0)) := by
  simp [List.getD_eq_getElem?_getD, hk]
theorem st6 {z x1 x2 x3 x4 x5 x6 : Str} (h : [x1, x2, x3, x4, x5, x6].contains z = false) : z ≠ x1 ∧ z ≠ x2 ∧ z ≠ x3 ∧ z ≠ x4 ∧ z ≠ x5 ∧ z ≠ x6 := by simpa using h
theorem st5 {z x1 x2 x3 x4 x5 : Str} (h : [x1, x2, x3, x4, x5].contains z = false) : z ≠ x1 ∧ z ≠ x2 ∧ z ≠ x3 ∧ z ≠ x4 ∧ z ≠ x5 := by simpa using h
theorem ct5 {z x1 x2 x3 x4 x5 : Str} (h1 : z ≠ x1) (h2 : z ≠ x2) (h3 : z ≠ x3) (h4 : z ≠ x4) (h5 : z ≠ x5) : [x1, x2, x3, x4, x5].contains z = false := by simp [h1, h2, h3, h4, h5]
end
end Mine
end
section
open PySem PySem.W PyProof.Rows
namespace Mine
open PySem.Calls PySem.Spec
local macro_rules | `(tactic| walk_at "call type:range") => `(tactic| (k_here; (rename Fr _ _ _ _ => lF'); (rename News _ _ _ _ => lN'); (with_unfolding_all refine range_here lF' lN' ?_); clear lF' lN'; intro r' h' tk' t' u' v' hr' F' N'; (try k_fold)))
local macro_rules | `(tactic| walk_at "newTuple") => `(tactic| (k_here; (rename Fr _ _ _ _ => lF'); (rename News _ _ _ _ => lN'); (with_unfolding_all refine tup_here lF' lN' (Nat.le_of_ble_eq_true rfl) ?_); clear lF' lN'; intro a' h' F' N' l'; (try k_fold)))
local macro_rules | `(tactic| walk_at "call ref") => `(tactic| (k_here; (with_reducible show wpAny _ _ (PySem.call (Value.ref 232) _) _ _ _); (with_unfolding_all refine price_c _ _ _ _ _ _ _ _ _ _ _ _ _ _ _ _ _ _ _ _ _ _ _ _ (by k_asm) (by k_asm) (by k_asm) (by k_asm) (by k_asm) (by first | exact rfl | assumption) (by ktr_room) (by ktr_units) ?_); intro t9 h9 tk9 F9 N9; (try dsimp only); (try k_fold)))
local macro_rules | `(tactic| walk_at "call ref") => `(tactic| k_extra "myCall")
local macro_rules | `(tactic| walk_at "eval ListComp") => `(tactic| (k_here; k_dflt (refine LCg.ListComp_U (F₀ := by k_asm) (by with_unfolding_all rfl) (by decide) (by rfl) (by decide) (by rfl) ?_)))
local macro_rules | `(tactic| walk_at "CompSrc") => `(tactic| k_extra "mySrc")
local macro_rules | `(tactic| walk_at "exec Assign cons ListComp") => `(tactic| k_extra "myAss")
local macro_rules | `(tactic| walk_at "subscriptTail Name BinOp ref int") => `(tactic| k_extra "myKind")
local macro_rules | `(tactic| walk_at "subscriptTail Name Name ref int") => `(tactic| k_extra "mySub")
local macro_rules | `(tactic| walk_at "subscriptTail Name Constant ref int") => `(tactic| k_extra "myMis")
local macro_rules | `(tactic| walk_at "compareOp In") => `(tactic| k_extra "myIn")
local macro_rules | `(tactic| walk_at "call builtin:sum") => `(tactic| k_extra "mySum")
local macro_rules | `(tactic| walk_at "pyIter ref") => `(tactic| k_extra "myIter")
local macro_rules | `(tactic| walk_at "CompEnd") => `(tactic| k_extra "myCE")
local macro_rules | `(tactic| walk_at "KCfEl") => `(tactic| k_extra "myKE")
set_option maxRecDepth 100000 in
set_option maxHeartbeats 1200000 in
theorem told_c {w : World} {news : List (Addr × Obj)} (T : Int) (tT : Tok) (RL : Addr) (rvs : List Value) (cR : Nat) (rs : List Int) (hR : (RL, listOf (List.toArray rvs) cR) ∈ news) (hI : IntsAre rvs rs) (hn : rs.length ≤ 8) (hFm : ∀ x ∈ rs, FmR T x)
    (hRP : ∀ i j, i < j → j < rs.length → RP (rowS T (rs.getD i 0)) (rowS T (rs.getD j 0)) (priceF T (rs.getD i 0 - rs.getD j 0))) : ClT 20 300 w 225 news [.int T tT, .ref RL] (dT T rs) := by
  have hlv : rvs.length = rs.length := hI.length
  have hK8 : 0 ≤ T.fmod 8 ∧ T.fmod 8 < 8 := fm (by decide)
  w_strict (
  k_with_none
  k_with "newList" => (k_here; (rename Fr _ _ _ _ => lF'); (rename News _ _ _ _ => lN'); (with_unfolding_all refine listn_here lF' lN' (Nat.le_of_ble_eq_true rfl) ?_); clear lF' lN'; first | ((fail_if_success (have q := lKD)); intro KD h3 F3 N3 lKD) | (intro TD h7 F7 N7 lTD); (try k_fold))
  k_with "storeName" => (k_here; (with_reducible show wpAny _ _ (storeName _ (Str.ofString "kinds") _) _ _ _); (rename Fr _ _ _ _ => lF'); (rename News _ _ _ _ => lN'); (with_unfolding_all refine stCN (own := [_]) (c := L' + 1 + 1) (o := oK) lF' lN' (by rfl) dK9 (fun p hp => by rw [List.mem_singleton.mp hp]; exact Nat.ne_of_gt (lKD _ (List.Mem.head _))) (off_cons (Nat.ne_of_lt (Nat.lt_succ_self _)) (fun p hp => Nat.ne_of_lt (Nat.lt_trans (lL p hp) (Nat.lt_succ_of_lt (Nat.lt_succ_self _))))) ?_); clear lF' lN'; intro h4 oK' F4 N4 dK4; simp only [List.cons_append, List.nil_append] at N4; (try k_fold))
  k_with "myAss" => (k_here; first
    | ((with_reducible show wpAny _ _ (exec (PySem.Stmt.Assign [PySem.Expr.Name (PySem.Str.ofString "rows") _] _ _) _) _ _ _); k_dflt (refine LCg.Assign_ListComp_U (F₀ := by k_asm) (by rfl) (by with_unfolding_all rfl) (by with_unfolding_all rfl) (by decide) (by rfl) (by decide) (by rfl) (by rfl) (by rfl) ?_))
    | ((with_reducible show wpAny _ _ (exec (PySem.Stmt.Assign [PySem.Expr.Name (PySem.Str.ofString "more") _] _ _) _) _ _ _); k_dflt (refine assign_more (by with_unfolding_all rfl) (by with_unfolding_all rfl) (by decide) (by rfl) (by decide) (by rfl) (by rfl) (by rfl) ?_)))
  k_with "mySrc" => ((rename Fr _ _ _ _ => lF'); (rename News _ _ _ _ => lN'); first
    | ((with_unfolding_all refine LCg.CompSrc.ledger (by rfl) lF' lN' hD21 (by rw [List.size_toArray, hM21.length]; exact Nat.le_trans (Nat.le_trans (List.length_filter_le _ _) hl20) (by decide)) ?_); intro g9; (refine mv_rest hM21 (fun x hx => ha20 x (List.mem_filter.mp hx).1) ?_ ?_); clear lF' lN'; (intro a23 d23 p23 q23 ch23 tp23 tq23 tc23 I5 oI5 C5 oC5 D5 m5 ys5 h5 tk5 E5 hm23 hch23 hC5 hx5 F5 N5 off5 ne5); rotate_left; (intro ys22 hI22; unfold LCg.FinE; intro D22 h22 tk22 F22 N22 o22); rotate_right; (all_goals (try k_fold)))
    | ((with_unfolding_all refine LCg.CompSrc.ledger (by rfl) lF' lN' (List.Mem.tail _ (List.Mem.tail _ (List.Mem.tail _ hR))) (by rw [List.size_toArray, hlv]; exact Nat.le_trans hn (by decide)) ?_); intro g9; (refine kct_list (fun x => rowS T x) hI ?_ ?_); clear lF' lN'; (intro k5 t5 I5 oI5 C5 oC5 D5 m5 ys5 h5 tk5 E5 hk5 hC5 hx5 F5 N5 off5 ne5 mk5); rotate_left; (unfold KPfDone; intro ys6 hc6 hl6; unfold LCg.FinA; intro D6 h6 tk6 F6 N6 o6; (have hS6 := carried_rows hc6); clear hc6); rotate_right; (all_goals (try k_fold))))
  k_with "myKind" => (k_here; (rename News _ _ _ _ => lN'); (with_unfolding_all refine ksa_sub (ns := kindsL) lN' (List.Mem.tail _ (List.Mem.tail _ (List.Mem.tail _ (List.Mem.head _)))) (.cons _ _ (.cons _ _ (.cons _ _ (.cons _ _ (.cons _ _ (.cons _ _ (.cons _ _ (.cons _ _ .nil)))))))) hK8.1 (show _ < (8 : Int) from hK8.2) (Int.lt_trans hK8.2 (by decide)) ?_); intro _)
  k_with "mySub" => (k_here; (with_reducible show wpAny _ _ (subscriptTail _ _ (Value.ref _) (Value.int _ _)) _ _ _); (rename News _ _ _ _ => lN'); first
    | ((with_reducible show wpAny _ _ (subscriptTail _ _ (Value.ref RL) _) _ _ _); (with_reducible refine item_ints (D := RL) lN' (List.Mem.tail _ (List.Mem.tail _ (List.Mem.head _))) hI (by omega) (by omega) ?_); intro _)
    | ((with_reducible show wpAny _ _ (subscriptTail _ _ (Value.ref D6) _) _ _ _); (with_reducible refine item_strs (D := D6) lN' (List.Mem.tail _ (List.Mem.head _)) hS6 (map_get (by omega)) (by rw [List.length_map]; omega) ?_); intro _))
  k_with "myMis" => (k_here; (rename Fr _ _ _ _ => lF'); (rename News _ _ _ _ => lN'); (rename Frag.In _ _ => lX'); first
    | ((with_reducible show wpAny _ _ (subscriptTail _ _ _ (Value.int 0 _)) _ _ _); with_reducible refine mis_at0 (mk _) (mk_seq _) (lX'.keeps lF'.keep) lN' (by first | exact List.mem_cons_of_mem _ hm23 | exact List.mem_cons_of_mem _ (List.mem_cons_of_mem _ (List.mem_cons_of_mem _ hm23))) ?_)
    | ((with_reducible show wpAny _ _ (subscriptTail _ _ _ (Value.int 1 _)) _ _ _); with_reducible refine mis_at1 (mk _) (mk_seq _) (lX'.keeps lF'.keep) lN' (by first | exact List.mem_cons_of_mem _ hm23 | exact List.mem_cons_of_mem _ (List.mem_cons_of_mem _ (List.mem_cons_of_mem _ hm23))) ?_)
    | ((with_reducible show wpAny _ _ (subscriptTail _ _ _ (Value.int 2 _)) _ _ _); with_reducible refine mis_at2 (mk _) (mk_seq _) (lX'.keeps lF'.keep) lN' (by first | exact List.mem_cons_of_mem _ hm23 | exact List.mem_cons_of_mem _ (List.mem_cons_of_mem _ (List.mem_cons_of_mem _ hm23))) ?_))
  k_with "myIn" => (k_here; (with_reducible refine in_st hch23 ?_))
  k_with "mySum" => (k_here; (rename Fr _ _ _ _ => lF'); (rename News _ _ _ _ => lN'); (with_unfolding_all refine sum_here (by rfl) lF' lN' (List.Mem.head _) hI22 ((bag_sum ms20).trans (hb20.trans hRP9.tt)) (fun p hp => List.Mem.tail _ (hs21 p (hsub20 p hp))) ?_); clear lF' lN'; intro h24 tk24 t24 F24 N24; (try k_fold))
  k_with "TstEnd" => (exact ⟨rfl, _, _, rfl, fun _ _ e => e⟩)
  k_with "myCE" => ((rename Fr _ _ _ _ => lF'); (rename News _ _ _ _ => lN'); first
    | ((with_unfolding_all refine LCg.CompEnd.intro lF' lN' led21 (fun p hp => hp) off5 (Or.inr ⟨_, hD21, rfl, _, rfl⟩) ?_))
    | ((with_unfolding_all refine LCg.CompEnd.intro lF' lN' _ (fun p hp => hp) off5 (Or.inr ⟨_, List.Mem.tail _ (List.Mem.tail _ (List.Mem.tail _ hR)), rfl, _, rfl⟩) ?_)))
  k_with "KCtEl" => (exact ⟨rfl, _, rfl⟩)
  k_with "myKE" => (first | (refine kcf_el (congrArg _ (wt_2 hch23 rfl (by with_reducible assumption))) rfl rfl) | (refine kcf_el (congrArg _ (wt_1 hch23 rfl (by with_reducible assumption))) rfl rfl))
  k_with "call builtin:len" => (k_here; (rename News _ _ _ _ => lN'); (with_unfolding_all refine len_here (n := rs.length) lN' (List.Mem.tail _ (List.Mem.head _)) (by rw [hS6.length, List.length_map]) (by omega) ?_); intro _ _)
  k_with "myIter" => ((rename Fr _ _ _ _ => lF'); (rename News _ _ _ _ => lN'); (rename IsRange _ _ _ _ _ _ _ _ => rg'); (with_unfolding_all refine pr_outer (TD := TD) (n := rs.length) (fx := [(D6, LCg.lst ys6), (RL, listOf (List.toArray rvs) cR), (L' + 1, oT)]) (tl := _ :: _ :: news) (d0 := rowsD T rs) [Str.ofString "j", Str.ofString "i", Str.ofString "bound", Str.ofString "more", Str.ofString "bag", Str.ofString "far"] (pfT T rs) (by rfl) rg' (by rfl) (by rfl) hn (by rfl) lF' (told_mem lN' hR) (told_off lTD hR) (DatAll.one (rows_dat hS6 (List.Mem.head _))) ?_ ?_); clear lF' lN'; (intro j8 t8 u8 us8 c8 tl8 dl8 h8 tk8 hj8 hD8 hl8 ho8 F8 N8; simp only [List.cons_append, List.nil_append] at N8); rotate_left; (intro u13 us13 c13 ml13 h13 tk13 hD13 hm13 F13 N13; dsimp only [envOfC] at F13 N13); rotate_right; (all_goals (try k_fold)))
  k_with "myIter" => ((have qq := hj8); (rename Fr _ _ _ _ => lF'); (rename News _ _ _ _ => lN'); (rename IsRange _ _ _ _ _ _ _ _ => rg'); (with_unfolding_all refine pr_inner (TD := TD) (j := j8) (fx := [(D6, LCg.lst ys6), (RL, listOf (List.toArray rvs) cR), (L' + 1, oT)]) (tl := tl8) (dl := dl8) [Str.ofString "i", Str.ofString "bound", Str.ofString "more", Str.ofString "bag", Str.ofString "far"] (pfT T rs j8) (by rfl) rg' (by rfl) (by rfl) (by omega) (by rfl) lF' lN' ho8 hD8 hl8 ?_ ?_); clear lF' lN'; (intro i9 t9 u9 us9 c9 tl9 h9 tk9 hi9 hl9 ho9 F9 N9; (have hRP9 := hRP i9 j8 hi9 hj8); simp only [List.cons_append, List.nil_append] at N9); rotate_left; (intro u10 us10 c10 ml10 h10 tk10 hD10 hm10 F10 N10); rotate_right; (all_goals (try k_fold)))
  k_with "myIter" => ((have qq := hM20); (rename Fr _ _ _ _ => lF'); (rename News _ _ _ _ => lN'); (with_unfolding_all refine more_src (by rfl) lF' lN' hR20 hM20 hl20 (fun _ => by rfl) (fun _ => by rfl) (by decide) ?_ ?_); clear lF' lN'; (intro a23 d23 p23 q23 ch23 tp23 tq23 tc23 C5 oC5 m5 h5 g5 dr5 tk5 os5 E5 hm23 hC5 hx5 F5 N5); rotate_left; (intro D21 ys21 cD21 led21 h21 tk21 hM21 hD21 hs21 F21 N21); rotate_right; (all_goals (try k_fold)))
  k_with "myCall" => (k_here; (with_reducible show wpAny _ _ (PySem.call (Value.ref 82) _) _ _ _); (with_unfolding_all refine fm_row T k5 _ (hFm k5 hk5) _ _ _ _ _ _ _ _ _ _ _ _ _ _ _ _ _ _ _ _ (by k_asm) (by k_asm) (by k_asm) (by k_asm) (by k_asm) (by first | exact rfl | assumption) (by ktr_room) (by ktr_units) ?_); intro t26 h26 tk26 F26 N26; (try dsimp only); (try k_fold))
  k_with "myCall" => (k_here; (with_reducible show wpAny _ _ (PySem.call (Value.ref 132) _) _ _ _); (with_unfolding_all refine cmp_r _ _ _ _ _ hRP9 _ _ _ _ _ _ _ _ _ _ _ _ _ _ _ _ _ _ _ _ (by k_asm) (by k_asm) (by k_asm) (by k_asm) (by k_asm) (by first | exact rfl | assumption) (by ktr_room) (by ktr_units) ?_); intro t27 h27 tk27 F27 N27; (try dsimp only); (try k_fold))
  k_with "myCall" => (k_here; (with_reducible show wpAny _ _ (PySem.call (Value.ref 35) [_, _, Value.int 99 _]) _ _ _); (with_unfolding_all refine far_r _ _ _ _ _ _ hRP9 _ _ _ _ _ _ _ _ _ _ _ _ _ _ _ _ _ _ _ _ (by k_asm) (by k_asm) (by k_asm) (by k_asm) (by k_asm) (by first | exact rfl | assumption) (by ktr_room) (by ktr_units) ?_); intro t28 h28 tk28 F28 N28; (try dsimp only); (try k_fold))
  k_with "myCall" => (k_here; (with_reducible show wpAny _ _ (PySem.call (Value.ref 35) _) _ _ _); (fail_if_success (with_reducible show wpAny _ _ (PySem.call (Value.ref 35) [_, _, Value.int 99 _]) _ _ _)); (with_unfolding_all refine near_r _ _ _ _ _ _ hRP9 _ _ _ _ _ _ _ _ _ _ _ _ _ _ _ _ _ _ _ _ (by k_asm) (by k_asm) (by k_asm) (by k_asm) (by k_asm) (by first | exact rfl | assumption) (by ktr_room) (by ktr_units) ?_); intro t29 h29 tk29 F29 N29; (try dsimp only); (try k_fold))
  k_with "myCall" => (k_here; (with_reducible show wpAny _ _ (PySem.call (Value.ref 213) _) _ _ _); (with_unfolding_all refine cnt_c _ _ _ _ hRP9.la hRP9.lb hRP9.oa hRP9.ob _ _ _ _ _ _ _ _ _ _ _ _ _ _ _ _ _ _ _ _ (by k_asm) (by k_asm) (by k_asm) (by k_asm) (by k_asm) (by first | exact rfl | assumption) (by ktr_room) (by ktr_units) ?_); intro R20 rs20 cR20 ms20 led20 h20 tk20 hM20 hb20 ha20 hl20 hR20 hsub20 F20 N20; (try dsimp only); (try k_fold))
  k_with "call builtin:list.append" => (k_here; (rename Fr _ _ _ _ => lF'); (rename News _ _ _ _ => lN'); (rename ∀ p ∈ _, _ < _ => l11); (with_unfolding_all refine append_here lF' (swap2 lN') (off_cons (Nat.ne_of_gt (l11 _ (List.Mem.head _))) ho9) (by omega) ?_); clear lF' lN'; intro h16 F16 N16; (try k_fold))
  k_with "TuEnd" => ((rename Fr _ _ _ _ => lF'); (rename News _ _ _ _ => lN'); (rename ∀ p ∈ _, _ < _ => l11); (with_unfolding_all refine TuEnd.introE lF' lN' (l11 _ (List.Mem.head _)) (fun p hp => l11 p (List.Mem.tail _ hp)) rfl ?_); (intro z hz; obtain ⟨q1, q2, q3, q4, q5⟩ := st5 hz; simp only [q1, q2, q3, q4, q5, hz, if_false, Bool.false_eq_true]))
  k_with "PoEnd" => ((rename Fr _ _ _ _ => lF'); (rename News _ _ _ _ => lN'); (with_unfolding_all refine PoEnd.intro lF' lN' hD10 hm10 ?_); (intro z hz; obtain ⟨q1, q2, q3, q4, q5, q6⟩ := st6 hz; simp only [q1, ct5 q2 q3 q4 q5 q6, hz, if_false, Bool.false_eq_true]))
  dsimp only [ClT]
  k_fill
  intros; rename_i hret
  have cbI : CbIn 225 := CbIn.mk
  refine wpAny_call ?_
  k_dflt (refine' code_defC ?k1 ?k2 ?k3 ?k4 ?k5 ?kA ?kF ?kK ?k6 ?k7 ?k8 ?k9 ?kB ?kD ?_ ?c2 ?c3 ?c4; (case kA => exact rfl); (case kF => exact rfl); (case kK => assumption); (case k1 => k_asm); (case k2 => k_asm); (case k3 => k_asm); (case k4 => k_asm); (case k5 => k_asm); (case k6 => k_is); (case k7 => k_is); (case k8 => ktr_room); (case k9 => exact BindsTo.of_eq rfl); (case kB => exact rfl); (case kD => decide +kernel); (case c2 => exact rfl); (case c3 => exact rfl); (case c4 => exact rfl); k_whole; intro g' L' h' tk' cells' FG' F' N' Y' B' X' T' lL; (have lL2 := lL; (try k_lt lL2)); (obtain ⟨oK, oT, hE9, dK9, dT9⟩ := CellsAre.two Y'; subst hE9; clear Y'); (try simp only [List.cons_append, List.nil_append] at N'); (try dsimp only); (try k_lift B'); (try k_fold))
  k_steps
  all_goals (exact hret _ _ _ _ _ _ (hD13.mono fun p hp => List.Mem.tail _ hp) (List.Mem.head _) (fun p hp => by simp [hp]) (by assumption) (by assumption)))
end Mine
end
section
open PySem PySem.W PyProof.Rows PySem.Calls PySem.Spec
set_option maxRecDepth 100000
namespace Mine
/-! bits -/
theorem and_pow (M j : Nat) : M &&& 2 ^ j = 2 ^ j * (M / 2 ^ j % 2) := by
  apply Nat.eq_of_testBit_eq
  intro i
  have e : M / 2 ^ j % 2 = (M.testBit j).toNat := by
    rw [Nat.testBit_eq_decide_div_mod_eq]
    have : M / 2 ^ j % 2 < 2 := Nat.mod_lt _ (by decide)
    by_cases h : M / 2 ^ j % 2 = 1
    · simp [h]
    · have : M / 2 ^ j % 2 = 0 := by omega
      simp [this]
  rw [e, Nat.testBit_and, Nat.testBit_two_pow]
  by_cases h : j = i
  · subst h
    cases hb : M.testBit j
    · simp
    · simp
  · cases hb : M.testBit j
    · simp [h]
    · simp [h]
theorem bit_lt (M j : Nat) : M / 2 ^ j % 2 = 0 ∨ M / 2 ^ j % 2 = 1 := by
  have : M / 2 ^ j % 2 < 2 := Nat.mod_lt _ (by decide)
  omega
theorem ba_nat (M b : Nat) : Builtin.bitAnd (M : Int) (b : Int) = ((M &&& b : Nat) : Int) := by
  unfold Builtin.bitAnd
  simp
theorem hit_1 (M j : Nat) : (Builtin.bitAnd (M : Int) ((2 ^ j : Nat) : Int) == ((2 ^ j : Nat) : Int)) = decide (M / 2 ^ j % 2 = 1) := by
  rw [ba_nat, and_pow]
  have hp : 0 < 2 ^ j := Nat.two_pow_pos j
  rcases bit_lt M j with h | h
  · rw [h]
    have : ¬ ((2 ^ j * 0 : Nat) : Int) = ((2 ^ j : Nat) : Int) := by rw [Int.ofNat_inj]; omega
    simp only [beq_eq_false_iff_ne.mpr this]; simp
  · rw [h]; simp
theorem hit_2 (M i j : Nat) (h : i < j) : (Builtin.bitAnd (M : Int) ((2 ^ j + 2 ^ i : Nat) : Int) == ((2 ^ j + 2 ^ i : Nat) : Int)) = decide (M / 2 ^ j % 2 = 1 ∧ M / 2 ^ i % 2 = 1) := by
  have hor : 2 ^ j + 2 ^ i = 2 ^ j ||| 2 ^ i := by
    have := Nat.two_pow_add_eq_or_of_lt (b := 2 ^ i) (i := j) (Nat.pow_lt_pow_right (by decide) h) 1
    simpa using this
  have hpi : 0 < 2 ^ i := Nat.two_pow_pos i
  have hpj : 2 ^ i < 2 ^ j := Nat.pow_lt_pow_right (by decide) h
  have key : M &&& (2 ^ j + 2 ^ i) = 2 ^ j * (M / 2 ^ j % 2) + 2 ^ i * (M / 2 ^ i % 2) := by
    rw [hor, Nat.and_or_distrib_left, and_pow, and_pow]
    rcases bit_lt M j with h1 | h1 <;> rcases bit_lt M i with h2 | h2 <;> rw [h1, h2]
    · simp
    · simp
    · simp
    · simpa using hor.symm
  rw [ba_nat, key]
  rcases bit_lt M j with h1 | h1 <;> rcases bit_lt M i with h2 | h2 <;> rw [h1, h2]
  · have : ¬ ((2 ^ j * 0 + 2 ^ i * 0 : Nat) : Int) = ((2 ^ j + 2 ^ i : Nat) : Int) := by rw [Int.ofNat_inj]; omega
    rw [beq_eq_false_iff_ne.mpr this]; rfl
  · have : ¬ ((2 ^ j * 0 + 2 ^ i * 1 : Nat) : Int) = ((2 ^ j + 2 ^ i : Nat) : Int) := by rw [Int.ofNat_inj]; omega
    rw [beq_eq_false_iff_ne.mpr this]; rfl
  · have : ¬ ((2 ^ j * 1 + 2 ^ i * 0 : Nat) : Int) = ((2 ^ j + 2 ^ i : Nat) : Int) := by rw [Int.ofNat_inj]; omega
    rw [beq_eq_false_iff_ne.mpr this]; rfl
  · have : ((2 ^ j * 1 + 2 ^ i * 1 : Nat) : Int) = ((2 ^ j + 2 ^ i : Nat) : Int) := by rw [Int.ofNat_inj]; omega
    rw [this]; simp
theorem and_top (K y : Nat) (hy : y < 4096) (hK : K < 16) : (K * 4096 + y) &&& 61440 = K * 4096 := by
  have h1 : K * 4096 + y = K * 4096 ||| y := by
    have := Nat.two_pow_add_eq_or_of_lt (b := y) (i := 12) hy K
    simpa [Nat.mul_comm] using this
  have h2 : y &&& 61440 = 0 := by
    apply Nat.eq_of_testBit_eq
    intro i
    rw [Nat.testBit_and]
    by_cases hi : i < 12
    · have : Nat.testBit 61440 i = false := by
        revert hi; revert i; decide
      simp [this]
    · have : y.testBit i = false := Nat.testBit_lt_two_pow (Nat.lt_of_lt_of_le hy (Nat.pow_le_pow_right (Nat.succ_pos 1) (Nat.le_of_not_lt hi)))
      simp [this]
  rw [h1, Nat.and_or_distrib_right, h2, Nat.or_zero]
  clear h1 h2 hy; revert hK; revert K; decide

/-! the row's letters -/
def lR (b : Nat) : Nat := if b = 1 then 114 else 45
def lW (b : Nat) : Nat := if b = 1 then 119 else 45
def lS (b s : Nat) : Nat := if b = 1 then (if s = 1 then 115 else 120) else (if s = 1 then 83 else 45)
def lT (b s : Nat) : Nat := if b = 1 then (if s = 1 then 116 else 120) else (if s = 1 then 84 else 45)
def kc (k : Nat) : Nat := [100, 45, 108, 99, 98, 112, 115, 63].getD k 0
def B (x k : Nat) : Nat := x / 2 ^ k % 2
def rowL (k sp x : Nat) : List Nat := [kc k, lR (B x 8), lW (B x 7), lS (B x 6) (B sp 2), lR (B x 5), lW (B x 4), lS (B x 3) (B sp 1), lR (B x 2), lW (B x 1), lT (B x 0) (B sp 0)]
theorem B01 (x k : Nat) : B x k = 0 ∨ B x k = 1 := bit_lt x k
def kN (T : Int) : Nat := (T.fmod 8).toNat
def sN (T : Int) : Nat := ((5 + T.fdiv 8).fmod 8).toNat
theorem kN_lt (T : Int) : kN T < 8 := by
  have := fm (x := T) (m := 8) (by decide)
  unfold kN; omega
theorem sN_lt (T : Int) : sN T < 8 := by
  have := fm (x := 5 + T.fdiv 8) (m := 8) (by decide)
  unfold sN; omega
theorem kN_c (T : Int) : T.fmod 8 = (kN T : Int) := by
  have := fm (x := T) (m := 8) (by decide)
  unfold kN; omega
theorem sN_c (T : Int) : (5 + T.fdiv 8).fmod 8 = (sN T : Int) := by
  have := fm (x := 5 + T.fdiv 8) (m := 8) (by decide)
  unfold sN; omega
theorem nat_digit (x k : Nat) : ((x : Int).fdiv (8 ^ k)).fmod 8 = ((x / 8 ^ k % 8 : Nat) : Int) := by
  have e : (8 : Int) ^ k = ((8 ^ k : Nat) : Int) := by simp
  rw [e, Int.fdiv_eq_ediv_of_nonneg _ (Int.natCast_nonneg _), Int.fmod_eq_emod_of_nonneg _ (by decide)]
  rfl
theorem nat_bit (x k : Nat) : ((x : Int).fdiv (2 ^ k)).fmod 2 = ((B x k : Nat) : Int) := by
  have e : (2 : Int) ^ k = ((2 ^ k : Nat) : Int) := by simp
  rw [e, Int.fdiv_eq_ediv_of_nonneg _ (Int.natCast_nonneg _), Int.fmod_eq_emod_of_nonneg _ (by decide)]
  rfl
theorem it_k : ∀ k : Nat, k < 8 → Txt.item (Str.ofString "d-lcbps?") (k : Int) = chr1 (kc k) := by decide +kernel
theorem it_r : ∀ d : Nat, d < 8 → Txt.item (Str.ofString "-r") ((d : Int).fdiv 4) = chr1 (lR (d / 4)) := by decide +kernel
theorem it_w : ∀ d : Nat, d < 8 → Txt.item (Str.ofString "-w") (((d : Int).fdiv 2).fmod 2) = chr1 (lW (d / 2 % 2)) := by decide +kernel
theorem it_s : ∀ d : Nat, d < 8 → ∀ s : Nat, s < 2 → Txt.item (Str.ofString "-xSs") ((d : Int).fmod 2 + (s : Int) * 2) = chr1 (lS (d % 2) s) := by decide +kernel
theorem it_t : ∀ d : Nat, d < 8 → ∀ s : Nat, s < 2 → Txt.item (Str.ofString "-xTt") ((d : Int).fmod 2 + (s : Int) * 2) = chr1 (lT (d % 2) s) := by decide +kernel
theorem B_lt (x k : Nat) : B x k < 2 := Nat.mod_lt _ (by decide)
theorem digs (x : Nat) (hx : x < 512) : x / 8 ^ 2 % 8 / 4 = B x 8 ∧ x / 8 ^ 2 % 8 / 2 % 2 = B x 7 ∧ x / 8 ^ 2 % 8 % 2 = B x 6 ∧ x / 8 ^ 1 % 8 / 4 = B x 5 ∧ x / 8 ^ 1 % 8 / 2 % 2 = B x 4 ∧ x / 8 ^ 1 % 8 % 2 = B x 3 ∧ x / 8 ^ 0 % 8 / 4 = B x 2 ∧ x / 8 ^ 0 % 8 / 2 % 2 = B x 1 ∧ x / 8 ^ 0 % 8 % 2 = B x 0 := by
  revert x; decide +kernel
theorem str_l {x : Str} {l : List Nat} (h : x.cps.toList = l) : x = ⟨l.toArray⟩ := by
  subst h; rfl
theorem row_is (T : Int) (x : Nat) (hx : x < 512) : rowS T (x : Int) = ⟨(rowL (kN T) (sN T) x).toArray⟩ := by
  obtain ⟨h1, h2, h3, h4, h5, h6, h7, h8, h9⟩ := digs x hx
  unfold rowS rowF
  simp only [List.foldl_cons, List.foldl_nil]
  rw [piece2, piece1, piece0, kN_c, sN_c]
  simp only [nat_digit, nat_bit, show Int.toNat 2 = 2 from rfl, show Int.toNat 1 = 1 from rfl, show Int.toNat 0 = 0 from rfl]
  rw [it_k _ (kN_lt T), it_r _ (Nat.mod_lt _ (by decide)), it_w _ (Nat.mod_lt _ (by decide)), it_s _ (Nat.mod_lt _ (by decide)) _ (B_lt _ _), it_r _ (Nat.mod_lt _ (by decide)), it_w _ (Nat.mod_lt _ (by decide)), it_s _ (Nat.mod_lt _ (by decide)) _ (B_lt _ _), it_r _ (Nat.mod_lt _ (by decide)), it_w _ (Nat.mod_lt _ (by decide)), it_t _ (Nat.mod_lt _ (by decide)) _ (B_lt _ _)]
  rw [h1, h2, h3, h4, h5, h6, h7, h8, h9]
  rfl
end Mine
end
section
open PySem PySem.W PyProof.Rows PySem.Calls PySem.Spec
set_option maxRecDepth 100000
namespace Mine
def kv (k : Nat) : Nat := [4, 8, 10, 2, 6, 1, 12, 0].getD k 0
def MN (k s x : Nat) : Nat := kv k * 4096 + (s * 512 + x)
theorem kv_lt : ∀ k, k < 8 → kv k < 16 := by decide
theorem kv_is : ∀ k, k < 8 → kindsL.getD k 0 = ((kv k * 4096 : Nat) : Int) := by decide
theorem MM_is (T : Int) (x : Nat) : MM T (x : Int) = (MN (kN T) (sN T) x : Int) := by
  unfold MM MN
  rw [sN_c, show (T.fmod 8).toNat = kN T from rfl, kv_is _ (kN_lt T)]
  simp only [Int.natCast_add, Int.natCast_mul]
  omega
theorem bit_low (c x n j : Nat) (hj : j < n) : (c * 2 ^ n + x) / 2 ^ j % 2 = x / 2 ^ j % 2 := by
  obtain ⟨m, rfl⟩ : ∃ m, n = m + 1 + j := ⟨n - (j + 1), by omega⟩
  rw [Nat.pow_add, ← Nat.mul_assoc, Nat.add_comm, Nat.add_mul_div_right _ _ (Nat.two_pow_pos j), Nat.pow_succ, ← Nat.mul_assoc, Nat.add_mul_mod_self_right]
theorem bit_top (c x n i : Nat) (hx : x < 2 ^ n) : (c * 2 ^ n + x) / 2 ^ (n + i) = c / 2 ^ i := by
  rw [Nat.pow_add, ← Nat.div_div_eq_div_mul, Nat.add_comm, Nat.add_mul_div_right _ _ (Nat.two_pow_pos n), Nat.div_eq_of_lt hx, Nat.zero_add]
theorem MN_bits (k s x : Nat) (hx : x < 512) : (∀ j, j < 9 → B (MN k s x) j = B x j) ∧ B (MN k s x) 9 = B s 0 ∧ B (MN k s x) 10 = B s 1 ∧ B (MN k s x) 11 = B s 2 := by
  have e : MN k s x = (kv k * 2 ^ 3 + s) * 2 ^ 9 + x := by unfold MN; rw [Nat.add_mul, Nat.mul_assoc, Nat.add_assoc]
  have t : ∀ i, i < 3 → B (MN k s x) (9 + i) = B s i := fun i hi => by
    unfold B; rw [e, bit_top _ _ _ _ hx, bit_low _ _ _ _ hi]
  exact ⟨fun j hj => by unfold B; rw [e, bit_low _ _ _ _ hj], t 0 (by decide), t 1 (by decide), t 2 (by decide)⟩
theorem f_one (M : Int) (i : Nat) (hi : ((i : Int) == 0) = false) (p a : Addr) (b : Int) (tb tx : Tok) (c : Str) (v : Bool) (hv : (Builtin.bitAnd M b == b) = v) : fch M i (p, [(a, .int b tb, .str c tx)]) = if v = true then c else Str.ofString "-" := by
  unfold fch
  simp only [List.find?, hitV, hi, hv, Bool.false_eq_true, if_false]
  cases v <;> rfl
theorem f_three (M : Int) (i : Nat) (hi : ((i : Int) == 0) = false) (p a a' a'' : Addr) (b b' b'' : Int) (tb tx tb' tx' tb'' tx'' : Tok) (c c' c'' : Str) (v v' v'' : Bool) (hv : (Builtin.bitAnd M b == b) = v) (hv' : (Builtin.bitAnd M b' == b') = v') (hv'' : (Builtin.bitAnd M b'' == b'') = v'') :
    fch M i (p, [(a, .int b tb, .str c tx), (a', .int b' tb', .str c' tx'), (a'', .int b'' tb'', .str c'' tx'')]) = if v = true then c else if v' = true then c' else if v'' = true then c'' else Str.ofString "-" := by
  unfold fch
  simp only [List.find?, hitV, hi, hv, hv', hv'', Bool.false_eq_true, if_false]
  cases v <;> cases v' <;> cases v'' <;> rfl
theorem d_r (b : Nat) : (if decide (b = 1) = true then Str.ofString "r" else Str.ofString "-") = chr1 (lR b) := by
  unfold lR; by_cases h : b = 1
  · simp only [h, decide_true, if_true]; rfl
  · simp only [h, decide_false, Bool.false_eq_true, if_false]; rfl
theorem d_w (b : Nat) : (if decide (b = 1) = true then Str.ofString "w" else Str.ofString "-") = chr1 (lW b) := by
  unfold lW; by_cases h : b = 1
  · simp only [h, decide_true, if_true]; rfl
  · simp only [h, decide_false, Bool.false_eq_true, if_false]; rfl
theorem d_s (b s : Nat) : (if decide (s = 1 ∧ b = 1) = true then Str.ofString "s" else if decide (s = 1) = true then Str.ofString "S" else if decide (b = 1) = true then Str.ofString "x" else Str.ofString "-") = chr1 (lS b s) := by
  unfold lS; by_cases h : b = 1 <;> by_cases h' : s = 1 <;> simp only [h, h', and_self, and_true, and_false, decide_true, decide_false, Bool.false_eq_true, if_true, if_false] <;> rfl
theorem d_t (b s : Nat) : (if decide (s = 1 ∧ b = 1) = true then Str.ofString "t" else if decide (s = 1) = true then Str.ofString "T" else if decide (b = 1) = true then Str.ofString "x" else Str.ofString "-") = chr1 (lT b s) := by
  unfold lT; by_cases h : b = 1 <;> by_cases h' : s = 1 <;> simp only [h, h', and_self, and_true, and_false, decide_true, decide_false, Bool.false_eq_true, if_true, if_false] <;> rfl
theorem f_zero (M : Int) (k : Nat) (hk : k < 8) (h : Builtin.bitAnd M 61440 = ((kv k * 4096 : Nat) : Int)) (r : Addr × List (Addr × Value × Value)) (hr : tabsV[0]? = some r) : fch M 0 r = chr1 (kc k) := by
  have e := Option.some.inj hr
  subst e
  unfold fch
  have hi : (((0 : Nat) : Int) == 0) = true := rfl
  simp only [List.find?, hitV, hi, if_true, h]
  clear h
  revert k; decide +kernel
theorem fml_is (k s x : Nat) (hk : k < 8) (hs : s < 8) (hx : x < 512) : fmL (MN k s x : Int) = (rowL k s x).map chr1 := by
  obtain ⟨hb, h9, h10, h11⟩ := MN_bits k s x hx
  have e1 : ∀ j, j < 9 → (Builtin.bitAnd (MN k s x : Int) ((2 ^ j : Nat) : Int) == ((2 ^ j : Nat) : Int)) = decide (B x j = 1) := fun j hj => by rw [hit_1, ← hb j hj]; rfl
  have e9 : (Builtin.bitAnd (MN k s x : Int) ((2 ^ 9 : Nat) : Int) == ((2 ^ 9 : Nat) : Int)) = decide (B s 0 = 1) := by rw [hit_1, ← h9]; rfl
  have e10 : (Builtin.bitAnd (MN k s x : Int) ((2 ^ 10 : Nat) : Int) == ((2 ^ 10 : Nat) : Int)) = decide (B s 1 = 1) := by rw [hit_1, ← h10]; rfl
  have e11 : (Builtin.bitAnd (MN k s x : Int) ((2 ^ 11 : Nat) : Int) == ((2 ^ 11 : Nat) : Int)) = decide (B s 2 = 1) := by rw [hit_1, ← h11]; rfl
  have f9 : (Builtin.bitAnd (MN k s x : Int) ((2 ^ 9 + 2 ^ 0 : Nat) : Int) == ((2 ^ 9 + 2 ^ 0 : Nat) : Int)) = decide (B s 0 = 1 ∧ B x 0 = 1) := by rw [hit_2 _ _ _ (by decide), ← h9, ← hb 0 (by decide)]; rfl
  have f10 : (Builtin.bitAnd (MN k s x : Int) ((2 ^ 10 + 2 ^ 3 : Nat) : Int) == ((2 ^ 10 + 2 ^ 3 : Nat) : Int)) = decide (B s 1 = 1 ∧ B x 3 = 1) := by rw [hit_2 _ _ _ (by decide), ← h10, ← hb 3 (by decide)]; rfl
  have f11 : (Builtin.bitAnd (MN k s x : Int) ((2 ^ 11 + 2 ^ 6 : Nat) : Int) == ((2 ^ 11 + 2 ^ 6 : Nat) : Int)) = decide (B s 2 = 1 ∧ B x 6 = 1) := by rw [hit_2 _ _ _ (by decide), ← h11, ← hb 6 (by decide)]; rfl
  have e0 : Builtin.bitAnd (MN k s x : Int) 61440 = ((kv k * 4096 : Nat) : Int) := by
    have := ba_nat (MN k s x) 61440
    rw [show ((61440 : Nat) : Int) = 61440 from rfl] at this
    rw [this]; unfold MN; rw [and_top (kv k) (s * 512 + x) (by clear this; omega) (kv_lt k hk)]
  have g1 := (f_one (MN k s x) 1 rfl 52 51 _ 260 285 (Str.ofString "r") _ (e1 8 (by decide))).trans (d_r _)
  have g2 := (f_one (MN k s x) 2 rfl 54 53 _ 262 286 (Str.ofString "w") _ (e1 7 (by decide))).trans (d_w _)
  have g3 := (f_three (MN k s x) 3 rfl 58 55 56 57 _ _ _ 287 288 254 289 264 290 (Str.ofString "s") (Str.ofString "S") (Str.ofString "x") _ _ _ f11 e11 (e1 6 (by decide))).trans (d_s _ _)
  have g4 := (f_one (MN k s x) 4 rfl 60 59 _ 266 291 (Str.ofString "r") _ (e1 5 (by decide))).trans (d_r _)
  have g5 := (f_one (MN k s x) 5 rfl 62 61 _ 268 292 (Str.ofString "w") _ (e1 4 (by decide))).trans (d_w _)
  have g6 := (f_three (MN k s x) 6 rfl 66 63 64 65 _ _ _ 293 294 256 295 270 296 (Str.ofString "s") (Str.ofString "S") (Str.ofString "x") _ _ _ f10 e10 (e1 3 (by decide))).trans (d_s _ _)
  have g7 := (f_one (MN k s x) 7 rfl 68 67 _ 272 297 (Str.ofString "r") _ (e1 2 (by decide))).trans (d_r _)
  have g8 := (f_one (MN k s x) 8 rfl 70 69 _ 274 298 (Str.ofString "w") _ (e1 1 (by decide))).trans (d_w _)
  have g9 := (f_three (MN k s x) 9 rfl 74 71 72 73 _ _ _ 299 300 258 301 276 302 (Str.ofString "t") (Str.ofString "T") (Str.ofString "x") _ _ _ f9 e9 (e1 0 (by decide))).trans (d_t _ _)
  have u : fmL (MN k s x : Int) = [fch (MN k s x) 0 (tabsV.getD 0 default), fch (MN k s x) 1 (tabsV.getD 1 default), fch (MN k s x) 2 (tabsV.getD 2 default), fch (MN k s x) 3 (tabsV.getD 3 default), fch (MN k s x) 4 (tabsV.getD 4 default), fch (MN k s x) 5 (tabsV.getD 5 default), fch (MN k s x) 6 (tabsV.getD 6 default), fch (MN k s x) 7 (tabsV.getD 7 default), fch (MN k s x) 8 (tabsV.getD 8 default), fch (MN k s x) 9 (tabsV.getD 9 default)] := rfl
  rw [u]
  have r1 : tabsV.getD 1 default = (52, [(51, .int ((2 ^ 8 : Nat) : Int) 260, .str (Str.ofString "r") 285)]) := rfl
  have r2 : tabsV.getD 2 default = (54, [(53, .int ((2 ^ 7 : Nat) : Int) 262, .str (Str.ofString "w") 286)]) := rfl
  have r3 : tabsV.getD 3 default = (58, [(55, .int ((2 ^ 11 + 2 ^ 6 : Nat) : Int) 287, .str (Str.ofString "s") 288), (56, .int ((2 ^ 11 : Nat) : Int) 254, .str (Str.ofString "S") 289), (57, .int ((2 ^ 6 : Nat) : Int) 264, .str (Str.ofString "x") 290)]) := rfl
  have r4 : tabsV.getD 4 default = (60, [(59, .int ((2 ^ 5 : Nat) : Int) 266, .str (Str.ofString "r") 291)]) := rfl
  have r5 : tabsV.getD 5 default = (62, [(61, .int ((2 ^ 4 : Nat) : Int) 268, .str (Str.ofString "w") 292)]) := rfl
  have r6 : tabsV.getD 6 default = (66, [(63, .int ((2 ^ 10 + 2 ^ 3 : Nat) : Int) 293, .str (Str.ofString "s") 294), (64, .int ((2 ^ 10 : Nat) : Int) 256, .str (Str.ofString "S") 295), (65, .int ((2 ^ 3 : Nat) : Int) 270, .str (Str.ofString "x") 296)]) := rfl
  have r7 : tabsV.getD 7 default = (68, [(67, .int ((2 ^ 2 : Nat) : Int) 272, .str (Str.ofString "r") 297)]) := rfl
  have r8 : tabsV.getD 8 default = (70, [(69, .int ((2 ^ 1 : Nat) : Int) 274, .str (Str.ofString "w") 298)]) := rfl
  have r9 : tabsV.getD 9 default = (74, [(71, .int ((2 ^ 9 + 2 ^ 0 : Nat) : Int) 299, .str (Str.ofString "t") 300), (72, .int ((2 ^ 9 : Nat) : Int) 258, .str (Str.ofString "T") 301), (73, .int ((2 ^ 0 : Nat) : Int) 276, .str (Str.ofString "x") 302)]) := rfl
  rw [r1, g1, r2, g2, r3, g3, r4, g4, r5, g5, r6, g6, r7, g7, r8, g8, r9, g9, show fch (MN k s x) 0 (tabsV.getD 0 default) = chr1 (kc k) from f_zero _ k hk e0 _ rfl]
  rfl
theorem join_list : ∀ l : List Nat, (Str.join (Str.ofString "") (l.map chr1)).cps.toList = l
  | [] => rfl
  | [a] => rfl
  | a :: b :: l => by
    show ((chr1 a ++ Str.ofString "") ++ Str.join _ ((b :: l).map chr1)).cps.toList = _
    rw [PySem.Str.cps_append, Array.toList_append, PySem.Str.cps_append, Array.toList_append, join_list (b :: l)]; rfl
theorem join_row (k s x : Nat) : Txt.join (Str.ofString "") ((rowL k s x).map chr1) = ⟨(rowL k s x).toArray⟩ := by
  show Builtin.Str.glued (Str.ofString "") _ = _
  rw [StrLaws.glued_eq_join]
  exact str_l (join_list _)
theorem fmR_ok (T : Int) (x : Nat) (hx : x < 512) : FmR T (x : Int) := by
  refine ⟨fmL (MM T x), ⟨fmL_len _, fun i r h => fmL_take h, ?_⟩, ?_⟩
  · rw [MM_is, fml_is _ _ _ (kN_lt T) (sN_lt T) hx]
    unfold rowL; exact Nat.le_of_ble_eq_true rfl
  · rw [MM_is, fml_is _ _ _ (kN_lt T) (sN_lt T) hx, row_is T x hx]
    exact join_row _ _ _
end Mine
end
section
open PySem PySem.W PyProof.Rows PySem.Calls PySem.Spec
set_option maxRecDepth 100000
namespace Mine
/-! the price -/
def tkP (sp l k : Int) : Int := if ((l.fdiv (2 ^ k.toNat)).fmod 2 == 1) = true then (if (k.fmod 3 == 0) = true then (if ((sp.fdiv (2 ^ (k.fdiv 3).toNat)).fmod 2 == 1) = true then 1 else 2) else 2) else 0
def tkS (sp l : Int) : List Int → Int
  | [] => 0
  | k :: ks => tkP sp l k + tkS sp l ks
theorem fold_tk (l : Int) : ∀ (ks : List Int) (acc sp : Int), (List.foldl (fun (σ : Int × Int × Unit) k =>
            if ((l.fdiv (2 ^ k.toNat)).fmod 2 == 1) = true then
              if (k.fmod 3 == 0) = true then
                if ((σ.snd.fst.fdiv (2 ^ (k.fdiv 3).toNat)).fmod 2 == 1) = true then (σ.fst + 1, σ.snd.fst, ())
                else (σ.fst + 2, σ.snd.fst, ())
              else (σ.fst + 2, σ.snd.fst, ())
            else (σ.fst, σ.snd.fst, ())) (acc, sp, ()) ks) = (acc + tkS sp l ks, sp, ())
  | [], acc, sp => by simp [tkS]
  | k :: ks, acc, sp => by
    rw [List.foldl_cons]
    simp only [tkS, tkP]
    by_cases h1 : ((l.fdiv (2 ^ k.toNat)).fmod 2 == 1) = true
    · simp only [h1, if_true]
      by_cases h2 : (k.fmod 3 == 0) = true
      · simp only [h2, if_true]
        by_cases h3 : ((sp.fdiv (2 ^ (k.fdiv 3).toNat)).fmod 2 == 1) = true
        · simp only [h3, if_true]
          rw [fold_tk l ks]; rw [Int.add_assoc]
        · simp only [h3, Bool.false_eq_true, if_false]
          rw [fold_tk l ks]; rw [Int.add_assoc]
      · simp only [h2, Bool.false_eq_true, if_false]
        rw [fold_tk l ks]; rw [Int.add_assoc]
    · simp only [h1, Bool.false_eq_true, if_false]
      rw [fold_tk l ks]; simp
theorem price_sum (T l : Int) : priceF T l = tkS (sN T) l [0, 1, 2, 3, 4, 5, 6, 7, 8] := by
  unfold priceF
  rw [sN_c, show rangeInts 0 1 (9 - 0 : Int).toNat = [0, 1, 2, 3, 4, 5, 6, 7, 8] from rfl, fold_tk]
  simp
theorem tkA (s d k j : Nat) (hk : ((k : Int).fmod 3 == 0) = true) (hj : ((k : Int).fdiv 3).toNat = j) : tkP (s : Int) (d : Int) (k : Int) = (B d k : Int) * (if B s j = 1 then 1 else 2) := by
  unfold tkP
  rw [Int.toNat_natCast, nat_bit, hj, nat_bit]
  rcases B01 d k with h | h <;> rcases B01 s j with h' | h' <;> simp [h, h', hk] <;> simp_all
theorem tkB (s d k : Nat) (hk : ((k : Int).fmod 3 == 0) = false) : tkP (s : Int) (d : Int) (k : Int) = (B d k : Int) * 2 := by
  unfold tkP
  rw [Int.toNat_natCast, nat_bit]
  rcases B01 d k with h | h <;> simp [h, hk] <;> simp_all
def ws (s j : Nat) : Int := if B s j = 1 then 1 else 2
theorem price_nat (T : Int) (d : Nat) : priceF T (d : Int) = (B d 0 : Int) * ws (sN T) 0 + ((B d 1 : Int) * 2 + ((B d 2 : Int) * 2 + ((B d 3 : Int) * ws (sN T) 1 + ((B d 4 : Int) * 2 + ((B d 5 : Int) * 2 + ((B d 6 : Int) * ws (sN T) 2 + ((B d 7 : Int) * 2 + ((B d 8 : Int) * 2 + 0)))))))) := by
  have e0 := tkA (sN T) d 0 0 rfl rfl
  have e1 := tkB (sN T) d 1 rfl
  have e2 := tkB (sN T) d 2 rfl
  have e3 := tkA (sN T) d 3 1 rfl rfl
  have e4 := tkB (sN T) d 4 rfl
  have e5 := tkB (sN T) d 5 rfl
  have e6 := tkA (sN T) d 6 2 rfl rfl
  have e7 := tkB (sN T) d 7 rfl
  have e8 := tkB (sN T) d 8 rfl
  rw [price_sum]
  unfold ws
  simp only [tkS]
  rw [← e0, ← e1, ← e2, ← e3, ← e4, ← e5, ← e6, ← e7, ← e8]
  rfl
theorem half (p r : Nat) (hr : r < 2) : (2 * p + r) / 2 = p ∧ (2 * p + r) % 2 = r := ⟨by omega, by omega⟩
theorem sub_half {A C : Nat} (h : C / 2 ≤ A / 2) (h0 : C % 2 ≤ A % 2) : C ≤ A ∧ (A - C) % 2 = A % 2 - C % 2 ∧ (A - C) / 2 = A / 2 - C / 2 := by
  have e : A - C = 2 * (A / 2 - C / 2) + (A % 2 - C % 2) := by omega
  obtain ⟨i, j⟩ := half (A / 2 - C / 2) (A % 2 - C % 2) (Nat.lt_of_le_of_lt (Nat.sub_le _ _) (Nat.mod_lt _ (by decide)))
  rw [e]
  exact ⟨by omega, j, i⟩
theorem sub_bits {a b : Nat} (h : ∀ k, B b k ≤ B a k) (hb : b < 512) (ha : a < 512) : b ≤ a ∧ ∀ k, k < 9 → B (a - b) k = B a k - B b k := by
  have q : ∀ n k : Nat, n + k = 9 → b / 2 ^ k ≤ a / 2 ^ k ∧ (a / 2 ^ k - b / 2 ^ k) % 2 = a / 2 ^ k % 2 - b / 2 ^ k % 2 ∧ (a / 2 ^ k - b / 2 ^ k) / 2 = a / 2 ^ (k + 1) - b / 2 ^ (k + 1) := by
    intro n
    induction n with
    | zero =>
      intro k hk
      have : k = 9 := by omega
      subst this
      have e1 : b / 2 ^ 9 = 0 := Nat.div_eq_of_lt hb
      have e2 : a / 2 ^ 9 = 0 := Nat.div_eq_of_lt ha
      have e3 : b / 2 ^ (9 + 1) = 0 := Nat.div_eq_of_lt (by omega)
      have e4 : a / 2 ^ (9 + 1) = 0 := Nat.div_eq_of_lt (by omega)
      rw [e1, e2, e3, e4]; simp
    | succ n ih =>
      intro k hk
      obtain ⟨h1, -, -⟩ := ih (k + 1) (by omega)
      have h0 := h k
      unfold B at h0
      have e3 : b / 2 ^ (k + 1) = b / 2 ^ k / 2 := by rw [Nat.pow_succ, Nat.div_div_eq_div_mul]
      have e4 : a / 2 ^ (k + 1) = a / 2 ^ k / 2 := by rw [Nat.pow_succ, Nat.div_div_eq_div_mul]
      rw [e3, e4] at h1 ⊢
      exact sub_half h1 h0
  have r : ∀ k, k ≤ 9 → (a - b) / 2 ^ k = a / 2 ^ k - b / 2 ^ k := by
    intro k
    induction k with
    | zero => intro _; simp
    | succ k ih =>
      intro hk
      have i := ih (by omega)
      obtain ⟨-, -, h3⟩ := q (9 - k) k (by omega)
      rw [← h3, ← i, Nat.pow_succ, Nat.div_div_eq_div_mul]
  refine ⟨by simpa using (q 9 0 rfl).1, fun k hk => ?_⟩
  unfold B
  rw [r k (by omega)]
  exact (q (9 - k) k (by omega)).2.1
/-! two rows of which the second lacks -/
def G (x y : Nat) : Prop := x = y ∨ (y < x ∧ phi y = 0 ∧ 0 < phi x ∧ sc x y = phi x ∧ sc y x = phi x)
def GL : List Nat → List Nat → Prop
  | [], [] => True
  | x :: a, y :: b => G x y ∧ GL a b
  | _, _ => False
theorem g_r : ∀ α, α < 2 → ∀ β, β < 2 → β ≤ α → G (lR α) (lR β) := by unfold G; decide +kernel
theorem g_w : ∀ α, α < 2 → ∀ β, β < 2 → β ≤ α → G (lW α) (lW β) := by unfold G; decide +kernel
theorem g_s : ∀ s, s < 2 → ∀ α, α < 2 → ∀ β, β < 2 → β ≤ α → G (lS α s) (lS β s) := fun s hs => by
  rcases (show s = 0 ∨ s = 1 by omega) with e | e <;> subst e <;> unfold G <;> decide +kernel
theorem g_t : ∀ s, s < 2 → ∀ α, α < 2 → ∀ β, β < 2 → β ≤ α → G (lT α s) (lT β s) := fun s hs => by
  rcases (show s = 0 ∨ s = 1 by omega) with e | e <;> subst e <;> unfold G <;> decide +kernel
theorem gl_row (k s a b : Nat) (h : ∀ j, B b j ≤ B a j) : GL (rowL k s a) (rowL k s b) :=
  ⟨.inl rfl, g_r _ (B_lt _ _) _ (B_lt _ _) (h _), g_w _ (B_lt _ _) _ (B_lt _ _) (h _), g_s _ (B_lt _ _) _ (B_lt _ _) _ (B_lt _ _) (h _), g_r _ (B_lt _ _) _ (B_lt _ _) (h _), g_w _ (B_lt _ _) _ (B_lt _ _) (h _), g_s _ (B_lt _ _) _ (B_lt _ _) _ (B_lt _ _) (h _), g_r _ (B_lt _ _) _ (B_lt _ _) (h _), g_w _ (B_lt _ _) _ (B_lt _ _) (h _), g_t _ (B_lt _ _) _ (B_lt _ _) _ (B_lt _ _) (h _), trivial⟩
theorem G.num {x y : Nat} (h : G x y) : sc y x = phi x - phi y ∧ sc x y = phi x - phi y := by
  rcases h with e | ⟨_, h2, _, h4, h5⟩
  · subst e; rw [sc_self]; omega
  · omega
theorem GL.ham : ∀ {a b : List Nat}, GL a b → hamL a b = phiL a - phiL b ∧ hamL b a = phiL a - phiL b
  | [], [], _ => by simp [hamL, phiL]
  | [], _ :: _, h => h.elim
  | _ :: _, [], h => h.elim
  | x :: a, y :: b, h => by
    have ih := h.2.ham
    have g := h.1.num
    simp only [hamL, phiL]; omega
theorem GL.cn : ∀ {a b : List Nat}, GL a b → ∀ c, (0 < phi c → cn c (b.map some) ≤ cn c (a.map some)) ∧ (phi c = 0 → cn c (a.map some) ≤ cn c (b.map some))
  | [], [], _, c => by simp [Mine.cn]
  | [], _ :: _, h, _ => h.elim
  | _ :: _, [], h, _ => h.elim
  | x :: a, y :: b, h, c => by
    have ih := h.2.cn c
    have g := h.1
    simp only [List.map_cons, Mine.cn, Option.some.injEq]
    rcases g with e | ⟨h1, h2, h3, _, _⟩
    · subst e; exact ⟨fun q => by have := ih.1 q; omega, fun q => by have := ih.2 q; omega⟩
    · refine ⟨fun q => ?_, fun q => ?_⟩
      · have := ih.1 q
        have hy : ¬ y = c := fun e => by subst e; omega
        rw [if_neg hy]; split <;> omega
      · have := ih.2 q
        have hx : ¬ x = c := fun e => by subst e; omega
        rw [if_neg hx]; split <;> omega
def WW (cs : List (Option Nat)) : List Nat → Int
  | [] => 0
  | c :: l => cn c cs * phi c + WW cs l
theorem WW_cons (o : Option Nat) (cs : List (Option Nat)) : ∀ l, WW (o :: cs) l = WW [o] l + WW cs l
  | [] => rfl
  | c :: l => by
    have ih := WW_cons o cs l
    simp only [WW, cn, ih, Int.add_mul, Int.add_zero]; omega
theorem WW_one : ∀ x ∈ AL, WW [some x] AL = phi x := by decide +kernel
theorem WW_nil : ∀ l, WW [] l = 0
  | [] => rfl
  | c :: l => by simp [WW, cn, WW_nil l]
theorem WW_phi : ∀ {a : List Nat}, (∀ x ∈ a, x ∈ AL) → WW (a.map some) AL = phiL a
  | [], _ => WW_nil _
  | x :: a, h => by
    rw [List.map_cons, WW_cons, WW_one x (h x (List.mem_cons_self ..)), WW_phi fun y hy => h y (List.mem_cons_of_mem _ hy)]; rfl
theorem wt_phi : ∀ c ∈ AL, 0 < phi c → wt c = phi c := by decide +kernel
theorem GL.ttl {a b : List Nat} (h : GL a b) : ∀ l : List Nat, (∀ c ∈ l, c ∈ AL) → TTL (a.map some) (b.map some) l = WW (a.map some) l - WW (b.map some) l
  | [], _ => rfl
  | c :: l, hl => by
    have ih := h.ttl l fun d hd => hl d (List.mem_cons_of_mem _ hd)
    obtain ⟨h1, h2⟩ := h.cn c
    have hp := (phi_bd c).1
    simp only [TTL, WW, ih]
    have e : tm (a.map some) (b.map some) c = (Mine.cn c (a.map some) - Mine.cn c (b.map some)) * phi c := by
      unfold tm
      by_cases q : 0 < phi c
      · have := h1 q
        rw [wt_phi c (hl c (List.mem_cons_self ..)) q]
        split
        · rfl
        · have : Mine.cn c (a.map some) - Mine.cn c (b.map some) = 0 := by omega
          rw [this]; simp
      · have q0 : phi c = 0 := by omega
        have := h2 q0
        rw [if_neg (by omega), q0]; simp
    rw [e, Int.sub_mul]; omega
theorem GL.tt {a b : List Nat} (h : GL a b) (ha : ∀ x ∈ a, x ∈ AL) (hb : ∀ x ∈ b, x ∈ AL) : TT (a.map some) (b.map some) = phiL a - phiL b := by
  unfold TT
  rw [h.ttl AL fun c hc => hc, WW_phi ha, WW_phi hb]
theorem GL.lt : ∀ {a b : List Nat}, GL a b → ¬ a < b ∧ (b < a ↔ 0 < phiL a - phiL b) ∧ 0 ≤ phiL a - phiL b
  | [], [], _ => by simp [phiL]
  | [], _ :: _, h => h.elim
  | _ :: _, [], h => h.elim
  | x :: a, y :: b, h => by
    obtain ⟨h1, h2, h3⟩ := h.2.lt
    rw [List.cons_lt_cons_iff, List.cons_lt_cons_iff]
    simp only [phiL]
    rcases h.1 with e | ⟨g1, g2, g3, _, _⟩
    · subst e
      refine ⟨fun q => ?_, ⟨fun q => ?_, fun q => ?_⟩, by omega⟩
      · rcases q with q | q
        · omega
        · exact h1 q.2
      · rcases q with q | q
        · omega
        · have := h2.mp q.2; omega
      · exact .inr ⟨rfl, h2.mpr (by omega)⟩
    · refine ⟨fun q => ?_, ⟨fun q => by omega, fun q => .inl g1⟩, by omega⟩
      rcases q with q | q <;> omega
/-! the weights -/
theorem p_r : ∀ α, α < 2 → phi (lR α) = (α : Int) * 2 := by decide +kernel
theorem p_w : ∀ α, α < 2 → phi (lW α) = (α : Int) * 2 := by decide +kernel
theorem p_s : ∀ s, s < 2 → ∀ α, α < 2 → phi (lS α s) = (α : Int) * (if s = 1 then 1 else 2) := by decide +kernel
theorem p_t : ∀ s, s < 2 → ∀ α, α < 2 → phi (lT α s) = (α : Int) * (if s = 1 then 1 else 2) := by decide +kernel
theorem sub_term {d a b : Nat} {w : Int} (hd : d = a - b) (h : b ≤ a) : (d : Int) * w = (a : Int) * w - (b : Int) * w := by
  subst hd
  rw [← Int.sub_mul]
  congr 1
  omega
theorem phi_row (k s x : Nat) : phiL (rowL k s x) = phi (kc k) + ((B x 8 : Int) * 2 + ((B x 7 : Int) * 2 + ((B x 6 : Int) * ws s 2 + ((B x 5 : Int) * 2 + ((B x 4 : Int) * 2 + ((B x 3 : Int) * ws s 1 + ((B x 2 : Int) * 2 + ((B x 1 : Int) * 2 + ((B x 0 : Int) * ws s 0 + 0))))))))) := by
  unfold rowL ws
  simp only [phiL]
  rw [p_r _ (B_lt _ _), p_w _ (B_lt _ _), p_s _ (B_lt _ _) _ (B_lt _ _), p_r _ (B_lt _ _), p_w _ (B_lt _ _), p_s _ (B_lt _ _) _ (B_lt _ _), p_r _ (B_lt _ _), p_w _ (B_lt _ _), p_t _ (B_lt _ _) _ (B_lt _ _)]
theorem price_row (T : Int) {a b : Nat} (h : ∀ k, B b k ≤ B a k) (hb : b < 512) (ha : a < 512) : priceF T ((a : Int) - (b : Int)) = phiL (rowL (kN T) (sN T) a) - phiL (rowL (kN T) (sN T) b) := by
  obtain ⟨hle, hd⟩ := sub_bits h hb ha
  rw [← Int.natCast_sub hle, price_nat, phi_row, phi_row]
  rw [sub_term (hd 0 (by decide)) (h 0), sub_term (hd 1 (by decide)) (h 1), sub_term (hd 2 (by decide)) (h 2), sub_term (hd 3 (by decide)) (h 3), sub_term (hd 4 (by decide)) (h 4), sub_term (hd 5 (by decide)) (h 5), sub_term (hd 6 (by decide)) (h 6), sub_term (hd 7 (by decide)) (h 7), sub_term (hd 8 (by decide)) (h 8)]
  omega
theorem al_r : ∀ α, α < 2 → lR α ∈ AL := by decide
theorem al_w : ∀ α, α < 2 → lW α ∈ AL := by decide
theorem al_s : ∀ s, s < 2 → ∀ α, α < 2 → lS α s ∈ AL := by decide
theorem al_t : ∀ s, s < 2 → ∀ α, α < 2 → lT α s ∈ AL := by decide
theorem al_k : ∀ k, k < 8 → kc k ∈ AL := by decide
theorem al_row (k s x : Nat) (hk : k < 8) : ∀ c ∈ rowL k s x, c ∈ AL := by
  unfold rowL
  simp only [List.forall_mem_cons]
  exact ⟨al_k k hk, al_r _ (B_lt _ _), al_w _ (B_lt _ _), al_s _ (B_lt _ _) _ (B_lt _ _), al_r _ (B_lt _ _), al_w _ (B_lt _ _), al_s _ (B_lt _ _) _ (B_lt _ _), al_r _ (B_lt _ _), al_w _ (B_lt _ _), al_t _ (B_lt _ _) _ (B_lt _ _), fun _ h => by simp at h⟩
theorem phi_le : ∀ (l : List Nat), 0 ≤ phiL l ∧ phiL l ≤ 2 * (l.length : Int)
  | [] => by simp [phiL]
  | x :: l => by
    have ih := phi_le l
    have := phi_bd x
    simp only [phiL, List.length_cons]; omega
theorem rp_ok (T : Int) {a b : Nat} (h : ∀ k, B b k ≤ B a k) (hb : b < 512) (ha : a < 512) : RP (rowS T (a : Int)) (rowS T (b : Int)) (priceF T ((a : Int) - (b : Int))) := by
  rw [row_is T a ha, row_is T b hb, price_row T h hb ha]
  have g := gl_row (kN T) (sN T) a b h
  have oa := al_row (kN T) (sN T) a (kN_lt T)
  have ob := al_row (kN T) (sN T) b (kN_lt T)
  obtain ⟨l1, l2, l3⟩ := g.lt
  have hh := g.ham
  have ba := phi_le (rowL (kN T) (sN T) a)
  have bb := phi_le (rowL (kN T) (sN T) b)
  have na : (rowL (kN T) (sN T) a).length = 10 := rfl
  have nb : (rowL (kN T) (sN T) b).length = 10 := rfl
  refine ⟨rfl, rfl, oa, ob, ⟨rfl, Nat.le_of_ble_eq_true rfl, oa, ob, hh.1, .inl rfl⟩, ⟨rfl, Nat.le_of_ble_eq_true rfl, ob, oa, hh.2, .inr rfl⟩, g.tt oa ob, ?_, by omega⟩
  show b2i (decide (rowL (kN T) (sN T) a < rowL (kN T) (sN T) b)) - b2i (decide (rowL (kN T) (sN T) b < rowL (kN T) (sN T) a)) = _
  unfold qf
  by_cases q : 0 < phiL (rowL (kN T) (sN T) a) - phiL (rowL (kN T) (sN T) b)
  · rw [if_pos q, decide_eq_false l1, decide_eq_true (l2.mpr q)]; rfl
  · rw [if_neg q, decide_eq_false l1, decide_eq_false (fun e => q (l2.mp e))]; rfl
end Mine
end
section
open PySem PySem.W PyProof.Rows PySem.Calls PySem.Spec
set_option maxRecDepth 100000
namespace Mine
def stepR (r n : Int) : Int := Builtin.bitAnd r (Builtin.bitNot (n.fmod 512))
def rgF (ns : List Int) : List Int := ns.foldl (fun l n => l ++ [stepR (l.getD (l.length - 1) 0) n]) [511]
theorem rgF_snoc (ns : List Int) (n : Int) : rgF (ns ++ [n]) = rgF ns ++ [stepR ((rgF ns).getD ((rgF ns).length - 1) 0) n] := by
  unfold rgF; rw [List.foldl_append]; rfl
theorem rg_start : [511] = rgF [] ∧ [(511 : Int)].length = ([] : List Int).length + 1 := ⟨rfl, rfl⟩
theorem B_test (x k : Nat) : B x k = (x.testBit k).toNat := by
  unfold B
  rw [Nat.testBit_eq_decide_div_mod_eq]
  rcases bit_lt x k with h | h <;> simp [h]
theorem B_and (a m k : Nat) : B (a &&& m) k ≤ B a k := by
  rw [B_test, B_test, Nat.testBit_and]
  cases a.testBit k <;> cases m.testBit k <;> simp
theorem B_big {b k : Nat} (hb : b < 512) (hk : 9 ≤ k) : B b k = 0 := by
  unfold B
  have : 2 ^ 9 ≤ 2 ^ k := Nat.pow_le_pow_right (Nat.succ_pos 1) hk
  rw [Nat.div_eq_of_lt (by omega)]
theorem stepR_nat (a : Nat) (n : Int) (ha : a < 512) : ∃ b : Nat, stepR (a : Int) n = (b : Int) ∧ b < 512 ∧ ∀ k, B b k ≤ B a k := by
  have hm := fm (x := n) (m := 512) (by decide)
  obtain ⟨m, e⟩ : ∃ m : Nat, n.fmod 512 = (m : Int) := ⟨(n.fmod 512).toNat, by omega⟩
  have hle : a &&& m ≤ a := Nat.and_le_left
  have hs : stepR (a : Int) n = ((a - (a &&& m) : Nat) : Int) := by
    unfold stepR
    rw [e]
    unfold Builtin.bitAnd Builtin.bitNot
    have h1 : decide (0 ≤ (a : Int)) = true := decide_eq_true (by omega)
    have h2 : decide (0 ≤ -(m : Int) - 1) = false := decide_eq_false (by omega)
    rw [h1, h2]
    have h3 : (-(-(m : Int) - 1) - 1).toNat = m := by omega
    simp only [Int.toNat_natCast, h3]
    omega
  refine ⟨a - (a &&& m), hs, by omega, fun k => ?_⟩
  by_cases hk : k < 9
  · obtain ⟨-, h⟩ := sub_bits (a := a) (b := a &&& m) (fun k => B_and a m k) (by omega) ha
    rw [h k hk]; omega
  · rw [B_big (by omega) (by omega)]; omega
/-- rights of which each later one lacks of each earlier one -/
structure RgOk (l : List Int) : Prop where
  nn : ∀ i, i < l.length → ∃ a : Nat, l.getD i 0 = (a : Int) ∧ a < 512
  sub : ∀ i j, i < j → j < l.length → ∃ a b : Nat, l.getD i 0 = (a : Int) ∧ l.getD j 0 = (b : Int) ∧ a < 512 ∧ b < 512 ∧ ∀ k, B b k ≤ B a k
  pos : 0 < l.length
theorem RgOk.snoc {l : List Int} {n : Int} (h : RgOk l) : RgOk (l ++ [stepR (l.getD (l.length - 1) 0) n]) := by
  have hp := h.pos
  have old : ∀ i, i < l.length → (l ++ [stepR (l.getD (l.length - 1) 0) n]).getD i 0 = l.getD i 0 := fun i hi => by
    simp only [List.getD_eq_getElem?_getD]; rw [List.getElem?_append_left hi]
  have new : (l ++ [stepR (l.getD (l.length - 1) 0) n]).getD l.length 0 = stepR (l.getD (l.length - 1) 0) n := by
    simp only [List.getD_eq_getElem?_getD]; rw [List.getElem?_append_right (Nat.le_refl _)]; simp
  obtain ⟨a, ea, ha⟩ := h.nn (l.length - 1) (by omega)
  obtain ⟨b, eb, hb, hbits⟩ := stepR_nat a n ha
  rw [← ea] at eb
  refine ⟨fun i hi => ?_, fun i j hij hj => ?_, by simp⟩
  · rw [List.length_append, List.length_singleton] at hi
    by_cases q : i < l.length
    · rw [old i q]; exact h.nn i q
    · have : i = l.length := by omega
      subst this
      rw [new]; exact ⟨b, eb, hb⟩
  · rw [List.length_append, List.length_singleton] at hj
    by_cases q : j < l.length
    · rw [old i (by omega), old j q]; exact h.sub i j hij q
    · have : j = l.length := by omega
      subst this
      rw [old i hij, new]
      by_cases r : i < l.length - 1
      · obtain ⟨a', b', e1, e2, h1, h2, h3⟩ := h.sub i (l.length - 1) r (by omega)
        have : b' = a := by rw [ea] at e2; omega
        subst this
        exact ⟨a', b, e1, eb, h1, hb, fun k => Nat.le_trans (hbits k) (h3 k)⟩
      · have : i = l.length - 1 := by omega
        subst this
        exact ⟨a, b, ea, eb, ha, hb, hbits⟩
theorem rgF_ok : ∀ (k : Nat) (ns : List Int), ns.length = k → RgOk (rgF ns) ∧ (rgF ns).length = ns.length + 1
  | 0, ns, h => by
    have : ns = [] := List.length_eq_zero_iff.mp h
    subst this
    refine ⟨⟨fun i hi => ?_, fun i j hij hj => ?_, by decide⟩, rfl⟩
    · have : i = 0 := by simp [rgF] at hi; omega
      subst this
      exact ⟨511, rfl, by decide⟩
    · simp [rgF] at hj; omega
  | k + 1, ns, h => by
    obtain ⟨pre, n, rfl⟩ : ∃ pre n, ns = pre ++ [n] := ⟨ns.dropLast, ns.getLast (by intro e; subst e; simp at h), (List.dropLast_concat_getLast _).symm⟩
    obtain ⟨h1, h2⟩ := rgF_ok k pre (by simpa using h)
    rw [rgF_snoc]
    exact ⟨h1.snoc, by simp [h2]⟩
theorem rg_fm (T : Int) {l : List Int} (h : RgOk l) : ∀ x ∈ l, FmR T x := fun x hx => by
  obtain ⟨i, hi, rfl⟩ := List.mem_iff_getElem.mp hx
  obtain ⟨a, e, ha⟩ := h.nn i hi
  have : l[i] = (a : Int) := by rw [← e]; simp [List.getD_eq_getElem?_getD, hi]
  rw [this]; exact fmR_ok T a ha
theorem rg_rp (T : Int) {l : List Int} (h : RgOk l) : ∀ i j, i < j → j < l.length → RP (rowS T (l.getD i 0)) (rowS T (l.getD j 0)) (priceF T (l.getD i 0 - l.getD j 0)) := fun i j hij hj => by
  obtain ⟨a, b, e1, e2, h1, h2, h3⟩ := h.sub i j hij hj
  rw [e1, e2]; exact rp_ok T h3 h2 h1
theorem rg_len (ns : List Int) : (rgF (ns.take 2 ++ [8, 258, 81])).length ≤ 8 := by
  rw [(rgF_ok _ _ rfl).2]
  simp only [List.length_append, List.length_cons, List.length_nil]
  have := List.length_take_le 2 ns
  omega
/-! the data may be compared -/
theorem al_lt : ∀ c ∈ AL, c < 1114112 := by decide
theorem row_ok (T : Int) (x : Nat) (hx : x < 512) : PyData.strOk (rowS T (x : Int)) = true := by
  rw [row_is T x hx]
  unfold PyData.strOk
  rw [Array.all_eq_true_iff_forall_mem]
  intro c hc
  exact decide_eq_true (al_lt c (al_row (kN T) (sN T) x (kN_lt T) c (by simpa using hc)))
theorem rows_ok (T : Int) {l : List Int} (h : RgOk l) : kqdOk 8 (rowsD T l) = true := by
  unfold rowsD
  show List.all _ _ = true
  rw [List.all_eq_true]
  intro d hd
  obtain ⟨x, hx, rfl⟩ := List.mem_map.mp hd
  obtain ⟨i, hi, rfl⟩ := List.mem_iff_getElem.mp hx
  obtain ⟨a, e, ha⟩ := h.nn i hi
  have : l[i] = (a : Int) := by rw [← e]; simp [List.getD_eq_getElem?_getD, hi]
  rw [this]; exact row_ok T a ha
theorem dUp_ok (pf : Nat → Nat → Int × Int) : ∀ n, ∀ d ∈ dUp pf n, kqdOk 8 d = true
  | 0, d, h => by simp [dUp] at h
  | n + 1, d, h => by
    rcases List.mem_append.mp h with h | h
    · exact dUp_ok pf n d h
    · obtain ⟨i, -, rfl⟩ := List.mem_map.mp h
      rfl
theorem dT_ok (T : Int) {l : List Int} (h : RgOk l) : ∀ d ∈ dT T l, kqdOk 8 d = true := fun d hd => by
  rcases List.mem_cons.mp hd with e | e
  · subst e; exact rows_ok T h
  · exact dUp_ok _ _ d e
theorem rg_turn {pre l : List Int} {k : Int} (h1 : l = rgF pre) (h2 : l.length = pre.length + 1) : (l ++ [Builtin.bitAnd (l.getD (-1 + (l.length : Int)).toNat 0) (Builtin.bitNot (k.fmod 512))]) = rgF (pre ++ [k]) ∧ (l ++ [Builtin.bitAnd (l.getD (-1 + (l.length : Int)).toNat 0) (Builtin.bitNot (k.fmod 512))]).length = (pre ++ [k]).length + 1 := by
  refine ⟨?_, by simp [h2]⟩
  rw [rgF_snoc, ← h1]
  have : (-1 + (l.length : Int)).toNat = l.length - 1 := by omega
  rw [this]; rfl
theorem rg_of {l ns : List Int} (h : l = rgF ns) : RgOk l := h ▸ (rgF_ok _ ns rfl).1
theorem rg_ln {l ns : List Int} (h : l = rgF (ns.take 2 ++ [8, 258, 81])) : l.length ≤ 8 := h ▸ rg_len ns
section
variable {prog : Program} {w : World} {A : Around} {E : Value → Shared → Prop} {s : Shared} {h₀ : Heap} {L a b : Addr} {news n₁ n₂ : List (Addr × Obj)} {xs ys : List Value} {ka kb : Nat} {ds : List Dat} {Q : Value → Shared → Prop}
open Classical in
theorem eq_dat (N : News h₀ L s.heap news) (ma : (a, listOf xs.toArray ka) ∈ news) (Da : DatAll n₁ xs ds) (sa : ∀ p ∈ n₁, p ∈ news)
    (mb : (b, listOf ys.toArray kb) ∈ news) (Db : DatAll n₂ ys ds) (sb : ∀ p ∈ n₂, p ∈ news)
    (ha : ∀ d ∈ ds, kqdOk 8 d = true) (hu : A.units + 64 < cLine) (h : Q (.bool true) s) : wpAny (model prog w) A (compareOp .Eq (.ref a) (.ref b)) Q E s :=
  kqd_eq N ma rfl rfl Da sa mb rfl rfl Db sb ha ha hu (by rw [decide_eq_true rfl]; exact h)
end
end Mine
end
section
open PySem PySem.W PyProof.Rows
namespace Mine
open PySem.Calls PySem.Spec
local macro_rules | `(tactic| walk_at "call ref") => `(tactic| k_extra "myCall")
set_option maxRecDepth 100000 in
set_option maxHeartbeats 1200000 in
theorem law_c : PySem.Challenge.rw_aa0056_01.Holds := Mine.hd (by
  k_with_none
  k_with "state" => (exact rg_turn (by with_reducible assumption) (by with_reducible assumption))
  k_with "state" => (exact rg_start)
  k_with "myCall" => (k_here; (with_reducible show wpAny _ _ (PySem.call (Value.ref 225) _) _ _ _); (rename News _ _ _ _ => lN'); (rename _ = rgF _ => hrg); (have hI27 := kFacts); (with_unfolding_all refine told_c _ _ _ _ _ _ (List.Mem.tail _ (List.Mem.tail _ (List.Mem.tail _ (List.Mem.tail _ (List.Mem.head _))))) hI27 (rg_ln hrg) (rg_fm _ (rg_of hrg)) (rg_rp _ (rg_of hrg)) _ _ _ _ _ _ _ _ _ _ _ _ _ _ _ _ _ _ _ _ (by k_asm) (by k_asm) (by k_asm) lN' (by k_asm) (by first | exact rfl | assumption) (by ktr_room) (by ktr_units) ?_); intro R28 rs28 cR28 led28 h28 tk28 hD28 hR28 hs28 F28 N28; (have mR28 := hs28 _ (List.Mem.tail _ (List.Mem.tail _ (List.Mem.tail _ (List.Mem.tail _ (List.Mem.head _)))))); clear lN'; (try k_fold))
  k_with "myCall" => (k_here; (with_reducible show wpAny _ _ (PySem.call (Value.ref 244) _) _ _ _); (rename News _ _ _ _ => lN'); (with_unfolding_all refine due_c _ _ _ _ _ _ mR28 hI27 (rg_ln hrg) _ _ _ _ _ _ _ _ _ _ _ _ _ _ _ _ _ _ _ _ (by k_asm) (by k_asm) (by k_asm) lN' (by k_asm) (by first | exact rfl | assumption) (by ktr_room) (by ktr_units) ?_); intro R29 rs29 cR29 led29 h29 tk29 hD29 hR29 hs29 F29 N29; clear lN'; (try k_fold))
  k_with "compareOp Eq" => (k_here; (with_reducible show wpAny _ _ (compareOp _ (Value.ref _) (Value.ref _)) _ _ _); (rename News _ _ _ _ => lN'); (with_unfolding_all refine eq_dat lN' (hs29 _ hR28) hD28 hs29 hR29 hD29 (fun p hp => hp) (dT_ok _ (rg_of hrg)) (by ktr_units) ?_))
  k_with "exec For Name BinOp cons nil" => (k_here; (rename Fr _ _ _ _ => lF'); (with_unfolding_all refine' For_invVF lF' ?k1 ?k2 ?_; (case k1 => exact rfl); (case k2 => exact rfl); k_whole))
  k_with "pyIter ref" => (k_state (fun pre rights => rights = rgF pre ∧ rights.length = pre.length + 1) "rights")
  w_strict (k_go0; (all_goals try k_fold); k_steps))
end Mine
end
set_option maxRecDepth 100000 in
set_option maxHeartbeats 8000000 in
theorem PySem.Challenge.cw_aa0056_01_holds : PySem.Challenge.rw_aa0056_01.Holds :=
  Mine.law_c

import PyProof.Rows.All
import Wide.All
import OpenK.AllK
import Wide.FinOn
import PySem.Challenge.RW_qu0027_01
open PySem PySem.W PyProof.Rows
set_option Elab.async false
set_option maxRecDepth 100000
set_option maxHeartbeats 8000000
set_option compiler.extract_closed false
namespace Mine

/-! part Hd -/
noncomputable def view : Program :=
  let p := PySem.Challenge.pw_qu0027_01
  { p with main := { p.main with body := (p.main.body.drop 1).take 5 ++ ((p.main.body.drop 7).take 2 ++ ((p.main.body.drop 10).take 2 ++ p.main.body.drop 13)) } }
set_option hygiene false in
local macro_rules | `(tactic| o_law) => `(tactic| refine holds_law (by kernel_rfl) fun said => ?_)
set_option hygiene false in
local macro_rules | `(tactic| o_head $H) => `(tactic| (
  refine holds_open (q := Mine.view) (loose := []) (Xt := fun s => xlAt Mine.view [] s && recOk (RowW.records (OpenRow.toRowW (OpenLaw.row PySem.Challenge.rw_qu0027_01))) s) (XP := XL Mine.view []) (Yf := Hook.obs $H) (Ya := Hook.val $H) (YP := Hook.says $H) (N := 1082) ?hl (Hook.of $H) (Hook.keeps $H) (fun s e => xl_of s (Bool.and_eq_true_iff.mp e).1) XL.keeps (by rfl) (by rfl) (by rfl) (fun s e => recFacts_of (Bool.and_eq_true_iff.mp e).2) (by rfl) (by first | assumption | decide +kernel) (by decide +kernel) ⟨rfl, rfl, rfl, rfl, rfl, by decide +kernel⟩ ?hw ?hc
  case hl => (intro w; kernel_rfl)))
open_top hd for PySem.Challenge.rw_qu0027_01

/-! part B1 -/
theorem fresh_B1 : True := by w_top off; trivial
def Stop (p : Prop) : Prop := p
theorem Stop.go {p : Prop} (h : p) : Stop p := h
theorem Stop.mk {p : Prop} (h : Stop p) : p := h

theorem all1 {α : Type} {P : α → Prop} {a : α} (h : P a) : ∀ p ∈ [a], P p := fun p hp => by
  rcases List.mem_cons.mp hp with rfl | hp
  · exact h
  · nomatch hp
theorem all2 {α : Type} {P : α → Prop} {a b : α} (h : P a) (h2 : P b) : ∀ p ∈ [a, b], P p := List.forall_mem_cons.mpr ⟨h, all1 h2⟩
theorem all3 {α : Type} {P : α → Prop} {a b c : α} (h : P a) (h2 : P b) (h3 : P c) : ∀ p ∈ [a, b, c], P p := List.forall_mem_cons.mpr ⟨h, all2 h2 h3⟩

theorem all4 {α : Type} {P : α → Prop} {a b c d : α} (h : P a) (h2 : P b) (h3 : P c) (h4 : P d) : ∀ p ∈ [a, b, c, d], P p := List.forall_mem_cons.mpr ⟨h, all3 h2 h3 h4⟩

theorem all5 {α : Type} {P : α → Prop} {a b c d e : α} (h : P a) (h2 : P b) (h3 : P c) (h4 : P d) (h5 : P e) : ∀ p ∈ [a, b, c, d, e], P p := List.forall_mem_cons.mpr ⟨h, all4 h2 h3 h4 h5⟩
theorem all6 {α : Type} {P : α → Prop} {a b c d e f : α} (h : P a) (h2 : P b) (h3 : P c) (h4 : P d) (h5 : P e) (h6 : P f) : ∀ p ∈ [a, b, c, d, e, f], P p := List.forall_mem_cons.mpr ⟨h, all5 h2 h3 h4 h5 h6⟩

/-- an object that is no iterator of the class: by its class, or a cell -/
def NotIt (cl : Value) (o : Obj) : Prop := o.cls ≠ cl ∨ ∃ v, o.data = .cell v
theorem NotIt.no {cl : Value} {o : Obj} (h : NotIt cl o) (h1 : o.cls = cl) (h2 : ∀ v, o.data ≠ .cell v) : False := h.elim (fun q => q h1) fun ⟨v, q⟩ => h2 v q

/-- names of a frame -/
def Has (m : Str → Option Value) (ps : List (Str × Value)) : Prop := ∀ p ∈ ps, m p.1 = some p.2
theorem Has.eq {m : Str → Option Value} {ps : List (Str × Value)} (h : Has m ps) : m = kstB m ps := funext fun _ => (kstB_eq h fun _ => rfl).symm
theorem Has.fr {m : Str → Option Value} {ps : List (Str × Value)} {h₀ h : Heap} {L : Addr} (hm : Has m ps) (F : Fr h₀ L h m) : Fr h₀ L h (kstB m ps) := hm.eq ▸ F

theorem Has.fr1 {m : Str → Option Value} {ps : List (Str × Value)} {h₀ h : Heap} {L : Addr} {x : Str} {v : Value} (hm : Has m ps) (F : Fr h₀ L h (fun y => if y = x then some v else m y)) : Fr h₀ L h (kstB m ((x, v) :: ps)) := by
  have : kstB m ((x, v) :: ps) = fun y => if y = x then some v else m y := by
    show (fun z => if z = x then some v else kstB m ps z) = _
    rw [← hm.eq]
  rw [this]; exact F
theorem newsSwap {h₀ h : Heap} {L : Addr} {p q : Addr × Obj} {r : List (Addr × Obj)} (N : News h₀ L h (p :: q :: r)) : News h₀ L h (q :: p :: r) := fun z hz => N z (by
  rcases List.mem_cons.mp hz with rfl | hz
  · exact .tail _ (.head _)
  · rcases List.mem_cons.mp hz with rfl | hz
    · exact .head _
    · exact .tail _ (.tail _ hz))
theorem newsSub {h₀ h : Heap} {L : Addr} {l l' : List (Addr × Obj)} (N : News h₀ L h l) (hs : ∀ p ∈ l', p ∈ l) : News h₀ L h l' := fun p hp => N p (hs p hp)

def WEnd {σ : Type} (h₀ : Heap) (L : Addr) (s : Shared) (I : σ → (Str → Option Value) → List (Addr × Obj) → Prop) (μ : σ → Nat) (c : σ) (s' : Shared) : Prop :=
  ∃ c' h' tk m' news', s' = { s with heap := h', toks := tk } ∧ Fr h₀ L h' m' ∧ News h₀ L h' news' ∧ μ c' < μ c ∧ I c' m' news'
def WPost {σ : Type} (h₀ : Heap) (L : Addr) (s : Shared) (I : σ → (Str → Option Value) → List (Addr × Obj) → Prop) (μ : σ → Nat) (c : σ) (Q : Flow → Shared → Prop) (f : Flow) (s' : Shared) : Prop :=
  match f with
  | .ret v => Q (.ret v) s'
  | .brk => Q .next s'
  | _ => WEnd h₀ L s I μ c s'
theorem WEnd.mk {σ : Type} {h₀ : Heap} {L : Addr} {s : Shared} {I : σ → (Str → Option Value) → List (Addr × Obj) → Prop} {μ : σ → Nat} {c : σ} {h' : Heap} {tk : Nat} {m' : Str → Option Value} {news' : List (Addr × Obj)}
    (c' : σ) (F : Fr h₀ L h' m') (N : News h₀ L h' news') (hμ : μ c' < μ c) (hI : I c' m' news') : WEnd h₀ L s I μ c { s with heap := h', toks := tk } := ⟨c', h', tk, m', news', rfl, F, N, hμ, hI⟩
theorem while_K {σ : Type} {prog : Program} {w : World} {A : Around} {E : Value → Shared → Prop} {Q : Flow → Shared → Prop} {s : Shared} {env : Env} {h₀ : Heap} {L : Addr} {test : PySem.Expr} {body : List Stmt} {pos : Pos} {m : Str → Option Value} {news : List (Addr × Obj)}
    (I : σ → (Str → Option Value) → List (Addr × Obj) → Prop) (μ : σ → Nat) (c₀ : σ)
    (F : Fr h₀ L s.heap m) (N : News h₀ L s.heap news) (hI : I c₀ m news)
    (turn : ∀ c m₁ news₁ h tk, I c m₁ news₁ → Fr h₀ L h m₁ → News h₀ L h news₁ →
      wpAny (model prog w) A (isTrue test env (eval test env)) (fun b s₂ =>
        if b = true then wpAny (model prog w) A (execs body env) (WPost h₀ L s I μ c Q) E s₂ else Q .next s₂) E { s with heap := h, toks := tk })
    (hE : PassesOwn (model prog w) A env E := by passes_own) :
    wpAny (model prog w) A (exec (.While test body [] pos) env) Q E s := by
  refine While_inv2 (fun n m nx => ∃ c : σ, μ c = n ∧ I c m nx) F N ⟨c₀, rfl, hI⟩ ?_ hE
  rintro n m₁ nx h tk F₁ N₁ ⟨c, rfl, hc⟩
  refine wpAny_mono (turn c m₁ nx h tk hc F₁ N₁) (fun b s₂ p => ?_) fun _ _ x => x
  cases b with
  | false => simpa using p
  | true =>
    simp only [if_true] at p ⊢
    refine wpAny_mono p (fun f s₃ q => ?_) fun _ _ x => x
    cases f with
    | ret v => exact q
    | brk => exact q
    | next =>
      obtain ⟨c', h', tk', m', news', rfl, F', N', hm9, hi⟩ := q
      exact ⟨h', tk', m', news', μ c', rfl, F', N', hm9, c', rfl, hi⟩
    | cont =>
      obtain ⟨c', h', tk', m', news', rfl, F', N', hm9, hi⟩ := q
      exact ⟨h', tk', m', news', μ c', rfl, F', N', hm9, c', rfl, hi⟩

/-- what a call hands back: a value, a ledger -/
def Got (s : Shared) (h₀ : Heap) (L : Addr) (m : Str → Option Value) (P : Value → List (Addr × Obj) → Prop) (v : Value) (s' : Shared) : Prop :=
  ∃ h' tk news', s' = { s with heap := h', toks := tk } ∧ Fr h₀ L h' m ∧ News h₀ L h' news' ∧ P v news'
theorem Got.mk {s : Shared} {h₀ : Heap} {L : Addr} {m : Str → Option Value} {P : Value → List (Addr × Obj) → Prop} {v : Value} {h' : Heap} {tk : Nat} {news' : List (Addr × Obj)}
    (F : Fr h₀ L h' m) (N : News h₀ L h' news') (hP : P v news') : Got s h₀ L m P v { s with heap := h', toks := tk } := ⟨h', tk, news', rfl, F, N, hP⟩

/-- the comparison of the items of a heap by their keys -/
def CmpOk (w : World) (key : Value → Nat) (news : List (Addr × Obj)) (items : List Value) : Prop :=
  ∀ x ∈ items, ∀ y ∈ items, ∀ (A : Around) (E : Value → Shared → Prop) (s : Shared) (Q : Value → Shared → Prop), A.units < 9000 → NoneBooked s.heap → (∀ p ∈ news, s.heap.get? p.1 = some p.2) → Q (.bool (decide (key x < key y))) s →
    wpAny (model Challenge.rw_qu0027_01.row.prog w) A (compareOp .Lt x y) Q E s

theorem CmpOk.sub {w : World} {key : Value → Nat} {news : List (Addr × Obj)} {items items' : List Value} (h : CmpOk w key news items) (hs : ∀ y ∈ items', y ∈ items) : CmpOk w key news items' :=
  fun x hx y hy => h x (hs x hx) y (hs y hy)

theorem CmpOk.more {w : World} {key : Value → Nat} {news news' : List (Addr × Obj)} {items : List Value} (h : CmpOk w key news items) (hs : ∀ p ∈ news, p ∈ news') : CmpOk w key news' items :=
  fun x hx y hy A E s Q hu hb hn hq => h x hx y hy A E s Q hu hb (fun p hp => hn p (hs p hp)) hq

local macro_rules | `(tactic| walk_at "exec While Compare cons nil") => `(tactic| refine Stop.mk ?_)
local macro_rules | `(tactic| walk_at "WEnd") => `(tactic| refine Stop.mk ?_)
local macro_rules | `(tactic| walk_at "WPost") => `(tactic| dsimp only [WPost])
local macro_rules | `(tactic| walk_at "Got") => `(tactic| refine Stop.mk ?_)
abbrev PG : Program := Challenge.rw_qu0027_01.row.prog

/-- where a call is made: the frame, what stands below it, room for d more -/
def Cx (w : World) (A : Around) (h₀ : Heap) (L : Addr) (d : Nat) : Prop :=
  ∃ (s₀ : Shared) (mg mb : Str → Option Value) (A₀ : Around) (env : Env) (outer : List Env) (base : Heap), (hd.heap_1 w.params).In h₀ ∧ Top view (looseW view []) (ExcName.means s₀.heap) mg mb h₀ ∧ Below A₀ base outer h₀ ∧
    A.frames = some (env :: outer) ∧ env.frame = some L ∧ env.scope.kind = .function ∧ A.depth + d < 1000 ∧ A.units + 10 * d < 9000 ∧ A.handled = none

theorem enter_go {w : World} {s₀ : Shared} {mg mb : Str → Option Value} {A : Around} {base g' : Heap} {env env' : Env} {outer : List Env} {L' : Addr} {d : Nat} {α : Type} {t : Sem α} {Q : α → Shared → Prop} {E : Value → Shared → Prop} {s : Shared}
    (X' : (hd.heap_1 w.params).In g') (T' : Top view (looseW view []) (ExcName.means s₀.heap) mg mb g') (B' : Below A base (env :: outer) g') (hA : A.frames = some (env :: outer)) (hdp : A.depth + (d + 1) < 1000) (hu : A.units + 10 * (d + 1) < 9000) (hh : A.handled = none)
    (hf : env'.frame = some L') (hk : env'.scope.kind = .function)
    (h : Cx w (A.deeper env') g' L' d → (A.deeper env').units < 9000 → (A.deeper env').handled = none → wpAny (model Challenge.rw_qu0027_01.row.prog w) (A.deeper env') t Q (fun _ _ => False) s) :
    wpAny (model Challenge.rw_qu0027_01.row.prog w) (A.deeper env') t Q E s :=
  wpAny_mono (h ⟨s₀, mg, mb, A, env', env :: outer, base, X', T', B', by simp [Around.deeper, hA], hf, hk, by show A.depth + 1 + d < 1000; omega, by show A.units + 3 + 10 * d < 9000; omega, hh⟩ (by show A.units + 3 < 9000; omega) hh) (fun _ _ x => x) fun _ _ x => x.elim

theorem none_of {w : World} {h₀ h : Heap} {L : Addr} {m : Str → Option Value} (X : (hd.heap_1 w.params).In h₀) (F : Fr h₀ L h m) : NoneBooked h :=
  ⟨fun _ => none, ⟨_, #[], 0, F.keep _ _ (X 2 ⟨.none, none, .dict #[] 0, #[]⟩ rfl), rfl, by intro e he; simp at he, fun _ => rfl⟩, rfl⟩

/-- a call's ending with the token count told -/
def GotT (s : Shared) (h₀ : Heap) (L : Addr) (m : Str → Option Value) (P : Value → List (Addr × Obj) → Nat → Prop) (v : Value) (s' : Shared) : Prop :=
  ∃ h' tk news', s' = { s with heap := h', toks := tk } ∧ Fr h₀ L h' m ∧ News h₀ L h' news' ∧ P v news' tk
theorem GotT.mk {s : Shared} {h₀ : Heap} {L : Addr} {m : Str → Option Value} {P : Value → List (Addr × Obj) → Nat → Prop} {v : Value} {h' : Heap} {tk : Nat} {news' : List (Addr × Obj)}
    (F : Fr h₀ L h' m) (N : News h₀ L h' news') (hP : P v news' tk) : GotT s h₀ L m P v { s with heap := h', toks := tk } := ⟨h', tk, news', rfl, F, N, hP⟩
local macro_rules | `(tactic| walk_at "GotT") => `(tactic| refine Stop.mk ?_)
theorem gen_toks {α : Type} {M : Model} {A : Around} {t : Sem α} {Q : α → Shared → Prop} {E : Value → Shared → Prop} {h : Heap} {g : Array GenState} {d : Drawn} {n : Nat} {o : OsState}
    (H : ∀ tk, tk = n + 1 → wpAny M A t Q E ⟨h, g, d, tk, o⟩) : wpAny M A t Q E ⟨h, g, d, n + 1, o⟩ := H _ rfl

theorem gen_toks_le {α : Type} {M : Model} {A : Around} {t : Sem α} {Q : α → Shared → Prop} {E : Value → Shared → Prop} {h : Heap} {g : Array GenState} {d : Drawn} {n k : Nat} {o : OsState}
    (H : ∀ tk, n ≤ tk → wpAny M A t Q E ⟨h, g, d, tk, o⟩) : wpAny M A t Q E ⟨h, g, d, n + k, o⟩ := H _ (Nat.le_add_right _ _)

local macro_rules | `(tactic| k_units) => `(tactic| first | (with_reducible assumption) | (simp only [Around.in1_units, cLine]; omega) | exact Nat.le_of_ble_eq_true rfl)
local macro_rules | `(tactic| walk_at "enter") => `(tactic| (refine wpAny_call ?_; refine' code_def ?k1 ?k2 ?k3 ?k4 ?k5 ?kA ?kF ?kK ?k6 ?k7 ?k8 ?k9 ?kB ?_ ?c2 ?c3 ?c4 ?c5; (case kA => first | assumption | rfl); (case kF => assumption); (case kK => assumption); (case k1 => k_asm); (case k2 => k_asm); (case k3 => k_asm); (case k4 => k_asm); (case k5 => k_asm); (case k6 => k_is); (case k7 => k_is); (case k8 => (simp only [recursionLimit]; omega)); (case k9 => first | exact BindsTo.of_eq rfl | exact binds_K (by k_in) rfl (by k_is) rfl rfl rfl | fail "k_enter: no rule for these arguments"); (case c5 => decide); (case kB => exact locs rfl); (case c2 => exact rfl); (case c3 => exact rfl); (case c4 => exact rfl); k_whole))
local macro_rules | `(tactic| walk_at "entered") => `(tactic| (refine enter_go (by assumption) (by assumption) (by assumption) (by first | assumption | rfl) (by assumption) (by assumption) (by first | assumption | rfl) rfl rfl ?_))
local macro_rules | `(tactic| walk_at "call ref") => `(tactic| refine Stop.mk ?_)
local macro_rules | `(tactic| walk_at "call builtin:len") => `(tactic| ((with_reducible show wpAny _ _ (call (Value.builtin "len") [Value.ref _]) _ _ _); k_dflt (refine' kst_len ?k1 ?k2 ?k3 ?k4 ?_; (case k1 => k_asm); (case k2 => k_mem); (case k3 => rfl); (case k4 => first | omega | (simp only [List.length_append, List.length_cons, List.length_nil, List.length_set]; omega))); k_whole))

section
variable {prog : Program} {w : World} {A : Around} {E : Value → Shared → Prop} {s : Shared} {h₀ : Heap} {L a : Addr} {m : Str → Option Value} {news : List (Addr × Obj)}

theorem isList_news {items : List Value} {n : Nat} (N : News h₀ L s.heap news) (hm : (a, W.listOf items.toArray n) ∈ news) : s.heap.IsList a items.toArray :=
  ⟨_, (N _ hm).1, rfl, n, rfl⟩

theorem item_at {value slice : PySem.Expr} {items : List Value} {n : Nat} {k : Int} {u : Tok} {v : Value} {Q : Value → Shared → Prop}
    (N : News h₀ L s.heap news) (hm : (a, W.listOf items.toArray n) ∈ news) (h0 : 0 ≤ k) (hhi : k < 2 ^ 63) (hx : items[k.toNat]? = some v) (h : Q v s)
    (hs : subscripted slice false (.ref a) (.int k u) = operate [.ref a, .int k u] (getItem (.ref a) (.int k u)) := by with_unfolding_all rfl) :
    wpAny (model prog w) A (subscriptTail value slice (.ref a) (.int k u)) Q E s :=
  have hl := isList_news N hm
  tail_any hl.typeIs slot_list_getitem.lookup (wpAny_getItem_list hl h0 hhi (by simpa using hx) h) hs

theorem item_int {value slice : PySem.Expr} {items : List Value} {n : Nat} {k : Int} {u : Tok} {Q : Value → Shared → Prop}
    (N : News h₀ L s.heap news) (hm : (a, W.listOf items.toArray n) ∈ news) (h0 : 0 ≤ k) (hlt : k < (items.length : Int)) (hl : items.length < 10000) (h : Q (items.getD k.toNat .none) s)
    (hs : subscripted slice false (.ref a) (.int k u) = operate [.ref a, .int k u] (getItem (.ref a) (.int k u)) := by with_unfolding_all rfl) :
    wpAny (model prog w) A (subscriptTail value slice (.ref a) (.int k u)) Q E s :=
  item_at N hm h0 (by omega) (by have : k.toNat < items.length := by omega
                                 simp [List.getD, this]) h hs

/-- a list of the ledger's head, one item stored -/
theorem set_at {items : List Value} {n : Nat} {k : Int} {u : Tok} {v : Value} {Q : Unit → Shared → Prop} (F : Fr h₀ L s.heap m)
    (N : News h₀ L s.heap ((a, W.listOf items.toArray n) :: news)) (hne : ∀ p ∈ news, p.1 ≠ a) (h0 : 0 ≤ k) (hhi : k < 2 ^ 63) (hn : k < items.length)
    (hQ : ∀ h', Fr h₀ L h' m → News h₀ L h' ((a, W.listOf (items.set k.toNat v).toArray n) :: news) → Q () { s with heap := h' }) :
    wpAny (model prog w) A (setItem (.ref a) (.int k u) v) Q E s := by
  have ha := N _ (List.Mem.head _)
  have hl : s.heap.IsList a items.toArray := ⟨_, ha.1, rfl, n, rfl⟩
  have ho := ha.1
  unfold setItem
  try with_reducible refine wpAny_holding ?_
  first | refine wpAny_bind (wpAny_pure ?_) | skip
  refine wpAny_bind (wpAny_sequenceKey hl.typeIs (by decide) ?_)
  refine wpAny_bind (wpAny_callSpecial?_slot (name := Str.ofString "__setitem__") hl.typeIs slot_list_setitem
    (wpAny_call_entry slot_list_setitem hl.typeIs entry_list_setitem ?_ (args_list_setitem _ _ _)))
  show wpAny _ _ (Builtin.List.listSubscript? (.int k u) >>= _) _ _ s
  refine wpAny_bind (wpAny_listSubscript_int (fitsIndex_of h0 hhi) ?_)
  clear hhi
  obtain ⟨j, rfl⟩ := Int.eq_ofNat_of_zero_le h0
  have hj : j < items.length := by omega
  have hx' : items.toArray[j]? = some items[j] := by simp [hj]
  show wpAny _ _ ((seqItemAt a j >>= fun r => pure (r.map (j, ·))) >>= _) _ _ s
  refine wpAny_bind (wpAny_bind (wpAny_seqItemAt ho rfl (wpAny_pure ?_)))
  rw [hx']
  show wpAny _ _ (setSeqItemAt a j v >>= _) _ _ s
  have hup := Upd.head (o := W.listOf items.toArray n) (o' := W.listOf (items.set j v).toArray n) hne
  have e1 : Obj.mapSeq (·.setIfInBounds j v) (W.listOf items.toArray n) = W.listOf (items.set j v).toArray n := by
    simp [Obj.mapSeq, W.listOf]
  have FN := news_upd (pre := []) (post := news) (d := a) (f := Obj.mapSeq (·.setIfInBounds j v)) F N (fun _ h => nomatch h) hne e1 rfl
  refine wpAny_bind (wpAny_setSeqItemAt ho rfl ?_)
  have fin := hQ _ FN.1 FN.2
  first
    | exact wpAny_bind (wpAny_pure (wpAny_pure ⟨.none, rfl, wpAny_pure fin⟩))
    | exact wpAny_pure ⟨.none, rfl, wpAny_pure fin⟩

theorem append_h {items : List Value} {n : Nat} {x : Value} {Q : Value → Shared → Prop} (F : Fr h₀ L s.heap m) (N : News h₀ L s.heap ((a, W.listOf items.toArray n) :: news)) (hne : ∀ p ∈ news, p.1 ≠ a) (hl : items.length < 10000)
    (h : ∀ h', Fr h₀ L h' m → News h₀ L h' ((a, W.listOf (items ++ [x]).toArray (n + 1)) :: news) → Q .none { s with heap := h' }) : wpAny (model prog w) A (call (.builtin "list.append") [.ref a, x]) Q E s :=
  append_K F N (Upd.head hne) (fun h' F' N' => h h' F' (by rwa [List.push_toArray] at N')) (by rw [List.size_toArray, sizeLine_eq]; omega)

theorem kl_last_snoc (p : List Value) (y : Value) : kl_last (p ++ [y]) = some (p, y) := by
  induction p with
  | nil => rfl
  | cons a r ih =>
    rw [List.cons_append, kl_last, ih]

theorem pop_h {items : List Value} {n : Nat} {x : Value} {Q : Value → Shared → Prop} (F : Fr h₀ L s.heap m) (N : News h₀ L s.heap ((a, W.listOf (items ++ [x]).toArray n) :: news)) (hne : ∀ p ∈ news, p.1 ≠ a) (hl : items.length < 10000)
    (h : ∀ h', Fr h₀ L h' m → News h₀ L h' ((a, W.listOf items.toArray (n + 1)) :: news) → Q x { s with heap := h' }) : wpAny (model prog w) A (call (.builtin "list.pop") [.ref a]) Q E s :=
  kl_pop F N (kl_last_snoc items x) (Upd.head hne) (by rw [sizeLine_eq]; simp only [List.length_append, List.length_cons, List.length_nil]; omega) h
end
local macro_rules | `(tactic| walk_at "call builtin:list.append") => `(tactic| refine Stop.mk ?_)
local macro_rules | `(tactic| walk_at "call builtin:list.append") => `(tactic| ((with_reducible show wpAny _ _ (call (Value.builtin "list.append") [Value.ref _, _]) _ _ _); k_dflt (refine' append_h ?k1 ?k2 ?k3 ?k4 ?_; (case k1 => k_asm); (case k2 => k_asm); (case k3 => assumption); (case k4 => omega)); k_whole; intro h' F' N'; (try k_sweep)))
local macro_rules | `(tactic| walk_at "call builtin:list.pop") => `(tactic| (dsimp only; k_dflt (refine' pop_h ?k1 ?k2 ?k3 ?k4 ?_; (case k1 => k_asm); (case k2 => k_asm); (case k3 => assumption); (case k4 => omega)); k_whole; intro h' F' N'; (try k_sweep)))
local macro_rules | `(tactic| walk_at "subscriptTail Name Name ref int") => `(tactic| refine Stop.mk ?_)
local macro_rules | `(tactic| walk_at "subscriptTail Name Name ref int") => `(tactic| ((with_reducible show wpAny _ _ (subscriptTail _ _ (Value.ref _) (Value.int _ _)) _ _ _); k_dflt (refine' item_tupleT ?kT ?klo ?khi ?kj ?kx ?_ ?ks; (case kT => exact News.isTup (by k_asm) (by k_mem)); (case klo => decide); (case khi => decide); (case kj => exact rfl); (case kx => exact rfl); (case ks => with_unfolding_all rfl)); k_whole))
local macro_rules | `(tactic| walk_at "subscriptTail Name Name ref int") => `(tactic| ((with_reducible show wpAny _ _ (subscriptTail _ _ (Value.ref _) (Value.int _ _)) _ _ _); k_dflt (refine' item_int ?k1 ?k2 ?k3 ?k4 ?k5 ?_ ?k6; (case k1 => k_asm); (case k2 => k_mem); (case k3 => omega); (case k4 => first | omega | (simp only [List.length_append, List.length_cons, List.length_nil, List.length_set]; omega)); (case k5 => first | omega | (simp only [List.length_append, List.length_cons, List.length_nil, List.length_set]; omega)); (case k6 => with_unfolding_all rfl)); k_whole))
local macro_rules | `(tactic| walk_at "subscriptTail Name Constant ref int") => `(tactic| refine Stop.mk ?_)
local macro_rules | `(tactic| walk_at "subscriptTail Name Constant ref int") => `(tactic| ((with_reducible show wpAny _ _ (subscriptTail _ _ (Value.ref _) (Value.int _ _)) _ _ _); k_dflt (refine' item_tupleT ?kT ?klo ?khi ?kj ?kx ?_ ?ks; (case kT => exact News.isTup (by k_asm) (by k_mem)); (case klo => decide); (case khi => decide); (case kj => exact rfl); (case kx => exact rfl); (case ks => with_unfolding_all rfl)); k_whole))
local macro_rules | `(tactic| walk_at "subscriptTail Name Constant ref int") => `(tactic| ((with_reducible show wpAny _ _ (subscriptTail _ _ (Value.ref _) (Value.int _ _)) _ _ _); k_dflt (refine' item_int ?k1 ?k2 ?k3 ?k4 ?k5 ?_ ?k6; (case k1 => k_asm); (case k2 => k_mem); (case k3 => omega); (case k4 => first | omega | (simp only [List.length_append, List.length_cons, List.length_nil, List.length_set]; omega)); (case k5 => first | omega | (simp only [List.length_append, List.length_cons, List.length_nil, List.length_set]; omega)); (case k6 => with_unfolding_all rfl)); k_whole))
local macro_rules | `(tactic| walk_at "subscriptTail Subscript Constant int") => `(tactic| refine Stop.mk ?_)
local macro_rules | `(tactic| walk_at "subscriptTail Subscript Constant ref int") => `(tactic| refine Stop.mk ?_)
local macro_rules | `(tactic| walk_at "subscriptTail Subscript Constant ref int") => `(tactic| ((with_reducible show wpAny _ _ (subscriptTail _ _ (Value.ref _) (Value.int _ _)) _ _ _); k_dflt (refine' item_tupleT ?kT ?klo ?khi ?kj ?kx ?_ ?ks; (case kT => exact News.isTup (by k_asm) (by k_mem)); (case klo => decide); (case khi => decide); (case kj => exact rfl); (case kx => exact rfl); (case ks => with_unfolding_all rfl)); k_whole))
local macro_rules | `(tactic| walk_at "setItem ref int") => `(tactic| refine Stop.mk ?_)
local macro_rules | `(tactic| walk_at "setItem ref int") => `(tactic| ((with_reducible show wpAny _ _ (setItem (Value.ref _) (Value.int _ _) _) _ _ _); k_dflt (refine' set_at ?k1 ?k2 ?k3 ?k4 ?k5 ?k6 ?_; (case k1 => k_asm); (case k2 => k_asm); (case k3 => assumption); (case k4 => omega); (case k5 => omega); (case k6 => first | omega | (simp only [List.length_append, List.length_cons, List.length_nil, List.length_set]; omega))); k_whole; intro h' F' N'; (try k_sweep)))
local macro_rules | `(tactic| walk_at "compareOp Lt") => `(tactic| refine Stop.mk ?_)

/-! part T1 -/
theorem fresh_T1 : True := by w_top off; trivial
def sd (key : Value → Nat) (x : Value) (start : Nat) (l : List Value) (p : Nat) : List Value :=
  if start < p then
    if key x < key (l.getD ((p - 1) / 2) .none) then sd key x start (l.set p (l.getD ((p - 1) / 2) .none)) ((p - 1) / 2) else l.set p x
  else l.set p x
termination_by p
decreasing_by omega

theorem getD_of_lt {l : List Value} {i : Nat} (h : i < l.length) : l.getD i .none = l[i] := by simp [List.getD, h]

theorem getD_mem {l : List Value} {i : Nat} (h : i < l.length) : l.getD i .none ∈ l := by rw [getD_of_lt h]; exact List.getElem_mem _

theorem siftdown_K : ∀ (w : World) (A : Around) (h₀ : Heap) (L : Addr) (m : Str → Option Value) (s : Shared) (d : Nat)
   (a : Addr) (items : List Value) (n : Nat) (news : List (Addr × Obj)) (start pos : Nat) (t1 t2 : Tok) (E : Value → Shared → Prop) (key : Value → Nat),
   Cx w A h₀ L (d + 1) → Fr h₀ L s.heap m → pos < items.length → items.length < 100 → (∀ p ∈ news, p.1 ≠ a) → CmpOk w key news items → News h₀ L s.heap ((a, W.listOf items.toArray n) :: news) →
   wpAny (model Challenge.rw_qu0027_01.row.prog w) A (call (.ref 42) [.ref a, .int start t1, .int pos t2] []) 
    (Got s h₀ L m fun v news' => v = .none ∧ news' = (a, W.listOf (sd key (items.getD pos .none) start items pos).toArray n) :: news) E s := by
  unfold Cx
  k_fill
  rintro w A h₀ L m s d a items n news start pos t1 t2 E key ⟨s₀, mg, mb, A₀, env, outer, base, KX, T, B, hA, hf, hke, hdp, hu, hh⟩ F hlt hl hne hc N
  have hx0 := getD_of_lt hlt
  walk_at "enter"
  intro g' L' h' FG' F' N' B' X' T'
  walk_at "entered"
  intro C' hu' hh'
  (try dsimp only); (try k_lift B'); (try k_fold)
  k_steps
  refine Stop.go ?_
  rename Fr g' L' _ _ => F1
  rename News g' L' _ _ => N1
  obtain ⟨x, hx⟩ : ∃ x, x = items.getD pos .none := ⟨_, rfl⟩
  have hxm : x ∈ items := by rw [hx, hx0]; exact List.getElem_mem _
  rw [show ((pos : Int)).toNat = pos from rfl, ← hx] at F1
  refine while_K (σ := List Value × Nat) (fun c m₁ nx => (∃ t t', Has m₁ [(Str.ofString "heap", .ref a), (Str.ofString "startpos", .int start t'), (Str.ofString "pos", .int c.2 t), (Str.ofString "newitem", x)]) ∧ nx = (a, W.listOf c.1.toArray n) :: news ∧
      c.1.length = items.length ∧ c.2 < items.length ∧ (∀ y ∈ c.1, y ∈ items) ∧ sd key x start c.1 c.2 = sd key x start items pos)
    (fun c => c.2) (items, pos) F1 N1 ⟨⟨_, _, all4 rfl rfl rfl rfl⟩, rfl, rfl, hlt, fun _ h => h, rfl⟩ ?_
  · rintro ⟨l, p⟩ m₁ nx h tk ⟨⟨t, t', hm⟩, rfl, hlen, hp, hsub, hsd⟩ F2 N2
    replace F2 := hm.fr F2
    dsimp only at hlen hp hsub hsd N2 F2
    clear F1 N1 hm
    simp only [kstB] at F2
    have e : ((p : Int) - 1).fdiv (2 ^ Int.toNat 1) = ((p : Int) - 1) / 2 := Int.fdiv_eq_ediv_of_nonneg _ (by decide)
    k_steps
    · have hsp : start < p := by omega
      have e' : ((p : Int) - 1).fdiv (2 ^ Int.toNat 1) = (((p - 1) / 2 : Nat) : Int) := by rw [e]; omega
      have hq : (p - 1) / 2 < l.length := by omega
      refine Stop.go ?_
      rename Fr g' L' _ _ => F3
      rename News g' L' _ _ => N3
      rw [e', show ((((p - 1) / 2 : Nat) : Int)).toNat = (p - 1) / 2 from rfl] at F3
      rw [e', show ((((p - 1) / 2 : Nat) : Int)).toNat = (p - 1) / 2 from rfl]
      refine hc _ hxm _ (hsub _ (getD_mem hq)) _ _ _ _ hu' (none_of X' F3) (fun p hp => (N3 p (List.Mem.tail _ hp)).1) ?_
      k_steps
      · rename Fr g' L' _ _ => F6
        rename News g' L' _ _ => N6
        refine Stop.go (WEnd.mk (l.set p (l.getD ((p - 1) / 2) .none), (p - 1) / 2) F6 N6 (by dsimp only; omega) ⟨⟨_, _, all4 rfl rfl rfl rfl⟩, rfl, ?_⟩)
        dsimp only
        refine ⟨by simpa using hlen, by omega, fun y hy => ?_, ?_⟩
        · rcases List.mem_or_eq_of_mem_set hy with h | h
          · exact hsub y h
          · exact h ▸ hsub _ (getD_mem hq)
        · rw [← hsd, sd.eq_def key x start l p, if_pos hsp, if_pos (by assumption)]
      · refine Stop.go ?_
        rename Fr h₀ L _ _ => F6
        rename News h₀ L _ _ => N6
        refine Got.mk F6 N6 ⟨rfl, ?_⟩
        rw [← hx, ← hsd, sd, if_pos hsp, if_neg (by assumption)]; rfl
    · refine Stop.go ?_
      rename Fr h₀ L _ _ => F6
      rename News h₀ L _ _ => N6
      refine Got.mk F6 N6 ⟨rfl, ?_⟩
      rw [← hx, ← hsd, sd, if_neg (by omega)]; rfl

/-! part T2 -/
theorem fresh_T2 : True := by w_top off; trivial
def suLoop (key : Value → Nat) (l : List Value) (p : Nat) : List Value × Nat :=
  if 2 * p + 1 < l.length then
    if 2 * p + 2 < l.length ∧ ¬ key (l.getD (2 * p + 1) .none) < key (l.getD (2 * p + 2) .none) then suLoop key (l.set p (l.getD (2 * p + 2) .none)) (2 * p + 2)
    else suLoop key (l.set p (l.getD (2 * p + 1) .none)) (2 * p + 1)
  else (l, p)
termination_by l.length - p
decreasing_by all_goals (simp only [List.length_set]; omega)

def su (key : Value → Nat) (l : List Value) (pos : Nat) : List Value :=
  sd key (l.getD pos .none) pos ((suLoop key l pos).1.set (suLoop key l pos).2 (l.getD pos .none)) (suLoop key l pos).2

theorem siftup_K : ∀ (w : World) (A : Around) (h₀ : Heap) (L : Addr) (m : Str → Option Value) (s : Shared) (d : Nat)
   (a : Addr) (items : List Value) (n : Nat) (news : List (Addr × Obj)) (pos : Nat) (t1 : Tok) (E : Value → Shared → Prop) (key : Value → Nat),
   Cx w A h₀ L (d + 2) → Fr h₀ L s.heap m → pos < items.length → items.length < 100 → (∀ p ∈ news, p.1 ≠ a) → CmpOk w key news items → News h₀ L s.heap ((a, W.listOf items.toArray n) :: news) →
   wpAny (model Challenge.rw_qu0027_01.row.prog w) A (call (.ref 49) [.ref a, .int pos t1] []) 
    (Got s h₀ L m fun v news' => v = .none ∧ news' = (a, W.listOf (su key items pos).toArray n) :: news) E s := by
  unfold Cx
  k_fill
  rintro w A h₀ L m s d a items n news pos t1 E key ⟨s₀, mg, mb, A₀, env, outer, base, KX, T, B, hA, hf, hke, hdp, hu, hh⟩ F hlt hl hne hc N
  have hx0 := getD_of_lt hlt
  walk_at "enter"
  intro g' L' h' FG' F' N' B' X' T'
  walk_at "entered"
  intro C' hu' hh'
  (try dsimp only); (try k_lift B'); (try k_fold)
  k_steps
  refine Stop.go ?_
  rename Fr g' L' _ _ => F1
  rename News g' L' _ _ => N1
  obtain ⟨x, hx⟩ : ∃ x, x = items.getD pos .none := ⟨_, rfl⟩
  have hxm : x ∈ items := by rw [hx, hx0]; exact List.getElem_mem _
  rw [show ((pos : Int)).toNat = pos from rfl, ← hx] at F1
  refine while_K (σ := List Value × Nat) (fun c m₁ nx => (∃ t t' t'' t3, Has m₁ [(Str.ofString "heap", .ref a), (Str.ofString "startpos", .int pos t'), (Str.ofString "pos", .int c.2 t), (Str.ofString "newitem", x), (Str.ofString "childpos", .int (2 * (c.2 : Int) + 1) t''), (Str.ofString "endpos", .int (items.length : Int) t3)]) ∧ nx = (a, W.listOf c.1.toArray n) :: news ∧
      c.1.length = items.length ∧ c.2 < items.length ∧ (∀ y ∈ c.1, y ∈ items) ∧ suLoop key c.1 c.2 = suLoop key items pos)
    (fun c => items.length - c.2) (items, pos) F1 N1 ⟨⟨_, _, _, _, all6 rfl rfl rfl rfl rfl rfl⟩, rfl, rfl, hlt, fun _ h => h, rfl⟩ ?_
  · rintro ⟨l, p⟩ m₁ nx h tk ⟨⟨t, t', t'', t3, hm⟩, rfl, hlen, hp, hsub, hsu⟩ F2 N2
    replace F2 := hm.fr F2
    dsimp only at hlen hp hsub hsu N2 F2
    clear F1 N1 hm
    simp only [kstB] at F2
    k_steps
    · have e1 : (2 * (p : Int) + 1).toNat = 2 * p + 1 := by omega
      have e2 : (2 * (p : Int) + 1 + 1).toNat = 2 * p + 2 := by omega
      have h1 : 2 * p + 1 < l.length := by omega
      have h2 : 2 * p + 2 < l.length := by omega
      rw [e1, e2]
      refine Stop.go ?_
      rename Fr g' L' _ _ => F4
      rename News g' L' _ _ => N4
      refine hc _ (hsub _ (getD_mem h1)) _ (hsub _ (getD_mem h2)) _ _ _ _ hu' (none_of X' F4) (fun p hp => (N4 p (List.Mem.tail _ hp)).1) ?_
      k_steps
      · rename Fr g' L' _ _ => F6
        rename News g' L' _ _ => N6
        refine Stop.go (WEnd.mk (l.set p (l.getD (2 * p + 1) .none), 2 * p + 1) F6 N6 (by dsimp only; omega) ⟨⟨_, _, _, _, all6 rfl rfl rfl rfl rfl rfl⟩, by rw [e1]; rfl, ?_⟩)
        dsimp only
        refine ⟨by simpa using hlen, by omega, fun y hy => ?_, ?_⟩
        · rcases List.mem_or_eq_of_mem_set hy with h | h
          · exact hsub y h
          · exact h ▸ hsub _ (getD_mem h1)
        · rw [← hsu, suLoop.eq_def key l p, if_pos h1, if_neg (fun h => h.2 (by assumption))]
      · rename Fr g' L' _ _ => F6
        rename News g' L' _ _ => N6
        rw [e2] at N6
        rw [show (2 * (p : Int) + 1 + 1) = ((2 * p + 2 : Nat) : Int) by omega] at F6
        refine Stop.go (WEnd.mk (l.set p (l.getD (2 * p + 2) .none), 2 * p + 2) F6 N6 (by dsimp only; omega) ⟨⟨_, _, _, _, all6 rfl rfl rfl rfl rfl rfl⟩, rfl, ?_⟩)
        dsimp only
        refine ⟨by simpa using hlen, by omega, fun y hy => ?_, ?_⟩
        · rcases List.mem_or_eq_of_mem_set hy with h | h
          · exact hsub y h
          · exact h ▸ hsub _ (getD_mem h2)
        · rw [← hsu, suLoop.eq_def key l p, if_pos h1, if_pos ⟨h2, by assumption⟩]
    · rename Fr g' L' _ _ => F6
      rename News g' L' _ _ => N6
      have e1 : (2 * (p : Int) + 1).toNat = 2 * p + 1 := by omega
      have h1 : 2 * p + 1 < l.length := by omega
      refine Stop.go (WEnd.mk (l.set p (l.getD (2 * p + 1) .none), 2 * p + 1) F6 N6 (by dsimp only; omega) ⟨⟨_, _, _, _, all6 rfl rfl rfl rfl rfl rfl⟩, by rw [e1]; rfl, ?_⟩)
      dsimp only
      refine ⟨by simpa using hlen, by omega, fun y hy => ?_, ?_⟩
      · rcases List.mem_or_eq_of_mem_set hy with h | h
        · exact hsub y h
        · exact h ▸ hsub _ (getD_mem h1)
      · rw [← hsu, suLoop.eq_def key l p, if_pos h1, if_neg (by omega)]
    · refine Stop.go ?_
      rename Fr g' L' _ _ => F6
      rename News g' L' _ _ => N6
      have hsub' : ∀ y ∈ l.set p x, y ∈ items := fun y hy => by
        rcases List.mem_or_eq_of_mem_set hy with h | h
        · exact hsub y h
        · exact h ▸ hxm
      refine wpAny_mono (siftdown_K w _ _ _ _ _ d a (l.set p x) n news pos p _ _ _ key C' F6 (by simp only [List.length_set]; omega) (by simp only [List.length_set]; omega) hne (hc.sub hsub') N6) ?_ (fun _ _ x => x)
      rintro v s' ⟨h7, tk7, news7, rfl, F7, N7, rfl, rfl⟩
      clear F6 N6
      k_steps
      refine Stop.go ?_
      rename Fr h₀ L _ _ => F8
      rename News h₀ L _ _ => N8
      refine Got.mk F8 N8 ⟨rfl, ?_⟩
      have hx9 : (l.set p x).getD p .none = x := by
        rw [getD_of_lt (by simp only [List.length_set]; omega)]; simp
      have hs9 : suLoop key items pos = (l, p) := by rw [← hsu, suLoop.eq_def, if_neg (by omega)]
      rw [hx9, su, hs9, ← hx]

/-! part T3 -/
theorem fresh_T3 : True := by w_top off; trivial
def hpush (key : Value → Nat) (l : List Value) (x : Value) : List Value := sd key x 0 (l ++ [x]) l.length

theorem heappush_K : ∀ (w : World) (A : Around) (h₀ : Heap) (L : Addr) (m : Str → Option Value) (s : Shared) (d : Nat)
   (a : Addr) (items : List Value) (n : Nat) (x : Value) (news : List (Addr × Obj)) (E : Value → Shared → Prop) (key : Value → Nat),
   Cx w A h₀ L (d + 2) → Fr h₀ L s.heap m → items.length < 90 → (∀ p ∈ news, p.1 ≠ a) → CmpOk w key news (items ++ [x]) → News h₀ L s.heap ((a, W.listOf items.toArray n) :: news) →
   wpAny (model Challenge.rw_qu0027_01.row.prog w) A (call (.ref 21) [.ref a, x] []) 
    (Got s h₀ L m fun v news' => v = .none ∧ ∃ n', news' = (a, W.listOf (hpush key items x).toArray n') :: news) E s := by
  unfold Cx
  k_fill
  rintro w A h₀ L m s d a items n x news E key ⟨s₀, mg, mb, A₀, env, outer, base, KX, T, B, hA, hf, hke, hdp, hu, hh⟩ F hl hne hc N
  walk_at "enter"
  intro g' L' h' FG' F' N' B' X' T'
  walk_at "entered"
  intro C' hu' hh'
  (try dsimp only); (try k_lift B'); (try k_fold)
  k_steps
  refine Stop.go ?_
  rename Fr g' L' _ _ => F6
  rename News g' L' _ _ => N6
  have e : (((items ++ [x]).length : Nat) : Int) - 1 = ((items.length : Nat) : Int) := by simp only [List.length_append, List.length_cons, List.length_nil]; omega
  rw [e]
  have hlt : items.length < (items ++ [x]).length := by simp only [List.length_append, List.length_cons, List.length_nil]; omega
  refine wpAny_mono (siftdown_K w _ _ _ _ _ d a (items ++ [x]) (n + 1) news 0 items.length _ _ _ key C' F6 hlt (by simp only [List.length_append, List.length_cons, List.length_nil]; omega) hne hc N6) ?_ (fun _ _ x => x)
  rintro v s' ⟨h7, tk7, news7, rfl, F7, N7, rfl, rfl⟩
  clear F6 N6
  k_steps
  refine Stop.go ?_
  rename Fr h₀ L _ _ => F8
  rename News h₀ L _ _ => N8
  refine Got.mk F8 N8 ⟨rfl, n + 1, ?_⟩
  rw [getD_of_lt hlt, hpush]
  simp

def hpop (key : Value → Nat) (l : List Value) (x : Value) : Value × List Value :=
  match l with
  | [] => (x, [])
  | y :: r => (y, su key (x :: r) 0)

theorem heappop_K : ∀ (w : World) (A : Around) (h₀ : Heap) (L : Addr) (m : Str → Option Value) (s : Shared) (d : Nat)
   (a : Addr) (items : List Value) (n : Nat) (x : Value) (news : List (Addr × Obj)) (E : Value → Shared → Prop) (key : Value → Nat),
   Cx w A h₀ L (d + 3) → Fr h₀ L s.heap m → items.length < 90 → (∀ p ∈ news, p.1 ≠ a) → CmpOk w key news (items ++ [x]) → News h₀ L s.heap ((a, W.listOf (items ++ [x]).toArray n) :: news) →
   wpAny (model Challenge.rw_qu0027_01.row.prog w) A (call (.ref 28) [.ref a] []) 
    (Got s h₀ L m fun v news' => v = (hpop key items x).1 ∧ ∃ n', news' = (a, W.listOf (hpop key items x).2.toArray n') :: news) E s := by
  unfold Cx
  k_fill
  rintro w A h₀ L m s d a items n x news E key ⟨s₀, mg, mb, A₀, env, outer, base, KX, T, B, hA, hf, hke, hdp, hu, hh⟩ F hl hne hc N
  walk_at "enter"
  intro g' L' h' FG' F' N' B' X' T'
  walk_at "entered"
  intro C' hu' hh'
  (try dsimp only); (try k_lift B'); (try k_fold)
  k_steps
  · have hi : items = [] := List.isEmpty_iff.mp (by assumption)
    refine Stop.go ?_
    rename Fr h₀ L _ _ => F8
    rename News h₀ L _ _ => N8
    subst hi
    exact Got.mk F8 N8 ⟨rfl, _, rfl⟩
  · refine Stop.go ?_
    obtain ⟨y, r, rfl⟩ : ∃ y r, items = y :: r := by
      cases items with
      | nil => simp at *
      | cons y r => exact ⟨y, r, rfl⟩
    rename Fr g' L' _ _ => F6
    rename News g' L' _ _ => N6
    have hl2 : r.length < 89 := by simp only [List.length_cons] at hl; omega
    refine item_at N6 (List.Mem.head _) (by omega) (by omega) (v := y) rfl ?_
    k_steps
    refine Stop.go ?_
    rename Fr g' L' _ _ => F7
    rename News g' L' _ _ => N7
    have hs : ∀ z ∈ x :: r, z ∈ y :: r ++ [x] := fun z hz => by
      rcases List.mem_cons.mp hz with rfl | hz
      · simp
      · simp [hz]
    refine wpAny_mono (siftup_K w _ _ _ _ _ d a (x :: r) (n + 1) news 0 _ _ key C' F7 (by simp) (by simp only [List.length_cons]; omega) hne (hc.sub hs) N7) ?_ (fun _ _ x => x)
    rintro v s' ⟨h7, tk7, news7, rfl, F8, N8, rfl, rfl⟩
    clear F7 N7
    k_steps
    refine Stop.go ?_
    rename Fr h₀ L _ _ => F9
    rename News h₀ L _ _ => N9
    exact Got.mk F9 N9 ⟨rfl, _, rfl⟩

/-! part B2 -/
theorem fresh_B2 : True := by w_top off; trivial
/-- the end of a turn of a for: the iterator o at I stands as it stood -/
def FEnd (h₀ : Heap) (L : Addr) (s : Shared) (Jn : (Str → Option Value) → List (Addr × Obj) → Prop) (I : Addr) (o : Obj) (s' : Shared) : Prop :=
  ∃ h' tk m' news', s' = { s with heap := h', toks := tk } ∧ Fr h₀ L h' m' ∧ News h₀ L h' ((I, o) :: news') ∧ Jn m' news'
def FPost (h₀ : Heap) (L : Addr) (s : Shared) (Jn : (Str → Option Value) → List (Addr × Obj) → Prop) (I : Addr) (o : Obj) (Q : Flow → Shared → Prop) (f : Flow) (s' : Shared) : Prop :=
  match f with
  | .ret v => Q (.ret v) s'
  | .brk => Q .next s'
  | _ => FEnd h₀ L s Jn I o s'
theorem FEnd.mk {h₀ : Heap} {L : Addr} {s : Shared} {Jn : (Str → Option Value) → List (Addr × Obj) → Prop} {I : Addr} {o : Obj} {h' : Heap} {tk : Nat} {m' : Str → Option Value} {news' : List (Addr × Obj)}
    (F : Fr h₀ L h' m') (N : News h₀ L h' ((I, o) :: news')) (hJ : Jn m' news') : FEnd h₀ L s Jn I o { s with heap := h', toks := tk } := ⟨h', tk, m', news', rfl, F, N, hJ⟩

section
variable {prog : Program} {w : World} {A : Around} {E : Value → Shared → Prop} {s : Shared} {env : Env} {h₀ : Heap} {x : Str} {body : List Stmt} {Q : Flow → Shared → Prop}

theorem loop_K {I : Addr} {fp : List Addr} {n : Nat} {P : Nat → Value → Prop} {St : Nat → Heap → Prop} {m : Str → Option Value} {news kp : List (Addr × Obj)} {cl : Value}
    (J : Nat → (Str → Option Value) → List (Addr × Obj) → Prop)
    (W : Walks prog w A I fp [I] n P St) (hLf : env.locals ∉ fp) (hI0 : h₀.get? I = none)
    (hfp : ∀ b ∈ fp, b = I ∨ h₀.get? b ≠ none ∨ ∃ o, (b, o) ∈ kp)
    (hSt : ∀ i h, St i h → ∃ o, h.get? I = some o ∧ o.cls = cl ∧ ∀ v, o.data ≠ .cell v)
    (hcl : ∀ i m nx, J i m nx → (∀ p ∈ nx, NotIt cl p.2) ∧ ∀ p ∈ kp, p ∈ nx)
    (hst : St 0 s.heap) (F : Fr h₀ env.locals s.heap m) (N : News h₀ env.locals s.heap news) (hJ : J 0 m news)
    (turn : ∀ i v m₁ news₁ h tk o, i < n → P i v → J i m₁ news₁ → o.cls = cl → (∀ p ∈ news₁, p.1 ≠ I) → Fr h₀ env.locals h (fun y => if y = x then some v else m₁ y) → News h₀ env.locals h ((I, o) :: news₁) →
      wpAny (model prog w) A (execs body env) (FPost h₀ env.locals { s with heap := h, toks := tk } (J (i + 1)) I o Q) E { s with heap := h, toks := tk })
    (done : ∀ m₁ news₁ h tk, J n m₁ news₁ → Fr h₀ env.locals h m₁ → News h₀ env.locals h news₁ → Q .next { s with heap := h, toks := tk }) :
    LoopAtV prog w A h₀ env x body Q E (.ref I) s := by
  have off : ∀ {i : Nat} {m₁ : Str → Option Value} {nx : List (Addr × Obj)} {h : Heap} {o : Obj}, J i m₁ nx → News h₀ env.locals h nx → h.get? I = some o → (o.cls = cl ∧ ∀ v, o.data ≠ .cell v) → ∀ p ∈ nx, p.1 ≠ I := by
    intro i m₁ nx h o hj hN ho hc p hp e
    have h1 := (hN p hp).1
    rw [e, ho] at h1
    have q : o = p.2 := Option.some.inj h1
    exact ((hcl i m₁ nx hj).1 p hp).no (q ▸ hc.1) (q ▸ hc.2)
  obtain ⟨o₀, ho₀, hc₀⟩ := hSt _ _ hst
  refine ⟨I, fp, [I], n, P, St, m, news, J, rfl, W, hLf, ?_, ?_, hst, F, N, hJ, ?_, ?_⟩
  · intro b hb; rw [List.mem_singleton.mp hb]; exact hI0
  · intro p hp hb; exact off hJ N ho₀ hc₀ p hp (List.mem_singleton.mp hb)
  · rintro i v m₁ news₁ s₁ own ⟨h, tk, rfl⟩ hi hP hj hnw hown hown2 hmem hst₁ F₁ N₁
    obtain ⟨o, ho, hc⟩ := hSt _ _ hst₁
    have hIo : (I, o) ∈ own := hmem I (W.sub I (List.mem_singleton.mpr rfl)) hI0 o ho
    have N₂ : News h₀ env.locals h ((I, o) :: news₁) := fun p hp => by
      rcases List.mem_cons.mp hp with rfl | hp
      · exact N₁ _ (List.mem_append.mpr (.inl hIo))
      · exact N₁ _ (List.mem_append.mpr (.inr hp))
    have hn₁ : News h₀ env.locals h news₁ := fun p hp => N₂ p (.tail _ hp)
    refine wpAny_mono (turn i v m₁ news₁ h tk o hi hP hj hc.1 (off hj hn₁ ho hc) F₁ N₂) (fun f s₂ q => ?_) fun _ _ e => e
    have fin : FEnd h₀ env.locals { s with heap := h, toks := tk } (J (i + 1)) I o s₂ → LoopStepU h₀ env.locals [I] own (J (i + 1)) { s with heap := h, toks := tk } .next s₂ := by
      rintro ⟨h', tk', m', news', rfl, F', N', hj'⟩
      have N'' : News h₀ env.locals h' news' := fun p hp => N' p (.tail _ hp)
      refine ⟨rfl, h', tk', m', news', rfl, F', fun p hp => ?_, fun p hp hb => ?_, hj'⟩
      · rcases List.mem_append.mp hp with hp | hp
        · have hpo : p.2 = p.2 := rfl
          have hg := hown2 p hp
          rcases hfp p.1 (hown p hp) with e | e | ⟨o', e⟩
          · have : p = (I, o) := by
              obtain ⟨p1, p2⟩ := p
              cases e
              have := hg.symm.trans ho
              cases this; rfl
            rw [this]; exact N' _ (.head _)
          · exact absurd (N₁ p (List.mem_append.mpr (.inl hp))).2.2 e
          · have h1 := (hn₁ _ ((hcl _ _ _ hj).2 _ e)).1
            have : p = (p.1, o') := by
              obtain ⟨p1, p2⟩ := p
              have := hg.symm.trans h1
              cases this; rfl
            rw [this]; exact N'' _ ((hcl _ _ _ hj').2 _ e)
        · exact N'' p hp
      · exact off hj' N'' (N' _ (.head _)).1 hc p hp (List.mem_singleton.mp hb)
    cases f with
    | ret v => exact .ret q
    | brk => exact .brk q
    | next => exact .next (fin q)
    | cont => exact .cont (fin q)
  · rintro h' tk m' news' F' N' _ hj
    exact done m' news' h' tk hj F' N'

/-- a for over a list of the ledger -/
theorem iter_list_K {ax : Addr} {vs : List Value} {e : Nat} {m : Str → Option Value} {news : List (Addr × Obj)}
    (J : Nat → (Str → Option Value) → List (Addr × Obj) → Prop) (hh : A.handled = none)
    (F : Fr h₀ env.locals s.heap m) (N : News h₀ env.locals s.heap news) (hm : (ax, W.listOf vs.toArray e) ∈ news)
    (hcl : ∀ i m nx, J i m nx → (∀ p ∈ nx, NotIt (.type "list_iterator") p.2) ∧ (ax, W.listOf vs.toArray e) ∈ nx) (hJ : J 0 m news)
    (turn : ∀ i v m₁ news₁ h tk I o, vs[i]? = some v → J i m₁ news₁ → o.cls = .type "list_iterator" → (∀ p ∈ news₁, p.1 ≠ I) → Fr h₀ env.locals h (fun y => if y = x then some v else m₁ y) → News h₀ env.locals h ((I, o) :: news₁) →
      wpAny (model prog w) A (execs body env) (FPost h₀ env.locals { s with heap := h, toks := tk } (J (i + 1)) I o Q) E { s with heap := h, toks := tk })
    (done : ∀ m₁ news₁ h tk, J vs.length m₁ news₁ → Fr h₀ env.locals h m₁ → News h₀ env.locals h news₁ → Q .next { s with heap := h, toks := tk }) :
    wpAny (model prog w) A (pyIter (.ref ax)) (fun it s₂ => LoopAtV prog w A h₀ env x body Q E it s₂) E s := by
  have hax := N _ hm
  have hl : s.heap.IsList ax vs.toArray := ⟨_, hax.1, rfl, e, rfl⟩
  have hlt : ax < s.heap.objs.size := Heap.lt_size hax.1
  refine wpAny_pyIter_list hl ?_
  have WW := Walks.list (prog := prog) (w := w) hh s.heap.objs.size ax (Nat.ne_of_lt hlt) vs.toArray
  have hsz : vs.toArray.size = vs.length := List.size_toArray
  rw [hsz] at WW
  refine loop_K (kp := [(ax, W.listOf vs.toArray e)]) (cl := .type "list_iterator") (m := m) (news := news) J WW ?_ (next_is_new F) ?_ ?_ ?_ ⟨⟨_, Heap.get?_push_size _ rfl, rfl, rfl⟩, hl.at fun o e => Heap.get?_push_of_some _ e⟩ (F.push _)
    (fun p hp => ⟨Heap.get?_push_of_some _ (N p hp).1, (N p hp).2⟩) hJ ?_ ?_
  · intro hmm
    rcases List.mem_cons.mp hmm with e | hmm
    · exact absurd F.ns.lt (e ▸ Nat.lt_irrefl _)
    · exact hax.2.1 (List.mem_singleton.mp hmm).symm
  · intro b hb
    rcases List.mem_cons.mp hb with rfl | hb
    · exact .inl rfl
    · exact .inr (.inr ⟨_, by rw [List.mem_singleton.mp hb]; exact .head _⟩)
  · rintro i h ⟨⟨o, ho, hc, hd⟩, _⟩
    exact ⟨o, ho, hc, fun v e => by rw [hd] at e; cases e⟩
  · intro i m nx hj
    exact ⟨(hcl i m nx hj).1, all1 (hcl i m nx hj).2⟩
  · intro i v m₁ news₁ h tk o _ hP hj hc hoff F₁ N₁
    exact turn i v m₁ news₁ h tk _ o (by simpa using hP) hj hc hoff F₁ N₁
  · intro m₁ news₁ h tk hj F₁ N₁
    exact done m₁ news₁ h tk hj F₁ N₁

/-- a for over a range iterator of the ledger: a, a + c, .. (n of them) -/
theorem iter_rangeiter_K {I : Addr} {a₀ c : Int} {n : Nat} {m : Str → Option Value} {news : List (Addr × Obj)}
    (J : Nat → (Str → Option Value) → List (Addr × Obj) → Prop) (hh : A.handled = none)
    (F : Fr h₀ env.locals s.heap m) (N : News h₀ env.locals s.heap ((I, { cls := .type "range_iterator", data := .fields #[rawInt a₀, rawInt n, rawInt c] }) :: news))
    (hcl : ∀ i m nx, J i m nx → (∀ p ∈ nx, NotIt (.type "range_iterator") p.2)) (hJ : J 0 m news)
    (turn : ∀ i t m₁ news₁ h tk I o, i < n → J i m₁ news₁ → o.cls = .type "range_iterator" → (∀ p ∈ news₁, p.1 ≠ I) → Fr h₀ env.locals h (fun y => if y = x then some (.int (a₀ + i * c) t) else m₁ y) → News h₀ env.locals h ((I, o) :: news₁) →
      wpAny (model prog w) A (execs body env) (FPost h₀ env.locals { s with heap := h, toks := tk } (J (i + 1)) I o Q) E { s with heap := h, toks := tk })
    (done : ∀ m₁ news₁ h tk, J n m₁ news₁ → Fr h₀ env.locals h m₁ → News h₀ env.locals h news₁ → Q .next { s with heap := h, toks := tk }) :
    wpAny (model prog w) A (pyIter (.ref I)) (fun it s₂ => LoopAtV prog w A h₀ env x body Q E it s₂) E s := by
  have hI := N _ (.head _)
  have W := Walks.range (prog := prog) (w := w) hh I a₀ c n
  refine wpAny_pyIter_rangeiter (x := a₀) (left := n) (step := c) hI.1 ?_
  refine loop_K (kp := []) (cl := .type "range_iterator") (m := m) (news := news) J W ?_ hI.2.2 ?_ ?_ ?_ (by simpa using hI.1) F (fun p hp => N p (.tail _ hp)) hJ ?_ ?_
  · intro hmm; exact hI.2.1 (List.mem_singleton.mp hmm).symm
  · intro b hb; exact .inl (List.mem_singleton.mp hb)
  · intro i h st; exact ⟨_, st, rfl, fun v e => by cases e⟩
  · intro i m nx hj; exact ⟨hcl i m nx hj, fun _ h => nomatch h⟩
  · rintro i v m₁ news₁ h tk o hi ⟨t, rfl⟩ hj hc hoff F₁ N₁
    exact turn i t m₁ news₁ h tk I o hi hj hc hoff F₁ N₁
  · intro m₁ news₁ h tk hj F₁ N₁
    exact done m₁ news₁ h tk hj F₁ N₁

/-- a for over a range of the heap: 0, 1, .. -/
theorem iter_range_K {r : Addr} {b₀ : Int} {t₀ u₀ v₀ : Tok} {n : Nat} {m : Str → Option Value} {news : List (Addr × Obj)}
    (J : Nat → (Str → Option Value) → List (Addr × Obj) → Prop) (hh : A.handled = none)
    (F : Fr h₀ env.locals s.heap m) (N : News h₀ env.locals s.heap news) (hr : IsRange s.heap r 0 b₀ 1 t₀ u₀ v₀) (hn : b₀ = (n : Int)) (hlt : n < 10000)
    (hcl : ∀ i m nx, J i m nx → (∀ p ∈ nx, NotIt (.type "range_iterator") p.2)) (hJ : J 0 m news)
    (turn : ∀ (i : Nat) t m₁ news₁ h tk I o, i < n → J i m₁ news₁ → o.cls = .type "range_iterator" → (∀ p ∈ news₁, p.1 ≠ I) → Fr h₀ env.locals h (fun y => if y = x then some (.int (i : Int) t) else m₁ y) → News h₀ env.locals h ((I, o) :: news₁) →
      wpAny (model prog w) A (execs body env) (FPost h₀ env.locals { s with heap := h, toks := tk } (J (i + 1)) I o Q) E { s with heap := h, toks := tk })
    (done : ∀ m₁ news₁ h tk, J n m₁ news₁ → Fr h₀ env.locals h m₁ → News h₀ env.locals h news₁ → Q .next { s with heap := h, toks := tk }) :
    wpAny (model prog w) A (pyIter (.ref r)) (fun it s₂ => LoopAtV prog w A h₀ env x body Q E it s₂) E s := by
  subst hn
  have hsz : Builtin.Range.rangeSize 0 (n : Int) 1 = (n : Int) := by
    unfold Builtin.Range.rangeSize
    simp only [show ((1 : Int) > 0) from by decide, if_true]
    split <;> omega
  have hsm : Builtin.Range.small 0 (n : Int) 1 = true := small_one (by omega) (by omega) (by omega) (by omega)
  refine wpAny_pyIter_range hr hsm ?_
  rw [hsz]
  have W := Walks.range (prog := prog) (w := w) hh s.heap.objs.size 0 1 n
  refine loop_K (kp := []) (cl := .type "range_iterator") (m := m) (news := news) J W ?_ (next_is_new F) ?_ ?_ ?_ ?_ (F.push _) (fun p hp => ⟨Heap.get?_push_of_some _ (N p hp).1, (N p hp).2⟩) hJ ?_ ?_
  · intro hmm; exact absurd F.ns.lt ((List.mem_singleton.mp hmm) ▸ Nat.lt_irrefl _)
  · intro b hb; exact .inl (List.mem_singleton.mp hb)
  · intro i h st; exact ⟨_, st, rfl, fun v e => by cases e⟩
  · intro i m nx hj; exact ⟨hcl i m nx hj, fun _ h => nomatch h⟩
  · show IsRangeIter _ _ (0 + ((0 : Nat) : Int) * 1) ((n : Int) - ((0 : Nat) : Int)) _
    rw [show (0 : Int) + ((0 : Nat) : Int) * 1 = 0 by omega, show (n : Int) - ((0 : Nat) : Int) = n by omega]
    exact Heap.get?_push_size _ rfl
  · rintro i v m₁ news₁ h tk o hi ⟨t, rfl⟩ hj hc hoff F₁ N₁
    rw [show (0 : Int) + (i : Int) * 1 = (i : Int) by omega] at F₁
    exact turn i t m₁ news₁ h tk _ o hi hj hc hoff F₁ N₁
  · intro m₁ news₁ h tk hj F₁ N₁
    exact done m₁ news₁ h tk hj F₁ N₁

/-- reversed(range(n)) -/
theorem sub_ri_reversed : isSubtype (.type "range_iterator") (.type "reversed") = pure false := by rw [isSubtype_type]; kernel_rfl
abbrev revRange (n : Nat) : Obj := { cls := .type "range_iterator", data := .fields #[rawInt ((n : Int) - 1), rawInt n, rawInt (-1)] }
theorem call_range_reversed {r : Addr} {t₀ u₀ v₀ : Tok} {n : Nat} {Q : Value → Shared → Prop} (hr : IsRange s.heap r 0 (n : Int) 1 t₀ u₀ v₀) (hlt : n < 10000)
    (h : Q (.ref s.heap.objs.size) { s with heap := s.heap.push (revRange n) }) : wpAny (model prog w) A (call (.builtin "range.__reversed__") [.ref r]) Q E s := by
  have hT : s.TypeIs (.ref r) "range" := ⟨_, hr, rfl⟩
  have hsz : Builtin.Range.rangeSize 0 (n : Int) 1 = (n : Int) := by rw [rangeSize_one]; split <;> omega
  have hsm : (Builtin.Range.rangeFitsLong 0 && Builtin.Range.rangeFitsLong (n : Int) && Builtin.Range.rangeFitsLong 1 && Builtin.Range.rangeFitsLong (-1) && Builtin.Range.rangeFitsLong (0 - 1) && Builtin.Range.rangeFitsLong (n : Int)) = true := by
    have : Builtin.Range.rangeFitsLong (n : Int) = true := by
      unfold Builtin.Range.rangeFitsLong
      rw [Bool.and_eq_true, decide_eq_true_eq, decide_eq_true_eq]
      omega
    rw [this]; decide
  refine wpAny_call_entry F.slot_range_reversed hT F.entry_range_reversed ?_ (F.args_range_reversed_1 _)
  unfold Builtin.«range.__reversed__»
  refine wpAny_bind (wpAny_of_eq (a := Value.ref r) rfl ?_)
  have hf : wpAny (model prog w) A.in1 (Builtin.Range.rangeFields (.ref r)) (fun a s' => a = ((0 : Int), (n : Int), (1 : Int)) ∧ s' = s) E s := by
    unfold Builtin.Range.rangeFields
    refine wpAny_bind (wpAny_field hr rfl (x := .int 0 t₀) rfl ?_)
    refine wpAny_bind (wpAny_of_eq (a := some 0) rfl ?_)
    refine wpAny_bind (wpAny_field hr rfl (x := .int n u₀) rfl ?_)
    refine wpAny_bind (wpAny_of_eq (a := some (n : Int)) rfl ?_)
    refine wpAny_bind (wpAny_field hr rfl (x := .int 1 v₀) rfl ?_)
    refine wpAny_bind (wpAny_of_eq (a := some 1) rfl ?_)
    exact wpAny_pure ⟨rfl, rfl⟩
  refine wpAny_bind (wpAny_mono hf ?_ fun _ _ x => x)
  rintro _ _ ⟨rfl, rfl⟩
  dsimp only
  rw [hsz, hsm]
  simp only [Bool.not_true, Bool.false_eq_true, if_false, if_true]
  have e1 : (0 : Int) + ((n : Int) - 1) * 1 = (n : Int) - 1 := by omega
  rw [e1]
  first
  | exact wpAny_bind (wpAny_newObj_type (wpAny_pure ⟨_, rfl, h⟩))
  | exact wpAny_bind (wpAny_pure (wpAny_bind (wpAny_newObj_type (wpAny_pure ⟨_, rfl, h⟩))))

theorem code_reversed_range {r : Addr} {t₀ u₀ v₀ : Tok} {n : Nat} {Q₁ : Value → Shared → Prop} (hr : IsRange s.heap r 0 (n : Int) 1 t₀ u₀ v₀) (hlt : n < 10000)
    (h : Q₁ (.ref s.heap.objs.size) { s with heap := s.heap.push (revRange n) }) :
    codeAny (model prog w) A (.call (.builtin "reversed.__new__") ⟨[.type "reversed", .ref r], []⟩) (wants Q₁ E) s := by
  have hT : s.TypeIs (.ref r) "range" := ⟨_, hr, rfl⟩
  refine codeAny_of_tree ?_
  show wpAny _ A.in1 (do checkBuiltinCall "reversed.__new__" ⟨[.type "reversed", .ref r], []⟩; again (.builtin "reversed.__new__" ⟨[.type "reversed", .ref r], []⟩)) _ _ s
  refine wpAny_bind (wpAny_of_eq (F.newCall_reversed_1 _) (wpAny_pure ⟨plainId_quiet F.plain_reversed_new _, codeAny_builtin F.entry_reversed_new ?_⟩))
  rw [Around.under_plainId F.plain_reversed_new _]
  unfold Builtin.«reversed.__new__»
  refine wpAny_bind (wpAny_of_eq (newClass_reversed _) ?_)
  try dsimp only
  refine wpAny_bind (wpAny_of_eq (a := ()) (by first | rfl | kernel_rfl) ?_)
  refine wpAny_bind (wpAny_of_eq (a := ()) (by first | rfl | kernel_rfl) ?_)
  try dsimp only
  refine wpAny_bind (wpAny_specialOf hT F.slot_range_reversed.lookup ?_)
  try dsimp only
  refine wpAny_bind (wpAny_of_eq (F.slot_range_reversed.bind _) ?_)
  try dsimp only
  first
  | rw [if_neg (show ¬ ((Value.builtin "range.__reversed__" == Value.none) = true) from Bool.false_ne_true)]
  | (show wpAny _ _ (if (Value.builtin "range.__reversed__" == Value.none) = true then _ else _) _ _ _; rw [if_neg (show ¬ ((Value.builtin "range.__reversed__" == Value.none) = true) from Bool.false_ne_true)])
  refine wpAny_bind (wpAny_rule ?_)
  refine wpAny_bind (m := runValue (.call (.builtin "range.__reversed__") ⟨[.ref r], []⟩)) (show wpAny _ _ (call (.builtin "range.__reversed__") [.ref r]) _ _ _ from call_range_reversed hr hlt ?_)
  first
  | exact wpAny_pure h
  | exact wpAny_bind (wpAny_pure (wpAny_pure h))

theorem reversed_K {r L : Addr} {t₀ u₀ v₀ : Tok} {n : Nat} {m : Str → Option Value} {news : List (Addr × Obj)} {Q : Value → Shared → Prop} (Fr0 : Fr h₀ L s.heap m) (N : News h₀ L s.heap news) (hr : IsRange s.heap r 0 (n : Int) 1 t₀ u₀ v₀) (hlt : n < 10000)
    (h : ∀ D h', Fr h₀ L h' m → News h₀ L h' ((D, revRange n) :: news) → Q (.ref D) { s with heap := h' }) : wpAny (model prog w) A (call (.type "reversed") [.ref r]) Q E s := by
  refine callType_other (U := "range_iterator") (Q₁ := fun obj s₁ => obj = .ref s.heap.objs.size ∧ s₁ = { s with heap := s.heap.push (revRange n) }) (by decide +kernel) F.create_reversed ⟨_, _, F.mro_reversed⟩ F.made_reversed sub_ri_reversed (F.typeCall_reversed_1 _) (code_reversed_range hr hlt ⟨rfl, rfl⟩) ?_
  rintro obj s₁ ⟨rfl, rfl⟩
  exact ⟨⟨_, Heap.get?_push_size _ rfl, rfl⟩, h _ _ (Fr0.push _) (News.push Fr0 N _)⟩
end
local macro_rules | `(tactic| walk_at "FEnd") => `(tactic| refine Stop.mk ?_)
local macro_rules | `(tactic| walk_at "FPost") => `(tactic| dsimp only [FPost])
local macro_rules | `(tactic| walk_at "pyIter ref") => `(tactic| refine Stop.mk ?_)

/-! part T4 -/
theorem fresh_T4 : True := by w_top off; trivial
local macro_rules | `(tactic| walk_at "exec For Name Call cons nil") => `(tactic| refine Stop.mk ?_)

def hfy (key : Value → Nat) : Nat → List Value → List Value
  | 0, l => l
  | k + 1, l => hfy key k (su key l k)

theorem sd_length (key : Value → Nat) (x : Value) (start : Nat) (l : List Value) (p : Nat) : (sd key x start l p).length = l.length := by
  induction l, p using sd.induct key x start with
  | case1 l p h1 h2 ih => rw [sd, if_pos h1, if_pos h2, ih, List.length_set]
  | case2 l p h1 h2 => rw [sd, if_pos h1, if_neg h2, List.length_set]
  | case3 l p h1 => rw [sd, if_neg h1, List.length_set]
theorem sd_mem (key : Value → Nat) (x : Value) (start : Nat) (l : List Value) (p : Nat) : p < l.length → ∀ y ∈ sd key x start l p, y = x ∨ y ∈ l := by
  induction l, p using sd.induct key x start with
  | case1 l p h1 h2 ih =>
    intro hp y hy
    rw [sd, if_pos h1, if_pos h2] at hy
    rcases ih (by rw [List.length_set]; omega) y hy with h | h
    · exact .inl h
    · rcases List.mem_or_eq_of_mem_set h with h | h
      · exact .inr h
      · exact .inr (h ▸ getD_mem (by omega))
  | case2 l p h1 h2 =>
    intro hp y hy
    rw [sd, if_pos h1, if_neg h2] at hy
    exact (List.mem_or_eq_of_mem_set hy).symm
  | case3 l p h1 =>
    intro hp y hy
    rw [sd, if_neg h1] at hy
    exact (List.mem_or_eq_of_mem_set hy).symm
theorem suLoop_facts (key : Value → Nat) (l : List Value) (p : Nat) : p < l.length → (suLoop key l p).1.length = l.length ∧ (suLoop key l p).2 < l.length ∧ ∀ y ∈ (suLoop key l p).1, y ∈ l := by
  induction l, p using suLoop.induct key with
  | case1 l p h1 h2 ih =>
    intro hp
    rw [suLoop, if_pos h1, if_pos h2]
    obtain ⟨a, b, c⟩ := ih (by rw [List.length_set]; omega)
    rw [List.length_set] at a b
    refine ⟨a, b, fun y hy => ?_⟩
    rcases List.mem_or_eq_of_mem_set (c y hy) with h | h
    · exact h
    · exact h ▸ getD_mem (by omega)
  | case2 l p h1 h2 ih =>
    intro hp
    rw [suLoop, if_pos h1, if_neg h2]
    obtain ⟨a, b, c⟩ := ih (by rw [List.length_set]; omega)
    rw [List.length_set] at a b
    refine ⟨a, b, fun y hy => ?_⟩
    rcases List.mem_or_eq_of_mem_set (c y hy) with h | h
    · exact h
    · exact h ▸ getD_mem (by omega)
  | case3 l p h1 =>
    intro hp
    rw [suLoop, if_neg h1]
    exact ⟨rfl, hp, fun _ h => h⟩
theorem su_length {key : Value → Nat} {l : List Value} {p : Nat} (hp : p < l.length) : (su key l p).length = l.length := by
  rw [su, sd_length, List.length_set, (suLoop_facts key l p hp).1]
theorem su_mem {key : Value → Nat} {l : List Value} {p : Nat} (hp : p < l.length) : ∀ y ∈ su key l p, y ∈ l := by
  intro y hy
  obtain ⟨a, b, c⟩ := suLoop_facts key l p hp
  rcases sd_mem key _ _ _ _ (by rw [List.length_set]; omega) y hy with h | h
  · exact h ▸ getD_mem hp
  · rcases List.mem_or_eq_of_mem_set h with h | h
    · exact c y h
    · exact h ▸ getD_mem hp

theorem heapify_K : ∀ (w : World) (A : Around) (h₀ : Heap) (L : Addr) (m : Str → Option Value) (s : Shared) (d : Nat)
   (a : Addr) (items : List Value) (n : Nat) (news : List (Addr × Obj)) (E : Value → Shared → Prop) (key : Value → Nat),
   Cx w A h₀ L (d + 3) → Fr h₀ L s.heap m → items.length < 90 → (∀ p ∈ news, p.1 ≠ a) → (∀ p ∈ news, NotIt (.type "range_iterator") p.2) → CmpOk w key news items → News h₀ L s.heap ((a, W.listOf items.toArray n) :: news) →
   wpAny (model Challenge.rw_qu0027_01.row.prog w) A (call (.ref 35) [.ref a] []) 
    (Got s h₀ L m fun v news' => v = .none ∧ news' = (a, W.listOf (hfy key (items.length / 2) items).toArray n) :: news) E s := by
  unfold Cx
  k_fill
  rintro w A h₀ L m s d a items n news E key ⟨s₀, mg, mb, A₀, env, outer, base, KX, T, B, hA, hf, hke, hdp, hu, hh⟩ F hl hne hcls hc N
  walk_at "enter"
  intro g' L' h' FG' F' N' B' X' T'
  walk_at "entered"
  intro C' hu' hh'
  (try dsimp only); (try k_lift B'); (try k_fold)
  k_steps
  refine Stop.go ?_
  refine For_invV g' rfl rfl ?_
  k_steps
  rename IsRange _ _ _ _ _ _ _ _ => hR
  rename Fr g' L' _ _ => F1
  rename News g' L' _ _ => N1
  rw [show ((items.length : Int)).fdiv 2 = ((items.length / 2 : Nat) : Int) by rw [Int.fdiv_eq_ediv_of_nonneg _ (by decide)]; omega] at hR
  refine reversed_K F1 N1 hR (by omega) ?_
  intro D h2 F2 N2
  clear F1 N1 hR
  refine iter_rangeiter_K (fun i m₁ nx => Has m₁ [(Str.ofString "x", .ref a)] ∧ ∃ l, nx = (a, W.listOf l.toArray n) :: news ∧ l.length = items.length ∧ (∀ y ∈ l, y ∈ items) ∧ hfy key (items.length / 2 - i) l = hfy key (items.length / 2) items)
    hh' F2 N2 ?_ ⟨all1 rfl, items, rfl, rfl, fun _ h => h, rfl⟩ ?_ ?_
  · rintro i m₁ nx ⟨-, l, rfl, -⟩ p hp
    rcases List.mem_cons.mp hp with rfl | hp
    · exact .inl (show (Value.type "list") ≠ Value.type "range_iterator" by decide)
    · exact hcls p hp
  · rintro i t m₁ nx h tk I o hi ⟨hm, l, rfl, hlen, hsub, hfy9⟩ ho hoff F3 N3
    rw [show ((items.length / 2 : Nat) : Int) - 1 + i * -1 = ((items.length / 2 - 1 - i : Nat) : Int) by omega] at F3
    replace F3 := hm.fr1 F3
    simp only [kstB] at F3
    clear F2 N2
    k_steps
    refine Stop.go ?_
    have hna : ∀ p ∈ (I, o) :: news, p.1 ≠ a := fun p hp => by
      rcases List.mem_cons.mp hp with rfl | hp
      · exact fun e => hoff _ (.head _) e.symm
      · exact hne p hp
    refine wpAny_mono (siftup_K w _ _ _ _ _ d a l n ((I, o) :: news) (items.length / 2 - 1 - i) _ _ key C' F3 (by omega) (by omega) hna ((hc.sub hsub).more fun p hp => .tail _ hp) (newsSwap N3)) ?_ (fun _ _ x => x)
    rintro v s' ⟨h7, tk7, news7, rfl, F7, N7, rfl, rfl⟩
    clear F3 N3
    k_steps
    refine Stop.go (FEnd.mk F7 (newsSwap N7) ⟨all1 rfl, su key l (items.length / 2 - 1 - i), rfl, ?_, ?_, ?_⟩)
    · rw [su_length (by omega)]; exact hlen
    · exact fun y hy => hsub y (su_mem (by omega) y hy)
    · rw [← hfy9, show items.length / 2 - i = (items.length / 2 - 1 - i) + 1 by omega, hfy, show items.length / 2 - (i + 1) = items.length / 2 - 1 - i by omega]
  · rintro m₁ nx h tk ⟨hm, l, rfl, hlen, hsub, hfy9⟩ F3 N3
    clear F2 N2
    k_steps
    refine Stop.go ?_
    rename Fr h₀ L _ _ => F8
    rename News h₀ L _ _ => N8
    refine Got.mk F8 N8 ⟨rfl, ?_⟩
    rw [← hfy9, Nat.sub_self, hfy]

/-! part C1 -/
theorem fresh_C1 : True := by w_top off; trivial
theorem isub_fi {prog : Program} {w : World} {A : Around} {E : Value → Shared → Prop} {s : Shared} {a : UInt64} {t u : Tok} {n : Int} {Q : Value → Shared → Prop} (h0 : 0 ≤ n) (h6 : n < 6)
    (h : Q (.float (Float64.sub a (Float64.ofInt n)) s.toks) { s with toks := s.toks + 1 }) : wpAny (model prog w) A (binaryOp .Sub (.float a t) (.int n u)) Q E s := by
  refine AutoFloatOps.sub_fi_1 ?_ h
  have : n = 0 ∨ n = 1 ∨ n = 2 ∨ n = 3 ∨ n = 4 ∨ n = 5 := by omega
  rcases this with rfl | rfl | rfl | rfl | rfl | rfl <;> decide +kernel
theorem int_of_float {prog : Program} {w : World} {A : Around} {E : Value → Shared → Prop} {s : Shared} {x : UInt64} {u : Tok} {sg : Bool} {m : Nat} {e i : Int} {Q : Value → Shared → Prop} (hd : Float64.decode x = .fin sg m e ∧ Float64.truncOf sg m e = i) (h : Q (.int i s.toks) { s with toks := s.toks + 1 }) :
    wpAny (model prog w) A (call (.type "int") [.float x u]) Q E s := call_int_float hd.1 (by rw [hd.2]; exact h)

local macro_rules | `(tactic| walk_at "call type:int") => `(tactic| with_reducible refine int_of_float (by assumption) ?_)
local macro_rules | `(tactic| walk_at "binaryOp Sub float int") => `(tactic| (refine isub_fi (by assumption) (by assumption) ?_))

/-- a tuple of the ledger -/
abbrev tup (vs : List Value) : Obj := { cls := .type "tuple", data := .seq vs.toArray 0 }

/-- hsv_to_rgb, on the bits; i is the sextant -/
def hsvF (x y z : UInt64) (i : Int) : UInt64 × UInt64 × UInt64 :=
  let f := Float64.sub (Float64.mul x 4618441417868443648) (Float64.ofInt i)
  let p := Float64.mul z (Float64.sub 4607182418800017408 y)
  let q := Float64.mul z (Float64.sub 4607182418800017408 (Float64.mul y f))
  let t := Float64.mul z (Float64.sub 4607182418800017408 (Float64.mul y (Float64.sub 4607182418800017408 f)))
  if i = 0 then (z, t, p) else if i = 1 then (q, z, p) else if i = 2 then (p, z, t) else if i = 3 then (p, q, z) else if i = 4 then (t, p, z) else (z, p, q)

theorem hsv_K : ∀ (w : World) (A : Around) (h₀ : Heap) (L : Addr) (m : Str → Option Value) (s : Shared) (d : Nat) (x y z : UInt64) (t1 t2 t3 : Tok) (news : List (Addr × Obj)) (E : Value → Shared → Prop)
   (sg : Bool) (mm : Nat) (e i : Int), Float64.decode (Float64.mul x 4618441417868443648) = .fin sg mm e ∧ Float64.truncOf sg mm e = i → 0 ≤ i → i < 6 → (Float64.cmp y 0 == some Ordering.eq) = false → 
   Cx w A h₀ L (d + 1) → Fr h₀ L s.heap m → News h₀ L s.heap news →
   wpAny (model Challenge.rw_qu0027_01.row.prog w) A (call (.ref 63) [.float x t1, .float y t2, .float z t3] []) 
    (Got s h₀ L m fun v news' => ∃ D r g b u1 u2 u3, v = .ref D ∧ news' = (D, tup [.float r u1, .float g u2, .float b u3]) :: news ∧ (∀ p ∈ news, p.1 < D) ∧ hsvF x y z i = (r, g, b)) E s := by
  unfold Cx
  k_fill
  rintro w A h₀ L m s d x y z t1 t2 t3 news E sg mm e i hdec hi0 hi6 hy0 ⟨s₀, mg, mb, A₀, env, outer, base, KX, T, B, hA, hf, hke, hdp, hu, hh⟩ F N
  walk_at "enter"
  intro g' L' h' FG' F' N' B' X' T'
  walk_at "entered"
  intro C' hu' hh'
  (try dsimp only); (try k_lift B'); (try k_fold)
  have ei : i.fmod 6 = i := by rw [Int.fmod_eq_emod_of_nonneg _ (by decide)]; omega
  k_steps
  all_goals (refine Stop.go ?_; rename Fr h₀ L _ _ => F8; rename News h₀ L _ _ => N8; rw [ei] at *)
  all_goals first
    | (exfalso; omega)
    | (refine Got.mk F8 N8 ⟨_, _, _, _, _, _, _, rfl, rfl, by assumption, ?_⟩; subst_vars; rfl)

/-! part C2 -/
theorem fresh_C2 : True := by w_top off; trivial
def max2F (a b : UInt64) : UInt64 := if Float64.cmp b a == some .gt then b else a
def min2F (a b : UInt64) : UInt64 := if Float64.cmp b a == some .lt then b else a

section
variable {prog : Program} {w : World} {A : Around} {E : Value → Shared → Prop} {s : Shared} {a b c : UInt64} {t u x : Tok} {Q : Value → Shared → Prop}

theorem three_at {i : Nat} {v : Value} (h : (#[Value.float a t, Value.float b u, Value.float c x] : Array Value)[i]? = some v) : ∃ t', v = .float ([a, b, c].getD i 0) t' := by
  match i, h with
  | 0, h => exact ⟨t, by simpa using h.symm⟩
  | 1, h => exact ⟨u, by simpa using h.symm⟩
  | 2, h => exact ⟨x, by simpa using h.symm⟩
  | n + 3, h => simp at h

theorem max_floats (hh : A.handled = none)
    (h : ∀ h' tk t', (∀ d o, s.heap.get? d = some o → h'.get? d = some o) → Q (.float (max2F (max2F a b) c) t') { s with heap := h', toks := tk }) :
    wpAny (model prog w) A (call (.builtin "max") [.float a t, .float b u, .float c x]) Q E s := by
  have hT : (s.heap.push { cls := .type "tuple", data := .seq #[.float a t, .float b u, .float c x] }).IsTuple s.heap.objs.size #[.float a t, .float b u, .float c x] := ⟨_, Heap.get?_push_size _ rfl, rfl, 0, rfl⟩
  refine call_max_three (wpAny_pyIter_tuple hT ?_)
  have hsz : (s.heap.push { cls := .type "tuple", data := .seq #[.float a t, .float b u, .float c x] }).objs.size = s.heap.objs.size + 1 := Heap.size_push ..
  refine ⟨_, [_, s.heap.objs.size], [_], _, _, _, fun i j => Float64.cmp ([a, b, c].getD i 0) ([a, b, c].getD j 0) == some .gt, rfl, Walks.tuple (A := A.in1) hh _ s.heap.objs.size (by rw [hsz]; exact Nat.ne_of_lt (Nat.lt_succ_self _)) #[.float a t, .float b u, .float c x],
    ⟨⟨_, Heap.get?_push_size _ rfl, rfl, rfl⟩, hT.push _⟩, fun d hd => ?_, Nat.zero_lt_succ _, ?_, fun v h' tk hP hk => ?_⟩
  · show d < ((s.heap.push _).push _).objs.size
    rw [Heap.size_push, hsz]
    rcases List.mem_cons.mp hd with rfl | hd
    · rw [hsz]; exact Nat.lt_succ_self _
    · rcases List.mem_cons.mp hd with rfl | hd
      · exact Nat.lt_succ_of_lt (Nat.lt_succ_self _)
      · cases hd
  · intro i j vi vj s' Q' E' hi hj hq
    obtain ⟨ti, rfl⟩ := three_at hi
    obtain ⟨tj, rfl⟩ := three_at hj
    exact AutoFloatOps.gt_0 hq
  · have hold : ∀ d o, s.heap.get? d = some o → h'.get? d = some o := fun d o e => by
      refine hk d o (fun hm => ?_) (Heap.get?_push_of_some _ (Heap.get?_push_of_some _ e))
      rcases List.mem_cons.mp hm with e1 | hm
      · have := Heap.lt_size e; rw [e1, hsz] at this; exact Nat.lt_irrefl _ (Nat.lt_of_succ_lt this)
      · cases hm
    obtain ⟨t', rfl⟩ := three_at hP
    have e : [a, b, c].getD (argBest (fun i j => Float64.cmp ([a, b, c].getD i 0) ([a, b, c].getD j 0) == some .gt) 2) 0 = max2F (max2F a b) c := by
      simp only [argBest, max2F]
      by_cases h1 : (Float64.cmp b a == some Ordering.gt) = true
      · by_cases h2 : (Float64.cmp c b == some Ordering.gt) = true <;> simp [h1, h2]
      · by_cases h2 : (Float64.cmp c a == some Ordering.gt) = true <;> simp [h1, h2]
    show Q (.float ([a, b, c].getD (argBest _ 2) 0) t') _
    rw [e]
    exact h h' tk t' hold

theorem min_floats (hh : A.handled = none)
    (h : ∀ h' tk t', (∀ d o, s.heap.get? d = some o → h'.get? d = some o) → Q (.float (min2F (min2F a b) c) t') { s with heap := h', toks := tk }) :
    wpAny (model prog w) A (call (.builtin "min") [.float a t, .float b u, .float c x]) Q E s := by
  have hT : (s.heap.push { cls := .type "tuple", data := .seq #[.float a t, .float b u, .float c x] }).IsTuple s.heap.objs.size #[.float a t, .float b u, .float c x] := ⟨_, Heap.get?_push_size _ rfl, rfl, 0, rfl⟩
  refine call_min_three (wpAny_pyIter_tuple hT ?_)
  have hsz : (s.heap.push { cls := .type "tuple", data := .seq #[.float a t, .float b u, .float c x] }).objs.size = s.heap.objs.size + 1 := Heap.size_push ..
  refine ⟨_, [_, s.heap.objs.size], [_], _, _, _, fun i j => Float64.cmp ([a, b, c].getD i 0) ([a, b, c].getD j 0) == some .lt, rfl, Walks.tuple (A := A.in1) hh _ s.heap.objs.size (by rw [hsz]; exact Nat.ne_of_lt (Nat.lt_succ_self _)) #[.float a t, .float b u, .float c x],
    ⟨⟨_, Heap.get?_push_size _ rfl, rfl, rfl⟩, hT.push _⟩, fun d hd => ?_, Nat.zero_lt_succ _, ?_, fun v h' tk hP hk => ?_⟩
  · show d < ((s.heap.push _).push _).objs.size
    rw [Heap.size_push, hsz]
    rcases List.mem_cons.mp hd with rfl | hd
    · rw [hsz]; exact Nat.lt_succ_self _
    · rcases List.mem_cons.mp hd with rfl | hd
      · exact Nat.lt_succ_of_lt (Nat.lt_succ_self _)
      · cases hd
  · intro i j vi vj s' Q' E' hi hj hq
    obtain ⟨ti, rfl⟩ := three_at hi
    obtain ⟨tj, rfl⟩ := three_at hj
    exact AutoFloatOps.lt_0 hq
  · have hold : ∀ d o, s.heap.get? d = some o → h'.get? d = some o := fun d o e => by
      refine hk d o (fun hm => ?_) (Heap.get?_push_of_some _ (Heap.get?_push_of_some _ e))
      rcases List.mem_cons.mp hm with e1 | hm
      · have := Heap.lt_size e; rw [e1, hsz] at this; exact Nat.lt_irrefl _ (Nat.lt_of_succ_lt this)
      · cases hm
    obtain ⟨t', rfl⟩ := three_at hP
    have e : [a, b, c].getD (argBest (fun i j => Float64.cmp ([a, b, c].getD i 0) ([a, b, c].getD j 0) == some .lt) 2) 0 = min2F (min2F a b) c := by
      simp only [argBest, min2F]
      by_cases h1 : (Float64.cmp b a == some Ordering.lt) = true
      · by_cases h2 : (Float64.cmp c b == some Ordering.lt) = true <;> simp [h1, h2]
      · by_cases h2 : (Float64.cmp c a == some Ordering.lt) = true <;> simp [h1, h2]
    show Q (.float ([a, b, c].getD (argBest _ 2) 0) t') _
    rw [e]
    exact h h' tk t' hold
end

theorem Fr_grow {h₀ h h' : Heap} {L : Addr} {m : Str → Option Value} (F : Fr h₀ L h m) (g : ∀ d o, h.get? d = some o → h'.get? d = some o) : Fr h₀ L h' m :=
  ⟨F.ns.at' fun o e => g _ o e, fun b o e => g b o (F.keep b o e), F.above⟩
theorem News_grow {h₀ h h' : Heap} {L : Addr} {news : List (Addr × Obj)} (N : News h₀ L h news) (g : ∀ d o, h.get? d = some o → h'.get? d = some o) : News h₀ L h' news :=
  fun p hp => ⟨g _ _ (N p hp).1, (N p hp).2⟩

section
variable {prog : Program} {w : World} {A : Around} {E : Value → Shared → Prop} {s : Shared} {a b c : UInt64} {t u x : Tok} {Q : Value → Shared → Prop} {h₀ : Heap} {L : Addr} {m : Str → Option Value} {news : List (Addr × Obj)}
theorem max_K (hh : A.handled = none) (F : Fr h₀ L s.heap m) (N : News h₀ L s.heap news)
    (h : ∀ h' tk t', s.toks ≤ tk → Fr h₀ L h' m → News h₀ L h' news → Q (.float (max2F (max2F a b) c) t') { s with heap := h', toks := tk }) : wpAny (model prog w) A (call (.builtin "max") [.float a t, .float b u, .float c x]) Q E s :=
  wpAny_with_toks (Nat.le_refl _) (max_floats hh fun h' tk t' g htk => h h' tk t' htk (Fr_grow F g) (News_grow N g))
theorem min_K (hh : A.handled = none) (F : Fr h₀ L s.heap m) (N : News h₀ L s.heap news)
    (h : ∀ h' tk t', s.toks ≤ tk → Fr h₀ L h' m → News h₀ L h' news → Q (.float (min2F (min2F a b) c) t') { s with heap := h', toks := tk }) : wpAny (model prog w) A (call (.builtin "min") [.float a t, .float b u, .float c x]) Q E s :=
  wpAny_with_toks (Nat.le_refl _) (min_floats hh fun h' tk t' g htk => h h' tk t' htk (Fr_grow F g) (News_grow N g))
theorem div_nz (hA : A.handled = none) (hz : Float64.isZero b = false) (h : Q (.float (Float64.div a b) s.toks) { s with toks := s.toks + 1 }) :
    wpAny (model prog w) A (binaryOp .Div (.float a t) (.float b u)) Q E s := truediv_float_or hA (fun e => by rw [hz] at e; cases e) fun _ => h
theorem mod_nz (hA : A.handled = none) (hz : Float64.isZero b = false) (h : Q (.float (Float64.divmod a b).2 s.toks) { s with toks := s.toks + 1 }) :
    wpAny (model prog w) A (binaryOp .Mod (.float a t) (.float b u)) Q E s := Flt.mod_ff hA (fun e => by rw [hz] at e; cases e) fun _ => h
end
local macro_rules | `(tactic| walk_at "call builtin:max") => `(tactic| ((with_reducible show wpAny _ _ (call (Value.builtin "max") [Value.float _ _, Value.float _ _, Value.float _ _]) _ _ _); refine max_K (by assumption) (by assumption) (by assumption) ?_; intro h' tk' t' htk F' N'; (try dsimp only at htk); (try k_sweep)))
local macro_rules | `(tactic| walk_at "call builtin:min") => `(tactic| ((with_reducible show wpAny _ _ (call (Value.builtin "min") [Value.float _ _, Value.float _ _, Value.float _ _]) _ _ _); refine min_K (by assumption) (by assumption) (by assumption) ?_; intro h' tk' t' htk F' N'; (try dsimp only at htk); (try k_sweep)))
local macro_rules | `(tactic| walk_at "binaryOp Div float float") => `(tactic| (refine div_nz (by assumption) (by first | assumption | decide +kernel) ?_))
local macro_rules | `(tactic| walk_at "binaryOp Mod float float") => `(tactic| (refine mod_nz (by assumption) (by first | assumption | decide +kernel) ?_))

/-- rgb_to_hsv, on the bits, where no grey is -/
def rgbF (x y z : UInt64) : UInt64 × UInt64 × UInt64 :=
  let maxc := max2F (max2F x y) z
  let minc := min2F (min2F x y) z
  let rangec := Float64.sub maxc minc
  let rc := Float64.div (Float64.sub maxc x) rangec
  let gc := Float64.div (Float64.sub maxc y) rangec
  let bc := Float64.div (Float64.sub maxc z) rangec
  let h := if (Float64.cmp x maxc == some Ordering.eq) = true then Float64.sub bc gc else if (Float64.cmp y maxc == some Ordering.eq) = true then Float64.sub (Float64.add 4611686018427387904 rc) bc else Float64.sub (Float64.add 4616189618054758400 gc) rc
  ((Float64.divmod (Float64.div h 4618441417868443648) 4607182418800017408).2, Float64.div rangec maxc, maxc)

section
local macro_rules | `(tactic| walk_at "execs cons") => `(tactic| (with_reducible refine gen_toks ?_; intro tk htk; (try dsimp only at htk)))
local macro_rules | `(tactic| walk_at "execs nil") => `(tactic| (with_reducible refine gen_toks ?_; intro tk htk; (try dsimp only at htk)))
theorem rgb_K : ∀ (w : World) (A : Around) (h₀ : Heap) (L : Addr) (m : Str → Option Value) (s : Shared) (d : Nat) (x y z : UInt64) (t1 t2 t3 : Tok) (news : List (Addr × Obj)) (E : Value → Shared → Prop),
   (Float64.cmp (min2F (min2F x y) z) (max2F (max2F x y) z) == some Ordering.eq) = false → Float64.isZero (max2F (max2F x y) z) = false → Float64.isZero (Float64.sub (max2F (max2F x y) z) (min2F (min2F x y) z)) = false →
   Cx w A h₀ L (d + 1) → Fr h₀ L s.heap m → News h₀ L s.heap news →
   wpAny (model Challenge.rw_qu0027_01.row.prog w) A (call (.ref 56) [.float x t1, .float y t2, .float z t3] []) 
    (GotT s h₀ L m fun v news' tk => ∃ D r g b u1 u2 u3, v = .ref D ∧ news' = (D, tup [.float r u1, .float g u2, .float b u3]) :: news ∧ (∀ p ∈ news, p.1 < D) ∧ rgbF x y z = (r, g, b) ∧ s.toks ≤ u1 ∧ tk > u1) E s := by
  unfold Cx
  k_fill
  rintro w A h₀ L m s d x y z t1 t2 t3 news E hmm hmz hrz ⟨s₀, mg, mb, A₀, env, outer, base, KX, T, B, hA, hf, hke, hdp, hu, hh⟩ F N
  walk_at "enter"
  intro g' L' h' FG' F' N' B' X' T'
  walk_at "entered"
  intro C' hu' hh'
  (try dsimp only); (try k_lift B'); (try k_fold)
  refine gen_toks_le ?_
  intro tk0 htk0
  k_steps
  all_goals (refine Stop.go ?_; rename Fr h₀ L _ _ => F8; rename News h₀ L _ _ => N8; refine GotT.mk F8 N8 ⟨_, _, _, _, _, _, _, rfl, rfl, by assumption, ?_, ?_, ?_⟩)
  · simp only [rgbF, *, if_true]
  · omega
  · omega
  · simp only [rgbF, *, if_true, if_false, Bool.false_eq_true]
  · omega
  · omega
  · simp only [rgbF, *, if_false, Bool.false_eq_true]
  · omega
  · omega
end

def hueF (l : Nat) : UInt64 := Float64.ofFrac false l 16
def shareF (k : Nat) : UInt64 := Float64.ofFrac false k 4
def lightF (v : Nat) : UInt64 := Float64.ofFrac false v 8

def finParts (x : UInt64) : Bool × Nat × Int := match Float64.decode x with
  | .fin s m e => (s, m, e)
  | _ => (false, 0, 0)
def isFin (x : UInt64) : Bool := match Float64.decode x with
  | .fin .. => true
  | _ => false
theorem fin_of {x : UInt64} (h : isFin x = true) : Float64.decode x = .fin (finParts x).1 (finParts x).2.1 (finParts x).2.2 := by
  unfold isFin at h
  unfold finParts
  split at h
  · rename_i s m e hd; rw [hd]
  · cases h

/-- a colour, painted and read -/
def colourOk (l k v : Nat) : Bool :=
  let x := hueF l
  let y := shareF k
  let z := lightF v
  let i : Int := ((3 * l / 8 : Nat) : Int)
  let u := Float64.mul x 4618441417868443648
  let c := hsvF x y z i
  let maxc := max2F (max2F c.1 c.2.1) c.2.2
  let minc := min2F (min2F c.1 c.2.1) c.2.2
  let r := rgbF c.1 c.2.1 c.2.2
  isFin u && (Float64.truncOf (finParts u).1 (finParts u).2.1 (finParts u).2.2 == i) && !(Float64.cmp y 0 == some Ordering.eq) &&
    !(Float64.cmp minc maxc == some Ordering.eq) && !(Float64.isZero maxc) && !(Float64.isZero (Float64.sub maxc minc)) && (r.1 == x) && (r.2.2 == z)

/-! part C3 -/
theorem fresh_C3 : True := by w_top off; trivial
def colourRow (l : Nat) : Bool := (List.range 4).all fun k => (List.range 8).all fun v => colourOk l (k + 1) (v + 1)
theorem colours1 : colourRow 1 = true := by decide +kernel
theorem colours2 : colourRow 2 = true := by decide +kernel
theorem colours3 : colourRow 3 = true := by decide +kernel
theorem colours4 : colourRow 4 = true := by decide +kernel
theorem colours5 : colourRow 5 = true := by decide +kernel
theorem colours6 : colourRow 6 = true := by decide +kernel
theorem colours7 : colourRow 7 = true := by decide +kernel
theorem colours8 : colourRow 8 = true := by decide +kernel
theorem colours9 : colourRow 9 = true := by decide +kernel
theorem colours10 : colourRow 10 = true := by decide +kernel
theorem colours11 : colourRow 11 = true := by decide +kernel
theorem colours12 : colourRow 12 = true := by decide +kernel
theorem colours13 : colourRow 13 = true := by decide +kernel
theorem colours14 : colourRow 14 = true := by decide +kernel
theorem colours15 : colourRow 15 = true := by decide +kernel
theorem coloursAll : (List.range' 1 15).all colourRow = true := by
  show ([1, 2, 3, 4, 5, 6, 7, 8, 9, 10, 11, 12, 13, 14, 15] : List Nat).all colourRow = true
  simp only [List.all_cons, List.all_nil, colours1, colours2, colours3, colours4, colours5, colours6, colours7, colours8, colours9, colours10, colours11, colours12, colours13, colours14, colours15, Bool.and_self]
theorem colours {l k v : Nat} (l1 : 1 ≤ l) (l15 : l ≤ 15) (k1 : 1 ≤ k) (k4 : k ≤ 4) (v1 : 1 ≤ v) (v8 : v ≤ 8) : colourOk l k v = true := by
  have hr : colourRow l = true := List.all_eq_true.mp coloursAll l (List.mem_range'_1.mpr ⟨l1, Nat.lt_of_le_of_lt l15 (by decide)⟩)
  unfold colourRow at hr
  have h1 := List.all_eq_true.mp hr (k - 1) (List.mem_range.mpr (by omega))
  have h2 := List.all_eq_true.mp h1 (v - 1) (List.mem_range.mpr (by omega))
  rw [show k - 1 + 1 = k by omega, show v - 1 + 1 = v by omega] at h2
  exact h2

def colour (l k v : Nat) : UInt64 × UInt64 × UInt64 := hsvF (hueF l) (shareF k) (lightF v) ((3 * l / 8 : Nat) : Int)

theorem paint_K (w : World) (A : Around) (h₀ : Heap) (L : Addr) (m : Str → Option Value) (s : Shared) (d : Nat) (l k v : Nat) (t1 t2 t3 : Tok) (news : List (Addr × Obj)) (E : Value → Shared → Prop)
    (l1 : 1 ≤ l) (l15 : l ≤ 15) (k1 : 1 ≤ k) (k4 : k ≤ 4) (v1 : 1 ≤ v) (v8 : v ≤ 8) (C : Cx w A h₀ L (d + 1)) (F : Fr h₀ L s.heap m) (N : News h₀ L s.heap news) :
    wpAny (model Challenge.rw_qu0027_01.row.prog w) A (call (.ref 63) [.float (hueF l) t1, .float (shareF k) t2, .float (lightF v) t3] [])
      (GotT s h₀ L m fun val news' tk => ∃ D u1 u2 u3, val = .ref D ∧ news' = (D, tup [.float (colour l k v).1 u1, .float (colour l k v).2.1 u2, .float (colour l k v).2.2 u3]) :: news ∧ (∀ p ∈ news, p.1 < D) ∧ s.toks ≤ tk) E s := by
  have hc := colours l1 l15 k1 k4 v1 v8
  simp only [colourOk, Bool.and_eq_true, beq_iff_eq, Bool.not_eq_true'] at hc
  obtain ⟨⟨⟨⟨⟨⟨⟨c1, c2⟩, c3⟩, c4⟩, c5⟩, c6⟩, c7⟩, c8⟩ := hc
  refine wpAny_with_toks (Nat.le_refl _) (wpAny_mono (hsv_K w A h₀ L m s d (hueF l) (shareF k) (lightF v) t1 t2 t3 news _ _ _ _ _ ⟨fin_of c1, c2⟩ (by omega) (by omega) c3 C F N) ?_ fun _ _ x => x)
  rintro val s' ⟨h', tk, news', rfl, F', N', D, r, g, b, u1, u2, u3, rfl, rfl, hlt, hv⟩ htk
  refine GotT.mk F' N' ⟨D, u1, u2, u3, rfl, ?_, hlt, htk⟩
  rw [colour, hv]

theorem read_K (w : World) (A : Around) (h₀ : Heap) (L : Addr) (m : Str → Option Value) (s : Shared) (d : Nat) (l k v : Nat) (t1 t2 t3 : Tok) (news : List (Addr × Obj)) (E : Value → Shared → Prop)
    (l1 : 1 ≤ l) (l15 : l ≤ 15) (k1 : 1 ≤ k) (k4 : k ≤ 4) (v1 : 1 ≤ v) (v8 : v ≤ 8) (C : Cx w A h₀ L (d + 1)) (F : Fr h₀ L s.heap m) (N : News h₀ L s.heap news) :
    wpAny (model Challenge.rw_qu0027_01.row.prog w) A (call (.ref 56) [.float (colour l k v).1 t1, .float (colour l k v).2.1 t2, .float (colour l k v).2.2 t3] [])
      (GotT s h₀ L m fun val news' tk => ∃ D g u1 u2 u3, val = .ref D ∧ news' = (D, tup [.float (hueF l) u1, .float g u2, .float (lightF v) u3]) :: news ∧ (∀ p ∈ news, p.1 < D) ∧ s.toks ≤ u1 ∧ tk > u1) E s := by
  have hc := colours l1 l15 k1 k4 v1 v8
  simp only [colourOk, Bool.and_eq_true, beq_iff_eq, Bool.not_eq_true'] at hc
  obtain ⟨⟨⟨⟨⟨⟨⟨c1, c2⟩, c3⟩, c4⟩, c5⟩, c6⟩, c7⟩, c8⟩ := hc
  refine wpAny_mono (rgb_K w A h₀ L m s d (colour l k v).1 (colour l k v).2.1 (colour l k v).2.2 t1 t2 t3 news _ c4 c5 c6 C F N) ?_ fun _ _ x => x
  rintro val s' ⟨h', tk, news', rfl, F', N', D, r, g, b, u1, u2, u3, rfl, rfl, hlt, hv, ha, hb⟩
  refine GotT.mk F' N' ⟨D, g, u1, u2, u3, rfl, ?_, hlt, ha, hb⟩
  have e1 : r = hueF l := by have := congrArg (·.1) hv; simp only at this; rw [← this]; exact c7
  have e2 : b = lightF v := by have := congrArg (·.2.2) hv; simp only at this; rw [← this]; exact c8
  rw [e1, e2]

/-! part K1 -/
theorem fresh_K1 : True := by w_top off; trivial
section
variable {prog : Program} {w : World} {A : Around} {E : Value → Shared → Prop} {s : Shared}

def Lex (prog : Program) (w : World) (A : Around) (op : CmpOp) (fin : Value) (Q : Value → Shared → Prop) : List (Value × Value) → Shared → Prop
  | [], s => Q fin s
  | (p, q) :: r, s => wpAny (model prog w) A (eqBool p q) (fun e s' => if e = true then Lex prog w A op fin Q r s' else wpAny (model prog w) A (richCompare op p q) Q (fun _ _ => False) s') (fun _ _ => False) s

theorem lex_loop {fin : Value} {Q : Value → Shared → Prop} {R : Option Fin × Unit → Shared → Prop} {op : CmpOp} {body : Value × Value → Option Fin × Unit → Sem (ForInStep (Option Fin × Unit))}
    (hb : ∀ p q (s : Shared) (R' : ForInStep (Option Fin × Unit) → Shared → Prop),
      wpAny (model prog w) A (eqBool p q) (fun e s' => if e = true then R' (.yield (none, ())) s' else wpAny (model prog w) A (richCompare op p q) (fun c s'' => R' (.done (some (.done (.ret c)), ())) s'') (fun _ _ => False) s') (fun _ _ => False) s →
      wpAny (model prog w) A (body (p, q) (none, ())) R' E s)
    (h1 : ∀ s, Q fin s → R (none, ()) s) (h2 : ∀ c s, Q c s → R (some (.done (.ret c)), ()) s) : ∀ (l : List (Value × Value)) (s : Shared), Lex prog w A op fin Q l s →
      wpAny (model prog w) A (forIn l (none, ()) body) R E s
  | [], s, h => by
    rw [List.forIn_nil]
    exact wpAny_pure (h1 s h)
  | (p, q) :: r, s, h => by
    rw [List.forIn_cons]
    have h' : wpAny (model prog w) A (eqBool p q) (fun e s' => if e = true then Lex prog w A op fin Q r s' else wpAny (model prog w) A (richCompare op p q) Q (fun _ _ => False) s') (fun _ _ => False) s := h
    refine wpAny_bind (hb p q s _ (wpAny_mono h' (fun e s' he => ?_) fun _ _ x => x))
    cases e with
    | true =>
      simp only [if_true] at he ⊢
      exact lex_loop hb h1 h2 r s' he
    | false =>
      simp only [Bool.false_eq_true, if_false] at he ⊢
      exact wpAny_mono he (fun c s'' hc => wpAny_pure (h2 c s'' hc)) fun _ _ x => x

theorem tup_lt_tree {a b : Addr} {xs ys : List Value} {P : Fin → Shared → Prop} (hx : s.heap.get? a = some (tup xs)) (hy : s.heap.get? b = some (tup ys))
    (h : Lex prog w A .Lt (.bool (decide (xs.length < ys.length))) (fun v s' => P (.done (.ret v)) s') (xs.zip ys) s) :
    wpAny (model prog w) A (Builtin.«tuple.__lt__» ⟨[.ref a, .ref b], []⟩) P E s := by
  have hTb : s.TypeIs (.ref b) "tuple" := ⟨_, hy, rfl⟩
  show wpAny _ _ (isInstance (.ref b) (.type "tuple") >>= _) _ _ s
  refine wpAny_bind (wpAny_isInstance hTb isSubtype_tuple_tuple ?_)
  simp only [Bool.not_true, Bool.false_eq_true, if_false]
  refine wpAny_bind (wpAny_tupleItemsOf hx rfl ?_)
  refine wpAny_bind (wpAny_tupleItemsOf hy rfl ?_)
  refine wpAny_bind (lex_loop (op := .Lt) (Q := fun v s' => P (.done (.ret v)) s') (fun p q s' R' h' => ?_) (fun s' hq => ?_) (fun c s' hq => ?_) (xs.zip ys) s h)
  · refine wpAny_bind (wpAny_mono h' (fun e s'' he => ?_) fun _ _ x => x.elim)
    cases e with
    | true =>
      simp only [if_true] at he
      simp only [Bool.not_true, Bool.false_eq_true, if_false]
      exact wpAny_pure he
    | false =>
      simp only [Bool.false_eq_true, if_false] at he
      simp only [Bool.not_false, if_true]
      refine wpAny_bind (wpAny_rule (wpAny_bind (wpAny_mono he (fun c s3 hc => ?_) fun _ _ x => x.elim)))
      exact wpAny_bind (wpAny_pure (wpAny_pure hc))
  · simp only [List.size_toArray]
    exact wpAny_pure hq
  · exact wpAny_pure hq

theorem lex_mono {fin : Value} {op : CmpOp} {Q Q' : Value → Shared → Prop} (hq : ∀ v s, Q v s → Q' v s) : ∀ (l : List (Value × Value)) (s : Shared), Lex prog w A op fin Q l s → Lex prog w A op fin Q' l s
  | [], s, h => hq _ _ h
  | (p, q) :: r, s, h => by
    refine wpAny_mono (show wpAny (model prog w) A (eqBool p q) (fun e s' => if e = true then Lex prog w A op fin Q r s' else wpAny (model prog w) A (richCompare op p q) Q (fun _ _ => False) s') (fun _ _ => False) s from h) (fun e s' he => ?_) fun _ _ x => x
    cases e with
    | true => simp only [if_true] at he ⊢; exact lex_mono hq r s' he
    | false => simp only [Bool.false_eq_true, if_false] at he ⊢; exact wpAny_mono he hq fun _ _ x => x

theorem tup_lt {a b : Addr} {xs ys : List Value} {Q : Value → Shared → Prop} (hu : A.units < 9000) (hx : s.heap.get? a = some (tup xs)) (hy : s.heap.get? b = some (tup ys))
    (h : Lex prog w A.in1 .Lt (.bool (decide (xs.length < ys.length))) (fun v s' => v ≠ .notImplemented ∧ Q v s') (xs.zip ys) s) :
    wpAny (model prog w) A (compareOp .Lt (.ref a) (.ref b)) Q E s := by
  have hTa : s.TypeIs (.ref a) "tuple" := ⟨_, hx, rfl⟩
  have hTb : s.TypeIs (.ref b) "tuple" := ⟨_, hy, rfl⟩
  refine cmp_ofLt (wpAny_richCompare_same_room (op := .Lt) hTa hTb F.slot_tuple_lt (wpAny_call_entry F.slot_tuple_lt hTa F.entry_tuple_lt (tup_lt_tree hx hy ?_) (F.args_tuple_lt_2 _ _)) (by rw [cLine]; omega))
  exact lex_mono (fun v s' hv => ⟨v, rfl, hv⟩) _ _ h

theorem isSame_float {a b : UInt64} {t u : Tok} {Q : Bool → Shared → Prop} (ht : t ≠ 0) (hu : u ≠ 0) (htu : t = u → a = b) (hb : NoneBooked s.heap) (h1 : a = b → ∀ r, Q r s) (h2 : Q false s) :
    wpAny (model prog w) A (isSame (.float a t) (.float b u)) Q E s := by
  show wpAny _ A (isSame.created (a == b && !Float64.isNaN a) t u) Q E s
  unfold isSame.created
  refine wpAny_ite ?_
  rw [if_neg (by simp [ht, hu])]
  refine wpAny_ite ?_
  split
  · rename_i e; exact wpAny_pure (h1 (htu (by simpa using e)) _)
  · refine wpAny_ite ?_
    split
    · exact wpAny_pure h2
    · rename_i e
      have hab : a = b := by
        simp only [Bool.not_eq_true, Bool.not_eq_false', Bool.and_eq_true, beq_iff_eq] at e
        exact e.1
      refine wpAny_bind (wpAny_sharingNotTold_none hb ?_)
      first | rw [if_neg Bool.false_ne_true] | simp only [Bool.false_eq_true, if_false]
      refine wpAny_bind (wpAny_sharingNotTold_none hb ?_)
      first | rw [if_neg Bool.false_ne_true] | simp only [Bool.false_eq_true, if_false]
      exact wpAny_bind (wpAny_rule (wpAny_bind (wpAny_askSetting (wpAny_pure (h1 hab _)))))

theorem eqBool_float {a b : UInt64} {t u : Tok} {Q : Bool → Shared → Prop} (ht : t ≠ 0) (hu : u ≠ 0) (htu : t = u → a = b) (hb : NoneBooked s.heap) (hn : (Float64.cmp a a == some .eq) = true) (h : Q (Float64.cmp a b == some .eq) s) :
    wpAny (model prog w) A (eqBool (.float a t) (.float b u)) Q E s := by
  have hrc : wpAny (model prog w) A (richCompare .Eq (.float a t) (.float b u)) (fun v s' => wpAny (model prog w) A (truthOfDropped v) Q E s') E s :=
    AutoFloatOps.eq_0 (wpAny_truthy_bool h)
  unfold eqBool
  try with_reducible refine wpAny_holding ?_
  show wpAny _ _ (if (Value.float a t == Value.float b u) = true then _ else _) Q E s
  by_cases hab : (Value.float a t == Value.float b u) = true
  · rw [if_pos hab]
    have e : a = b := by have := eq_of_beq hab; injection this
    subst e
    rw [hn] at h
    exact wpAny_bind (wpAny_rule (wpAny_pure h))
  · rw [if_neg hab]
    refine wpAny_bind (isSame_float ht hu htu hb (fun e r => ?_) ?_)
    · subst e
      cases r with
      | true => rw [hn] at h; exact wpAny_pure h
      | false =>
        simp only [Bool.false_eq_true, if_false]
        exact wpAny_bind hrc
    · simp only [Bool.false_eq_true, if_false]
      exact wpAny_bind hrc
end

/-- the light of a mark: 0 is «put out», -1.0 -/
def lampF (l : Nat) : UInt64 := if l = 0 then Float64.neg 4607182418800017408 else lightF l
def negF (v : Nat) : UInt64 := if v = 0 then 0 else Float64.neg (lightF v)
theorem hue_cmp : ∀ a ∈ List.range 16, ∀ b ∈ List.range 16, Float64.cmp (hueF a) (hueF b) = some (compare a b) := by decide +kernel
theorem neg_cmp : ∀ a ∈ List.range 9, ∀ b ∈ List.range 9, Float64.cmp (negF a) (negF b) = some (compare b a) := by decide +kernel

theorem beq_eq_cmp {a b : Nat} : ((some (compare a b) : Option Ordering) == some Ordering.eq) = decide (a = b) := by
  by_cases h : a = b
  · subst h; simp
  · have : compare a b ≠ .eq := fun e => h (Nat.compare_eq_eq.mp e)
    simp [h, this]
theorem beq_lt_cmp {a b : Nat} : ((some (compare a b) : Option Ordering) == some Ordering.lt) = decide (a < b) := by
  by_cases h : a < b
  · have : compare a b = .lt := Nat.compare_eq_lt.mpr h
    simp [h, this]
  · have : compare a b ≠ .lt := fun e => h (Nat.compare_eq_lt.mp e)
    simp [h, this]

section
variable {prog : Program} {w : World} {A : Around} {E : Value → Shared → Prop} {s : Shared}

theorem mark_lt {a b : Addr} {h1 h2 k1 k2 : Nat} {t1 t2 u1 u2 : Tok} {r1 r2 : Value} {Q : Value → Shared → Prop} (hu : A.units < 9000) (hb : NoneBooked s.heap)
    (hx : s.heap.get? a = some (tup [.float (hueF h1) t1, .int k1 u1, r1])) (hy : s.heap.get? b = some (tup [.float (hueF h2) t2, .int k2 u2, r2]))
    (l1 : h1 ≤ 15) (l2 : h2 ≤ 15) (ht1 : t1 ≠ 0) (ht2 : t2 ≠ 0) (htt : t1 = t2 → h1 = h2) (hne : a = b ∨ ¬ (h1 = h2 ∧ k1 = k2))
    (h : Q (.bool (decide (h1 < h2 ∨ h1 = h2 ∧ k1 < k2))) s) : wpAny (model prog w) A (compareOp .Lt (.ref a) (.ref b)) Q E s := by
  have c1 := hue_cmp h1 (List.mem_range.mpr (by omega)) h2 (List.mem_range.mpr (by omega))
  have c0 := hue_cmp h1 (List.mem_range.mpr (by omega)) h1 (List.mem_range.mpr (by omega))
  refine tup_lt hu hx hy ?_
  refine eqBool_float ht1 ht2 (fun e => by rw [htt e]) hb (by rw [c0, beq_eq_cmp]; simp) ?_
  rw [c1, beq_eq_cmp]
  by_cases hh : h1 = h2
  · rw [if_pos (by simpa using hh)]
    refine wpAny_eqBool_int ?_
    by_cases hk : k1 = k2
    · rw [if_pos (by rw [beq_iff_eq]; omega)]
      rcases hne with e | e
      · subst e
        have e2 := Option.some.inj (hx.symm.trans hy)
        have e3 : r1 = r2 := congrArg (fun o : Obj => match o.data with | .seq xs _ => xs.toList.getD 2 .none | _ => .none) e2
        subst e3
        show wpAny _ _ (eqBool r1 r1) _ _ _
        have : wpAny (model prog w) A.in1 (eqBool r1 r1) (fun e s' => e = true ∧ s' = s) (fun _ _ => False) s := by
          unfold eqBool
          try with_reducible refine wpAny_holding ?_
          rw [if_pos (by simp)]
          exact wpAny_bind (wpAny_rule (wpAny_pure ⟨rfl, rfl⟩))
        refine wpAny_mono this ?_ fun _ _ x => x
        rintro e s' ⟨rfl, rfl⟩
        rw [if_pos rfl]
        refine ⟨(fun x => nomatch x), ?_⟩
        have hf : decide (h1 < h2 ∨ h1 = h2 ∧ k1 < k2) = false := by simp only [decide_eq_false_iff_not]; omega
        rw [hf] at h
        simpa using h
      · exact absurd ⟨hh, hk⟩ e
    · rw [if_neg (by rw [beq_iff_eq]; omega)]
      refine lt_int ⟨(fun x => nomatch x), ?_⟩
      have : decide ((k1 : Int) < (k2 : Int)) = decide (h1 < h2 ∨ h1 = h2 ∧ k1 < k2) := by
        apply decide_eq_decide.mpr; omega
      rw [this]; exact h
  · rw [if_neg (by simpa using hh)]
    refine AutoFloatOps.lt_0 ⟨(fun x => nomatch x), ?_⟩
    rw [c1, beq_lt_cmp]
    have : decide (h1 < h2) = decide (h1 < h2 ∨ h1 = h2 ∧ k1 < k2) := by
      apply decide_eq_decide.mpr; omega
    rw [this]; exact h

theorem held_lt {a b : Addr} {v1 v2 k1 k2 : Nat} {t1 t2 u1 u2 : Tok} {Q : Value → Shared → Prop} (hu : A.units < 9000) (hb : NoneBooked s.heap)
    (hx : s.heap.get? a = some (tup [.float (negF v1) t1, .int k1 u1])) (hy : s.heap.get? b = some (tup [.float (negF v2) t2, .int k2 u2]))
    (l1 : v1 ≤ 8) (l2 : v2 ≤ 8) (ht1 : t1 ≠ 0) (ht2 : t2 ≠ 0) (htt : t1 = t2 → v1 = v2)
    (h : Q (.bool (decide (v2 < v1 ∨ v1 = v2 ∧ k1 < k2))) s) : wpAny (model prog w) A (compareOp .Lt (.ref a) (.ref b)) Q E s := by
  have c1 := neg_cmp v1 (List.mem_range.mpr (by omega)) v2 (List.mem_range.mpr (by omega))
  have c0 := neg_cmp v1 (List.mem_range.mpr (by omega)) v1 (List.mem_range.mpr (by omega))
  refine tup_lt hu hx hy ?_
  refine eqBool_float ht1 ht2 (fun e => by rw [htt e]) hb (by rw [c0, beq_eq_cmp]; simp) ?_
  rw [c1, beq_eq_cmp]
  by_cases hh : v2 = v1
  · rw [if_pos (by simpa using hh)]
    refine wpAny_eqBool_int ?_
    by_cases hk : k1 = k2
    · rw [if_pos (by rw [beq_iff_eq]; omega)]
      refine ⟨(fun x => nomatch x), ?_⟩
      have : decide (v2 < v1 ∨ v1 = v2 ∧ k1 < k2) = false := by simp; omega
      rw [this] at h
      simpa using h
    · rw [if_neg (by rw [beq_iff_eq]; omega)]
      refine lt_int ⟨(fun x => nomatch x), ?_⟩
      have : decide ((k1 : Int) < (k2 : Int)) = decide (v2 < v1 ∨ v1 = v2 ∧ k1 < k2) := by
        apply decide_eq_decide.mpr; omega
      rw [this]; exact h
  · rw [if_neg (by simpa using hh)]
    refine AutoFloatOps.lt_0 ⟨(fun x => nomatch x), ?_⟩
    rw [c1, beq_lt_cmp]
    have : decide (v2 < v1) = decide (v2 < v1 ∨ v1 = v2 ∧ k1 < k2) := by
      apply decide_eq_decide.mpr; omega
    rw [this]; exact h
end

/-- an item of the heap of marks: its hour, its lamp, its light (0: put out), the token of its hue -/
structure Mark where
  h : Nat
  k : Nat
  l : Nat
  t : Nat
def Mark.key (m : Mark) : Nat := m.h * 10 + m.k
def MarkAt (news : List (Addr × Obj)) (v : Value) (m : Mark) : Prop := ∃ a t2 t3, v = .ref a ∧ (a, tup [.float (hueF m.h) m.t, .int (m.k : Int) t2, .float (lampF m.l) t3]) ∈ news

structure MarksOk (news : List (Addr × Obj)) (items : List Value) (dec : Value → Mark) : Prop where
  ok : ∀ v ∈ items, MarkAt news v (dec v) ∧ 1 ≤ (dec v).h ∧ (dec v).h ≤ 15 ∧ (dec v).k < 10 ∧ (dec v).l ≤ 8 ∧ (dec v).t ≠ 0
  inj : ∀ v ∈ items, ∀ u ∈ items, v = u ∨ ¬ ((dec v).h = (dec u).h ∧ (dec v).k = (dec u).k)
  tok : ∀ v ∈ items, ∀ u ∈ items, (dec v).t = (dec u).t → (dec v).h = (dec u).h

theorem MarksOk.cmp {w : World} {news : List (Addr × Obj)} {items : List Value} {dec : Value → Mark} (M : MarksOk news items dec) : CmpOk w (fun v => (dec v).key) news items := by
  intro x hx y hy A E s Q hu hb hn hq
  obtain ⟨⟨a, t2, t3, ex, ha⟩, _, l1, kx, _, z1⟩ := M.ok x hx
  obtain ⟨⟨b, u2, u3, ey, hb'⟩, _, l2, ky, _, z2⟩ := M.ok y hy
  have hinj := M.inj x hx y hy
  have htok := M.tok x hx y hy
  have hq' : Q (.bool (decide ((dec x).h < (dec y).h ∨ (dec x).h = (dec y).h ∧ (dec x).k < (dec y).k))) s := by
    have : decide ((dec x).key < (dec y).key) = decide ((dec x).h < (dec y).h ∨ (dec x).h = (dec y).h ∧ (dec x).k < (dec y).k) := by
      apply decide_eq_decide.mpr; unfold Mark.key; omega
    rw [← this]; exact hq
  have hne : a = b ∨ ¬ ((dec x).h = (dec y).h ∧ (dec x).k = (dec y).k) := by
    rcases hinj with e | e
    · left
      rw [ex, ey] at e
      cases e; rfl
    · exact .inr e
  have gx := hn _ ha
  have gy := hn _ hb'
  clear hinj hq
  rw [ex, ey]
  exact mark_lt hu hb gx gy l1 l2 z1 z2 htok hne hq'

theorem MarksOk.push {news : List (Addr × Obj)} {items : List Value} {dec : Value → Mark} (M : MarksOk news items dec) (D : Addr) (mk : Mark) (t2 t3 : Tok) (hD : ∀ p ∈ news, p.1 ≠ D)
    (f : 1 ≤ mk.h ∧ mk.h ≤ 15 ∧ mk.k < 10 ∧ mk.l ≤ 8 ∧ mk.t ≠ 0) (hk : ∀ v ∈ items, ¬ ((dec v).h = mk.h ∧ (dec v).k = mk.k)) (ht : ∀ v ∈ items, (dec v).t ≠ mk.t) :
    MarksOk ((D, tup [.float (hueF mk.h) mk.t, .int (mk.k : Int) t2, .float (lampF mk.l) t3]) :: news) (items ++ [.ref D]) (fun v => if v = .ref D then mk else dec v) ∧ ∀ v ∈ items, v ≠ .ref D := by
  have hne : ∀ v ∈ items, v ≠ .ref D := by
    intro v hv e
    obtain ⟨⟨a, _, _, ev, ha⟩, _⟩ := M.ok v hv
    rw [e] at ev
    cases ev
    exact hD _ ha rfl
  have cases' : ∀ v ∈ items ++ [Value.ref D], (v ∈ items ∧ (if v = .ref D then mk else dec v) = dec v) ∨ (v = .ref D ∧ (if v = .ref D then mk else dec v) = mk) := by
    intro v hv
    rcases List.mem_append.mp hv with h | h
    · exact .inl ⟨h, if_neg (hne v h)⟩
    · have := List.mem_singleton.mp h
      exact .inr ⟨this, if_pos this⟩
  refine ⟨⟨fun v hv => ?_, fun v hv u hu => ?_, fun v hv u hu e => ?_⟩, hne⟩
  · rcases cases' v hv with ⟨h, e⟩ | ⟨h, e⟩
    · rw [e]
      obtain ⟨⟨a, b, c, x, y⟩, r⟩ := M.ok v h
      exact ⟨⟨a, b, c, x, .tail _ y⟩, r⟩
    · rw [e]
      exact ⟨⟨D, t2, t3, h, .head _⟩, f⟩
  · rcases cases' v hv with ⟨h, e⟩ | ⟨h, e⟩ <;> rcases cases' u hu with ⟨h', e'⟩ | ⟨h', e'⟩ <;> rw [e, e']
    · exact M.inj v h u h'
    · exact .inr (hk v h)
    · exact .inr fun q => hk u h' ⟨q.1.symm, q.2.symm⟩
    · exact .inl (h.trans h'.symm)
  · rcases cases' v hv with ⟨h, e1⟩ | ⟨h, e1⟩ <;> rcases cases' u hu with ⟨h', e2⟩ | ⟨h', e2⟩ <;> rw [e1, e2] at e ⊢
    · exact M.tok v h u h' e
    · exact absurd e (ht v h)
    · exact absurd e.symm (ht u h')

structure Held where
  v : Nat
  k : Nat
  t : Nat
def Held.key (m : Held) : Nat := (8 - m.v) * 10 + m.k
def HeldAt (news : List (Addr × Obj)) (v : Value) (m : Held) : Prop := ∃ a t2, v = .ref a ∧ (a, tup [.float (negF m.v) m.t, .int (m.k : Int) t2]) ∈ news
structure HeldOk (news : List (Addr × Obj)) (items : List Value) (dec : Value → Held) : Prop where
  ok : ∀ v ∈ items, HeldAt news v (dec v) ∧ (dec v).v ≤ 8 ∧ (dec v).k < 10 ∧ (dec v).t ≠ 0
  tok : ∀ v ∈ items, ∀ u ∈ items, (dec v).t = (dec u).t → (dec v).v = (dec u).v
theorem HeldOk.cmp {w : World} {news : List (Addr × Obj)} {items : List Value} {dec : Value → Held} (M : HeldOk news items dec) : CmpOk w (fun v => (dec v).key) news items := by
  intro x hx y hy A E s Q hu hb hn hq
  obtain ⟨⟨a, t2, ex, ha⟩, l1, kx, z1⟩ := M.ok x hx
  obtain ⟨⟨b, u2, ey, hb'⟩, l2, ky, z2⟩ := M.ok y hy
  have htok := M.tok x hx y hy
  have hq' : Q (.bool (decide ((dec y).v < (dec x).v ∨ (dec x).v = (dec y).v ∧ (dec x).k < (dec y).k))) s := by
    have : decide ((dec x).key < (dec y).key) = decide ((dec y).v < (dec x).v ∨ (dec x).v = (dec y).v ∧ (dec x).k < (dec y).k) := by
      apply decide_eq_decide.mpr; unfold Held.key; omega
    rw [← this]; exact hq
  have gx := hn _ ha
  have gy := hn _ hb'
  clear hq
  rw [ex, ey]
  exact held_lt hu hb gx gy l1 l2 z1 z2 htok hq'
theorem HeldOk.push {news : List (Addr × Obj)} {items : List Value} {dec : Value → Held} (M : HeldOk news items dec) (D : Addr) (mk : Held) (t2 : Tok) (hD : ∀ p ∈ news, p.1 ≠ D)
    (f : mk.v ≤ 8 ∧ mk.k < 10 ∧ mk.t ≠ 0) (ht : ∀ v ∈ items, (dec v).t ≠ mk.t) :
    HeldOk ((D, tup [.float (negF mk.v) mk.t, .int (mk.k : Int) t2]) :: news) (items ++ [.ref D]) (fun v => if v = .ref D then mk else dec v) ∧ ∀ v ∈ items, v ≠ .ref D := by
  have hne : ∀ v ∈ items, v ≠ .ref D := by
    intro v hv e
    obtain ⟨⟨a, _, ev, ha⟩, _⟩ := M.ok v hv
    rw [e] at ev
    cases ev
    exact hD _ ha rfl
  have cases' : ∀ v ∈ items ++ [Value.ref D], (v ∈ items ∧ (if v = .ref D then mk else dec v) = dec v) ∨ (v = .ref D ∧ (if v = .ref D then mk else dec v) = mk) := by
    intro v hv
    rcases List.mem_append.mp hv with h | h
    · exact .inl ⟨h, if_neg (hne v h)⟩
    · have := List.mem_singleton.mp h
      exact .inr ⟨this, if_pos this⟩
  refine ⟨⟨fun v hv => ?_, fun v hv u hu e => ?_⟩, hne⟩
  · rcases cases' v hv with ⟨h, e⟩ | ⟨h, e⟩
    · rw [e]
      obtain ⟨⟨a, b, x, y⟩, r⟩ := M.ok v h
      exact ⟨⟨a, b, x, .tail _ y⟩, r⟩
    · rw [e]
      exact ⟨⟨D, t2, h, .head _⟩, f⟩
  · rcases cases' v hv with ⟨h, e1⟩ | ⟨h, e1⟩ <;> rcases cases' u hu with ⟨h', e2⟩ | ⟨h', e2⟩ <;> rw [e1, e2] at e ⊢
    · exact M.tok v h u h' e
    · exact absurd e (ht v h)
    · exact absurd e.symm (ht u h')
theorem HeldOk.sub {news news' : List (Addr × Obj)} {items items' : List Value} {dec : Value → Held} (M : HeldOk news items dec) (hn : ∀ p ∈ news, p ∈ news') (hi : ∀ v ∈ items', v ∈ items) : HeldOk news' items' dec :=
  ⟨fun v hv => by obtain ⟨⟨a, b, x, y⟩, r⟩ := M.ok v (hi v hv); exact ⟨⟨a, b, x, hn _ y⟩, r⟩, fun v hv u hu => M.tok v (hi v hv) u (hi u hu)⟩
theorem MarksOk.sub {news news' : List (Addr × Obj)} {items items' : List Value} {dec : Value → Mark} (M : MarksOk news items dec) (hn : ∀ p ∈ news, p ∈ news') (hi : ∀ v ∈ items', v ∈ items) : MarksOk news' items' dec :=
  ⟨fun v hv => by obtain ⟨⟨a, b, c, x, y⟩, r⟩ := M.ok v (hi v hv); exact ⟨⟨a, b, c, x, hn _ y⟩, r⟩, fun v hv u hu => M.inj v (hi v hv) u (hi u hu), fun v hv u hu => M.tok v (hi v hv) u (hi u hu)⟩
theorem lamp_gt : ∀ l ∈ List.range 9, (Float64.cmp (lampF l) 0 == some Ordering.gt) = decide (1 ≤ l) := by decide +kernel
theorem neg_lamp {l : Nat} (h : 1 ≤ l) : Float64.neg (lampF l) = negF l := by
  unfold lampF negF
  rw [if_neg (by omega), if_neg (by omega)]
section
variable {prog : Program} {w : World} {A : Around} {E : Value → Shared → Prop} {s : Shared}
theorem eq_nil {a b : Addr} {c : List Value} {e1 e2 : Nat} {Q : Value → Shared → Prop} (hu : A.units < 9000) (ha : s.heap.get? a = some (W.listOf c.toArray e1)) (hb : s.heap.get? b = some (W.listOf #[] e2)) (h : Q (.bool c.isEmpty) s) :
    wpAny (model prog w) A (compareOp .Eq (.ref a) (.ref b)) Q E s := by
  have hTa : s.TypeIs (.ref a) "list" := ⟨_, ha, rfl⟩
  have hTb : s.TypeIs (.ref b) "list" := ⟨_, hb, rfl⟩
  cases c with
  | nil => exact eq_intsK (vs := []) (us := []) (ns := []) (ms := []) ⟨_, ha, rfl, e1, rfl⟩ .nil ⟨_, hb, rfl, e2, rfl⟩ .nil (by rw [cLine]; omega) h
  | cons x r =>
    refine cmp_ofEq (wpAny_richCompare_same_room (op := .Eq) hTa hTb F.slot_list_eq (call_meets F.slot_list_eq hTa F.entry_list_eq (F.args_list_eq_2 _ _) (AutoSeq1.list___eq___list_list_0 a (x :: r).toArray e1 b #[] e2 (by simp)) ?_) (by rw [cLine]; omega))
    exact ⟨ha, hb, (fun x => nomatch x), h⟩
end
section
variable {prog : Program} {w : World} {A : Around} {E : Value → Shared → Prop} {s : Shared}
theorem eq_nil0 {a b : Addr} {e1 e2 : Nat} {Q : Value → Shared → Prop} (hu : A.units < 9000) (ha : s.heap.get? a = some (W.listOf ([] : List Value).toArray e1)) (hb : s.heap.get? b = some (W.listOf #[] e2)) (h : Q (.bool true) s) :
    wpAny (model prog w) A (compareOp .Eq (.ref a) (.ref b)) Q E s := eq_nil hu ha hb h
theorem eq_nil1 {a b : Addr} {x : Value} {r : List Value} {e1 e2 : Nat} {Q : Value → Shared → Prop} (hu : A.units < 9000) (ha : s.heap.get? a = some (W.listOf (x :: r).toArray e1)) (hb : s.heap.get? b = some (W.listOf #[] e2)) (h : Q (.bool false) s) :
    wpAny (model prog w) A (compareOp .Eq (.ref a) (.ref b)) Q E s := eq_nil hu ha hb h
end
local macro_rules | `(tactic| walk_at "compareOp Eq ref ref") => `(tactic| ((with_reducible show wpAny _ _ (compareOp CmpOp.Eq (Value.ref _) (Value.ref _)) _ _ _); k_dflt (first | (refine' eq_nil0 ?kU ?kA ?kB ?_; (case kA => exact (News.get (by k_asm) (by k_mem))); (case kB => exact (News.get (by k_asm) (by k_mem))); (case kU => assumption)) | (refine' eq_nil1 ?kU ?kA ?kB ?_; (case kA => exact (News.get (by k_asm) (by k_mem))); (case kB => exact (News.get (by k_asm) (by k_mem))); (case kU => assumption))); k_whole))

/-! part P1 -/
theorem fresh_P1 : True := by w_top off; trivial
abbrev gd (l : List Value) (i : Nat) : Value := l.getD i .none

theorem gd_set {l : List Value} {p i : Nat} {v : Value} (hp : p < l.length) : gd (l.set p v) i = if i = p then v else gd l i := by
  by_cases h : i = p
  · subst h; simp [gd, List.getD, hp]
  · rw [if_neg h]; simp only [gd, List.getD]; rw [List.getElem?_set_ne (fun e => h e.symm)]

inductive Desc (s : Nat) : Nat → Prop
  | refl : Desc s s
  | left {p : Nat} : Desc s p → Desc s (2 * p + 1)
  | right {p : Nat} : Desc s p → Desc s (2 * p + 2)
theorem Desc.ge {s p : Nat} (h : Desc s p) : s ≤ p := by
  induction h with
  | refl => exact Nat.le_refl _
  | left _ ih => omega
  | right _ ih => omega
theorem Desc.up {s p : Nat} (h : Desc s p) (hp : s < p) : Desc s ((p - 1) / 2) := by
  cases h with
  | refl => omega
  | left h => rename_i q; rw [show (2 * q + 1 - 1) / 2 = q by omega]; exact h
  | right h => rename_i q; rw [show (2 * q + 2 - 1) / 2 = q by omega]; exact h
theorem Desc.zero : ∀ p, Desc 0 p := by
  intro p
  induction p using Nat.strongRecOn with
  | ind p ih =>
    by_cases h0 : p = 0
    · subst h0; exact .refl
    · rcases Nat.mod_two_eq_zero_or_one p with h | h
      · have := Desc.right (ih ((p - 2) / 2) (by omega))
        rw [show 2 * ((p - 2) / 2) + 2 = p by omega] at this; exact this
      · have := Desc.left (ih ((p - 1) / 2) (by omega))
        rw [show 2 * ((p - 1) / 2) + 1 = p by omega] at this; exact this

/-- the heap's edges with a parent from s on -/
def HF (key : Value → Nat) (l : List Value) (s : Nat) : Prop := ∀ i, 0 < i → i < l.length → s ≤ (i - 1) / 2 → key (gd l ((i - 1) / 2)) ≤ key (gd l i)

theorem sd_heap (key : Value → Nat) (x : Value) (s : Nat) (l : List Value) (p : Nat) : p < l.length → Desc s p →
    (∀ i, 0 < i → i < l.length → s ≤ (i - 1) / 2 → i ≠ p → key (gd (l.set p x) ((i - 1) / 2)) ≤ key (gd (l.set p x) i)) →
    (s < p → ∀ c, 0 < c → c < l.length → (c - 1) / 2 = p → key (gd l ((p - 1) / 2)) ≤ key (gd l c)) → HF key (sd key x s l p) s := by
  induction l, p using sd.induct key x s with
  | case1 l p h1 h2 ih =>
    intro hp hd ha hb
    rw [sd, if_pos h1, if_pos h2]
    have hql : (p - 1) / 2 < l.length := by omega
    have hqp : (p - 1) / 2 ≠ p := by omega
    refine ih (by rw [List.length_set]; omega) (hd.up h1) ?_ ?_
    · intro i hi0 hil hsi hiq
      rw [List.length_set] at hil
      have hl1 : (p - 1) / 2 < (l.set p (l.getD ((p - 1) / 2) .none)).length := by rw [List.length_set]; exact hql
      rw [gd_set hl1, gd_set hl1, gd_set hp, gd_set hp, if_neg hiq]
      by_cases hip : i = p
      · subst hip
        rw [if_pos rfl, if_pos rfl]; exact Nat.le_of_lt h2
      · rw [if_neg hip]
        have a := ha i hi0 hil hsi hip
        rw [gd_set hp, gd_set hp, if_neg hip] at a
        by_cases hpi : (i - 1) / 2 = p
        · rw [if_neg (by omega), if_pos hpi]
          exact hb h1 i hi0 hil hpi
        · rw [if_neg hpi] at a
          by_cases hqi : (i - 1) / 2 = (p - 1) / 2
          · rw [if_pos hqi]; rw [hqi] at a; exact Nat.le_trans (Nat.le_of_lt h2) a
          · rw [if_neg hqi, if_neg hpi]; exact a
    · intro hsq c hc0 hcl hcq
      rw [List.length_set] at hcl
      rw [gd_set hp, gd_set hp, if_neg (by omega)]
      have aq := ha ((p - 1) / 2) (by omega) hql (by have := (hd.up h1).up hsq |>.ge; exact this) hqp
      rw [gd_set hp, gd_set hp, if_neg (by omega), if_neg hqp] at aq
      by_cases hcp : c = p
      · rw [if_pos hcp]; exact aq
      · rw [if_neg hcp]
        have ac := ha c hc0 hcl (by rw [hcq]; exact (hd.up h1).ge) hcp
        rw [gd_set hp, gd_set hp, if_neg (by omega), if_neg hcp, hcq] at ac
        exact Nat.le_trans aq ac
  | case2 l p h1 h2 =>
    intro hp hd ha hb
    rw [sd, if_pos h1, if_neg h2]
    intro i hi0 hil hsi
    rw [List.length_set] at hil
    by_cases hip : i = p
    · subst hip
      rw [gd_set hp, gd_set hp, if_neg (by omega), if_pos rfl]
      exact Nat.le_of_not_lt h2
    · exact ha i hi0 hil hsi hip
  | case3 l p h1 =>
    intro hp hd ha hb
    rw [sd, if_neg h1]
    intro i hi0 hil hsi
    rw [List.length_set] at hil
    exact ha i hi0 hil hsi (by have := hd.ge; omega)

theorem suLoop_heap (key : Value → Nat) (s : Nat) (l : List Value) (p : Nat) : p < l.length → Desc s p →
    (∀ i, 0 < i → i < l.length → s ≤ (i - 1) / 2 → i ≠ p → (i - 1) / 2 ≠ p → key (gd l ((i - 1) / 2)) ≤ key (gd l i)) →
    (s < p → ∀ c, 0 < c → c < l.length → (c - 1) / 2 = p → key (gd l ((p - 1) / 2)) ≤ key (gd l c)) →
    Desc s (suLoop key l p).2 ∧ l.length ≤ 2 * (suLoop key l p).2 + 1 ∧
    (∀ i, 0 < i → i < l.length → s ≤ (i - 1) / 2 → i ≠ (suLoop key l p).2 → key (gd (suLoop key l p).1 ((i - 1) / 2)) ≤ key (gd (suLoop key l p).1 i)) := by
  have step : ∀ (l : List Value) (p c : Nat), p < l.length → Desc s p → c < l.length → (c - 1) / 2 = p → 0 < c →
      (∀ d, 0 < d → d < l.length → (d - 1) / 2 = p → key (gd l c) ≤ key (gd l d)) →
      (∀ i, 0 < i → i < l.length → s ≤ (i - 1) / 2 → i ≠ p → (i - 1) / 2 ≠ p → key (gd l ((i - 1) / 2)) ≤ key (gd l i)) →
      (s < p → ∀ c, 0 < c → c < l.length → (c - 1) / 2 = p → key (gd l ((p - 1) / 2)) ≤ key (gd l c)) →
      (∀ i, 0 < i → i < (l.set p (gd l c)).length → s ≤ (i - 1) / 2 → i ≠ c → (i - 1) / 2 ≠ c → key (gd (l.set p (gd l c)) ((i - 1) / 2)) ≤ key (gd (l.set p (gd l c)) i)) ∧
      (s < c → ∀ d, 0 < d → d < (l.set p (gd l c)).length → (d - 1) / 2 = c → key (gd (l.set p (gd l c)) ((c - 1) / 2)) ≤ key (gd (l.set p (gd l c)) d)) := by
    intro l p c hp hd hc hcp hc0 hmin ha hb
    rw [List.length_set]
    refine ⟨fun i hi0 hil hsi hic hpc => ?_, fun hsc d hd0 hdl hdc => ?_⟩
    · rw [gd_set hp, gd_set hp]
      by_cases hip : i = p
      · rw [if_pos hip, if_neg (by omega), hip]
        exact hb (by omega) c hc0 hc hcp
      · rw [if_neg hip]
        by_cases hpp : (i - 1) / 2 = p
        · rw [if_pos hpp]; exact hmin i hi0 hil hpp
        · rw [if_neg hpp]; exact ha i hi0 hil hsi hip hpp
    · rw [gd_set hp, gd_set hp, if_pos hcp, if_neg (by omega)]
      have := ha d hd0 hdl (by rw [hdc]; omega) (by omega) (by omega)
      rw [hdc] at this; exact this
  induction l, p using suLoop.induct key with
  | case1 l p h1 h2 ih =>
    intro hp hd ha hb
    rw [suLoop, if_pos h1, if_pos h2]
    obtain ⟨a, b⟩ := step l p (2 * p + 2) hp hd h2.1 (by omega) (by omega) (fun d hd0 hdl hdp => by
      have : d = 2 * p + 1 ∨ d = 2 * p + 2 := by omega
      rcases this with rfl | rfl
      · exact Nat.le_of_not_lt h2.2
      · exact Nat.le_refl _) ha hb
    have r := ih (by rw [List.length_set]; exact h2.1) hd.right a b
    rw [List.length_set] at r
    exact r
  | case2 l p h1 h2 ih =>
    intro hp hd ha hb
    rw [suLoop, if_pos h1, if_neg h2]
    obtain ⟨a, b⟩ := step l p (2 * p + 1) hp hd h1 (by omega) (by omega) (fun d hd0 hdl hdp => by
      have : d = 2 * p + 1 ∨ d = 2 * p + 2 := by omega
      rcases this with rfl | rfl
      · exact Nat.le_refl _
      · have h3 : key (l.getD (2 * p + 1) .none) < key (l.getD (2 * p + 2) .none) := by
          false_or_by_contra
          rename_i hn
          exact h2 ⟨hdl, hn⟩
        exact Nat.le_of_lt h3) ha hb
    have r := ih (by rw [List.length_set]; exact h1) hd.left a b
    rw [List.length_set] at r
    exact r
  | case3 l p h1 =>
    intro hp hd ha hb
    rw [suLoop, if_neg h1]
    exact ⟨hd, by omega, fun i hi0 hil hsi hip => ha i hi0 hil hsi hip (by omega)⟩

theorem su_heap {key : Value → Nat} {l : List Value} {p : Nat} (hp : p < l.length) (h : HF key l (p + 1)) : HF key (su key l p) p := by
  obtain ⟨e1, e2, e3⟩ := suLoop_facts key l p hp
  obtain ⟨a, b, c⟩ := suLoop_heap key p l p hp .refl (fun i hi0 hil hsi hip hpp => h i hi0 hil (by omega)) (fun h => absurd h (Nat.lt_irrefl _))
  rw [su]
  refine sd_heap key _ p _ _ (by rw [List.length_set]; omega) a ?_ ?_
  · intro i hi0 hil hsi hip
    rw [List.length_set] at hil
    have hq : (suLoop key l p).2 < (suLoop key l p).1.length := by omega
    rw [List.set_set, gd_set hq, gd_set hq, if_neg (by omega), if_neg hip]
    exact c i hi0 (by omega) hsi hip
  · intro _ c hc0 hcl hcp
    rw [List.length_set] at hcl
    omega

theorem swap_perm (l : List Value) (p c : Nat) (y : Value) (hp : p < l.length) (hc : c < l.length) (hpc : p ≠ c) : ((l.set p (gd l c)).set c y).Perm (l.set p y) := by
  have h1 : p < (l.set p y).length := by rw [List.length_set]; exact hp
  have h2 : c < (l.set p y).length := by rw [List.length_set]; exact hc
  have h := List.set_set_perm h1 h2
  have e1 : (l.set p y)[c] = gd l c := by rw [List.getElem_set_ne hpc]; exact (getD_of_lt hc).symm
  have e2 : (l.set p y)[p] = y := by simp
  rw [e1, e2, List.set_set] at h
  exact h
theorem sd_perm (key : Value → Nat) (x : Value) (s : Nat) (l : List Value) (p : Nat) : p < l.length → (sd key x s l p).Perm (l.set p x) := by
  induction l, p using sd.induct key x s with
  | case1 l p h1 h2 ih =>
    intro hp
    rw [sd, if_pos h1, if_pos h2]
    exact (ih (by rw [List.length_set]; omega)).trans (swap_perm l p ((p - 1) / 2) x hp (by omega) (by omega))
  | case2 l p h1 h2 => intro hp; rw [sd, if_pos h1, if_neg h2]
  | case3 l p h1 => intro hp; rw [sd, if_neg h1]
theorem suLoop_perm (key : Value → Nat) (y : Value) (l : List Value) (p : Nat) : p < l.length → ((suLoop key l p).1.set (suLoop key l p).2 y).Perm (l.set p y) := by
  induction l, p using suLoop.induct key with
  | case1 l p h1 h2 ih =>
    intro hp
    rw [suLoop, if_pos h1, if_pos h2]
    exact (ih (by rw [List.length_set]; omega)).trans (swap_perm l p (2 * p + 2) y hp (by omega) (by omega))
  | case2 l p h1 h2 ih =>
    intro hp
    rw [suLoop, if_pos h1, if_neg h2]
    exact (ih (by rw [List.length_set]; omega)).trans (swap_perm l p (2 * p + 1) y hp (by omega) (by omega))
  | case3 l p h1 => intro hp; rw [suLoop, if_neg h1]
theorem su_perm {key : Value → Nat} {l : List Value} {p : Nat} (hp : p < l.length) : (su key l p).Perm l := by
  obtain ⟨e1, e2, e3⟩ := suLoop_facts key l p hp
  rw [su]
  refine (sd_perm key _ p _ _ (by rw [List.length_set]; omega)).trans ?_
  rw [List.set_set]
  refine (suLoop_perm key _ l p hp).trans ?_
  rw [getD_of_lt hp, List.set_getElem_self]

theorem hfy_heap (key : Value → Nat) : ∀ (k : Nat) (l : List Value), k ≤ l.length → HF key l k → HF key (hfy key k l) 0 ∧ (hfy key k l).Perm l
  | 0, l, _, h => ⟨h, .refl _⟩
  | k + 1, l, hk, h => by
    have hs := su_heap (key := key) (l := l) (p := k) (by omega) h
    have hp := su_perm (key := key) (l := l) (p := k) (by omega)
    have r := hfy_heap key k (su key l k) (by rw [hp.length_eq]; omega) hs
    exact ⟨r.1, r.2.trans hp⟩

def IsHeap (key : Value → Nat) (l : List Value) : Prop := HF key l 0
theorem IsHeap.congr {key key' : Value → Nat} {l : List Value} (h : IsHeap key l) (he : ∀ v ∈ l, key v = key' v) : IsHeap key' l := by
  intro i hi0 hil hs
  have a := getD_mem (l := l) (i := i) hil
  have b := getD_mem (l := l) (i := (i - 1) / 2) (by omega)
  rw [← he _ a, ← he _ b]
  exact h i hi0 hil hs
theorem heapify_ok (key : Value → Nat) (l : List Value) : IsHeap key (hfy key (l.length / 2) l) ∧ (hfy key (l.length / 2) l).Perm l :=
  hfy_heap key _ l (by omega) fun i hi0 hil hsi => by omega
theorem top_min {key : Value → Nat} {l : List Value} (h : IsHeap key l) : ∀ i, i < l.length → key (gd l 0) ≤ key (gd l i) := by
  intro i
  induction i using Nat.strongRecOn with
  | ind i ih =>
    intro hi
    by_cases h0 : i = 0
    · subst h0; exact Nat.le_refl _
    · exact Nat.le_trans (ih ((i - 1) / 2) (by omega) (by omega)) (h i (by omega) hi (Nat.zero_le _))
theorem top_min' {key : Value → Nat} {l : List Value} (h : IsHeap key l) : ∀ y ∈ l, key (gd l 0) ≤ key y := by
  intro y hy
  obtain ⟨i, hi, rfl⟩ := List.getElem_of_mem hy
  have := top_min h i hi
  rw [show gd l i = l[i] from getD_of_lt hi] at this
  exact this
theorem push_ok {key : Value → Nat} {l : List Value} {x : Value} (h : IsHeap key l) : IsHeap key (hpush key l x) ∧ (hpush key l x).Perm (x :: l) := by
  have hlt : l.length < (l ++ [x]).length := by simp
  have hset : (l ++ [x]).set l.length x = l ++ [x] := by simp
  constructor
  · refine sd_heap key x 0 (l ++ [x]) l.length hlt (Desc.zero _) ?_ ?_
    · intro i hi0 hil _ hip
      rw [hset]
      simp only [List.length_append, List.length_cons, List.length_nil] at hil
      have h1 : i < l.length := by omega
      have h2 : (i - 1) / 2 < l.length := by omega
      have e : ∀ j, j < l.length → gd (l ++ [x]) j = gd l j := fun j hj => by simp only [gd, List.getD]; rw [List.getElem?_append_left hj]
      rw [e _ h1, e _ h2]
      exact h i hi0 h1 (Nat.zero_le _)
    · intro _ c hc0 hcl hcp
      simp only [List.length_append, List.length_cons, List.length_nil] at hcl
      omega
  · refine (sd_perm key x 0 _ _ hlt).trans ?_
    rw [hset]
    exact List.perm_append_singleton x l
theorem pop_ok {key : Value → Nat} {l : List Value} {x : Value} (h : IsHeap key (l ++ [x])) :
    ((hpop key l x).1 :: (hpop key l x).2).Perm (l ++ [x]) ∧ IsHeap key (hpop key l x).2 ∧ (∀ y ∈ (hpop key l x).2, key (hpop key l x).1 ≤ key y) ∧ (hpop key l x).1 = gd (l ++ [x]) 0 := by
  cases l with
  | nil => exact ⟨.refl _, fun i _ hi => by simp [hpop] at hi, fun y hy => by simp [hpop] at hy, rfl⟩
  | cons y r =>
    have hp : (su key (x :: r) 0).Perm (x :: r) := su_perm (by simp)
    have hq : (y :: su key (x :: r) 0).Perm (y :: r ++ [x]) := by
      refine (hp.cons y).trans ?_
      rw [List.cons_append]
      exact ((List.perm_append_singleton x r).symm).cons y
    have hm := top_min' h
    refine ⟨hq, ?_, ?_, rfl⟩
    · refine su_heap (by simp) ?_
      intro i hi0 hil hsi
      have h1 : i - 1 < r.length := by simp at hil; omega
      have := h i hi0 (by simp; omega) (Nat.zero_le _)
      have e : ∀ j, 0 < j → j < r.length + 1 → gd (y :: r ++ [x]) j = gd (x :: r) j := fun j hj hjl => by
        obtain ⟨j', rfl⟩ : ∃ j', j = j' + 1 := ⟨j - 1, by omega⟩
        have : j' < r.length := by omega
        simp only [gd, List.getD, List.cons_append, List.getElem?_cons_succ]; rw [List.getElem?_append_left this]
      rw [e _ hi0 (by omega), e _ (by omega) (by omega)] at this
      exact this
    · intro z hz
      exact hm z (hq.mem_iff.mp (List.mem_cons_of_mem _ hz))

/-! part L0 -/
theorem fresh_L0 : True := by w_top off; trivial
structure Lamp where
  lit : Nat
  out : Nat
  share : Nat
  value : Nat

structure Lamp.Ok (l : Lamp) : Prop where
  lit1 : 1 ≤ l.lit
  lo : l.lit < l.out
  out15 : l.out ≤ 15
  s1 : 1 ≤ l.share
  s4 : l.share ≤ 4
  v1 : 1 ≤ l.value
  v8 : l.value ≤ 8
def lampD : Lamp := ⟨0, 0, 0, 0⟩
/-- the marks of the first i lamps -/
def evsN (lamps : List Lamp) : Nat → List (Nat × Nat × Nat)
  | 0 => []
  | i + 1 => evsN lamps i ++ [((lamps.getD i lampD).lit, i, (lamps.getD i lampD).value), ((lamps.getD i lampD).out, i, 0)]
theorem evsN_mem (lamps : List Lamp) : ∀ (i : Nat) x, x ∈ evsN lamps i ↔ ∃ k, k < i ∧ (x = ((lamps.getD k lampD).lit, k, (lamps.getD k lampD).value) ∨ x = ((lamps.getD k lampD).out, k, 0))
  | 0, x => ⟨fun h => (nomatch h), fun ⟨k, hk, _⟩ => absurd hk (Nat.not_lt_zero k)⟩
  | i + 1, x => by
    rw [evsN, List.mem_append, evsN_mem lamps i x]
    constructor
    · rintro (⟨k, hk, h⟩ | h)
      · exact ⟨k, by omega, h⟩
      · rcases List.mem_cons.mp h with h | h
        · exact ⟨i, by omega, .inl h⟩
        · exact ⟨i, by omega, .inr (List.mem_singleton.mp h)⟩
    · rintro ⟨k, hk, h⟩
      by_cases hi : k = i
      · subst hi
        right
        rcases h with h | h
        · exact h ▸ .head _
        · exact h ▸ .tail _ (.head _)
      · exact .inl ⟨k, by omega, h⟩
theorem evsN_k (lamps : List Lamp) (i : Nat) (x) (h : x ∈ evsN lamps i) : x.2.1 < i := by
  obtain ⟨k, hk, h | h⟩ := (evsN_mem lamps i x).mp h <;> rw [h] <;> exact hk

/-! who is on top, hour by hour -/
def litB (lamps : List Lamp) (h k : Nat) : Bool := decide ((lamps.getD k lampD).lit ≤ h) && decide (h < (lamps.getD k lampD).out)
def keyL (lamps : List Lamp) (k : Nat) : Nat := (8 - (lamps.getD k lampD).value) * 10 + k
def topN (lamps : List Lamp) (h n : Nat) : Nat → Nat
  | 0 => n
  | i + 1 => if litB lamps h i && (topN lamps h n i == n || decide (keyL lamps i < keyL lamps (topN lamps h n i))) then i else topN lamps h n i
def topAt (lamps : List Lamp) (h : Nat) : Nat := topN lamps h lamps.length lamps.length
def IsTop (lamps : List Lamp) (h i k : Nat) : Prop :=
  (k < i ∧ litB lamps h k = true ∧ ∀ j, j < i → litB lamps h j = true → keyL lamps k ≤ keyL lamps j) ∨ (k = lamps.length ∧ ∀ j, j < i → litB lamps h j = false)
theorem topN_is (lamps : List Lamp) (h : Nat) : ∀ i, i ≤ lamps.length → IsTop lamps h i (topN lamps h lamps.length i)
  | 0, _ => .inr ⟨rfl, fun j hj => absurd hj (Nat.not_lt_zero j)⟩
  | i + 1, hi => by
    have ih := topN_is lamps h i (by omega)
    rw [topN]
    generalize topN lamps h lamps.length i = b at ih
    by_cases hl : litB lamps h i = true
    · rw [hl, Bool.true_and]
      rcases ih with ⟨hb, hlb, hm⟩ | ⟨rfl, hm⟩
      · have hbn : (b == lamps.length) = false := by simp; omega
        rw [hbn, Bool.false_or]
        by_cases hk : keyL lamps i < keyL lamps b
        · rw [if_pos (by simpa using hk)]
          refine .inl ⟨by omega, hl, fun j hj hlj => ?_⟩
          by_cases hji : j = i
          · rw [hji]; exact Nat.le_refl _
          · have := hm j (by omega) hlj; omega
        · rw [if_neg (by simpa using hk)]
          refine .inl ⟨by omega, hlb, fun j hj hlj => ?_⟩
          by_cases hji : j = i
          · rw [hji]; omega
          · exact hm j (by omega) hlj
      · rw [if_pos (by simp)]
        refine .inl ⟨by omega, hl, fun j hj hlj => ?_⟩
        by_cases hji : j = i
        · rw [hji]; exact Nat.le_refl _
        · rw [hm j (by omega)] at hlj; cases hlj
    · have hl' : litB lamps h i = false := by simpa using hl
      rw [hl', Bool.false_and, if_neg (by simp)]
      rcases ih with ⟨hb, hlb, hm⟩ | ⟨hb, hm⟩
      · refine .inl ⟨by omega, hlb, fun j hj hlj => ?_⟩
        by_cases hji : j = i
        · rw [hji, hl'] at hlj; cases hlj
        · exact hm j (by omega) hlj
      · refine .inr ⟨hb, fun j hj => ?_⟩
        by_cases hji : j = i
        · rw [hji]; exact hl'
        · exact hm j (by omega)
theorem topAt_is (lamps : List Lamp) (h : Nat) : IsTop lamps h lamps.length (topAt lamps h) := topN_is lamps h _ (Nat.le_refl _)
theorem IsTop.uniq {lamps : List Lamp} {h k k' : Nat} (hn : lamps.length ≤ 10) (a : IsTop lamps h lamps.length k) (b : IsTop lamps h lamps.length k') : k = k' := by
  rcases a with ⟨a1, a2, a3⟩ | ⟨a1, a2⟩ <;> rcases b with ⟨b1, b2, b3⟩ | ⟨b1, b2⟩
  · have h1 := a3 k' b1 b2
    have h2 := b3 k a1 a2
    unfold keyL at h1 h2
    omega
  · rw [b2 k a1] at a2; cases a2
  · rw [a2 k' b1] at b2; cases b2
  · omega

/-- the sign of a lamp, of the ground -/
def codeAt (nm : List Nat) (k : Nat) : Nat := (nm ++ [45]).getD k 0
def stepS (S : List Nat) (c : Nat) : List Nat := if S.getLast? = some c then S else S ++ [c]
/-- the strip of the hours below t -/
def SU (nm : List Nat) (lamps : List Lamp) : Nat → List Nat
  | 0 => []
  | t + 1 => stepS (SU nm lamps t) (codeAt nm (topAt lamps t))
theorem stepS_last (S : List Nat) (c : Nat) : (stepS S c).getLast? = some c := by
  unfold stepS
  split
  · assumption
  · simp
theorem stepS_twice (S : List Nat) (c : Nat) : stepS (stepS S c) c = stepS S c := by
  rw [stepS.eq_def (stepS S c), if_pos (stepS_last S c)]
/-- as long as the top stays -/
theorem SU_stay {nm : List Nat} {lamps : List Lamp} {t k : Nat} : ∀ d, (∀ u, t ≤ u → u < t + 1 + d → topAt lamps u = k) → SU nm lamps (t + 1 + d) = stepS (SU nm lamps t) (codeAt nm k)
  | 0, h => by
    show SU nm lamps (t + 1) = _
    rw [SU, h t (Nat.le_refl _) (by omega)]
  | d + 1, h => by
    show SU nm lamps (t + 1 + d + 1) = _
    rw [SU, SU_stay d (fun u h1 h2 => h u h1 (by omega)), h (t + 1 + d) (by omega) (by omega), stepS_twice]

/-! the heaps' story -/
def Gok (P : List (Nat × Nat × Nat)) (G : List Nat) : Prop := ∀ k, k ∈ G ↔ ∃ t, (t, k, 0) ∈ P
structure Hok (n : Nat) (P : List (Nat × Nat × Nat)) (G : List Nat) (H : List (Nat × Nat)) : Prop where
  ground : (0, n) ∈ H
  from' : ∀ x ∈ H, x = (0, n) ∨ (1 ≤ x.1 ∧ ∃ t, (t, x.2, x.1) ∈ P)
  into : ∀ x ∈ P, 1 ≤ x.2.2 → x.2.1 ∈ G ∨ (x.2.2, x.2.1) ∈ H
def IsNext (R : List (Nat × Nat × Nat)) (nh : Nat) : Prop := (∀ r ∈ R, nh ≤ r.1) ∧ ((nh = 16 ∧ R = []) ∨ ∃ r ∈ R, r.1 = nh)
def StripInv (nm : List Nat) (lamps : List Lamp) (R : List (Nat × Nat × Nat)) (H : List (Nat × Nat)) (G S : List Nat) : Prop :=
  ∃ P nh, (P ++ R).Perm (evsN lamps lamps.length) ∧ (∀ p ∈ P, ∀ r ∈ R, p.1 ≤ r.1) ∧ Gok P G ∧ Hok lamps.length P G H ∧ IsNext R nh ∧ S = SU nm lamps nh
def MidInv (nm : List Nat) (lamps : List Lamp) (h : Nat) (R : List (Nat × Nat × Nat)) (H : List (Nat × Nat)) (G S : List Nat) : Prop :=
  ∃ P, (P ++ R).Perm (evsN lamps lamps.length) ∧ (∀ p ∈ P, p.1 ≤ h) ∧ (∀ r ∈ R, h ≤ r.1) ∧ Gok P G ∧ Hok lamps.length P G H ∧ S = SU nm lamps h

theorem strip_start {nm : List Nat} {lamps : List Lamp} (hne : nm.length = lamps.length) (ok : ∀ l ∈ lamps, l.Ok) {R : List (Nat × Nat × Nat)} (hR : R.Perm (evsN lamps lamps.length)) :
    StripInv nm lamps R [(0, lamps.length)] [] [45] := by
  have hc : codeAt nm lamps.length = 45 := by simp [codeAt, List.getD, ← hne]
  have okk : ∀ k, k < lamps.length → (lamps.getD k lampD).Ok := fun k hk => ok _ (by simp [List.getD, hk])
  obtain ⟨nh, hnh, h1⟩ : ∃ nh, IsNext R nh ∧ 1 ≤ nh := by
    have : ∀ l : List (Nat × Nat × Nat), (∀ x ∈ l, 1 ≤ x.1 ∧ x.1 ≤ 15) → ∃ nh, IsNext l nh ∧ 1 ≤ nh := by
      intro l
      induction l with
      | nil => exact fun _ => ⟨16, ⟨(fun _ h => nomatch h), .inl ⟨rfl, rfl⟩⟩, by omega⟩
      | cons x r ih =>
        intro hx
        obtain ⟨nh, ⟨a, b⟩, c⟩ := ih fun y hy => hx y (.tail _ hy)
        have hx1 := hx x (.head _)
        by_cases hlt : nh < x.1
        · refine ⟨nh, ⟨fun r' hr' => ?_, ?_⟩, c⟩
          · rcases List.mem_cons.mp hr' with rfl | hr'
            · omega
            · exact a r' hr'
          · rcases b with ⟨b1, rfl⟩ | ⟨r', hr', e⟩
            · omega
            · exact .inr ⟨r', .tail _ hr', e⟩
        · refine ⟨x.1, ⟨fun r' hr' => ?_, .inr ⟨x, .head _, rfl⟩⟩, hx1.1⟩
          rcases List.mem_cons.mp hr' with rfl | hr'
          · omega
          · have := a r' hr'; omega
    refine this R fun x hx => ?_
    obtain ⟨k, hk, e | e⟩ := (evsN_mem lamps _ x).mp (hR.mem_iff.mp hx)
    · have o := okk k hk; rw [e]; exact ⟨o.lit1, by have := o.lo; have := o.out15; simp only; omega⟩
    · have o := okk k hk; rw [e]; exact ⟨by have := o.lit1; have := o.lo; simp only; omega, o.out15⟩
  refine ⟨[], nh, hR, (fun _ h => nomatch h), ?_, ⟨.head _, ?_, (fun _ h => nomatch h)⟩, hnh, ?_⟩
  · exact fun k => ⟨(fun h => nomatch h), fun ⟨_, h⟩ => nomatch h⟩
  · exact fun x hx => .inl (List.mem_singleton.mp hx)
  · have hstay := SU_stay (nm := nm) (lamps := lamps) (t := 0) (k := lamps.length) (nh - 1) (fun u _ hu => by
      rcases topAt_is lamps u with ⟨a, b, _⟩ | ⟨a, _⟩
      · exfalso
        have := hnh.1 ((lamps.getD (topAt lamps u) lampD).lit, topAt lamps u, (lamps.getD (topAt lamps u) lampD).value) (hR.mem_iff.mpr ((evsN_mem lamps _ _).mpr ⟨_, a, .inl rfl⟩))
        simp only [litB, Bool.and_eq_true, decide_eq_true_eq] at b
        simp only at this
        omega
      · exact a)
    rw [show 0 + 1 + (nh - 1) = nh by omega, hc] at hstay
    rw [hstay]; rfl

/-- one mark taken -/
theorem strip_pop {nm : List Nat} {lamps : List Lamp} {R R1 : List (Nat × Nat × Nat)} {H H1 : List (Nat × Nat)} {G G1 S : List Nat} {x : Nat × Nat × Nat}
    (I : StripInv nm lamps R H G S) (hR : (x :: R1).Perm R) (hx : ∀ r ∈ R1, x.1 ≤ r.1)
    (hHG : (1 ≤ x.2.2 ∧ H1.Perm ((x.2.2, x.2.1) :: H) ∧ G1 = G) ∨ (x.2.2 = 0 ∧ H1 = H ∧ G1 = G ++ [x.2.1])) : MidInv nm lamps x.1 R1 H1 G1 S := by
  obtain ⟨P, nh, hP, hPR, hG, hH, hN, hS⟩ := I
  have hxR : x ∈ R := hR.mem_iff.mp (.head _)
  have hnh : nh = x.1 := by
    have h1 := hN.1 x hxR
    rcases hN.2 with ⟨_, e⟩ | ⟨r, hr, e⟩
    · rw [e] at hxR; cases hxR
    · rcases List.mem_cons.mp (hR.mem_iff.mpr hr) with rfl | hr
      · exact e.symm
      · have := hx r hr; omega
  subst hnh
  refine ⟨P ++ [x], ?_, ?_, hx, ?_, ?_, hS⟩
  · rw [List.append_assoc]
    exact (List.Perm.append_left P hR).trans hP
  · intro p hp
    rcases List.mem_append.mp hp with hp | hp
    · exact hPR p hp x hxR
    · rw [List.mem_singleton.mp hp]; exact Nat.le_refl _
  · intro k
    rcases hHG with ⟨h1, _, rfl⟩ | ⟨h1, _, rfl⟩
    · rw [hG k]
      constructor
      · rintro ⟨t, ht⟩; exact ⟨t, List.mem_append.mpr (.inl ht)⟩
      · rintro ⟨t, ht⟩
        rcases List.mem_append.mp ht with ht | ht
        · exact ⟨t, ht⟩
        · have := List.mem_singleton.mp ht
          rw [← this] at h1; simp only at h1; omega
    · rw [List.mem_append, hG k]
      constructor
      · rintro (⟨t, ht⟩ | ht)
        · exact ⟨t, List.mem_append.mpr (.inl ht)⟩
        · refine ⟨x.1, List.mem_append.mpr (.inr ?_)⟩
          rw [List.mem_singleton.mp ht, ← h1]; exact .head _
      · rintro ⟨t, ht⟩
        rcases List.mem_append.mp ht with ht | ht
        · exact .inl ⟨t, ht⟩
        · right
          rw [← List.mem_singleton.mp ht]; exact .head _
  · rcases hHG with ⟨h1, hp, rfl⟩ | ⟨h1, rfl, rfl⟩
    · refine ⟨hp.mem_iff.mpr (.tail _ hH.ground), fun y hy => ?_, fun y hy hy1 => ?_⟩
      · rcases List.mem_cons.mp (hp.mem_iff.mp hy) with rfl | hy
        · exact .inr ⟨h1, x.1, List.mem_append.mpr (.inr (.head _))⟩
        · rcases hH.from' y hy with h | ⟨h, t, ht⟩
          · exact .inl h
          · exact .inr ⟨h, t, List.mem_append.mpr (.inl ht)⟩
      · rcases List.mem_append.mp hy with hy | hy
        · rcases hH.into y hy hy1 with h | h
          · exact .inl h
          · exact .inr (hp.mem_iff.mpr (.tail _ h))
        · rw [List.mem_singleton.mp hy]; exact .inr (hp.mem_iff.mpr (.head _))
    · refine ⟨hH.ground, fun y hy => ?_, fun y hy hy1 => ?_⟩
      · rcases hH.from' y hy with h | ⟨h, t, ht⟩
        · exact .inl h
        · exact .inr ⟨h, t, List.mem_append.mpr (.inl ht)⟩
      · rcases List.mem_append.mp hy with hy | hy
        · rcases hH.into y hy hy1 with h | h
          · exact .inl (List.mem_append.mpr (.inl h))
          · exact .inr h
        · rw [List.mem_singleton.mp hy] at hy1; omega

/-- one that is gone comes off the heap -/
theorem strip_off {nm : List Nat} {lamps : List Lamp} {h : Nat} {R : List (Nat × Nat × Nat)} {H H1 : List (Nat × Nat)} {G S : List Nat} {x : Nat × Nat}
    (I : MidInv nm lamps h R H G S) (hH : (x :: H1).Perm H) (hx : x.2 ∈ G) : MidInv nm lamps h R H1 G S := by
  obtain ⟨P, hP, h1, h2, hG, hK, hS⟩ := I
  refine ⟨P, hP, h1, h2, hG, ⟨?_, fun y hy => hK.from' y (hH.mem_iff.mp (.tail _ hy)), fun y hy hy1 => ?_⟩, hS⟩
  · rcases List.mem_cons.mp (hH.mem_iff.mpr hK.ground) with e | e
    · exfalso
      obtain ⟨t, ht⟩ := (hG _).mp hx
      have := evsN_k lamps _ _ (hP.mem_iff.mp (List.mem_append.mpr (.inl ht)))
      rw [← e] at this
      exact Nat.lt_irrefl _ this
    · exact e
  · rcases hK.into y hy hy1 with e | e
    · exact .inl e
    · rcases List.mem_cons.mp (hH.mem_iff.mpr e) with q | q
      · left; rw [← q] at hx; exact hx
      · exact .inr q

theorem strip_same {nm : List Nat} {lamps : List Lamp} {h : Nat} {R : List (Nat × Nat × Nat)} {H : List (Nat × Nat)} {G S : List Nat}
    (I : MidInv nm lamps h R H G S) (hr : ∃ r ∈ R, r.1 = h) : StripInv nm lamps R H G S := by
  obtain ⟨P, hP, h1, h2, hG, hK, hS⟩ := I
  exact ⟨P, h, hP, fun p hp r hr => Nat.le_trans (h1 p hp) (h2 r hr), hG, hK, ⟨h2, .inr hr⟩, hS⟩

/-- the hour is over: the top is told -/
theorem strip_told {nm : List Nat} {lamps : List Lamp} {h : Nat} {R : List (Nat × Nat × Nat)} {H : List (Nat × Nat)} {G S : List Nat} {x : Nat × Nat} (hn : lamps.length ≤ 10) (ok : ∀ l ∈ lamps, l.Ok) (h15 : h ≤ 15)
    (I : MidInv nm lamps h R H G S) (hr : ∀ r ∈ R, r.1 ≠ h) (hx : x ∈ H) (hmin : ∀ y ∈ H, (8 - x.1) * 10 + x.2 ≤ (8 - y.1) * 10 + y.2) (hxG : x.2 ∉ G) : StripInv nm lamps R H G (stepS S (codeAt nm x.2)) := by
  obtain ⟨P, hP, h1, h2, hG, hK, hS⟩ := I
  have okk : ∀ k, k < lamps.length → (lamps.getD k lampD).Ok := fun k hk => ok _ (by simp [List.getD, hk])
  have hgt : ∀ r ∈ R, h < r.1 := fun r hr' => by have := h2 r hr'; have := hr r hr'; omega
  -- the next hour with a mark
  obtain ⟨nh, hnh, hh⟩ : ∃ nh, IsNext R nh ∧ h < nh := by
    have : ∀ l : List (Nat × Nat × Nat), (∀ x ∈ l, h < x.1 ∧ x.1 ≤ 15) → ∃ nh, IsNext l nh ∧ h < nh := by
      intro l
      induction l with
      | nil => exact fun _ => ⟨16, ⟨(fun _ h => nomatch h), .inl ⟨rfl, rfl⟩⟩, by omega⟩
      | cons x r ih =>
        intro hx
        obtain ⟨nh, ⟨a, b⟩, c⟩ := ih fun y hy => hx y (.tail _ hy)
        have hx1 := hx x (.head _)
        by_cases hlt : nh < x.1
        · refine ⟨nh, ⟨fun r' hr' => ?_, ?_⟩, c⟩
          · rcases List.mem_cons.mp hr' with rfl | hr'
            · omega
            · exact a r' hr'
          · rcases b with ⟨b1, rfl⟩ | ⟨r', hr', e⟩
            · omega
            · exact .inr ⟨r', .tail _ hr', e⟩
        · refine ⟨x.1, ⟨fun r' hr' => ?_, .inr ⟨x, .head _, rfl⟩⟩, hx1.1⟩
          rcases List.mem_cons.mp hr' with rfl | hr'
          · omega
          · have := a r' hr'; omega
    refine this R fun x hx => ⟨hgt x hx, ?_⟩
    obtain ⟨k, hk, e | e⟩ := (evsN_mem lamps _ x).mp (hP.mem_iff.mp (List.mem_append.mpr (.inr hx)))
    · have o := okk k hk; rw [e]; have := o.lo; have := o.out15; simp only; omega
    · have o := okk k hk; rw [e]; exact o.out15
  -- where a mark lies
  have old : ∀ y ∈ evsN lamps lamps.length, y.1 < nh → y ∈ P := fun y hy hlt => by
    rcases List.mem_append.mp (hP.mem_iff.mpr hy) with q | q
    · exact q
    · have := hnh.1 y q; omega
  have ours : ∀ y ∈ P, y ∈ evsN lamps lamps.length := fun y hy => hP.mem_iff.mp (List.mem_append.mpr (.inl hy))
  have lit_of : ∀ u, h ≤ u → u < nh → ∀ j, j < lamps.length → litB lamps u j = true → ((lamps.getD j lampD).value, j) ∈ H := by
    intro u hu hun j hj hl
    simp only [litB, Bool.and_eq_true, decide_eq_true_eq] at hl
    have hp := old _ ((evsN_mem lamps _ _).mpr ⟨j, hj, .inl rfl⟩) (by simp only; omega)
    rcases hK.into _ hp (okk j hj).v1 with q | q
    · exfalso
      obtain ⟨t, ht⟩ := (hG _).mp q
      obtain ⟨k, hk, e | e⟩ := (evsN_mem lamps _ _).mp (ours _ ht)
      · have := (okk k hk).v1; simp only [Prod.mk.injEq] at e; omega
      · simp only [Prod.mk.injEq] at e
        have := h1 _ ht
        rw [← e.2.1] at e
        simp only at this
        omega
    · exact q
  have htop : ∀ u, h ≤ u → u < nh → IsTop lamps u lamps.length x.2 := by
    intro u hu hun
    rcases hK.from' x hx with e | ⟨e1, t, ht⟩
    · right
      refine ⟨by rw [e], fun j hj => ?_⟩
      cases hl : litB lamps u j with
      | false => rfl
      | true =>
        exfalso
        have := hmin _ (lit_of u hu hun j hj hl)
        rw [e] at this
        have := (okk j hj).v1
        have := (okk j hj).v8
        simp only at *
        omega
    · left
      obtain ⟨k, hk, e | e⟩ := (evsN_mem lamps _ _).mp (ours _ ht)
      · simp only [Prod.mk.injEq] at e
        obtain ⟨e2, e3, e4⟩ := e
        rw [← e3] at e2 e4 hk
        have hlit := h1 _ ht
        simp only at hlit
        have hout : u < (lamps.getD x.2 lampD).out := by
          false_or_by_contra
          rename_i hno
          refine hxG ((hG _).mpr ⟨(lamps.getD x.2 lampD).out, old _ ((evsN_mem lamps _ _).mpr ⟨x.2, hk, .inr rfl⟩) ?_⟩)
          simp only; omega
        refine ⟨hk, ?_, fun j hj hl => ?_⟩
        · simp only [litB, Bool.and_eq_true, decide_eq_true_eq]; omega
        · have := hmin _ (lit_of u hu hun j hj hl)
          unfold keyL
          rw [← e4]; exact this
      · simp only [Prod.mk.injEq] at e; omega
  refine ⟨P, nh, hP, fun p hp r hr' => Nat.le_trans (h1 p hp) (h2 r hr'), hG, hK, hnh, ?_⟩
  have := SU_stay (nm := nm) (lamps := lamps) (t := h) (k := x.2) (nh - h - 1) fun u hu1 hu2 => (topAt_is lamps u).uniq hn (htop u hu1 (by omega))
  rw [show h + 1 + (nh - h - 1) = nh by omega] at this
  rw [hS, this]

theorem strip_end {nm : List Nat} {lamps : List Lamp} {H : List (Nat × Nat)} {G S : List Nat} (I : StripInv nm lamps [] H G S) : S = SU nm lamps 16 := by
  obtain ⟨P, nh, _, _, _, _, hN, hS⟩ := I
  rcases hN.2 with ⟨e, _⟩ | ⟨r, hr, _⟩
  · rw [hS, e]
  · cases hr
theorem SU_length (nm : List Nat) (lamps : List Lamp) : ∀ t, (SU nm lamps t).length ≤ t
  | 0 => Nat.le_refl _
  | t + 1 => by
    have := SU_length nm lamps t
    rw [SU]
    unfold stepS
    split
    · omega
    · rw [List.length_append]; simp only [List.length_cons, List.length_nil]; omega

/-! part S1 -/
theorem fresh_S1 : True := by w_top off; trivial
theorem add_strT {prog : Program} {w : World} {A : Around} {E : Value → Shared → Prop} {s : Shared} {x y : Str} {t u : Tok} {Q : Value → Shared → Prop} (hsz : x.length + y.length ≤ 100) (h : ∀ t' tk, s.toks ≤ tk → Q (.str (x ++ y) t') { s with toks := tk }) : wpAny (model prog w) A (binaryOp .Add (.str x t) (.str y u)) Q E s :=
  wpAny_with_toks (n := s.toks) (Nat.le_refl _) (wpAny_mono (Q := fun a s' => s.toks ≤ s'.toks → Q a s') (E := fun _ _ => False) (add_str (fun t' tk hle => h t' tk hle) (by simp only [sizeLine_eq]; omega)) (fun _ _ x => x) (fun _ _ x => x.elim))
theorem app_cps (x y : Str) : (x ++ y).cps.toList = x.cps.toList ++ y.cps.toList := by
  show (x.cps ++ y.cps).toList = _
  simp
theorem dash_cps : (Str.ofString "-").cps.toList = [45] := by decide
theorem len_cps (x : Str) : x.length = x.cps.toList.length := by cases x; rfl
theorem item_at_nat {x : Str} {k : Nat} (h : k < x.cps.toList.length) : Txt.item x (k : Int) = ⟨#[x.cps.toList.getD k 0]⟩ := by
  have e : seqIndex? (k : Int) x.length = some k := by
    unfold seqIndex?
    rw [len_cps]
    simp only
    rw [if_neg (show ¬ ((k : Int) < 0) by omega)]
    rw [if_pos (by simp; simpa using h)]
    simp
  unfold Txt.item Txt.charAt
  rw [e]
  simp [List.getD]
theorem item_code {names : Str} {k n : Nat} (hn : names.cps.size = n) (h : k ≤ n) : Txt.item (names ++ Str.ofString "-") (k : Int) = ⟨#[codeAt names.cps.toList k]⟩ := by
  rw [item_at_nat (by rw [app_cps, dash_cps]; simp; omega), app_cps, dash_cps]
  rfl
theorem item_last {S : Str} {c : Nat} (h : S.cps.toList.getLast? = some c) : Txt.item S (-1) = ⟨#[c]⟩ := by
  have hpos : 0 < S.cps.toList.length := by
    cases hl : S.cps.toList with
    | nil => rw [hl] at h; cases h
    | cons a b => simp
  have e : seqIndex? (-1) S.length = some (S.cps.toList.length - 1) := by
    unfold seqIndex?
    rw [len_cps]
    simp only
    rw [show (if (-1 : Int) < 0 then -1 + (S.cps.toList.length : Int) else -1) = -1 + (S.cps.toList.length : Int) from if_pos (by decide)]
    rw [if_pos (by simp only [Bool.and_eq_true, decide_eq_true_eq]; omega)]
    congr 1
    omega
  unfold Txt.item Txt.charAt
  rw [e]
  rw [List.getLast?_eq_getElem?] at h
  simp only [Option.bind]
  rw [show S.cps[S.cps.toList.length - 1]? = some c by simpa using h]
  rfl

/-! part B3 -/
theorem fresh_B3 : True := by w_top off; trivial
/-- the end of a turn of a for, the token count told -/
def TEnd (h₀ : Heap) (L : Addr) (s : Shared) (Jn : (Str → Option Value) → List (Addr × Obj) → Nat → Prop) (I : Addr) (o : Obj) (s' : Shared) : Prop :=
  ∃ h' tk m' news', s' = { s with heap := h', toks := tk } ∧ Fr h₀ L h' m' ∧ News h₀ L h' ((I, o) :: news') ∧ Jn m' news' tk
def TPost (h₀ : Heap) (L : Addr) (s : Shared) (Jn : (Str → Option Value) → List (Addr × Obj) → Nat → Prop) (I : Addr) (o : Obj) (Q : Flow → Shared → Prop) (f : Flow) (s' : Shared) : Prop :=
  match f with
  | .ret v => Q (.ret v) s'
  | .brk => Q .next s'
  | _ => TEnd h₀ L s Jn I o s'
theorem TEnd.mk {h₀ : Heap} {L : Addr} {s : Shared} {Jn : (Str → Option Value) → List (Addr × Obj) → Nat → Prop} {I : Addr} {o : Obj} {h' : Heap} {tk : Nat} {m' : Str → Option Value} {news' : List (Addr × Obj)}
    (F : Fr h₀ L h' m') (N : News h₀ L h' ((I, o) :: news')) (hJ : Jn m' news' tk) : TEnd h₀ L s Jn I o { s with heap := h', toks := tk } := ⟨h', tk, m', news', rfl, F, N, hJ⟩

section
variable {prog : Program} {w : World} {A : Around} {s : Shared} {env : Env} {h₀ : Heap} {x : Str} {px : Pos} {body : List Stmt} {R : Result → Shared → Prop}

theorem loop_T {I : Addr} {fp : List Addr} {n : Nat} {P : Nat → Value → Prop} {St : Nat → Heap → Prop} {m : Str → Option Value} {news kp : List (Addr × Obj)} {cl : Value}
    (J : Nat → (Str → Option Value) → List (Addr × Obj) → Nat → Prop) (hmono : ∀ i m nx t t', t ≤ t' → J i m nx t → J i m nx t')
    (W : Walks prog w A I fp [I] n P St) (hx : env.kindOf x = some .local) (hp : (env.scope.kind == .class || (env.scope.kind == .module && env.locals != env.globals)) = false)
    (hLf : env.locals ∉ fp) (hI0 : h₀.get? I = none)
    (hfp : ∀ b ∈ fp, b = I ∨ h₀.get? b ≠ none ∨ ∃ o, (b, o) ∈ kp)
    (hSt : ∀ i h, St i h → ∃ o, h.get? I = some o ∧ o.cls = cl ∧ ∀ v, o.data ≠ .cell v)
    (hcl : ∀ i m nx t, J i m nx t → (∀ p ∈ nx, NotIt cl p.2) ∧ ∀ p ∈ kp, p ∈ nx)
    (hst : St 0 s.heap) (F : Fr h₀ env.locals s.heap m) (N : News h₀ env.locals s.heap news) (hJ : J 0 m news s.toks)
    (turn : ∀ i v m₁ news₁ h tk o, i < n → P i v → J i m₁ news₁ tk → o.cls = cl → (∀ p ∈ news₁, p.1 ≠ I) → Fr h₀ env.locals h (fun y => if y = x then some v else m₁ y) → News h₀ env.locals h ((I, o) :: news₁) →
      wpAny (model prog w) A (execs body env) (TPost h₀ env.locals s (J (i + 1)) I o (fun f s' => R (.ok f) s')) (fun _ _ => False) { s with heap := h, toks := tk })
    (done : ∀ m₁ news₁ h tk, J n m₁ news₁ tk → Fr h₀ env.locals h m₁ → News h₀ env.locals h news₁ → R (.ok .next) { s with heap := h, toks := tk }) :
    codeAny (model prog w) A (.forLoop (.Name x px) (.ref I) body [] env) R s := by
  have hIfp : I ∈ fp := W.sub I (List.mem_singleton.mpr rfl)
  have hLI : env.locals ≠ I := fun e => hLf (e ▸ hIfp)
  refine codeAny_forLoop
    (fun k s' => ∃ h' tk m' news' i, s' = { s with heap := h', toks := tk } ∧ St i h' ∧ Fr h₀ env.locals h' m' ∧ News h₀ env.locals h' news' ∧ J i m' news' tk ∧ i ≤ n ∧ k = n + 1 - i) ?_ (n + 1)
    ⟨s.heap, s.toks, m, news, 0, rfl, hst, F, N, hJ, Nat.zero_le _, rfl⟩
  rintro k s' ⟨h', tk, m', news', i, rfl, hst', F', N', hj, hi, rfl⟩
  obtain ⟨o0, ho0, hc0⟩ := hSt _ _ hst'
  have off : ∀ {i : Nat} {m₁ : Str → Option Value} {nx : List (Addr × Obj)} {h : Heap} {o : Obj} {t : Nat}, J i m₁ nx t → News h₀ env.locals h nx → h.get? I = some o → (o.cls = cl ∧ ∀ v, o.data ≠ .cell v) → ∀ p ∈ nx, p.1 ≠ I := by
    intro i m₁ nx h o t hj hN ho hc p hp e
    have h1 := (hN p hp).1
    rw [e, ho] at h1
    have q : o = p.2 := Option.some.inj h1
    exact ((hcl i m₁ nx t hj).1 p hp).no (q ▸ hc.1) (q ▸ hc.2)
  have hnw := off hj N' ho0 hc0
  have next : ∀ h₁ : Heap, (∀ b o, b ∉ [I] → h'.get? b = some o → h₁.get? b = some o) → Fr h₀ env.locals h₁ m' ∧ News h₀ env.locals h₁ news' := fun h₁ hk₁ =>
    ⟨⟨F'.ns.at' fun o e => hk₁ _ o (fun q => hLI (List.mem_singleton.mp q)) e, fun b o e => hk₁ b o (fun q => by rw [List.mem_singleton.mp q, hI0] at e; cases e) (F'.keep b o e), F'.above⟩,
      fun p hp => ⟨hk₁ _ _ (fun q => hnw p hp (List.mem_singleton.mp q)) (N' p hp).1, (N' p hp).2⟩⟩
  by_cases hlt : i < n
  · refine wpAny_with_toks (n := tk) (Nat.le_refl _) (W.item i _ _ _ hlt hst' fun v h₁ tk₁ hP hst₁ hk₁ htk₁ => ?_)
    obtain ⟨F₁, N₁⟩ := next h₁ hk₁
    refine wpAny_assign_Name (wpAny_storeName_local hx F₁.ns (fun h₂ hn₂ hs₂ => ?_) hp)
    have F₂ := F₁.set hn₂ hs₂
    have hst₂ : St (i + 1) h₂ := W.frame _ _ _ hst₁ fun b hb o e => (hs₂.2 b fun q => hLf (q ▸ hb)).trans e
    obtain ⟨o, ho, hc⟩ := hSt _ _ hst₂
    have N₂ : News h₀ env.locals h₂ news' := N₁.set hs₂
    have N₃ : News h₀ env.locals h₂ ((I, o) :: news') := fun p hp => by
      rcases List.mem_cons.mp hp with rfl | hp
      · exact ⟨ho, fun e => hLI e.symm, hI0⟩
      · exact N₂ p hp
    have hj₂ : J i m' news' (tk₁ + 1) := hmono i m' news' tk (tk₁ + 1) (by have : tk ≤ tk₁ := htk₁; omega) hj
    refine wpAny_mono (turn i v m' news' h₂ (tk₁ + 1) o hlt hP hj₂ hc.1 (off hj N₂ ho hc) F₂ N₃) (fun f s₃ h₃ => ?_) fun _ _ e => e.elim
    have fin : TEnd h₀ env.locals s (J (i + 1)) I o s₃ → ∃ m, m < n + 1 - i ∧ ∃ h' tk m' news' i, s₃ = { s with heap := h', toks := tk } ∧ St i h' ∧ Fr h₀ env.locals h' m' ∧ News h₀ env.locals h' news' ∧ J i m' news' tk ∧ i ≤ n ∧ m = n + 1 - i := by
      rintro ⟨h₃', tk₃, m₂, news₂, rfl, F₃, N₄, hJ₃⟩
      have N₅ : News h₀ env.locals h₃' news₂ := fun p hp => N₄ p (.tail _ hp)
      refine ⟨n + 1 - (i + 1), by omega, h₃', tk₃, m₂, news₂, i + 1, rfl, ?_, F₃, N₅, hJ₃, hlt, rfl⟩
      refine W.frame _ _ _ hst₂ fun b hb ob e => ?_
      rcases hfp b hb with rfl | e1 | ⟨o', e1⟩
      · rw [ho] at e
        cases e
        exact (N₄ _ (.head _)).1
      · cases hn : h₀.get? b with
        | none => exact absurd hn e1
        | some o₀ =>
          have : o₀ = ob := by have := F₂.keep b o₀ hn; rw [e] at this; exact (Option.some.inj this).symm
          exact this ▸ F₃.keep b o₀ hn
      · have h1 := (N₂ _ ((hcl _ _ _ _ hj).2 _ e1)).1
        rw [e] at h1
        cases h1
        exact (N₅ _ ((hcl _ _ _ _ hJ₃).2 _ e1)).1
    cases f with
    | ret v => exact h₃
    | brk => exact h₃
    | cont => exact fin h₃
    | next => exact fin h₃
  · have hin : i = n := by omega
    subst hin
    refine wpAny_with_toks (n := tk) (Nat.le_refl _) (W.done _ _ _ hst' fun h₁ tk₁ hk₁ htk₁ => wpAny_execs_nil ?_)
    obtain ⟨F₁, N₁⟩ := next h₁ hk₁
    exact done m' news' h₁ tk₁ (hmono _ _ _ tk tk₁ htk₁ hj) F₁ N₁

theorem iter_list_T {ax : Addr} {vs : List Value} {e : Nat} {m : Str → Option Value} {news : List (Addr × Obj)} {E : Value → Shared → Prop}
    (J : Nat → (Str → Option Value) → List (Addr × Obj) → Nat → Prop) (hmono : ∀ i m nx t t', t ≤ t' → J i m nx t → J i m nx t') (hh : A.handled = none)
    (hx : env.kindOf x = some .local) (hp : (env.scope.kind == .class || (env.scope.kind == .module && env.locals != env.globals)) = false)
    (F : Fr h₀ env.locals s.heap m) (N : News h₀ env.locals s.heap news) (hm : (ax, W.listOf vs.toArray e) ∈ news)
    (hcl : ∀ i m nx t, J i m nx t → (∀ p ∈ nx, NotIt (.type "list_iterator") p.2) ∧ (ax, W.listOf vs.toArray e) ∈ nx) (hJ : J 0 m news s.toks)
    (turn : ∀ i v m₁ news₁ h tk I o, vs[i]? = some v → J i m₁ news₁ tk → o.cls = .type "list_iterator" → (∀ p ∈ news₁, p.1 ≠ I) → Fr h₀ env.locals h (fun y => if y = x then some v else m₁ y) → News h₀ env.locals h ((I, o) :: news₁) →
      wpAny (model prog w) A (execs body env) (TPost h₀ env.locals s (J (i + 1)) I o (fun f s' => R (.ok f) s')) (fun _ _ => False) { s with heap := h, toks := tk })
    (done : ∀ m₁ news₁ h tk, J vs.length m₁ news₁ tk → Fr h₀ env.locals h m₁ → News h₀ env.locals h news₁ → R (.ok .next) { s with heap := h, toks := tk }) :
    wpAny (model prog w) A (pyIter (.ref ax)) (fun it s₂ => codeAny (model prog w) A (.forLoop (.Name x px) it body [] env) R s₂) E s := by
  have hax := N _ hm
  have hl : s.heap.IsList ax vs.toArray := ⟨_, hax.1, rfl, e, rfl⟩
  have hlt : ax < s.heap.objs.size := Heap.lt_size hax.1
  refine wpAny_pyIter_list hl ?_
  have WW := Walks.list (prog := prog) (w := w) hh s.heap.objs.size ax (Nat.ne_of_lt hlt) vs.toArray
  have hsz : vs.toArray.size = vs.length := List.size_toArray
  rw [hsz] at WW
  refine loop_T (kp := [(ax, W.listOf vs.toArray e)]) (cl := .type "list_iterator") (m := m) (news := news) J hmono WW hx hp ?_ (next_is_new F) ?_ ?_ ?_ ⟨⟨_, Heap.get?_push_size _ rfl, rfl, rfl⟩, hl.at fun o e => Heap.get?_push_of_some _ e⟩ (F.push _)
    (fun p hp => ⟨Heap.get?_push_of_some _ (N p hp).1, (N p hp).2⟩) hJ ?_ ?_
  · intro hmm
    rcases List.mem_cons.mp hmm with e | hmm
    · exact absurd F.ns.lt (e ▸ Nat.lt_irrefl _)
    · exact hax.2.1 (List.mem_singleton.mp hmm).symm
  · intro b hb
    rcases List.mem_cons.mp hb with rfl | hb
    · exact .inl rfl
    · exact .inr (.inr ⟨_, by rw [List.mem_singleton.mp hb]; exact .head _⟩)
  · rintro i h ⟨⟨o, ho, hc, hd⟩, _⟩
    exact ⟨o, ho, hc, fun v e => by rw [hd] at e; cases e⟩
  · intro i m nx t hj
    exact ⟨(hcl i m nx t hj).1, all1 (hcl i m nx t hj).2⟩
  · intro i v m₁ news₁ h tk o _ hP hj hc hoff F₁ N₁
    exact turn i v m₁ news₁ h tk _ o (by simpa using hP) hj hc hoff F₁ N₁
  · intro m₁ news₁ h tk hj F₁ N₁
    exact done m₁ news₁ h tk hj F₁ N₁

theorem iter_range_T {r : Addr} {b₀ : Int} {t₀ u₀ v₀ : Tok} {n : Nat} {m : Str → Option Value} {news : List (Addr × Obj)} {E : Value → Shared → Prop}
    (J : Nat → (Str → Option Value) → List (Addr × Obj) → Nat → Prop) (hmono : ∀ i m nx t t', t ≤ t' → J i m nx t → J i m nx t') (hh : A.handled = none)
    (hx : env.kindOf x = some .local) (hp : (env.scope.kind == .class || (env.scope.kind == .module && env.locals != env.globals)) = false)
    (F : Fr h₀ env.locals s.heap m) (N : News h₀ env.locals s.heap news) (hr : IsRange s.heap r 0 b₀ 1 t₀ u₀ v₀) (hn : b₀ = (n : Int)) (hlt : n < 10000)
    (hcl : ∀ i m nx t, J i m nx t → (∀ p ∈ nx, NotIt (.type "range_iterator") p.2)) (hJ : J 0 m news s.toks)
    (turn : ∀ (i : Nat) t m₁ news₁ h tk I o, i < n → J i m₁ news₁ tk → o.cls = .type "range_iterator" → (∀ p ∈ news₁, p.1 ≠ I) → Fr h₀ env.locals h (fun y => if y = x then some (.int (i : Int) t) else m₁ y) → News h₀ env.locals h ((I, o) :: news₁) →
      wpAny (model prog w) A (execs body env) (TPost h₀ env.locals s (J (i + 1)) I o (fun f s' => R (.ok f) s')) (fun _ _ => False) { s with heap := h, toks := tk })
    (done : ∀ m₁ news₁ h tk, J n m₁ news₁ tk → Fr h₀ env.locals h m₁ → News h₀ env.locals h news₁ → R (.ok .next) { s with heap := h, toks := tk }) :
    wpAny (model prog w) A (pyIter (.ref r)) (fun it s₂ => codeAny (model prog w) A (.forLoop (.Name x px) it body [] env) R s₂) E s := by
  subst hn
  have hsz : Builtin.Range.rangeSize 0 (n : Int) 1 = (n : Int) := by rw [rangeSize_one]; split <;> omega
  have hsm : Builtin.Range.small 0 (n : Int) 1 = true := small_one (by omega) (by omega) (by omega) (by omega)
  refine wpAny_pyIter_range hr hsm ?_
  rw [hsz]
  have W := Walks.range (prog := prog) (w := w) hh s.heap.objs.size 0 1 n
  refine loop_T (kp := []) (cl := .type "range_iterator") (m := m) (news := news) J hmono W hx hp ?_ (next_is_new F) ?_ ?_ ?_ ?_ (F.push _) (fun p hp => ⟨Heap.get?_push_of_some _ (N p hp).1, (N p hp).2⟩) hJ ?_ ?_
  · intro hmm; exact absurd F.ns.lt ((List.mem_singleton.mp hmm) ▸ Nat.lt_irrefl _)
  · intro b hb; exact .inl (List.mem_singleton.mp hb)
  · intro i h st; exact ⟨_, st, rfl, fun v e => by cases e⟩
  · intro i m nx t hj; exact ⟨hcl i m nx t hj, fun _ h => nomatch h⟩
  · show IsRangeIter _ _ (0 + ((0 : Nat) : Int) * 1) ((n : Int) - ((0 : Nat) : Int)) _
    rw [show (0 : Int) + ((0 : Nat) : Int) * 1 = 0 by omega, show (n : Int) - ((0 : Nat) : Int) = n by omega]
    exact Heap.get?_push_size _ rfl
  · rintro i v m₁ news₁ h tk o hi ⟨t, rfl⟩ hj hc hoff F₁ N₁
    rw [show (0 : Int) + (i : Int) * 1 = (i : Int) by omega] at F₁
    exact turn i t m₁ news₁ h tk _ o hi hj hc hoff F₁ N₁
  · intro m₁ news₁ h tk hj F₁ N₁
    exact done m₁ news₁ h tk hj F₁ N₁

/-- a while by an invariant that knows the token count -/
def VEnd {σ : Type} (h₀ : Heap) (L : Addr) (s : Shared) (I : σ → (Str → Option Value) → List (Addr × Obj) → Nat → Prop) (μ : σ → Nat) (c : σ) (s' : Shared) : Prop :=
  ∃ c' h' tk m' news', s' = { s with heap := h', toks := tk } ∧ Fr h₀ L h' m' ∧ News h₀ L h' news' ∧ μ c' < μ c ∧ I c' m' news' tk
def VPost {σ : Type} (h₀ : Heap) (L : Addr) (s : Shared) (I : σ → (Str → Option Value) → List (Addr × Obj) → Nat → Prop) (μ : σ → Nat) (c : σ) (Q : Flow → Shared → Prop) (f : Flow) (s' : Shared) : Prop :=
  match f with
  | .ret v => Q (.ret v) s'
  | .brk => Q .next s'
  | _ => VEnd h₀ L s I μ c s'
theorem VEnd.mk {σ : Type} {L : Addr} {s : Shared} {I : σ → (Str → Option Value) → List (Addr × Obj) → Nat → Prop} {μ : σ → Nat} {c : σ} {h' : Heap} {tk : Nat} {m' : Str → Option Value} {news' : List (Addr × Obj)}
    (c' : σ) (F : Fr h₀ L h' m') (N : News h₀ L h' news') (hμ : μ c' < μ c) (hI : I c' m' news' tk) : VEnd h₀ L s I μ c { s with heap := h', toks := tk } := ⟨c', h', tk, m', news', rfl, F, N, hμ, hI⟩
theorem while_T {σ : Type} {Q : Flow → Shared → Prop} {L : Addr} {test : PySem.Expr} {pos : Pos} {m : Str → Option Value} {news : List (Addr × Obj)}
    (I : σ → (Str → Option Value) → List (Addr × Obj) → Nat → Prop) (μ : σ → Nat) (c₀ : σ)
    (F : Fr h₀ L s.heap m) (N : News h₀ L s.heap news) (hI : I c₀ m news s.toks)
    (turn : ∀ c m₁ news₁ h tk, I c m₁ news₁ tk → Fr h₀ L h m₁ → News h₀ L h news₁ →
      wpAny (model prog w) A (isTrue test env (eval test env)) (fun b s₂ =>
        if b = true then wpAny (model prog w) A (execs body env) (VPost h₀ L s I μ c Q) (fun _ _ => False) s₂ else Q .next s₂) (fun _ _ => False) { s with heap := h, toks := tk }) :
    wpAny (model prog w) A (exec (.While test body [] pos) env) Q (fun _ _ => False) s := by
  refine wpAny_While (codeAny_whileLoop (fun n s' => ∃ c h₁ tk₁ m₁ news₁, s' = { s with heap := h₁, toks := tk₁ } ∧ Fr h₀ L h₁ m₁ ∧ News h₀ L h₁ news₁ ∧ μ c = n ∧ I c m₁ news₁ tk₁) ?_ (μ c₀) ⟨c₀, s.heap, s.toks, m, news, rfl, F, N, rfl, hI⟩)
  rintro n s' ⟨c, h₁, tk₁, m₁, news₁, rfl, F₁, N₁, rfl, hc⟩
  refine wpAny_mono (turn c m₁ news₁ h₁ tk₁ hc F₁ N₁) (fun b s₂ h₂ => ?_) fun _ _ x => x.elim
  cases b with
  | false =>
    simp only [Bool.false_eq_true, if_false] at h₂ ⊢
    exact wpAny_execs_nil h₂
  | true =>
    simp only [if_true] at h₂ ⊢
    refine wpAny_mono h₂ (fun f s₃ h₃ => ?_) fun _ _ x => x.elim
    cases f with
    | next =>
      obtain ⟨c', h', tk, m₂, news₂, rfl, F₂, N₂, hn, J₂⟩ := h₃
      exact ⟨μ c', hn, c', h', tk, m₂, news₂, rfl, F₂, N₂, rfl, J₂⟩
    | cont =>
      obtain ⟨c', h', tk, m₂, news₂, rfl, F₂, N₂, hn, J₂⟩ := h₃
      exact ⟨μ c', hn, c', h', tk, m₂, news₂, rfl, F₂, N₂, rfl, J₂⟩
    | brk => exact h₃
    | ret v => exact h₃
end
theorem newsFront {h₀ h : Heap} {L : Addr} {x : Addr × Obj} (pre : List (Addr × Obj)) {post : List (Addr × Obj)} (N : News h₀ L h (pre ++ x :: post)) : News h₀ L h (x :: (pre ++ post)) := fun p hp => N p (by
  rcases List.mem_cons.mp hp with rfl | hp
  · exact List.mem_append.mpr (.inr (.head _))
  · rcases List.mem_append.mp hp with hp | hp
    · exact List.mem_append.mpr (.inl hp)
    · exact List.mem_append.mpr (.inr (.tail _ hp)))

/-- a statement that goes on, by what then stands -/
def Cut (Φ : Shared → Prop) (f : Flow) (s' : Shared) : Prop := f = .next ∧ Φ s'
theorem Cut.mk {Φ : Shared → Prop} {s' : Shared} (h : Φ s') : Cut Φ .next s' := ⟨rfl, h⟩
theorem cut_next {M : Model} {A : Around} {t : Sem Flow} {Q : Flow → Shared → Prop} {E : Value → Shared → Prop} {s : Shared} (Φ : Shared → Prop) (h1 : wpAny M A t (Cut Φ) E s) (h2 : ∀ s', Φ s' → Q .next s') : wpAny M A t Q E s :=
  wpAny_mono h1 (fun _ s' h => by obtain ⟨rfl, h⟩ := h; exact h2 s' h) fun _ _ x => x
local macro_rules | `(tactic| walk_at "Cut") => `(tactic| refine Stop.mk ?_)
local macro_rules | `(tactic| walk_at "TEnd") => `(tactic| refine Stop.mk ?_)
local macro_rules | `(tactic| walk_at "TPost") => `(tactic| dsimp only [TPost])
local macro_rules | `(tactic| walk_at "VEnd") => `(tactic| refine Stop.mk ?_)
local macro_rules | `(tactic| walk_at "VPost") => `(tactic| dsimp only [VPost])
local macro_rules | `(tactic| walk_at "exec For Name Call cons nil") => `(tactic| refine Stop.mk ?_)
local macro_rules | `(tactic| walk_at "exec For Name Name cons nil") => `(tactic| refine Stop.mk ?_)
local macro_rules | `(tactic| walk_at "exec For Name BinOp cons nil") => `(tactic| refine Stop.mk ?_)
local macro_rules | `(tactic| walk_at "exec While Name cons nil") => `(tactic| refine Stop.mk ?_)
local macro_rules | `(tactic| k_mem) => `(tactic| assumption)
local macro_rules | `(tactic| walk_at "subscriptTail Name Constant int") => `(tactic| refine Stop.mk ?_)
local macro_rules | `(tactic| walk_at "subscriptTail Name Name int") => `(tactic| refine Stop.mk ?_)
local macro_rules | `(tactic| walk_at "compareOp In int ref") => `(tactic| (k_dflt (refine' in_list_ints ?kL ?kI ?_; (case kL => exact News.isList (by k_asm) (by k_mem)); (case kI => assumption)); k_whole))

/-! part R2 -/
section
theorem fresh_R2 : True := by w_top off; trivial
def LampAt (news : List (Addr × Obj)) (v : Value) (l : Lamp) : Prop := ∃ a t1 t2 t3 t4, v = .ref a ∧ (a, tup [.int (l.lit : Int) t1, .int (l.out : Int) t2, .int (l.share : Int) t3, .int (l.value : Int) t4]) ∈ news

theorem div_nat {prog : Program} {w : World} {A : Around} {E : Value → Shared → Prop} {s : Shared} {t u : Tok} {n : Nat} {b : Int} {Q : Value → Shared → Prop} (hA : A.handled = none) (hn : n < 1000) (hb : 0 < b)
    (h : Q (.float (Float64.ofFrac false n b.natAbs) s.toks) { s with toks := s.toks + 1 }) : wpAny (model prog w) A (binaryOp .Div (.int (n : Int) t) (.int b u)) Q E s := by
  refine Flt.div_ii_fits hA ?_ (fun e => by omega) fun _ _ => ?_
  · have : (n : Int).natAbs = n := rfl
    rw [this]
    exact Nat.lt_of_lt_of_le hn (Nat.le_trans (show 1000 ≤ 2 ^ 10 by decide) (Nat.pow_le_pow_right (by decide) (by decide)))
  · have e1 : decide ((n : Int) < 0) = false := by simp
    have e2 : decide (b < 0) = false := by simp; omega
    rw [e1, e2]
    exact h
local macro_rules | `(tactic| walk_at "binaryOp Div int int") => `(tactic| (refine div_nat (by first | rfl | assumption) (by omega) (by decide) ?_))

def tri (m : Mark) : Nat × Nat × Nat := (m.h, m.k, m.l)
local macro_rules | `(tactic| walk_at "execs cons") => `(tactic| (with_reducible refine gen_toks ?_; intro tk htk; (try dsimp only at htk)))
local macro_rules | `(tactic| walk_at "execs nil") => `(tactic| (with_reducible refine gen_toks ?_; intro tk htk; (try dsimp only at htk)))

/-- two marks more -/
theorem marks_two {rest : List (Addr × Obj)} {items : List Value} {dec : Value → Mark} {lamps : List Lamp} {i : Nat} {lamp : Lamp} {D8 D12 : Addr} {t2 t3 t4 t5 : Tok} {tk tk' u1 u2 : Nat}
    (M : MarksOk rest items dec) (hmap : items.map (fun v => tri (dec v)) = evsN lamps i) (hlamp : lamps.getD i lampD = lamp) (ok : lamp.Ok) (hi : i < 10) (htt : ∀ v ∈ items, (dec v).t < tk)
    (h1 : 1 ≤ tk) (hu1 : tk ≤ u1) (hu2 : u1 + 1 ≤ u2) (hu3 : u2 + 1 ≤ tk') (hD8 : ∀ p ∈ rest, p.1 ≠ D8) (hD12 : ∀ p ∈ rest, p.1 ≠ D12) (hDD : D8 ≠ D12) :
    ∃ dec', MarksOk ((D12, tup [.float (hueF lamp.out) u2, .int (i : Int) t4, .float (Float64.neg 4607182418800017408) t5]) :: (D8, tup [.float (hueF lamp.lit) u1, .int (i : Int) t2, .float (lightF lamp.value) t3]) :: rest) (items ++ [Value.ref D8] ++ [Value.ref D12]) dec' ∧
      (items ++ [Value.ref D8] ++ [Value.ref D12]).map (fun v => tri (dec' v)) = evsN lamps (i + 1) ∧ ∀ v ∈ items ++ [Value.ref D8] ++ [Value.ref D12], (dec' v).t < tk' := by
  have hk : ∀ v ∈ items, (dec v).k < i := fun v hv => evsN_k lamps i (tri (dec v)) (by rw [← hmap]; exact List.mem_map.mpr ⟨v, hv, rfl⟩)
  obtain ⟨M1, n1⟩ := M.push D8 ⟨lamp.lit, i, lamp.value, u1⟩ t2 t3 hD8 ⟨ok.lit1, by have := ok.lo; have := ok.out15; dsimp only; omega, hi, ok.v8, by dsimp only; omega⟩ (fun v hv e => by have := hk v hv; have := e.2; dsimp only at this; omega) (fun v hv e => by have := htt v hv; dsimp only at e; omega)
  obtain ⟨M2, n2⟩ := M1.push D12 ⟨lamp.out, i, 0, u2⟩ t4 t5 (by
      intro p hp
      rcases List.mem_cons.mp hp with rfl | hp
      · exact hDD
      · exact hD12 p hp) ⟨by have := ok.lo; dsimp only; omega, ok.out15, hi, Nat.zero_le _, by dsimp only; omega⟩ (by
      intro v hv e
      rcases List.mem_append.mp hv with h | h
      · rw [if_neg (n1 v h)] at e
        have := hk v h; have := e.2; dsimp only at this; omega
      · rw [if_pos (List.mem_singleton.mp h)] at e
        have := ok.lo; have := e.1; dsimp only at this; omega) (by
      intro v hv e
      rcases List.mem_append.mp hv with h | h
      · rw [if_neg (n1 v h)] at e
        have := htt v h; dsimp only at e; omega
      · rw [if_pos (List.mem_singleton.mp h)] at e
        dsimp only at e; omega)
  have e8 : lampF lamp.value = lightF lamp.value := by have := ok.v1; unfold lampF; rw [if_neg (by omega)]
  have e12 : lampF 0 = Float64.neg 4607182418800017408 := rfl
  dsimp only at M2
  rw [e8, e12] at M2
  have h88 : (Value.ref D8 : Value) ≠ .ref D12 := fun e => hDD (by cases e; rfl)
  refine ⟨_, M2, ?_, ?_⟩
  · rw [List.map_append, List.map_append, evsN, ← hmap, hlamp, List.append_assoc]
    congr 1
    · refine List.map_congr_left fun v hv => ?_
      have a := n1 v hv
      have b := n2 v (List.mem_append.mpr (.inl hv))
      simp only [if_neg a, if_neg b]
    · simp only [List.map_cons, List.map_nil, List.cons_append, List.nil_append, if_neg h88, if_true, tri]
  · intro v hv
    rcases List.mem_append.mp hv with hv | hv
    · rcases List.mem_append.mp hv with h | h
      · have a := n1 v h
        have b := n2 v hv
        simp only [if_neg a, if_neg b]
        have := htt v h; omega
      · rw [List.mem_singleton.mp h]
        simp only [if_neg h88, if_true]; omega
    · rw [List.mem_singleton.mp hv]
      simp only [if_true]; omega

/-- between the turns of the first loop -/
def MarksInv (names : Str) (tn : Tok) (al am : Addr) (lamps : List Lamp) (news : List (Addr × Obj)) (i : Nat) (m : Str → Option Value) (nx : List (Addr × Obj)) (tk : Nat) : Prop :=
  1 ≤ tk ∧ Has m [(Str.ofString "names", .str names tn), (Str.ofString "lamps", .ref al), (Str.ofString "marks", .ref am)] ∧
  ∃ items dec e' rest, nx = (am, W.listOf (items : List Value).toArray e') :: rest ∧ (∀ p ∈ news, p ∈ rest) ∧ (∀ p ∈ rest, p.1 ≠ am) ∧ (∀ p ∈ rest, NotIt (.type "range_iterator") p.2) ∧
    MarksOk rest items dec ∧ (∀ v ∈ items, (dec v).t < tk) ∧ items.map (fun v => tri (dec v)) = evsN lamps i ∧ items.length = 2 * i

local macro_rules | `(tactic| walk_at "exec If Compare cons cons") => `(tactic| refine Stop.mk ?_)
local macro_rules | `(tactic| walk_at "exec If BoolOp cons nil") => `(tactic| refine Stop.mk ?_)

/-- the two heaps and the list of the gone, with what the story says of them -/
structure VInv (ps : List (Str × Value)) (am ah ag : Addr) (news : List (Addr × Obj)) (inv : (Value → Mark) → List (Nat × Nat) → List Nat → List Nat → Prop) (c : List Value) (m : Str → Option Value) (nx : List (Addr × Obj)) (tk : Nat)
    (decM : Value → Mark) (Hs : List Value) (decH : Value → Held) (Gs : List Value) (G : List Nat) (S : Str) (ts : Tok) (e1 e2 e3 : Nat) (rest : List (Addr × Obj)) : Prop where
  tk1 : 1 ≤ tk
  has : Has m ((Str.ofString "strip", .str S ts) :: ps)
  led : nx = (am, W.listOf c.toArray e1) :: (ah, W.listOf Hs.toArray e2) :: (ag, W.listOf Gs.toArray e3) :: rest
  nem : ∀ p ∈ rest, p.1 ≠ am
  neh : ∀ p ∈ rest, p.1 ≠ ah
  neg : ∀ p ∈ rest, p.1 ≠ ag
  sub : ∀ p ∈ news, p ∈ rest
  mok : MarksOk rest c decM
  mhp : IsHeap (fun v => (decM v).key) c
  hok : HeldOk rest Hs decH
  htk : ∀ v ∈ Hs, (decH v).t < tk
  hhp : IsHeap (fun v => (decH v).key) Hs
  gok : IntsAre Gs (G.map fun k : Nat => (k : Int))
  story : inv decM (Hs.map fun v => ((decH v).v, (decH v).k)) G S.cps.toList
  lH : Hs.length + c.length ≤ 9
  lG : Gs.length + c.length ≤ 8

abbrev psW (names : Str) (tn : Tok) (am ah ag : Addr) : List (Str × Value) := [(Str.ofString "names", .str names tn), (Str.ofString "marks", .ref am), (Str.ofString "held", .ref ah), (Str.ofString "gone", .ref ag)]

/-- behind the first if of the turn, and between the turns of the inner loop -/
def MidAt (s : Shared) (g' : Heap) (L' : Addr) (names : Str) (tn : Tok) (am ah ag : Addr) (news : List (Addr × Obj)) (lamps : List Lamp) (mk : Mark) (c1 : List Value) (decM : Value → Mark) (S : Str) (ts : Tok) (e1 : Nat) (s' : Shared) : Prop :=
  ∃ h' tk m' nx', s' = { s with heap := h', toks := tk } ∧ Fr g' L' h' m' ∧ News g' L' h' nx' ∧ ∃ Hs decH Gs G e2 e3 rest,
    VInv ((Str.ofString "hue", .float (hueF mk.h) mk.t) :: psW names tn am ah ag) am ah ag news (fun decM H G S => MidInv names.cps.toList lamps mk.h (c1.map fun v => tri (decM v)) H G S) c1 m' nx' tk decM Hs decH Gs G S ts e1 e2 e3 rest

def TestEnd (s : Shared) (g' : Heap) (L' : Addr) (ps : List (Str × Value)) (nx : List (Addr × Obj)) (tk : Nat) (P : Prop) (b : Bool) (s' : Shared) : Prop :=
  ∃ h' tk' m', s' = { s with heap := h', toks := tk' } ∧ Fr g' L' h' m' ∧ Has m' ps ∧ News g' L' h' nx ∧ tk ≤ tk' ∧ (b = true ↔ P)
local macro_rules | `(tactic| walk_at "TestEnd") => `(tactic| refine Stop.mk ?_)
local macro_rules | `(tactic| walk_at "subscriptTail BinOp Subscript int") => `(tactic| refine Stop.mk ?_)
local macro_rules | `(tactic| walk_at "subscriptTail Name UnaryOp int") => `(tactic| refine Stop.mk ?_)
local macro_rules | `(tactic| walk_at "binaryOp Add str str") => `(tactic| (refine add_strT ?hsz ?_; (case hsz => first | assumption | omega); intro ts' tks' hts'; dsimp only at hts' ⊢))

theorem strip_K : ∀ (w : World) (A : Around) (h₀ : Heap) (L : Addr) (m : Str → Option Value) (s : Shared) (d : Nat) (names : Str) (tn : Tok) (al : Addr) (e : Nat) (lvs : List Value) (lamps : List Lamp) (news : List (Addr × Obj)) (E : Value → Shared → Prop),
   Cx w A h₀ L (d + 5) → Fr h₀ L s.heap m → News h₀ L s.heap news → 1 ≤ s.toks → (∀ p ∈ news, NotIt (.type "range_iterator") p.2) → (al, W.listOf lvs.toArray e) ∈ news → lvs.length = lamps.length → lamps.length ≤ 4 → names.cps.size = lamps.length → (∀ i, i < lamps.length → LampAt news (lvs.getD i .none) (lamps.getD i lampD)) → (∀ l ∈ lamps, l.Ok) →
   wpAny (model Challenge.rw_qu0027_01.row.prog w) A (call (.ref 84) [.str names tn, .ref al] []) 
    (Got s h₀ L m fun v news' => news' = news ∧ ∃ t, v = .str ⟨(SU names.cps.toList lamps 16).toArray⟩ t) E s := by
  unfold Cx
  k_fill
  rintro w A h₀ L m s d names tn al e lvs lamps news E ⟨s₀, mg, mb, A₀, env, outer, base, KX, T, B, hA, hf, hke, hdp, hu, hh⟩ F N htk hcls hal hlen hl4 hnl hlamps hok
  obtain ⟨ah, ad, af, ag, au⟩ := A
  obtain rfl : ah = none := hh
  obtain rfl : af = some (env :: outer) := hA
  dsimp only at hdp hu
  walk_at "enter"
  intro g' L' h' FG' F' N' B' X' T'
  walk_at "entered"
  intro C' hu' hh'
  (try dsimp only); (try k_lift B'); (try k_fold)
  refine gen_toks_le ?_
  intro tk0 htk0
  k_steps
  refine Stop.go ?_
  rename_i am h1 hlt1 h2 F0 N0 tk1 htk1
  refine wpAny_For ?_
  refine wpAny_with_toks (n := 1) (by (try dsimp only); omega) ?_
  k_steps
  refine Stop.go ?_
  rename IsRange _ _ _ _ _ _ _ _ => hR
  rename Fr g' L' _ _ => F1
  rename News g' L' _ _ => N1
  rename 1 ≤ _ => htk2
  dsimp only at htk2 hR F1 N1 ⊢
  generalize hle : (lvs.length : Int) = le at hR
  refine iter_range_T (MarksInv names tn al am lamps news) ?_ hh' rfl rfl F1 N1 hR (n := lamps.length) (by rw [← hle, hlen]) (by omega) ?_ ?_ ?_ ?_
  · rintro i m₁ nx t t' htt ⟨h1, hm, items, dec, e', rest, h2, h3, h4, h5, h6, h7, h8⟩
    exact ⟨by omega, hm, items, dec, e', rest, h2, h3, h4, h5, h6, fun v hv => Nat.lt_of_lt_of_le (h7 v hv) htt, h8⟩
  · rintro i m₁ nx t ⟨h1, hm, items, dec, e', rest, rfl, h3, h4, h5, h6⟩ p hp
    rcases List.mem_cons.mp hp with rfl | hp
    · exact .inl (show (Value.type "list") ≠ Value.type "range_iterator" by decide)
    · exact h5 p hp
  · exact ⟨htk2, all3 rfl rfl rfl, [], fun _ => ⟨0, 0, 0, 0⟩, 0, news, rfl, fun _ h => h, fun p hp => Nat.ne_of_lt (hlt1 p hp), hcls, ⟨(fun _ h => nomatch h), (fun _ h => nomatch h), (fun _ h => nomatch h)⟩, (fun _ h => nomatch h), rfl, rfl⟩
  · rintro i t m₁ nx h tk I o hi ⟨htk3, hm, items, dec, e', rest, rfl, hsub, hne, hcls', hM, htt, hmap, hlen2⟩ ho hoff F3 N3
    replace F3 := hm.fr1 F3
    simp only [kstB] at F3
    obtain ⟨la, q1, q2, q3, q4, hla, hlam⟩ := hlamps i hi
    have hlo := hok (lamps.getD i lampD) (by simp [List.getD, hi])
    obtain ⟨o1, o2, o3, o4, o5, o6, o7⟩ := hlo
    generalize hlamp : lamps.getD i lampD = lamp at *
    have hlr := hsub _ hlam
    have halr := hsub _ hal
    clear F1 N1 hR
    change Fr g' L' h _ at F3
    change News g' L' h _ at N3
    k_steps
    rw [show ((i : Int)).toNat = i from rfl, hla]
    k_steps
    refine Stop.go ?_
    rename Fr g' L' _ _ => F4
    rename News g' L' _ _ => N4
    refine wpAny_mono (paint_K w _ _ _ _ _ (d + 3) lamp.lit lamp.share lamp.value _ _ _ _ _ o1 (by omega) o4 o5 o6 o7 C' F4 N4) ?_ fun _ _ x => x
    rintro val s' ⟨h5, tk5, news5, rfl, F5, N5, D5, u51, u52, u53, rfl, rfl, hlt5, htk5⟩
    clear F4 N4
    k_steps
    refine Stop.go ?_
    rename Fr g' L' _ _ => F4
    rename News g' L' _ _ => N4
    refine wpAny_mono (paint_K w _ _ _ _ _ (d + 3) lamp.out lamp.share lamp.value _ _ _ _ _ (by omega) o3 o4 o5 o6 o7 C' F4 N4) ?_ fun _ _ x => x
    rintro val s' ⟨h6, tk6, news6, rfl, F6, N6, D6, u61, u62, u63, rfl, rfl, hlt6, htk6⟩
    clear F4 N4
    dsimp only at htk5 htk6
    k_steps
    refine Stop.go ?_
    rename Fr g' L' _ _ => F4
    rename News g' L' _ _ => N4
    refine wpAny_mono (read_K w _ _ _ _ _ (d + 3) lamp.lit lamp.share lamp.value _ _ _ _ _ o1 (by omega) o4 o5 o6 o7 C' F4 N4) ?_ fun _ _ x => x
    rintro val s' ⟨h7, tk7, news7, rfl, F7, N7, D7, g7, u71, u72, u73, rfl, rfl, hlt7, htk7, htk7'⟩
    clear F4 N4
    dsimp only at htk7
    k_steps
    refine Stop.go ?_
    rename_i tk8 htk8 D8 h8 F8 N8 l8
    obtain ⟨l81, l82, l83, l84, l85, l86⟩ := l8
    have hIam : am ≠ I := hoff _ (.head _)
    have ham5 : am < D5 := hlt5 _ (.tail _ (.head _))
    have ham6 : am < D6 := hlt6 _ (.tail _ (.tail _ (.head _)))
    have ham7 : am < D7 := hlt7 _ (.tail _ (.tail _ (.tail _ (.head _))))
    replace N8 := newsFront [_, _, _, _, _] N8
    refine append_h F8 N8 ?_ (by omega) ?_
    · simp only [List.cons_append, List.nil_append]
      simp only [List.forall_mem_cons]
      exact ⟨Nat.ne_of_gt l85, Nat.ne_of_gt ham7, Nat.ne_of_gt ham6, Nat.ne_of_gt ham5, fun e => hIam e.symm, hne⟩
    intro h9 F9 N9
    simp only [List.cons_append, List.nil_append] at N9
    clear F8 N8
    k_steps
    refine Stop.go ?_
    rename Fr g' L' _ _ => F10
    rename News g' L' _ _ => N10
    refine wpAny_mono (read_K w _ _ _ _ _ (d + 3) lamp.out lamp.share lamp.value _ _ _ _ _ (by omega) o3 o4 o5 o6 o7 C' F10 N10) ?_ fun _ _ x => x
    rintro val s' ⟨h11, tk11, news11, rfl, F11, N11, D11, g11, u111, u112, u113, rfl, rfl, hlt11, htk11, htk11'⟩
    clear F10 N10
    dsimp only at htk11
    k_steps
    refine Stop.go ?_
    rename_i D12 h12 F12 N12 l12
    obtain ⟨l121, l122, l123, l124, l125, l126, l127, l128⟩ := l12
    replace N12 := newsFront [_, _] N12
    refine append_h F12 N12 ?_ (by simp only [List.length_append, List.length_cons, List.length_nil]; omega) ?_
    · simp only [List.cons_append, List.nil_append]
      simp only [List.forall_mem_cons]
      exact ⟨Nat.ne_of_gt l122, Nat.ne_of_gt (hlt11 _ (.head _)), Nat.ne_of_gt l85, Nat.ne_of_gt ham7, Nat.ne_of_gt ham6, Nat.ne_of_gt ham5, fun e => hIam e.symm, hne⟩
    intro h13 F13 N13
    clear F12 N12
    k_steps
    refine Stop.go ?_
    rename Fr g' L' _ _ => F14
    rename News g' L' _ _ => N14
    have hrl : ∀ p ∈ rest, p.1 < D5 := fun p hp => hlt5 p (.tail _ (.tail _ hp))
    obtain ⟨dec', M', hmap', htt'⟩ := marks_two (D8 := D8) (D12 := D12) (u1 := u71) (u2 := u111) (tk' := tk11) hM hmap hlamp ⟨o1, o2, o3, o4, o5, o6, o7⟩ (by omega) htt htk3 (by omega) (by omega) (by omega)
      (fun p hp => Nat.ne_of_lt (Nat.lt_trans (hrl p hp) l83)) (fun p hp => Nat.ne_of_lt (Nat.lt_trans (hrl p hp) l126)) (Nat.ne_of_lt l123)
    simp only [List.cons_append, List.nil_append] at N14
    refine TEnd.mk F14 (newsSub (l' := (I, o) :: (am, W.listOf (items ++ [Value.ref D8] ++ [Value.ref D12]).toArray (e' + 1 + 1)) :: (D12, _) :: (D8, _) :: rest) N14 ?_) ⟨by omega, all3 rfl rfl rfl, _, dec', _, _, rfl, ?_, ?_, ?_, M', ?_, hmap', ?_⟩
    · simp only [List.forall_mem_cons]
      exact ⟨by k_mem, by k_mem, by k_mem, by k_mem, fun p hp => .tail _ (.tail _ (.tail _ (.tail _ (.tail _ (.tail _ (.tail _ (.tail _ hp)))))))⟩
    · exact fun p hp => .tail _ (.tail _ (hsub p hp))
    · simp only [List.forall_mem_cons]
      exact ⟨Nat.ne_of_gt l122, Nat.ne_of_gt l85, hne⟩
    · simp only [List.forall_mem_cons]
      exact ⟨.inl (show (Value.type "tuple") ≠ Value.type "range_iterator" by decide), .inl (show (Value.type "tuple") ≠ Value.type "range_iterator" by decide), hcls'⟩
    · exact fun v hv => Nat.lt_of_lt_of_le (htt' v hv) (by omega)
    · simp only [List.length_append, List.length_cons, List.length_nil]; omega
  · rintro m₁ nx h tk ⟨htk3, hm, items, dec, e', rest, rfl, hsub, hne, hcls', hM, htt, hmap, hlen2⟩ F3 N3
    replace F3 := hm.fr F3
    simp only [kstB] at F3
    clear F1 N1 hR
    change Fr g' L' h _ at F3
    change News g' L' h _ at N3
    k_steps
    refine Stop.go ?_
    rename Fr g' L' _ _ => F4
    rename News g' L' _ _ => N4
    refine wpAny_with_toks (n := 1) (by (try dsimp only); omega) (wpAny_mono (heapify_K w _ _ _ _ _ (d + 1) am items e' rest _ (fun v => (dec v).key) C' F4 (by omega) hne hcls' hM.cmp N4) ?_ (fun _ _ x => x))
    rintro v s' ⟨h5, tk5, news5, rfl, F5, N5, rfl, rfl⟩ htk5
    clear F4 N4
    dsimp only at htk5
    have halr := hsub _ hal
    k_steps
    refine Stop.go ?_
    rename_i D6 h6 l6 ah h7 l7 h8 tk8 htk8 ag h9 l9 h10 tk10 htk10 h11 F11 N11 tk11 htk11
    have hpm := heapify_ok (fun v => (dec v).key) items
    generalize hfy (fun v => (dec v).key) (items.length / 2) items = c₀ at N11 hpm
    rw [hlen] at N11
    obtain ⟨T0, t0, hT1, hT2, NZ⟩ : ∃ T0 t0 : Nat, 1 ≤ T0 ∧ T0 < tk11 ∧ News g' L' h11 ((ag, W.listOf ([] : List Value).toArray 0) :: (ah, W.listOf [Value.ref D6].toArray 0) :: (D6, tup [.float (negF 0) T0, .int (lamps.length : Int) t0]) :: (am, W.listOf c₀.toArray e') :: rest) := by
      refine ⟨_, _, ?_, ?_, N11⟩
      · (try dsimp only); omega
      · (try dsimp only); omega
    refine while_T (fun c m nx tk => ∃ decM Hs decH Gs G S ts e1 e2 e3 rest, VInv (psW names tn am ah ag) am ah ag news (fun decM H G S => StripInv names.cps.toList lamps (c.map fun v => tri (decM v)) H G S) c m nx tk decM Hs decH Gs G S ts e1 e2 e3 rest) (fun c => c.length) c₀ F11 (newsFront [_, _, _] (newsFront [_] NZ)) ?_ ?_
    · obtain ⟨hph, hpp⟩ := hpm
      have hn6 : ∀ p ∈ rest, p.1 ≠ D6 := fun p hp => Nat.ne_of_lt ((kst_ltOf l6.2) p hp)
      refine ⟨dec, [.ref D6], fun _ => ⟨0, lamps.length, T0⟩, [], [], Str.ofString "-", _, _, _, _, _, ⟨by (try dsimp only); omega, all5 rfl rfl rfl rfl rfl, rfl, ?_, ?_, ?_, ?_, ?_, hph, ?_, ?_, ?_, .nil, ?_, ?_, ?_⟩⟩
      · simp only [List.append_eq, List.cons_append, List.nil_append, List.forall_mem_cons]; exact ⟨Nat.ne_of_gt l6.1, hne⟩
      · simp only [List.append_eq, List.cons_append, List.nil_append, List.forall_mem_cons]; exact ⟨Nat.ne_of_lt l7.1, fun p hp => Nat.ne_of_lt ((kst_ltOf l7.2.2) p hp)⟩
      · simp only [List.append_eq, List.cons_append, List.nil_append, List.forall_mem_cons]; exact ⟨Nat.ne_of_lt l9.2.1, fun p hp => Nat.ne_of_lt ((kst_ltOf l9.2.2.2) p hp)⟩
      · exact fun p hp => .tail _ (hsub p hp)
      · exact hM.sub (fun p hp => .tail _ hp) fun v hv => hpp.mem_iff.mp hv
      · refine ⟨all1 ⟨⟨D6, t0, rfl, .head _⟩, by dsimp only; omega, by dsimp only; omega, by dsimp only; omega⟩, fun _ _ _ _ _ => rfl⟩
      · exact all1 hT2
      · intro i hi0 hil hs
        simp only [List.length_cons, List.length_nil] at hil
        omega
      · have := strip_start (nm := names.cps.toList) (by simpa using hnl) hok (R := c₀.map (fun v => tri (dec v))) (by rw [← hmap]; exact hpp.map _)
        rw [dash_cps]
        exact this
      · have := hpp.length_eq
        simp only [List.length_cons, List.length_nil]; omega
      · have := hpp.length_eq
        simp only [List.length_nil]; omega
    · rintro c m₂ nx₂ hp₂ tk₂ ⟨decM, Hs, decH, Gs, G, S, ts, e1, e2, e3, rest2, W2⟩ F12 N12
      obtain ⟨w1, w2, rfl, w4, w5, w6, w7, w8, w9, w10, w11, w12, w13, w14, w15, w16⟩ := W2
      replace F12 := w2.fr F12
      simp only [kstB, psW] at F12
      clear F11 N11 NZ
      k_steps
      · refine Stop.go ?_
        rename Fr h₀ L _ _ => F13
        rename News h₀ L _ _ => N13
        have hc : c = [] := List.isEmpty_iff.mp (by assumption)
        subst hc
        refine Got.mk F13 (newsSub N13 fun p hp => .tail _ (.tail _ (.tail _ (w7 p hp)))) ⟨rfl, ts, ?_⟩
        rw [← strip_end w14]
      · refine Stop.go ?_
        rename Fr g' L' _ _ => F13
        rename News g' L' _ _ => N13
        obtain ⟨c', x, rfl⟩ : ∃ c' x, c = c' ++ [x] := by
          rcases List.eq_nil_or_concat c with h | ⟨l, y, h⟩
          · subst h; simp at *
          · exact ⟨l, y, by rw [h, List.concat_eq_append]⟩
        have hlc : (c' ++ [x]).length = c'.length + 1 := by simp
        refine wpAny_with_toks (n := tk₂) (by (try dsimp only); omega) (wpAny_mono (heappop_K w _ _ _ _ _ (d + 1) am c' e1 x _ _ (fun v => (decM v).key) C' F13 (by omega) ?_ (w8.cmp.more fun p hp => .tail _ (.tail _ hp)) N13) ?_ (fun _ _ x => x))
        · simp only [List.forall_mem_cons]
          exact ⟨Nat.ne_of_gt l7.2.1, Nat.ne_of_gt l9.2.2.1, w4⟩
        rintro v s' ⟨h14, tk14, news14, rfl, F14, N14, hv, n14, rfl⟩ htk14
        dsimp only at htk14
        obtain ⟨pk1, pk2, pk3, pk4⟩ := pop_ok w9
        rw [← hv] at pk1 pk3
        generalize (hpop (fun v => (decM v).key) c' x).2 = c1 at N14 pk1 pk2 pk3
        clear F13 N13 pk4 hv
        obtain ⟨⟨a, t2, t3, rfl, ha⟩, m1, m2, m3, m4, m5⟩ := w8.ok v (pk1.mem_iff.mp (.head _))
        generalize hmk : decM (Value.ref a) = mk at *
        have pkk : ∀ r ∈ c1.map (fun v => tri (decM v)), mk.h ≤ r.1 := by
          intro r hr
          obtain ⟨y, hy, rfl⟩ := List.mem_map.mp hr
          have h1 := pk3 y hy
          have h2 := (w8.ok y (pk1.mem_iff.mp (.tail _ hy))).2.2.2.1
          simp only [Mark.key, tri] at h1 ⊢
          omega
        have pkp : ((mk.h, mk.k, mk.l) :: c1.map (fun v => tri (decM v))).Perm ((c' ++ [x]).map fun v => tri (decM v)) := by
          have := pk1.map fun v => tri (decM v)
          rw [List.map_cons, hmk] at this
          exact this
        k_steps
        refine Stop.go ?_
        refine cut_next (MidAt s g' L' names tn am ah ag news lamps mk c1 decM S ts n14) ?_ ?_
        · have hlg := lamp_gt mk.l (List.mem_range.mpr (by omega))
          refine wpAny_If ?_
          k_steps
          · refine Stop.go ?_
            rename_i hcmp tkA htkA Dt hA FA NA lA
            obtain ⟨lA1, lA2, lA3, lA4⟩ := lA
            replace lA4 := kst_ltOf lA4
            have hl1 : 1 ≤ mk.l := by rw [hlg] at hcmp; simpa using hcmp
            rw [neg_lamp hl1] at NA
            obtain ⟨T, NB, hT1, hT2⟩ : ∃ T : Nat, News g' L' hA ((Dt, tup [.float (negF mk.l) T, .int (mk.k : Int) t2]) :: (am, W.listOf c1.toArray n14) :: (ah, W.listOf Hs.toArray e2) :: (ag, W.listOf Gs.toArray e3) :: rest2) ∧ tk₂ ≤ T ∧ T < tkA + 1 :=
              ⟨_, NA, by (try dsimp only); omega, by (try dsimp only); omega⟩
            clear NA
            obtain ⟨HP, hDn⟩ := w10.push Dt ⟨mk.l, mk.k, T⟩ t2 (fun p hp => Nat.ne_of_lt (lA4 p hp)) ⟨m4, m3, by dsimp only; omega⟩ (fun v hv => by have := w11 v hv; dsimp only; omega)
            generalize hdH : (fun v => if v = Value.ref Dt then (⟨mk.l, mk.k, T⟩ : Held) else decH v) = decH' at HP
            have hdo : ∀ v ∈ Hs, decH' v = decH v := fun v hv => by rw [← hdH]; exact if_neg (hDn v hv)
            have hdn : decH' (.ref Dt) = ⟨mk.l, mk.k, T⟩ := by rw [← hdH]; exact if_pos rfl
            obtain ⟨ph1, ph2⟩ := push_ok (x := Value.ref Dt) (w12.congr (key' := fun v => (decH' v).key) fun v hv => by simp only [hdo v hv])
            refine wpAny_with_toks (n := tkA + 1) (Nat.le_refl _) (wpAny_mono (heappush_K w _ _ _ _ _ (d + 2) ah Hs e2 (.ref Dt) _ _ (fun v => (decH' v).key) C' FA (by omega) ?_ (HP.cmp.more ?_) (newsFront [_, _] NB)) ?_ (fun _ _ x => x))
            · simp only [List.cons_append, List.nil_append, List.forall_mem_cons]
              exact ⟨Nat.ne_of_gt lA2, Nat.ne_of_lt l7.2.1, Nat.ne_of_gt l9.1, w5⟩
            · simp only [List.cons_append, List.nil_append, List.forall_mem_cons]
              exact ⟨.head _, fun p hp => .tail _ (.tail _ (.tail _ hp))⟩
            rintro v s' ⟨hB, tkB, newsB, rfl, FB, NB', rfl, nB, rfl⟩ htkB
            dsimp only at htkB
            clear FA NB
            generalize hpush (fun v => (decH' v).key) Hs (Value.ref Dt) = H1 at NB' ph1 ph2
            simp only [List.cons_append, List.nil_append] at NB'
            k_steps
            refine Stop.go (Cut.mk ?_)
            rename Fr g' L' _ _ => FC
            rename News g' L' _ _ => NC
            have hl1' : H1.length = Hs.length + 1 := by rw [ph2.length_eq]; rfl
            have hc1 : c1.length = c'.length := by have := pk1.length_eq; simp only [List.length_cons, List.length_append, List.length_nil] at this; omega
            refine ⟨_, _, _, (am, W.listOf c1.toArray n14) :: (ah, W.listOf H1.toArray nB) :: (ag, W.listOf Gs.toArray e3) :: (Dt, tup [.float (negF mk.l) T, .int (mk.k : Int) t2]) :: rest2, rfl, FC, newsSub NC ?_, H1, decH', Gs, G, nB, e3, _, ⟨?_, all6 rfl rfl rfl rfl rfl rfl, rfl, ?_, ?_, ?_, ?_, ?_, pk2, ?_, ?_, ph1, w13, ?_, by omega, by omega⟩⟩
            · simp only [List.forall_mem_cons]
              exact ⟨by k_mem, by k_mem, by k_mem, by k_mem, fun p hp => .tail _ (.tail _ (.tail _ (.tail _ hp)))⟩
            · (try dsimp only); omega
            · simp only [List.forall_mem_cons]; exact ⟨Nat.ne_of_gt lA1, w4⟩
            · simp only [List.forall_mem_cons]; exact ⟨Nat.ne_of_gt lA2, w5⟩
            · simp only [List.forall_mem_cons]; exact ⟨Nat.ne_of_gt lA3, w6⟩
            · exact fun p hp => .tail _ (w7 p hp)
            · exact w8.sub (fun p hp => .tail _ hp) fun v hv => pk1.mem_iff.mp (.tail _ hv)
            · exact HP.sub (fun _ h => h) fun v hv => by
                rcases List.mem_cons.mp (ph2.mem_iff.mp hv) with h | h
                · rw [h]; simp
                · simp [h]
            · intro v hv
              rcases List.mem_cons.mp (ph2.mem_iff.mp hv) with h | h
              · rw [h, hdn]; (try dsimp only); omega
              · rw [hdo v h]; have := w11 v h; (try dsimp only); omega
            · refine strip_pop w14 pkp pkk (.inl ⟨hl1, ?_, rfl⟩)
              have := ph2.map fun v => ((decH' v).v, (decH' v).k)
              rw [List.map_cons, hdn] at this
              refine this.trans (List.Perm.cons _ (.of_eq ?_))
              exact List.map_congr_left fun v hv => by rw [hdo v hv]
          · refine Stop.go ?_
            rename_i hcmp tkA htkA
            rename Fr g' L' _ _ => FA
            rename News g' L' _ _ => NA
            have hl0 : mk.l = 0 := by
              rw [hlg] at hcmp
              have : ¬ 1 ≤ mk.l := by simpa using hcmp
              omega
            refine append_h FA (newsFront [_, _] NA) ?_ (by omega) ?_
            · simp only [List.cons_append, List.nil_append, List.forall_mem_cons]
              exact ⟨Nat.ne_of_lt l9.2.2.1, Nat.ne_of_lt l9.1, w6⟩
            intro hB FB NB
            clear FA NA
            simp only [List.cons_append, List.nil_append] at NB
            dsimp only
            k_steps
            refine Stop.go (Cut.mk ?_)
            rename Fr g' L' _ _ => FC
            rename News g' L' _ _ => NC
            have hc1 : c1.length = c'.length := by have := pk1.length_eq; simp only [List.length_cons, List.length_append, List.length_nil] at this; omega
            refine ⟨_, _, _, (am, W.listOf c1.toArray n14) :: (ah, W.listOf Hs.toArray e2) :: (ag, W.listOf (Gs ++ [Value.int (mk.k : Int) t2]).toArray (e3 + 1)) :: rest2, rfl, FC, newsSub NC ?_, Hs, decH, Gs ++ [Value.int (mk.k : Int) t2], G ++ [mk.k], e2, e3 + 1, _, ⟨?_, all6 rfl rfl rfl rfl rfl rfl, rfl, w4, w5, w6, w7, ?_, pk2, w10, ?_, w12, ?_, ?_, by omega, ?_⟩⟩
            · simp only [List.forall_mem_cons]
              exact ⟨by k_mem, by k_mem, by k_mem, fun p hp => .tail _ (.tail _ (.tail _ hp))⟩
            · (try dsimp only); omega
            · exact w8.sub (fun _ h => h) fun v hv => pk1.mem_iff.mp (.tail _ hv)
            · intro v hv
              have := w11 v hv; (try dsimp only); omega
            · rw [List.map_append]
              exact w13.append (.cons _ _ .nil)
            · exact strip_pop w14 pkp pkk (.inr ⟨hl0, rfl, rfl⟩)
            · simp only [List.length_append, List.length_cons, List.length_nil]; omega
        · rintro s' ⟨hC, tkC, mC, nxC, rfl, FC, NC, Hs1, decH1, Gs1, G1, e2', e3', rest3, VC⟩
          dsimp only
          have FC' := VC.has.fr FC
          simp only [kstB, psW] at FC'
          k_steps
          refine Stop.go ?_
          refine while_T (fun H m nx tk => ∃ e2, VInv ((Str.ofString "hue", .float (hueF mk.h) mk.t) :: psW names tn am ah ag) am ah ag news (fun decM H G S => MidInv names.cps.toList lamps mk.h (c1.map fun v => tri (decM v)) H G S) c1 m nx tk decM H decH1 Gs1 G1 S ts n14 e2 e3' rest3) (fun H => H.length) Hs1 FC NC ⟨_, VC⟩ ?_
          rintro H mD nxD hD tkD ⟨e2D, VD⟩ FD ND
          obtain ⟨v1, v2, rfl, v4, v5, v6, v7, v8, v9, v10, v11, v12, v13, v14, v15, v16⟩ := VD
          clear FC' FC NC
          replace FD := v2.fr FD
          simp only [kstB, psW] at FD
          have hpos : 0 < H.length := by
            obtain ⟨P, _, _, _, _, hK, _⟩ := v14
            have := List.length_pos_of_mem hK.ground
            simpa using this
          have hmem := getD_mem hpos
          obtain ⟨⟨a0, ta0, hg0, ha0⟩, b1, b2, b3⟩ := v10.ok _ hmem
          generalize hdg : decH1 (H.getD 0 Value.none) = gh at ha0 b1 b2 b3
          k_steps
          refine Stop.go ?_
          rw [show H.getD (Int.toNat 0) Value.none = Value.ref a0 from hg0]
          dsimp only
          k_steps
          · refine Stop.go ?_
            rename_i hany tkE htkE
            have hgG : gh.k ∈ G1 := by
              obtain ⟨z, hz, ez⟩ := List.any_eq_true.mp hany
              obtain ⟨k9, hk9, rfl⟩ := List.mem_map.mp hz
              have : (k9 : Int) = (gh.k : Int) := by simpa using ez
              have : k9 = gh.k := by omega
              exact this ▸ hk9
            obtain ⟨H', y, rfl⟩ : ∃ H' y, H = H' ++ [y] := by
              rcases List.eq_nil_or_concat H with h | ⟨l, y, h⟩
              · subst h; simp at hpos
              · exact ⟨l, y, by rw [h, List.concat_eq_append]⟩
            have hlH : (H' ++ [y]).length = H'.length + 1 := by simp
            refine wpAny_with_toks (n := tkD) (by (try dsimp only); omega) (wpAny_mono (heappop_K w _ _ _ _ _ (d + 1) ah H' e2D y _ _ (fun v => (decH1 v).key) C' FD (by omega) ?_ (v10.cmp.more ?_) (newsFront [_] ND)) ?_ (fun _ _ x => x))
            · simp only [List.cons_append, List.nil_append, List.forall_mem_cons]
              exact ⟨Nat.ne_of_lt l7.2.1, Nat.ne_of_gt l9.1, v5⟩
            · exact fun p hp => .tail _ (.tail _ hp)
            rintro v s' ⟨hE, tkE', newsE, rfl, FE, NE, hvE, nE, rfl⟩ htkE'
            dsimp only at htkE'
            obtain ⟨q1, q2, q3, q4⟩ := pop_ok v12
            rw [q4, show gd (H' ++ [y]) 0 = Value.ref a0 from hg0] at q1
            generalize (hpop (fun v => (decH1 v).key) H' y).2 = H1 at NE q1 q2
            simp only [List.cons_append, List.nil_append] at NE
            clear FD ND
            k_steps
            refine Stop.go ?_
            rename Fr g' L' _ _ => FG
            rename News g' L' _ _ => NG
            have hsubH : ∀ v ∈ H1, v ∈ H' ++ [y] := fun v hv => q1.mem_iff.mp (.tail _ hv)
            have hl9 : H1.length = H'.length := by have := q1.length_eq; simp only [List.length_cons, List.length_append, List.length_nil] at this; omega
            refine VEnd.mk H1 FG (newsFront [_] NG) (by (try dsimp only); omega) ⟨nE, ⟨by (try dsimp only); omega, all6 rfl rfl rfl rfl rfl rfl, rfl, v4, v5, v6, v7, v8, v9, v10.sub (fun _ h => h) hsubH, ?_, q2, v13, ?_, by omega, by omega⟩⟩
            · intro v hv
              have := v11 v (hsubH v hv); (try dsimp only); omega
            · refine strip_off (x := (gh.v, gh.k)) v14 ?_ hgG
              have := q1.map fun v => ((decH1 v).v, (decH1 v).k)
              rw [List.map_cons, show decH1 (Value.ref a0) = gh by rw [← hdg, ← hg0]] at this
              exact this
          · refine Stop.go ?_
            rename_i hany tkE htkE
            refine wpAny_If ?_
            refine wpAny_mono (Q := TestEnd s g' L' ((Str.ofString "strip", .str S ts) :: (Str.ofString "hue", .float (hueF mk.h) mk.t) :: psW names tn am ah ag) ((am, W.listOf c1.toArray n14) :: (ah, W.listOf H.toArray e2D) :: (ag, W.listOf Gs1.toArray e3') :: rest3) tkD (∀ r ∈ c1.map (fun v => tri (decM v)), r.1 ≠ mk.h)) ?_ ?_ (fun _ _ x => x)
            · rcases c1 with _ | ⟨y1, c2⟩
              · k_steps
                refine Stop.go ?_
                rename Fr g' L' _ _ => FF
                rename News g' L' _ _ => NF
                exact ⟨_, _, _, rfl, FF, all6 rfl rfl rfl rfl rfl rfl, newsSub NF fun p hp => .tail _ hp, by (try dsimp only); omega, fun _ r hr => (nomatch hr), fun _ => rfl⟩
              · obtain ⟨⟨ay, ty2, ty3, hy, hay⟩, y1a, y1b, y1c, y1d, y1e⟩ := v8.ok y1 (.head _)
                generalize hyk : decM y1 = ym at hay y1a y1b y1c y1d y1e
                k_steps
                refine Stop.go ?_
                rw [show (y1 :: c2).getD (Int.toNat 0) Value.none = Value.ref ay from hy]
                dsimp only
                have hcm := hue_cmp ym.h (List.mem_range.mpr (by omega)) mk.h (List.mem_range.mpr (by omega))
                have hmin1 := top_min' v9
                k_steps
                · refine Stop.go ?_
                  rename_i hq
                  rename Fr g' L' _ _ => FF
                  rename News g' L' _ _ => NF
                  have hne : ym.h ≠ mk.h := by
                    rintro e
                    rw [hcm, e] at hq
                    simp at hq
                  refine ⟨_, _, _, rfl, FF, all6 rfl rfl rfl rfl rfl rfl, newsSub NF fun p hp => .tail _ hp, by (try dsimp only); omega, fun _ r hr => ?_, fun _ => rfl⟩
                  obtain ⟨y, hy9, rfl⟩ := List.mem_map.mp hr
                  have h1 := hmin1 y hy9
                  have h2 := (v8.ok y hy9).2.2.2.1
                  have h3 := pkk (tri ym) (List.mem_map.mpr ⟨y1, .head _, by rw [hyk]⟩)
                  simp only [gd, List.getD_cons_zero, hyk, Mark.key, tri] at h1 h3 ⊢
                  omega
                · refine Stop.go ?_
                  rename_i hq
                  rename Fr g' L' _ _ => FF
                  rename News g' L' _ _ => NF
                  have hne : ym.h = mk.h := by
                    rw [hcm] at hq
                    simp only [bne_eq_false_iff_eq, Option.some.injEq] at hq
                    exact Nat.compare_eq_eq.mp hq
                  refine ⟨_, _, _, rfl, FF, all6 rfl rfl rfl rfl rfl rfl, newsSub NF fun p hp => .tail _ hp, by (try dsimp only); omega, fun h => (nomatch h), fun h => ?_⟩
                  exact absurd (by rw [tri, hyk]; exact hne) (h (tri (decM y1)) (List.mem_map.mpr ⟨y1, .head _, rfl⟩))
            · rintro b s' ⟨hF, tkF, mF, rfl, FF, hasF, NF, tkFl, hb⟩
              replace FF := hasF.fr FF
              simp only [kstB, psW] at FF
              have hsz1 : names.length + (Str.ofString "-").length ≤ 100 := by
                rw [len_cps, len_cps, dash_cps]
                simp only [Array.length_toList, List.length_cons, List.length_nil]
                omega
              have hc1 : c1.length = c'.length := by have := pk1.length_eq; simp only [List.length_cons, List.length_append, List.length_nil] at this; omega
              have hkn : gh.k ≤ lamps.length ∧ (gh.v, gh.k) ∈ H.map (fun v => ((decH1 v).v, (decH1 v).k)) := by
                have hm9 : (gh.v, gh.k) ∈ H.map (fun v => ((decH1 v).v, (decH1 v).k)) := List.mem_map.mpr ⟨_, hmem, by rw [hdg]⟩
                refine ⟨?_, hm9⟩
                obtain ⟨P, hP, _, _, _, hK, _⟩ := v14
                rcases hK.from' _ hm9 with e | ⟨_, t, ht⟩
                · simp only [Prod.mk.injEq] at e; omega
                · exact Nat.le_of_lt (evsN_k lamps _ _ (hP.mem_iff.mp (List.mem_append.mpr (.inl ht))))
              obtain ⟨hkn, hkm⟩ := hkn
              have hS16 : S.cps.toList.length ≤ 16 := by
                obtain ⟨P, _, _, _, _, _, hS⟩ := v14
                rw [hS]
                exact Nat.le_trans (SU_length _ _ _) (by omega)
              obtain ⟨cl, hcl⟩ : ∃ cl, S.cps.toList.getLast? = some cl := by
                obtain ⟨P, _, _, _, _, _, hS⟩ := v14
                obtain ⟨q, hq⟩ : ∃ q, mk.h = q + 1 := ⟨mk.h - 1, by omega⟩
                rw [hS, hq]
                exact ⟨_, stepS_last _ _⟩
              have hSp : 0 < S.cps.toList.length := by
                cases hl : S.cps.toList with
                | nil => rw [hl] at hcl; cases hcl
                | cons a b => simp
              cases b with
              | false =>
                k_steps
                refine Stop.go ?_
                refine VEnd.mk c1 FF NF (by (try dsimp only); omega) ⟨decM, H, decH1, Gs1, G1, S, ts, n14, e2D, e3', rest3, ⟨by omega, all5 rfl rfl rfl rfl rfl, rfl, v4, v5, v6, v7, v8, v9, v10, fun v hv => Nat.lt_of_lt_of_le (v11 v hv) tkFl, v12, v13, ?_, by omega, by omega⟩⟩
                refine strip_same v14 ?_
                false_or_by_contra
                rename_i hno
                exact absurd (hb.mpr fun r hr e => hno ⟨r, hr, e⟩) (by decide)
              | true => 
                have hstory := fun (hm : gh.k ∉ G1) => strip_told (x := (gh.v, gh.k)) (by omega) hok m2 v14 (hb.mp rfl) hkm (by
                  intro y hy
                  obtain ⟨v, hv, rfl⟩ := List.mem_map.mp hy
                  have := top_min' v12 v hv
                  simp only [gd, hdg, Held.key] at this
                  exact this) hm
                have hgG : gh.k ∉ G1 := by
                  intro hm
                  have : (G1.map (fun k : Nat => (k : Int))).any (fun z => z == (gh.k : Int)) = true := List.any_eq_true.mpr ⟨_, List.mem_map.mpr ⟨_, hm, rfl⟩, by simp⟩
                  rw [hany] at this
                  cases this
                replace hstory := hstory hgG
                have hsz2 : S.length + ({ cps := #[codeAt names.cps.toList gh.k] } : Str).length ≤ 100 := by
                  rw [len_cps, len_cps]
                  simp only [List.length_cons, List.length_nil]
                  omega
                k_steps
                refine Stop.go ?_
                rw [show H.getD (Int.toNat 0) Value.none = Value.ref a0 from hg0]
                dsimp only
                k_steps
                refine Stop.go ?_
                refine item_str (fitsSsize_of (N := 100) (by omega) (by omega) (by decide)) (by omega) (by rw [len_cps, app_cps, dash_cps]; simp; omega) ?_
                intro _
                rw [item_code hnl hkn]
                dsimp only
                k_steps
                refine Stop.go ?_
                refine item_str (by decide) (by rw [len_cps]; omega) (by omega) ?_
                intro _
                rw [item_last hcl]
                dsimp only
                k_steps
                · refine Stop.go ?_
                  rename Fr g' L' _ _ => FH
                  rename News g' L' _ _ => NH
                  rename (_ != _) = true => hq
                  refine VEnd.mk c1 FH NH (by (try dsimp only); omega) ⟨decM, H, decH1, Gs1, G1, _, _, n14, e2D, e3', rest3, ⟨by (try dsimp only); omega, all5 rfl rfl rfl rfl rfl, rfl, v4, v5, v6, v7, v8, v9, v10, ?_, v12, v13, ?_, by omega, by omega⟩⟩
                  · intro v hv
                    have := v11 v hv; (try dsimp only); omega
                  · rw [app_cps]
                    have : stepS S.cps.toList (codeAt names.cps.toList gh.k) = S.cps.toList ++ [codeAt names.cps.toList gh.k] := by
                      unfold stepS
                      rw [if_neg]
                      rw [hcl]
                      rintro e
                      rw [Option.some.inj e] at hq
                      simp at hq
                    rw [this] at hstory
                    exact hstory
                · refine Stop.go ?_
                  rename Fr g' L' _ _ => FH
                  rename News g' L' _ _ => NH
                  rename (_ != _) = false => hq
                  refine VEnd.mk c1 FH NH (by (try dsimp only); omega) ⟨decM, H, decH1, Gs1, G1, S, ts, n14, e2D, e3', rest3, ⟨by (try dsimp only); omega, all5 rfl rfl rfl rfl rfl, rfl, v4, v5, v6, v7, v8, v9, v10, ?_, v12, v13, ?_, by omega, by omega⟩⟩
                  · intro v hv
                    have := v11 v hv; (try dsimp only); omega
                  · have : stepS S.cps.toList (codeAt names.cps.toList gh.k) = S.cps.toList := by
                      unfold stepS
                      rw [if_pos]
                      rw [hcl]
                      have h9 := congrArg Str.cps (bne_eq_false_iff_eq.mp hq)
                      simp at h9
                      rw [h9]
                    rw [this] at hstory
                    exact hstory
end

/-! part L1 -/
theorem fresh_L1 : True := by w_top off; trivial
/-! the strip, as a word -/
structure Word (S : List Nat) : Prop where
  head : S.head? = some 45
  last : S.getLast? = some 45
  adj : ∀ i (h : i + 1 < S.length), S[i]'(by omega) ≠ S[i+1]
  abab : ∀ x y, x ≠ y → ¬ [x, y, x, y].Sublist S

theorem sub_of_idx {S : List Nat} : ∀ {T : List Nat}, (∀ i ∈ T, i < S.length) → T.Pairwise (· < ·) → (T.map fun i => S.getD i 0).Sublist S := by
  intro T hT hp
  have e : S = (List.range S.length).map fun i => S.getD i 0 := by
    apply List.ext_getElem
    · simp
    · intro i h1 h2
      simp [h1]
  have : T.Sublist (List.range S.length) := by
    clear e
    have key : ∀ (n a : Nat) (T : List Nat), T.Pairwise (· < ·) → (∀ i ∈ T, a ≤ i ∧ i < a + n) → T.Sublist (List.range' a n) := by
      intro n
      induction n with
      | zero =>
        intro a T _ h
        cases T with
        | nil => exact .slnil
        | cons x r => have := h x (.head _); omega
      | succ n ih =>
        intro a T hp h
        rw [List.range'_succ]
        cases T with
        | nil => exact List.nil_sublist _
        | cons x r =>
          have hp2 := List.pairwise_cons.mp hp
          by_cases hx : x = a
          · subst hx
            refine List.Sublist.cons_cons _ (ih _ _ hp2.2 fun i hi => ?_)
            have := hp2.1 i hi; have := h i (.tail _ hi); omega
          · refine List.Sublist.cons _ (ih _ _ hp fun i hi => ?_)
            have h1 := h x (.head _)
            have h2 := h i hi
            rcases List.mem_cons.mp hi with rfl | hi
            · omega
            · have := hp2.1 i hi; omega
    rw [List.range_eq_range']
    exact key _ _ _ hp fun i hi => by have := hT i hi; omega
  have h2 := this.map fun i => S.getD i 0
  rw [← e] at h2
  exact h2
theorem idx_of_sub {S T : List Nat} (h : T.Sublist S) : ∃ I : List Nat, (∀ i ∈ I, i < S.length) ∧ I.Pairwise (· < ·) ∧ T = I.map fun i => S.getD i 0 := by
  have e : S = (List.range S.length).map fun i => S.getD i 0 := by
    apply List.ext_getElem
    · simp
    · intro i h1 h2
      simp [h1]
  rw [e] at h
  obtain ⟨I, hI, rfl⟩ := List.sublist_map_iff.mp h
  refine ⟨I, fun i hi => ?_, List.Pairwise.sublist hI List.pairwise_lt_range, rfl⟩
  simpa using hI.subset hi

theorem nodup_len {A B : List Nat} (hA : A.Nodup) (h : ∀ x ∈ A, x ∈ B) : A.length ≤ B.length := by
  induction A generalizing B with
  | nil => simp
  | cons a r ih =>
    have ha := h a (.head _)
    have hn := List.nodup_cons.mp hA
    have := ih (B := B.erase a) hn.2 fun x hx => (List.mem_erase_of_ne (fun e => by subst e; exact hn.1 hx)).mpr (h x (.tail _ hx))
    rw [List.length_erase_of_mem ha] at this
    have : 0 < B.length := List.length_pos_of_mem ha
    simp only [List.length_cons]; omega

/-- the place of the last x -/
def ridx (S : List Nat) (x : Nat) : Nat := S.length - 1 - S.reverse.idxOf x

theorem idx_first {S : List Nat} {x : Nat} (h : x ∈ S) : ∃ hl : S.idxOf x < S.length, S[S.idxOf x] = x ∧ ∀ i (hi : i < S.length), S[i] = x → S.idxOf x ≤ i := by
  have hl := List.idxOf_lt_length_of_mem h
  refine ⟨hl, List.getElem_idxOf hl, fun i hi e => ?_⟩
  false_or_by_contra
  rename_i hlt
  have := List.not_of_lt_findIdx (p := (· == x)) (xs := S) (i := i) (by show i < S.idxOf x; omega)
  simp [e] at this
theorem idx_last {S : List Nat} {x : Nat} (h : x ∈ S) : ∃ hl : ridx S x < S.length, S[ridx S x] = x ∧ ∀ i (hi : i < S.length), S[i] = x → i ≤ ridx S x := by
  obtain ⟨hl, e1, h1⟩ := idx_first (S := S.reverse) (List.mem_reverse.mpr h)
  rw [List.length_reverse] at hl
  have hlt : ridx S x < S.length := by unfold ridx; omega
  refine ⟨hlt, ?_, fun i hi e => ?_⟩
  · rw [List.getElem_reverse] at e1
    exact e1
  · have := h1 (S.length - 1 - i) (by rw [List.length_reverse]; omega) (by rw [List.getElem_reverse]; simp only [show S.length - 1 - (S.length - 1 - i) = i by omega]; exact e)
    unfold ridx; omega

theorem sub4 {S : List Nat} (a b c d : Nat) (hd : d < S.length) (h1 : a < b) (h2 : b < c) (h3 : c < d) : [S[a]'(by omega), S[b]'(by omega), S[c]'(by omega), S[d]].Sublist S := by
  have := sub_of_idx (S := S) (T := [a, b, c, d]) (by simp; omega) (by simp; omega)
  simpa [List.getD, show a < S.length by omega, show b < S.length by omega, show c < S.length by omega, hd] using this
theorem sub3 {S : List Nat} (a b c : Nat) (hc : c < S.length) (h1 : a < b) (h2 : b < c) : [S[a]'(by omega), S[b]'(by omega), S[c]].Sublist S := by
  have := sub_of_idx (S := S) (T := [a, b, c]) (by simp; omega) (by simp; omega)
  simpa [List.getD, show a < S.length by omega, show b < S.length by omega, hc] using this
theorem of_sub3 {S : List Nat} {x y z : Nat} (h : [x, y, z].Sublist S) : ∃ a b c, ∃ hc : c < S.length, ∃ h1 : a < b, ∃ h2 : b < c, S[a] = x ∧ S[b] = y ∧ S[c] = z := by
  obtain ⟨I, hI, hp, e⟩ := idx_of_sub h
  match I, e with
  | [a, b, c], e =>
    simp at hI hp
    refine ⟨a, b, c, by omega, by omega, by omega, ?_⟩
    simp [List.getD, hI] at e
    exact ⟨e.1.symm, e.2.1.symm, e.2.2.symm⟩

/-- Davenport and Schinzel -/
theorem Word.short {S seen : List Nat} (W : Word S) (hs : ∀ x ∈ S, x = 45 ∨ x ∈ seen) : S.length ≤ 2 * seen.length + 1 := by
  have h0 : 0 < S.length := by
    cases S with
    | nil => have := W.head; simp at this
    | cons a b => simp
  have hS0 : S[0] = 45 := by
    have := W.head
    rw [List.head?_eq_getElem?, List.getElem?_eq_getElem h0] at this
    exact Option.some.inj this
  have hSl : S[S.length - 1] = 45 := by
    have := W.last
    rw [List.getLast?_eq_getElem?, List.getElem?_eq_getElem (by omega)] at this
    exact Option.some.inj this
  -- a place is told by its sign: twice the sign where it is the first (the next), else twice and one
  let g : Nat → Nat := fun i => if S.idxOf (S.getD (i+1) 0) = i + 1 then 2 * S.getD (i+1) 0 else 2 * S.getD i 0 + 1
  have key : ∀ i, i + 1 < S.length → S.idxOf (S.getD (i+1) 0) ≠ i + 1 → ridx S (S.getD i 0) = i := by
    intro i hi hne
    have e1 : S.getD (i+1) 0 = S[i+1] := by simp [List.getD, hi]
    have e0 : S.getD i 0 = S[i] := by simp [List.getD, show i < S.length by omega]
    rw [e1] at hne
    rw [e0]
    obtain ⟨l1, f1, f2⟩ := idx_first (S := S) (x := S[i+1]) (List.getElem_mem hi)
    obtain ⟨l2, g1, g2⟩ := idx_last (S := S) (x := S[i]) (List.getElem_mem (by omega))
    have a1 := f2 (i+1) hi rfl
    have a2 := g2 i (by omega) rfl
    false_or_by_contra
    rename_i hne2
    have hadj := W.adj i hi
    have b1 : S.idxOf S[i+1] < i := by
      have : S.idxOf S[i+1] ≠ i := fun e => hadj (by rw [← f1]; simp only [e])
      omega
    have b2 : i + 1 < ridx S S[i] := by
      have : ridx S S[i] ≠ i + 1 := fun e => hadj (by rw [← g1]; simp only [e])
      omega
    have := sub4 (S := S) _ _ _ _ l2 b1 (Nat.lt_succ_self i) b2
    rw [f1, g1] at this
    exact W.abab _ _ (fun e => hadj e.symm) this
  have hnd : ((List.range (S.length - 1)).map g).Nodup := by
    rw [List.nodup_iff_pairwise_ne, List.pairwise_map]
    refine List.Pairwise.imp_of_mem ?_ (List.nodup_range (n := S.length - 1))
    intro i j hi hj hij e
    simp only [List.mem_range] at hi hj
    simp only [g] at e
    have ki := key i (by omega)
    have kj := key j (by omega)
    split at e <;> split at e
    · rename_i p q
      have : S.getD (i+1) 0 = S.getD (j+1) 0 := by omega
      rw [this] at p; omega
    · omega
    · omega
    · rename_i p q
      have : S.getD i 0 = S.getD j 0 := by omega
      have k1 := ki p; have k2 := kj q
      rw [this] at k1; omega
  have := nodup_len (B := seen.map (2 * ·) ++ seen.map (2 * · + 1)) hnd (by
    intro x hx
    obtain ⟨i, hi, rfl⟩ := List.mem_map.mp hx
    simp only [List.mem_range] at hi
    have e1 : S.getD (i+1) 0 = S[i+1] := by simp [List.getD, show i + 1 < S.length by omega]
    have e0 : S.getD i 0 = S[i] := by simp [List.getD, show i < S.length by omega]
    have ki := key i (by omega)
    simp only [g]
    split
    · rename_i p
      rw [e1] at p ⊢
      rcases hs _ (List.getElem_mem (by omega : i + 1 < S.length)) with q | q
      · obtain ⟨l1, f1, f2⟩ := idx_first (S := S) (x := S[i+1]) (List.getElem_mem (by omega))
        have := f2 0 h0 (by rw [hS0, q]); omega
      · exact List.mem_append.mpr (.inl (List.mem_map.mpr ⟨_, q, rfl⟩))
    · rename_i p
      have k := ki p
      rw [e0] at k ⊢
      rcases hs _ (List.getElem_mem (by omega : i < S.length)) with q | q
      · obtain ⟨l1, f1, f2⟩ := idx_last (S := S) (x := S[i]) (List.getElem_mem (by omega))
        have := f2 (S.length - 1) (by omega) (by rw [hSl, q]); omega
      · exact List.mem_append.mpr (.inr (List.mem_map.mpr ⟨_, q, rfl⟩)))
  simp at this
  omega

/-! the lamps told anew -/
def isIn (S : List Nat) (y x : Nat) : Bool := [y, x, y].isSublist S
def depthOf (S seen : List Nat) (x : Nat) : Nat := ((seen ++ [45]).filter fun y => y != x && isIn S y x).length
def anewOf (S seen : List Nat) (x : Nat) : Lamp := ⟨S.idxOf x, ridx S x + 1, 1 + depthOf S seen x % 4, depthOf S seen x⟩
theorem isIn_iff {S : List Nat} {y x : Nat} : isIn S y x = true ↔ [y, x, y].Sublist S := List.isSublist_iff_sublist

theorem filter_lt {B : List Nat} {p q : Nat → Bool} (hB : B.Nodup) (h : ∀ z ∈ B, p z = true → q z = true) {y : Nat} (hy : y ∈ B) (hp : p y = false) (hq : q y = true) : (B.filter p).length < (B.filter q).length := by
  have h1 := nodup_len (A := y :: B.filter p) (B := B.filter q) (List.nodup_cons.mpr ⟨by simp [hp], hB.filter p⟩) (by
    intro z hz
    rcases List.mem_cons.mp hz with rfl | hz
    · exact List.mem_filter.mpr ⟨hy, hq⟩
    · have := List.mem_filter.mp hz
      exact List.mem_filter.mpr ⟨this.1, h z this.1 this.2⟩)
  rw [List.length_cons] at h1
  exact h1

section
variable {S seen : List Nat} (W : Word S) (hs : ∀ x ∈ S, x = 45 ∨ x ∈ seen) (hin : ∀ x ∈ seen, x ∈ S) (hnd : seen.Nodup) (h45 : 45 ∉ seen) (hl4 : seen.length ≤ 4)
include W hs hin hnd h45 hl4

theorem anew_ok : ∀ x ∈ seen, (anewOf S seen x).Ok ∧ (anewOf S seen x).out < S.length := by
  intro x hx
  have hsh := W.short hs
  have hx45 : x ≠ 45 := fun e => h45 (e ▸ hx)
  obtain ⟨l1, f1, f2⟩ := idx_first (hin x hx)
  obtain ⟨l2, g1, g2⟩ := idx_last (hin x hx)
  have h0 : 0 < S.length := by omega
  have hS0 : S[0] = 45 := by
    have := W.head
    rw [List.head?_eq_getElem?, List.getElem?_eq_getElem h0] at this
    exact Option.some.inj this
  have hSl : S[S.length - 1] = 45 := by
    have := W.last
    rw [List.getLast?_eq_getElem?, List.getElem?_eq_getElem (by omega)] at this
    exact Option.some.inj this
  have a1 : S.idxOf x ≠ 0 := fun e => hx45 (by rw [← f1]; simp only [e]; exact hS0)
  have a2 : ridx S x ≠ S.length - 1 := fun e => hx45 (by rw [← g1]; simp only [e]; exact hSl)
  have a3 := g2 _ l1 f1
  have d1 : 1 ≤ depthOf S seen x := by
    refine List.length_pos_of_mem (a := 45) (List.mem_filter.mpr ⟨by simp, ?_⟩)
    simp only [Bool.and_eq_true, bne_iff_ne, ne_eq]
    refine ⟨fun e => hx45 e.symm, isIn_iff.mpr ?_⟩
    have := sub3 (S := S) 0 (S.idxOf x) (S.length - 1) (by omega) (by omega) (by omega)
    rwa [f1, hS0, hSl] at this
  have d2 : depthOf S seen x ≤ 4 := by
    have hnd' : (seen ++ [45]).Nodup := List.nodup_append.mpr ⟨hnd, by simp, by
      intro a ha b hb e
      rw [List.mem_singleton.mp hb] at e
      exact h45 (e ▸ ha)⟩
    have := filter_lt (B := seen ++ [45]) (p := fun y => y != x && isIn S y x) (q := fun _ => true) hnd' (fun _ _ _ => rfl) (y := x) (List.mem_append.mpr (.inl hx)) (by simp) rfl
    have e : ((seen ++ [45]).filter fun _ => true).length = seen.length + 1 := by simp
    unfold depthOf
    omega
  refine ⟨⟨?_, ?_, ?_, ?_, ?_, ?_, ?_⟩, ?_⟩ <;> simp only [anewOf] <;> omega

/-- who is on top, told anew -/
theorem anew_deeper {h : Nat} (hh : h < S.length) {y : Nat} (hy : y ∈ seen) (hne : S[h] ≠ y) (h1 : S.idxOf y ≤ h) (h2 : h < ridx S y + 1) : S[h] ≠ 45 ∧ depthOf S seen y < depthOf S seen S[h] := by
  obtain ⟨l1, f1, f2⟩ := idx_first (hin y hy)
  obtain ⟨l2, g1, g2⟩ := idx_last (hin y hy)
  have b1 : S.idxOf y < h := by
    have : S.idxOf y ≠ h := fun e => hne (by rw [← f1]; simp only [e])
    omega
  have b2 : h < ridx S y := by
    have : ridx S y ≠ h := fun e => hne (by rw [← g1]; simp only [e])
    omega
  have hyxy : [y, S[h], y].Sublist S := by
    have := sub3 (S := S) _ _ _ l2 b1 b2
    rwa [f1, g1] at this
  have h45' : S[h] ≠ 45 := by
    intro e
    have hS0 : S[0] = 45 := by
      have := W.head
      rw [List.head?_eq_getElem?, List.getElem?_eq_getElem (by omega)] at this
      exact Option.some.inj this
    have hy45 : y ≠ 45 := fun e => h45 (e ▸ hy)
    have : S.idxOf y ≠ 0 := fun e0 => hy45 (by rw [← f1]; simp only [e0]; exact hS0)
    have := sub4 (S := S) 0 _ _ _ l2 (by omega) b1 b2
    rw [f1, g1, hS0, e] at this
    exact W.abab _ _ (fun e => hy45 e.symm) this
  refine ⟨h45', ?_⟩
  have hnd' : (seen ++ [45]).Nodup := List.nodup_append.mpr ⟨hnd, by simp, by
    intro a ha b hb e
    rw [List.mem_singleton.mp hb] at e
    exact h45 (e ▸ ha)⟩
  refine filter_lt hnd' ?_ (y := y) (List.mem_append.mpr (.inl hy)) (by simp) ?_
  · intro z _ hz
    simp only [Bool.and_eq_true, bne_iff_ne, ne_eq] at hz ⊢
    obtain ⟨hzy, hz⟩ := hz
    obtain ⟨p1, p2, p3, hp3, p12, p23, e1, e2, e3⟩ := of_sub3 (isIn_iff.mp hz)
    -- z lies on both sides of h
    have c1 : p1 ≤ h := by
      false_or_by_contra
      rename_i hlt
      have := sub4 (S := S) (S.idxOf y) p1 p2 p3 hp3 (by omega) p12 p23
      rw [f1, e1, e2, e3] at this
      exact W.abab _ _ (fun e => hzy e.symm) this
    have c2 : h ≤ p3 := by
      false_or_by_contra
      rename_i hlt
      have := sub4 (S := S) p1 p2 p3 (ridx S y) l2 p12 p23 (by omega)
      rw [g1, e1, e2, e3] at this
      exact W.abab _ _ hzy this
    have hzx : z ≠ S[h] := by
      intro e
      subst e
      rcases Nat.lt_or_ge p2 h with q | q
      · have := sub4 (S := S) p1 p2 h (ridx S y) l2 p12 q b2
        rw [g1, e1, e2] at this
        exact W.abab _ _ hzy this
      · have : p2 ≠ h := fun e => hne (by rw [← e2]; simp only [e])
        have := sub4 (S := S) (S.idxOf y) h p2 p3 hp3 b1 (by omega) p23
        rw [f1, e2, e3] at this
        exact W.abab _ _ (fun e => hzy e.symm) this
    refine ⟨hzx, isIn_iff.mpr ?_⟩
    have d1 : p1 ≠ h := fun e => hzx (by rw [← e1]; simp only [e])
    have d2 : p3 ≠ h := fun e => hzx (by rw [← e3]; simp only [e])
    have := sub3 (S := S) p1 h p3 hp3 (by omega) (by omega)
    rwa [e1, e3] at this
  · simp only [Bool.and_eq_true, bne_iff_ne, ne_eq]
    exact ⟨fun e => hne e.symm, isIn_iff.mpr hyxy⟩

theorem anew_top {h : Nat} (hh : h < S.length) : codeAt seen (topAt (seen.map (anewOf S seen)) h) = S[h] := by
  have hlen : (seen.map (anewOf S seen)).length = seen.length := by simp
  have hget : ∀ k (hk : k < seen.length), (seen.map (anewOf S seen)).getD k lampD = anewOf S seen seen[k] := fun k hk => by simp [List.getD, hk]
  have hcode : ∀ k (hk : k < seen.length), codeAt seen k = seen[k] := fun k hk => by simp [codeAt, List.getD, List.getElem?_append, hk]
  have hlit : ∀ k (hk : k < seen.length), litB (seen.map (anewOf S seen)) h k = true ↔ S.idxOf seen[k] ≤ h ∧ h < ridx S seen[k] + 1 := fun k hk => by
    simp only [litB, hget k hk, anewOf, Bool.and_eq_true, decide_eq_true_eq]
  rcases topAt_is (seen.map (anewOf S seen)) h with ⟨a, b, c⟩ | ⟨a, b⟩
  · rw [hlen] at a
    rw [hcode _ a]
    generalize topAt (seen.map (anewOf S seen)) h = k at a b c
    have hk := (hlit k a).mp b
    false_or_by_contra
    rename_i hne
    obtain ⟨d1, d2⟩ := anew_deeper W hs hin hnd h45 hl4 hh (List.getElem_mem a) (fun e => hne e.symm) hk.1 hk.2
    rcases hs S[h] (List.getElem_mem hh) with e | e
    · exact d1 e
    · obtain ⟨j, hj, ej⟩ := List.mem_iff_getElem.mp e
      obtain ⟨l1, f1, f2⟩ := idx_first (hin _ e)
      obtain ⟨l2, g1, g2⟩ := idx_last (hin _ e)
      have hjl : litB (seen.map (anewOf S seen)) h j = true := (hlit j hj).mpr (by
        rw [ej]
        exact ⟨f2 h hh rfl, Nat.lt_succ_of_le (g2 h hh rfl)⟩)
      have := c j (by rw [hlen]; exact hj) hjl
      have o1 := (anew_ok W hs hin hnd h45 hl4 _ e).1.v8
      have o2 := (anew_ok W hs hin hnd h45 hl4 seen[k] (List.getElem_mem a)).1.v8
      unfold keyL at this
      rw [hget k a, hget j hj, ej] at this
      simp only [anewOf] at this o1 o2
      omega
  · rw [a]
    have e45 : codeAt seen (seen.map (anewOf S seen)).length = 45 := by simp [codeAt, List.getD]
    rw [e45]
    rcases hs S[h] (List.getElem_mem hh) with e | e
    · exact e.symm
    · exfalso
      obtain ⟨j, hj, ej⟩ := List.mem_iff_getElem.mp e
      obtain ⟨l1, f1, f2⟩ := idx_first (hin _ e)
      obtain ⟨l2, g1, g2⟩ := idx_last (hin _ e)
      have hjl : litB (seen.map (anewOf S seen)) h j = true := (hlit j hj).mpr (by
        rw [ej]
        exact ⟨f2 h hh rfl, Nat.lt_succ_of_le (g2 h hh rfl)⟩)
      rw [b j (by rw [hlen]; exact hj)] at hjl
      cases hjl

theorem anew_behind {h : Nat} (hh : S.length ≤ h) : codeAt seen (topAt (seen.map (anewOf S seen)) h) = 45 := by
  have hlen : (seen.map (anewOf S seen)).length = seen.length := by simp
  have hget : ∀ k (hk : k < seen.length), (seen.map (anewOf S seen)).getD k lampD = anewOf S seen seen[k] := fun k hk => by simp [List.getD, hk]
  rcases topAt_is (seen.map (anewOf S seen)) h with ⟨a, b, c⟩ | ⟨a, b⟩
  · exfalso
    rw [hlen] at a
    simp only [litB, hget _ a, Bool.and_eq_true, decide_eq_true_eq] at b
    have := (anew_ok W hs hin hnd h45 hl4 _ (List.getElem_mem a)).2
    omega
  · rw [a]
    simp [codeAt, List.getD]

theorem anew_strip : SU seen (seen.map (anewOf S seen)) 16 = S := by
  have hsh := W.short hs
  have h0 : 0 < S.length := by
    cases S with
    | nil => have := W.head; simp at this
    | cons a b => simp
  have up : ∀ t, t ≤ S.length → SU seen (seen.map (anewOf S seen)) t = S.take t := by
    intro t
    induction t with
    | zero => intro _; simp [SU]
    | succ t ih =>
      intro ht
      rw [SU, ih (by omega), anew_top W hs hin hnd h45 hl4 (show t < S.length by omega)]
      unfold stepS
      rw [if_neg, List.take_succ_eq_append_getElem (by omega)]
      intro e
      rw [List.getLast?_eq_getElem?, List.length_take] at e
      cases t with
      | zero => simp at e
      | succ t =>
        rw [show min (t + 1) S.length - 1 = t by omega, List.getElem?_take] at e
        rw [if_pos (by omega), List.getElem?_eq_getElem (by omega)] at e
        exact W.adj t (by omega) (Option.some.inj e)
  have on : ∀ d, SU seen (seen.map (anewOf S seen)) (S.length + d) = S := by
    intro d
    induction d with
    | zero => rw [Nat.add_zero, up _ (Nat.le_refl _), List.take_length]
    | succ d ih =>
      rw [show S.length + (d + 1) = (S.length + d) + 1 by omega, SU, ih, anew_behind W hs hin hnd h45 hl4 (by omega)]
      unfold stepS
      rw [if_pos W.last]
  have := on (16 - S.length)
  rwa [show S.length + (16 - S.length) = 16 by omega] at this
end

/-! the strip of lamps is such a word -/
def nmOf (n : Nat) : List Nat := (List.range n).map (97 + ·)
theorem nmOf_len (n : Nat) : (nmOf n).length = n := by simp [nmOf]
theorem code_nm {n k : Nat} (h : k < n) : codeAt (nmOf n) k = 97 + k := by simp [codeAt, nmOf, List.getD, List.getElem?_append, h]
theorem code_nm_n (n : Nat) : codeAt (nmOf n) n = 45 := by simp [codeAt, nmOf, List.getD]
theorem code_inj {n j k : Nat} (hj : j ≤ n) (hk : k ≤ n) (e : codeAt (nmOf n) j = codeAt (nmOf n) k) : j = k := by
  rcases Nat.lt_or_eq_of_le hj with h | h <;> rcases Nat.lt_or_eq_of_le hk with h2 | h2
  · rw [code_nm h, code_nm h2] at e; omega
  · rw [code_nm h, h2, code_nm_n] at e; omega
  · rw [h, code_nm_n, code_nm h2] at e; omega
  · omega
theorem topAt_le (lamps : List Lamp) (h : Nat) : topAt lamps h ≤ lamps.length := by
  rcases topAt_is lamps h with ⟨a, _⟩ | ⟨a, _⟩ <;> omega
theorem SU_sub (nm : List Nat) (lamps : List Lamp) : ∀ t, (SU nm lamps t).Sublist ((List.range t).map fun h => codeAt nm (topAt lamps h))
  | 0 => by simp [SU]
  | t + 1 => by
    rw [SU, List.range_succ, List.map_append]
    unfold stepS
    split
    · exact (SU_sub nm lamps t).trans (List.sublist_append_left _ _)
    · exact (SU_sub nm lamps t).append (List.Sublist.refl _)
theorem SU_adj (nm : List Nat) (lamps : List Lamp) : ∀ t i (h : i + 1 < (SU nm lamps t).length), (SU nm lamps t)[i]'(by omega) ≠ (SU nm lamps t)[i+1]
  | 0, i, h => by simp [SU] at h
  | t + 1, i, h => by
    by_cases hg : (SU nm lamps t).getLast? = some (codeAt nm (topAt lamps t))
    · have e : SU nm lamps (t + 1) = SU nm lamps t := by rw [SU, stepS, if_pos hg]
      simp only [e] at h ⊢
      exact SU_adj nm lamps t i h
    · have e : SU nm lamps (t + 1) = SU nm lamps t ++ [codeAt nm (topAt lamps t)] := by rw [SU, stepS, if_neg hg]
      simp only [e] at h ⊢
      rw [List.length_append, List.length_singleton] at h
      by_cases hl : i + 1 < (SU nm lamps t).length
      · rw [List.getElem_append_left (by omega), List.getElem_append_left hl]
        exact SU_adj nm lamps t i hl
      · rw [List.getElem_append_left (by omega), List.getElem_append_right (by omega)]
        intro e2
        apply hg
        rw [List.getLast?_eq_getElem?, List.getElem?_eq_getElem (by omega)]
        simp only [show (SU nm lamps t).length - 1 = i by omega, e2]
        simp

theorem key_inj {lamps : List Lamp} {j k : Nat} (hj : j < 10) (hk : k < 10) (e : keyL lamps j = keyL lamps k) : j = k := by unfold keyL at e; omega
section
variable {lamps : List Lamp} (hn : lamps.length ≤ 4) (ok : ∀ l ∈ lamps, l.Ok)
include hn ok
theorem ok_at {k : Nat} (hk : k < lamps.length) : (lamps.getD k lampD).Ok := ok _ (by simp [List.getD, hk])
theorem lit_mid {a b c k : Nat} (h1 : a ≤ b) (h2 : b ≤ c) (ha : litB lamps a k = true) (hc : litB lamps c k = true) : litB lamps b k = true := by
  simp only [litB, Bool.and_eq_true, decide_eq_true_eq] at *; omega
theorem top_of {h k : Nat} (e : topAt lamps h = k) (hk : k < lamps.length) : litB lamps h k = true ∧ ∀ j, j < lamps.length → litB lamps h j = true → keyL lamps k ≤ keyL lamps j := by
  rcases topAt_is lamps h with ⟨a, b, c⟩ | ⟨a, b⟩
  · rw [e] at b c; exact ⟨b, c⟩
  · omega
theorem top_none {h j : Nat} (e : topAt lamps h = lamps.length) (hj : j < lamps.length) : litB lamps h j = false := by
  rcases topAt_is lamps h with ⟨a, b, c⟩ | ⟨a, b⟩
  · omega
  · exact b j hj
theorem times_of {T : List Nat} (h : T.Sublist (SU (nmOf lamps.length) lamps 16)) : ∃ H : List Nat, H.Pairwise (· < ·) ∧ T = H.map fun h => codeAt (nmOf lamps.length) (topAt lamps h) := by
  obtain ⟨H, hH, rfl⟩ := List.sublist_map_iff.mp (h.trans (SU_sub _ _ _))
  exact ⟨H, List.Pairwise.sublist hH List.pairwise_lt_range, rfl⟩
theorem SU_abab (x y : Nat) (hxy : x ≠ y) : ¬ [x, y, x, y].Sublist (SU (nmOf lamps.length) lamps 16) := by
  intro h
  obtain ⟨H, hp, e⟩ := times_of hn ok h
  have h4 : H.length = 4 := by have := congrArg List.length e; simpa using this.symm
  match H, h4, e with
  | [a, b, c, d], _, e =>
    simp at hp e
    obtain ⟨e1, e2, e3, e4⟩ := e
    have hac := code_inj (topAt_le lamps a) (topAt_le lamps c) (by rw [← e1, ← e3])
    have hbd := code_inj (topAt_le lamps b) (topAt_le lamps d) (by rw [← e2, ← e4])
    have hne : topAt lamps a ≠ topAt lamps b := fun e => hxy (by rw [e1, e2, e])
    have lea := topAt_le lamps a
    have leb := topAt_le lamps b
    generalize hpa : topAt lamps a = p at *
    generalize hqb : topAt lamps b = q at *
    rcases Nat.lt_or_eq_of_le lea with hpn | hpn
    · have ta := top_of hn ok hpa hpn
      have tc := top_of hn ok hac.symm hpn
      have pb := lit_mid hn ok (b := b) (by omega) (by omega) ta.1 tc.1
      rcases Nat.lt_or_eq_of_le leb with hqn | hqn
      · have tb := top_of hn ok hqb hqn
        have td := top_of hn ok hbd.symm hqn
        have qc := lit_mid hn ok (b := c) (by omega) (by omega) tb.1 td.1
        have k1 := tb.2 p hpn pb
        have k2 := tc.2 q hqn qc
        exact hne (key_inj (lamps := lamps) (by omega) (by omega) (Nat.le_antisymm k2 k1))
      · rw [hqn] at hqb
        rw [top_none hn ok hqb hpn] at pb; cases pb
    · have hqn : q < lamps.length := by omega
      have tb := top_of hn ok hqb hqn
      have td := top_of hn ok hbd.symm hqn
      have qc := lit_mid hn ok (b := c) (by omega) (by omega) tb.1 td.1
      rw [top_none hn ok (by rw [← hac, hpn]) hqn] at qc; cases qc
def coversB (o i : Lamp) (first : Bool) : Bool := decide (o.lit < i.lit) && decide (i.out < o.out) && (decide (o.value < i.value) || (decide (i.value = o.value) && first))
theorem SU_covers {p q : Nat} (hp' : p < lamps.length) (hq' : q < lamps.length) (hpq : p ≠ q) (h : [97 + q, 97 + p, 97 + q].Sublist (SU (nmOf lamps.length) lamps 16)) :
    coversB (lamps.getD q lampD) (lamps.getD p lampD) (decide (p < q)) = true := by
  obtain ⟨H, hp, e⟩ := times_of hn ok h
  have h3 : H.length = 3 := by have := congrArg List.length e; simpa using this.symm
  match H, h3, e with
  | [a, b, c], _, e =>
    simp at hp e
    obtain ⟨e1, e2, e3⟩ := e
    rw [← code_nm hq'] at e1 e3
    rw [← code_nm hp'] at e2
    have ha := (code_inj (Nat.le_of_lt hq') (topAt_le lamps a) e1).symm
    have hb := (code_inj (Nat.le_of_lt hp') (topAt_le lamps b) e2).symm
    have hc := (code_inj (Nat.le_of_lt hq') (topAt_le lamps c) e3).symm
    have ta := top_of hn ok ha hq'
    have tb := top_of hn ok hb hp'
    have tc := top_of hn ok hc hq'
    have qb := lit_mid hn ok (b := b) (by omega) (by omega) ta.1 tc.1
    have k1 := tb.2 q hq' qb
    have op := ok_at hn ok hp'
    have oq := ok_at hn ok hq'
    have na : litB lamps a p = false := by
      cases hl : litB lamps a p with
      | false => rfl
      | true => exact absurd (key_inj (lamps := lamps) (by omega) (by omega) (Nat.le_antisymm k1 (ta.2 p hp' hl))) hpq
    have nc : litB lamps c p = false := by
      cases hl : litB lamps c p with
      | false => rfl
      | true => exact absurd (key_inj (lamps := lamps) (by omega) (by omega) (Nat.le_antisymm k1 (tc.2 p hp' hl))) hpq
    obtain ⟨p1, p2, p3, p4, p5, p6, p7⟩ := op
    obtain ⟨q1, q2, q3, q4, q5, q6, q7⟩ := oq
    have tb1 := tb.1
    have ta1 := ta.1
    have tc1 := tc.1
    simp only [litB, Bool.and_eq_true, decide_eq_true_eq, Bool.and_eq_false_iff, decide_eq_false_iff_not] at tb1 ta1 tc1 na nc
    unfold keyL at k1
    simp only [coversB, Bool.and_eq_true, Bool.or_eq_true, decide_eq_true_eq]
    omega
theorem SU_word : Word (SU (nmOf lamps.length) lamps 16) := by
  have edge : ∀ h, h = 0 ∨ h = 15 → topAt lamps h = lamps.length := by
    intro h hh
    rcases topAt_is lamps h with ⟨a, b, _⟩ | ⟨a, _⟩
    · exfalso
      have o := ok_at hn ok a
      simp only [litB, Bool.and_eq_true, decide_eq_true_eq] at b
      have := o.lit1; have := o.out15; omega
    · exact a
  refine ⟨?_, ?_, SU_adj _ _ _, fun x y hxy => SU_abab hn ok x y hxy⟩
  · have : ∀ t, (SU (nmOf lamps.length) lamps (t + 1)).head? = some 45 := by
      intro t
      induction t with
      | zero => simp [SU, stepS, edge 0 (.inl rfl), code_nm_n]
      | succ t ih =>
        rw [SU, stepS]
        split
        · exact ih
        · rw [List.head?_append, ih]; rfl
    exact this 15
  · rw [SU, stepS_last, edge 15 (.inr rfl), code_nm_n]
theorem SU_mem : ∀ x ∈ SU (nmOf lamps.length) lamps 16, x = 45 ∨ x ∈ (nmOf lamps.length).filter fun x => decide (x ∈ SU (nmOf lamps.length) lamps 16) := by
  intro x hx
  have := (SU_sub (nmOf lamps.length) lamps 16).subset hx
  obtain ⟨h, _, e⟩ := List.mem_map.mp this
  rcases Nat.lt_or_eq_of_le (topAt_le lamps h) with hl | hl
  · right
    refine List.mem_filter.mpr ⟨?_, by simpa using hx⟩
    rw [← e, code_nm hl]
    exact List.mem_map.mpr ⟨_, List.mem_range.mpr hl, rfl⟩
  · left
    rw [← e, hl, code_nm_n]
end

/-! part M1 -/
section
theorem fresh_M1 : True := by w_top off; trivial
local macro_rules | `(tactic| walk_at "exec If Compare cons nil") => `(tactic| refine Stop.mk ?_)

/-- the numbers, three or four -/
def NumsAt (s : Shared) (g' : Heap) (L' : Addr) (news : List (Addr × Obj)) (s' : Shared) : Prop :=
  ∃ h' tk m' an vs ns e, s' = { s with heap := h', toks := tk } ∧ Fr g' L' h' m' ∧ Has m' [(Str.ofString "numbers", .ref an)] ∧ News g' L' h' ((an, W.listOf (vs : List Value).toArray e) :: news) ∧ IntsAre vs (ns : List Int) ∧ 3 ≤ vs.length ∧ vs.length ≤ 4 ∧ (∀ p ∈ news, p.1 < an)

theorem ints_item {vs : List Value} {ns : List Int} (h : IntsAre vs ns) : ∀ {i : Nat} {v : Value}, vs[i]? = some v → ∃ z t, v = .int z t := by
  induction h with
  | nil => intro i v e; simp at e
  | cons z t _ ih =>
    intro i v e
    cases i with
    | zero => simp at e; exact ⟨_, _, e.symm⟩
    | succ i => simp at e; exact ih (by simpa using e)

theorem lamp_of (x : Int) : ∃ l : Lamp, l.Ok ∧ (l.lit : Int) = 1 + x.fmod 14 ∧ (l.out : Int) = 1 + x.fmod 14 + 1 + ((x.fdiv 14).fmod 15).fmod (15 - (1 + x.fmod 14)) ∧ (l.share : Int) = 1 + (x.fdiv 1680).fmod 4 ∧ (l.value : Int) = 1 + (x.fdiv 210).fmod 8 := by
  have e1 : x.fmod 14 = x % 14 := Int.fmod_eq_emod_of_nonneg _ (by decide)
  have e2 : (x.fdiv 14).fmod 15 = (x.fdiv 14) % 15 := Int.fmod_eq_emod_of_nonneg _ (by decide)
  have e3 : (x.fdiv 1680).fmod 4 = (x.fdiv 1680) % 4 := Int.fmod_eq_emod_of_nonneg _ (by decide)
  have e4 : (x.fdiv 210).fmod 8 = (x.fdiv 210) % 8 := Int.fmod_eq_emod_of_nonneg _ (by decide)
  rw [e1, e2, e3, e4]
  generalize x.fdiv 1680 = u
  generalize x.fdiv 210 = v
  have h1 : 0 ≤ x % 14 ∧ x % 14 < 14 := by omega
  have h2 : 0 ≤ x.fdiv 14 % 15 := by omega
  generalize x.fdiv 14 % 15 = q at *
  generalize x % 14 = r at *
  have e5 : q.fmod (15 - (1 + r)) = q % (15 - (1 + r)) := Int.fmod_eq_emod_of_nonneg _ (by omega)
  have h3 := Int.emod_nonneg q (show 15 - (1 + r) ≠ 0 by omega)
  have h4 := Int.emod_lt_of_pos q (show 0 < 15 - (1 + r) by omega)
  rw [e5]
  generalize q % (15 - (1 + r)) = z at *
  exact ⟨⟨(1 + r).toNat, (1 + r + 1 + z).toNat, (1 + u % 4).toNat, (1 + v % 8).toNat⟩, ⟨by dsimp only; omega, by dsimp only; omega, by dsimp only; omega, by dsimp only; omega, by dsimp only; omega, by dsimp only; omega, by dsimp only; omega⟩, by dsimp only; omega, by dsimp only; omega, by dsimp only; omega, by dsimp only; omega⟩

/-- between the turns -/
def LampsInv (an al : Addr) (news : List (Addr × Obj)) (i : Nat) (m : Str → Option Value) (nx : List (Addr × Obj)) : Prop :=
  Has m [(Str.ofString "numbers", .ref an), (Str.ofString "lamps", .ref al)] ∧
  ∃ items lamps e' rest, nx = (al, W.listOf (items : List Value).toArray e') :: rest ∧ (∀ p ∈ news, p ∈ rest) ∧ (∀ p ∈ rest, p ∈ news ∨ p.2.cls = .type "tuple") ∧ (∀ p ∈ rest, p.1 ≠ al) ∧
    items.length = i ∧ lamps.length = i ∧ (∀ k, k < i → LampAt rest (items.getD k .none) ((lamps : List Lamp).getD k lampD)) ∧ ∀ l ∈ lamps, l.Ok

theorem lamps_K : ∀ (w : World) (A : Around) (h₀ : Heap) (L : Addr) (m : Str → Option Value) (s : Shared) (d : Nat) (a : Addr) (vs : List Value) (ns : List Int) (news : List (Addr × Obj)) (E : Value → Shared → Prop),
   Cx w A h₀ L (d + 1) → Fr h₀ L s.heap m → News h₀ L s.heap news → (∀ p ∈ news, NotIt (.type "list_iterator") p.2) → h₀.IsList a vs.toArray → IntsAre vs ns → vs.length ≤ 63 → 
   wpAny (model Challenge.rw_qu0027_01.row.prog w) A (call (.ref 77) [.ref a] []) 
    (Got s h₀ L m fun v news' => ∃ al an ws en lvs lamps e rest, v = .ref al ∧ news' = (al, W.listOf (lvs : List Value).toArray e) :: rest ∧ (∀ p ∈ news, p ∈ rest) ∧ (∀ p ∈ rest, p ∈ (an, W.listOf (ws : List Value).toArray en) :: news ∨ p.2.cls = .type "tuple") ∧ (∀ p ∈ rest, p.1 ≠ al) ∧
      lvs.length = (lamps : List Lamp).length ∧ 3 ≤ lamps.length ∧ lamps.length ≤ 4 ∧ (∀ k, k < lamps.length → LampAt rest (lvs.getD k .none) (lamps.getD k lampD)) ∧ ∀ l ∈ lamps, l.Ok) E s := by
  unfold Cx
  k_fill
  rintro w A h₀ L m s d a vs ns news E ⟨s₀, mg, mb, A₀, env, outer, base, KX, T, B, hA, hf, hke, hdp, hu, hh⟩ F N hcls hl hi h63
  obtain ⟨ah, ad, af, ag, au⟩ := A
  obtain rfl : ah = none := hh
  obtain rfl : af = some (env :: outer) := hA
  dsimp only at hdp hu
  walk_at "enter"
  intro g' L' h' FG' F' N' B' X' T'
  walk_at "entered"
  intro C' hu' hh'
  (try dsimp only); (try k_lift B'); (try k_fold)
  refine gen_toks_le ?_
  intro tk0 htk0
  have hl' : g'.IsList a vs.toArray := hl.at fun o e => FG'.keep _ o e
  k_steps
  refine Stop.go ?_
  rename_i an ws h1 lt1 hI hC hL h2 F1 N1
  have hw4 : ws.length = min 4 vs.length := by rw [hI.length, hC, hi.length]
  refine cut_next (NumsAt s g' L' news) ?_ ?_
  · refine wpAny_If ?_
    have hc4 : ws.length ≤ 4 := by omega
    rcases Nat.lt_or_ge ws.length 3 with h3 | h3
    · have hnn : 0 ≤ (ws.length : Int) := Int.natCast_nonneg _
      k_steps
      refine Stop.go (Cut.mk ?_)
      rename_i D2 ws2 hh2 hI2 lt2 hh3 F2 N2
      have hle : ws2.length = ws.length + (3 - ws.length) := by
        rw [hI2.length, List.length_append, ← hI.length, List.length_drop]; simp
      refine ⟨_, _, _, _, _, _, _, rfl, F2, all1 rfl, newsSub (l' := (D2, W.listOf ws2.toArray 0) :: news) N2 ?_, hI2, by omega, by omega, fun p hp => kst_ltOf lt2.2.2.2 p hp⟩
      simp only [List.forall_mem_cons]
      exact ⟨by k_mem, fun p hp => .tail _ (.tail _ (.tail _ (.tail _ hp)))⟩
    · k_steps
      refine Stop.go (Cut.mk ?_)
      rename Fr g' L' _ _ => F2
      rename News g' L' _ _ => N2
      exact ⟨_, _, _, _, _, _, _, rfl, F2, all1 rfl, N2, hI, h3, hc4, lt1⟩
  · rintro s' ⟨h3, tk3, m3, an, us, ms, e, rfl, F3, has3, N3, hI3, hl3, hl4, hne⟩
    replace F3 := has3.fr F3
    simp only [kstB] at F3
    clear F1 N1
    dsimp only
    k_steps
    refine Stop.go ?_
    rename Fr g' L' _ _ => F4
    rename News g' L' _ _ => N4
    refine For_invV g' rfl rfl ?_
    k_steps
    refine Stop.go ?_
    rename_i al _ hal _
    obtain ⟨halan, hal⟩ : an < al ∧ ∀ p ∈ news, p.1 < al := ⟨hal.1, kst_ltOf hal.2⟩
    refine iter_list_K (e := e) (LampsInv an al ((an, W.listOf us.toArray e) :: news)) hh' F4 N4 (.tail _ (.head _)) ?_ ?_ ?_ ?_
    · rintro i m₁ nx ⟨-, items, lamps, e', rest, rfl, q1, q2, -⟩
      refine ⟨fun p hp => ?_, .tail _ (q1 _ (.head _))⟩
      rcases List.mem_cons.mp hp with rfl | hp
      · exact .inl (show (Value.type "list") ≠ Value.type "list_iterator" by decide)
      · rcases q2 p hp with hp | hp
        · rcases List.mem_cons.mp hp with rfl | hp
          · exact .inl (show (Value.type "list") ≠ Value.type "list_iterator" by decide)
          · exact hcls p hp
        · exact .inl (by rw [hp]; decide)
    · refine ⟨all2 rfl rfl, [], [], 0, _, rfl, fun p hp => hp, fun p hp => .inl hp, ?_, rfl, rfl, fun k hk => absurd hk (Nat.not_lt_zero k), fun _ h => nomatch h⟩
      simp only [List.forall_mem_cons]
      exact ⟨Nat.ne_of_lt halan, fun p hp => Nat.ne_of_lt (hal p hp)⟩
    · rintro i v m₁ nx h tk I o hv ⟨hm, items, lamps, e', rest, rfl, q1, q2, q3, q4, q5, q6, q7⟩ ho hoff F5 N5
      obtain ⟨x, tx, rfl⟩ := ints_item hI3 hv
      have hi4 : i < us.length := (List.getElem?_eq_some_iff.mp hv).1
      replace F5 := hm.fr1 F5
      simp only [kstB] at F5
      clear F4 N4
      have e14 : x.fmod 14 = x % 14 := Int.fmod_eq_emod_of_nonneg _ (by decide)
      have f1 : 0 ≤ x.fmod 14 := by rw [e14]; omega
      have f2 : x.fmod 14 < 14 := by rw [e14]; omega
      k_steps
      refine Stop.go ?_
      rename Fr g' L' _ _ => F6
      rename News g' L' _ _ => N6
      rename _ ∧ _ ∧ AllLt _ _ => lt6
      rename_i _ D6 _
      obtain ⟨lt61, lt62, lt63⟩ := lt6
      replace lt63 := kst_ltOf lt63
      refine append_h F6 (newsFront [_, _] N6) ?_ (by omega) ?_
      · simp only [List.cons_append, List.nil_append, List.forall_mem_cons]
        exact ⟨Nat.ne_of_gt lt62, fun e => hoff _ (.head _) e.symm, q3⟩
      intro h7 F7 N7
      clear F6 N6
      k_steps
      refine Stop.go ?_
      rename Fr g' L' _ _ => F8
      rename News g' L' _ _ => N8
      obtain ⟨lamp, ok1, l1, l2, l3, l4⟩ := lamp_of x
      rw [← l2, ← l1, ← l3, ← l4] at N8
      simp only [List.cons_append, List.nil_append] at N8
      obtain ⟨t1, t2, t3, t4, N9⟩ : ∃ t1 t2 t3 t4, News g' L' h7 ((al, W.listOf (items ++ [Value.ref D6]).toArray (e' + 1)) :: (D6, tup [.int (lamp.lit : Int) t1, .int (lamp.out : Int) t2, .int (lamp.share : Int) t3, .int (lamp.value : Int) t4]) :: (I, o) :: rest) := ⟨_, _, _, _, N8⟩
      refine FEnd.mk F8 (newsFront [_, _] N9) ⟨all2 rfl rfl, items ++ [Value.ref D6], lamps ++ [lamp], _, _, rfl, ?_, ?_, ?_, ?_, ?_, ?_, ?_⟩
      · exact fun p hp => .tail _ (q1 p hp)
      · intro p hp
        rcases List.mem_cons.mp hp with rfl | hp
        · exact .inr rfl
        · exact q2 p hp
      · simp only [List.append_eq, List.cons_append, List.nil_append, List.forall_mem_cons]
        exact ⟨Nat.ne_of_gt lt62, q3⟩
      · simp [q4]
      · simp [q5]
      · intro k hk
        by_cases hki : k < i
        · rw [List.getD_eq_getElem?_getD, List.getD_eq_getElem?_getD, List.getElem?_append_left (by omega), List.getElem?_append_left (by omega), ← List.getD_eq_getElem?_getD, ← List.getD_eq_getElem?_getD]
          obtain ⟨b, t1, t2, t3, t4, hb, hm9⟩ := q6 k hki
          exact ⟨b, t1, t2, t3, t4, hb, .tail _ hm9⟩
        · have e1 : (items ++ [Value.ref D6]).getD k Value.none = .ref D6 := by
            rw [List.getD_eq_getElem?_getD, List.getElem?_append_right (by omega), show k - items.length = 0 by omega]; rfl
          have e2 : (lamps ++ [lamp]).getD k lampD = lamp := by
            rw [List.getD_eq_getElem?_getD, List.getElem?_append_right (by omega), show k - lamps.length = 0 by omega]; rfl
          rw [e1, e2]
          exact ⟨D6, _, _, _, _, rfl, .head _⟩
      · intro l hl
        rcases List.mem_append.mp hl with hl | hl
        · exact q7 l hl
        · rw [List.mem_singleton.mp hl]; exact ok1
    · rintro m₁ nx h tk ⟨hm, items, lamps, e', rest, rfl, q1, q2, q3, q4, q5, q6, q7⟩ F5 N5
      replace F5 := hm.fr F5
      simp only [kstB] at F5
      clear F4 N4
      k_steps
      refine Stop.go ?_
      rename Fr h₀ L _ _ => F8
      rename News h₀ L _ _ => N8
      exact Got.mk F8 N8 ⟨al, an, us, e, items, lamps, e', rest, rfl, rfl, fun p hp => q1 p (.tail _ hp), q2, q3, by omega, by omega, by omega, fun k hk => q6 k (by omega), q7⟩
end

/-! part B4 -/
theorem fresh_B4 : True := by w_top off; trivial
/-- the end of a turn of a for whose target is the cell c -/
def CEnd (h₀ : Heap) (L : Addr) (s : Shared) (Jn : (Str → Option Value) → List (Addr × Obj) → Prop) (I : Addr) (o : Obj) (c : Addr) (s' : Shared) : Prop :=
  ∃ h' tk m' oc news', s' = { s with heap := h', toks := tk } ∧ Fr h₀ L h' m' ∧ News h₀ L h' ((I, o) :: (c, oc) :: news') ∧ (∃ v, oc.data = .cell v) ∧ (∀ p ∈ news', p.1 ≠ c) ∧ Jn m' news'
def CPost (h₀ : Heap) (L : Addr) (s : Shared) (Jn : (Str → Option Value) → List (Addr × Obj) → Prop) (I : Addr) (o : Obj) (c : Addr) (Q : Flow → Shared → Prop) (f : Flow) (s' : Shared) : Prop :=
  match f with
  | .ret v => Q (.ret v) s'
  | .brk => Q .next s'
  | _ => CEnd h₀ L s Jn I o c s'
theorem CEnd.mk {h₀ : Heap} {L : Addr} {s : Shared} {Jn : (Str → Option Value) → List (Addr × Obj) → Prop} {I c : Addr} {o oc : Obj} {v : Option Value} {h' : Heap} {tk : Nat} {m' : Str → Option Value} {news' : List (Addr × Obj)}
    (F : Fr h₀ L h' m') (N : News h₀ L h' ((I, o) :: (c, oc) :: news')) (hd : oc.data = .cell v) (hne : ∀ p ∈ news', p.1 ≠ c) (hJ : Jn m' news') : CEnd h₀ L s Jn I o c { s with heap := h', toks := tk } := ⟨h', tk, m', oc, news', rfl, F, N, ⟨v, hd⟩, hne, hJ⟩

section
variable {prog : Program} {w : World} {A : Around} {s : Shared} {env : Env} {h₀ : Heap} {x : Str} {px : Pos} {body : List Stmt} {R : Result → Shared → Prop}

theorem loop_C {I c : Addr} {oc : Obj} {n : Nat} {P : Nat → Value → Prop} {St : Nat → Heap → Prop} {m : Str → Option Value} {news : List (Addr × Obj)} {IsIt : Obj → Prop}
    (J : Nat → (Str → Option Value) → List (Addr × Obj) → Prop)
    (W : Walks prog w A I [I] [I] n P St) (hk : env.scope.kind = .function) (hx : env.kindOf x = some .cell) (hc : env.cells.lookup x = some c)
    (hLI : env.locals ≠ I) (hI0 : h₀.get? I = none)
    (hSt : ∀ i h, St i h → ∃ o, h.get? I = some o ∧ IsIt o) (hoc : ∀ o v, o.data = .cell v → ¬ IsIt o)
    (hcl : ∀ i m nx, J i m nx → ∀ p ∈ nx, ¬ IsIt p.2)
    (hst : St 0 s.heap) (F : Fr h₀ env.locals s.heap m) (N : News h₀ env.locals s.heap ((c, oc) :: news)) (hcd : ∃ v, oc.data = .cell v) (hne : ∀ p ∈ news, p.1 ≠ c) (hJ : J 0 m news)
    (turn : ∀ i v m₁ news₁ h tk o oc, i < n → P i v → J i m₁ news₁ → IsIt o → (∀ p ∈ news₁, p.1 ≠ I) → c ≠ I → (∀ p ∈ news₁, p.1 ≠ c) → oc.data = .cell (some v) → Fr h₀ env.locals h m₁ → News h₀ env.locals h ((I, o) :: (c, oc) :: news₁) →
      wpAny (model prog w) A (execs body env) (CPost h₀ env.locals s (J (i + 1)) I o c (fun f s' => R (.ok f) s')) (fun _ _ => False) { s with heap := h, toks := tk })
    (done : ∀ m₁ news₁ h tk oc, J n m₁ news₁ → (∃ v, oc.data = .cell v) → Fr h₀ env.locals h m₁ → News h₀ env.locals h ((c, oc) :: news₁) → R (.ok .next) { s with heap := h, toks := tk }) :
    codeAny (model prog w) A (.forLoop (.Name x px) (.ref I) body [] env) R s := by
  refine codeAny_forLoop
    (fun k s' => ∃ h' tk m' oc news' i, s' = { s with heap := h', toks := tk } ∧ St i h' ∧ Fr h₀ env.locals h' m' ∧ News h₀ env.locals h' ((c, oc) :: news') ∧ (∃ v, oc.data = .cell v) ∧ (∀ p ∈ news', p.1 ≠ c) ∧ J i m' news' ∧ i ≤ n ∧ k = n + 1 - i) ?_ (n + 1)
    ⟨s.heap, s.toks, m, oc, news, 0, rfl, hst, F, N, hcd, hne, hJ, Nat.zero_le _, rfl⟩
  rintro k s' ⟨h', tk, m', oc', news', i, rfl, hst', F', N', ⟨v0, hcd'⟩, hne', hj, hi, rfl⟩
  obtain ⟨o0, ho0, hc0⟩ := hSt _ _ hst'
  have off : ∀ {i : Nat} {m₁ : Str → Option Value} {nx : List (Addr × Obj)} {h : Heap} {o : Obj}, J i m₁ nx → News h₀ env.locals h nx → h.get? I = some o → IsIt o → ∀ p ∈ nx, p.1 ≠ I := by
    intro i m₁ nx h o hj hN ho hc p hp e
    have h1 := (hN p hp).1
    rw [e, ho] at h1
    exact hcl i m₁ nx hj p hp (Option.some.inj h1 ▸ hc)
  have hcI : c ≠ I := fun e => by
    have h1 := (N' _ (.head _)).1
    rw [e, ho0] at h1
    exact hoc _ _ hcd' (by have q : o0 = oc' := Option.some.inj h1; rw [← q]; exact hc0)
  have hnw := off hj (fun p hp => N' p (.tail _ hp)) ho0 hc0
  have hnw' : ∀ p ∈ (c, oc') :: news', p.1 ≠ I := fun p hp => by
    rcases List.mem_cons.mp hp with rfl | hp
    · exact hcI
    · exact hnw p hp
  have next : ∀ h₁ : Heap, (∀ b o, b ∉ [I] → h'.get? b = some o → h₁.get? b = some o) → Fr h₀ env.locals h₁ m' ∧ News h₀ env.locals h₁ ((c, oc') :: news') := fun h₁ hk₁ =>
    ⟨⟨F'.ns.at' fun o e => hk₁ _ o (fun q => hLI (List.mem_singleton.mp q)) e, fun b o e => hk₁ b o (fun q => by rw [List.mem_singleton.mp q, hI0] at e; cases e) (F'.keep b o e), F'.above⟩,
      fun p hp => ⟨hk₁ _ _ (fun q => hnw' p hp (List.mem_singleton.mp q)) (N' p hp).1, (N' p hp).2⟩⟩
  by_cases hlt : i < n
  · refine W.item i _ _ _ hlt hst' fun v h₁ tk₁ hP hst₁ hk₁ => ?_
    obtain ⟨F₁, N₁⟩ := next h₁ hk₁
    have hcm := N₁ _ (.head _)
    refine wpAny_assign_Name (wpAny_storeName_cell hk hx hc ⟨oc', hcm.1, hcd'⟩ fun h₂ hv₂ hs₂ => ?_)
    obtain ⟨oc₂, hoc₂, hd₂⟩ := hv₂
    have F₂ : Fr h₀ env.locals h₂ m' := ⟨F₁.ns.sameBut hs₂ (Ne.symm hcm.2.1), fun b o e => (hs₂.2 b (fun q => by
      have := hcm.2.2; rw [← q, e] at this; cases this)).trans (F₁.keep b o e), F₁.above⟩
    have hst₂ : St (i + 1) h₂ := W.frame _ _ _ hst₁ fun b hb o e => (hs₂.2 b fun q => hcI (by rw [← q]; exact List.mem_singleton.mp hb)).trans e
    obtain ⟨o, ho, hci⟩ := hSt _ _ hst₂
    have N₂ : News h₀ env.locals h₂ news' := fun p hp => ⟨(hs₂.2 p.1 (hne' p hp)).trans (N₁ p (.tail _ hp)).1, (N₁ p (.tail _ hp)).2⟩
    have N₃ : News h₀ env.locals h₂ ((I, o) :: (c, oc₂) :: news') := fun p hp => by
      rcases List.mem_cons.mp hp with rfl | hp
      · exact ⟨ho, fun e => hLI e.symm, hI0⟩
      · rcases List.mem_cons.mp hp with rfl | hp
        · exact ⟨hoc₂, hcm.2⟩
        · exact N₂ p hp
    refine wpAny_mono (turn i v m' news' h₂ tk₁ o oc₂ hlt hP hj hci (off hj N₂ ho hci) hcI hne' hd₂ F₂ N₃) (fun f s₃ h₃ => ?_) fun _ _ e => e.elim
    have fin : CEnd h₀ env.locals s (J (i + 1)) I o c s₃ → ∃ m, m < n + 1 - i ∧ ∃ h' tk m' oc news' i, s₃ = { s with heap := h', toks := tk } ∧ St i h' ∧ Fr h₀ env.locals h' m' ∧ News h₀ env.locals h' ((c, oc) :: news') ∧ (∃ v, oc.data = .cell v) ∧ (∀ p ∈ news', p.1 ≠ c) ∧ J i m' news' ∧ i ≤ n ∧ m = n + 1 - i := by
      rintro ⟨h₃', tk₃, m₂, oc₃, news₂, rfl, F₃, N₄, hd₃, hne₃, hJ₃⟩
      have N₅ : News h₀ env.locals h₃' ((c, oc₃) :: news₂) := fun p hp => N₄ p (.tail _ hp)
      refine ⟨n + 1 - (i + 1), by omega, h₃', tk₃, m₂, oc₃, news₂, i + 1, rfl, ?_, F₃, N₅, hd₃, hne₃, hJ₃, hlt, rfl⟩
      refine W.frame _ _ _ hst₂ fun b hb ob e => ?_
      rw [List.mem_singleton.mp hb, ho] at e
      cases e
      rw [List.mem_singleton.mp hb]
      exact (N₄ _ (.head _)).1
    cases f with
    | ret v => exact h₃
    | brk => exact h₃
    | cont => exact fin h₃
    | next => exact fin h₃
  · have hin : i = n := by omega
    subst hin
    refine W.done _ _ _ hst' fun h₁ tk₁ hk₁ => wpAny_execs_nil ?_
    obtain ⟨F₁, N₁⟩ := next h₁ hk₁
    exact done m' news' h₁ tk₁ oc' hj ⟨v0, hcd'⟩ F₁ N₁

/-- a for over a range, its target a cell -/
theorem iter_range_C {r c : Addr} {oc : Obj} {b₀ : Int} {t₀ u₀ v₀ : Tok} {n : Nat} {m : Str → Option Value} {news : List (Addr × Obj)} {E : Value → Shared → Prop}
    (J : Nat → (Str → Option Value) → List (Addr × Obj) → Prop) (hh : A.handled = none)
    (hk : env.scope.kind = .function) (hx : env.kindOf x = some .cell) (hc : env.cells.lookup x = some c)
    (F : Fr h₀ env.locals s.heap m) (N : News h₀ env.locals s.heap ((c, oc) :: news)) (hcd : ∃ v, oc.data = .cell v) (hne : ∀ p ∈ news, p.1 ≠ c) (hr : IsRange s.heap r 0 b₀ 1 t₀ u₀ v₀) (hn : b₀ = (n : Int)) (hlt : n < 10000)
    (hcl : ∀ i m nx, J i m nx → (∀ p ∈ nx, NotIt (.type "range_iterator") p.2)) (hJ : J 0 m news)
    (turn : ∀ (i : Nat) t m₁ news₁ h tk I o oc, i < n → J i m₁ news₁ → o.cls = .type "range_iterator" → (∀ p ∈ news₁, p.1 ≠ I) → c ≠ I → (∀ p ∈ news₁, p.1 ≠ c) → oc.data = .cell (some (.int (i : Int) t)) → Fr h₀ env.locals h m₁ → News h₀ env.locals h ((I, o) :: (c, oc) :: news₁) →
      wpAny (model prog w) A (execs body env) (CPost h₀ env.locals s (J (i + 1)) I o c (fun f s' => R (.ok f) s')) (fun _ _ => False) { s with heap := h, toks := tk })
    (done : ∀ m₁ news₁ h tk oc, J n m₁ news₁ → (∃ v, oc.data = .cell v) → Fr h₀ env.locals h m₁ → News h₀ env.locals h ((c, oc) :: news₁) → R (.ok .next) { s with heap := h, toks := tk }) :
    wpAny (model prog w) A (pyIter (.ref r)) (fun it s₂ => codeAny (model prog w) A (.forLoop (.Name x px) it body [] env) R s₂) E s := by
  subst hn
  have hsz : Builtin.Range.rangeSize 0 (n : Int) 1 = (n : Int) := by rw [rangeSize_one]; split <;> omega
  have hsm : Builtin.Range.small 0 (n : Int) 1 = true := small_one (by omega) (by omega) (by omega) (by omega)
  refine wpAny_pyIter_range hr hsm ?_
  rw [hsz]
  have W := Walks.range (prog := prog) (w := w) hh s.heap.objs.size 0 1 n
  refine loop_C (IsIt := fun o => o.cls = .type "range_iterator" ∧ ∀ v, o.data ≠ .cell v) (m := m) (news := news) J W hk hx hc ?_ (next_is_new F) ?_ ?_ ?_ ?_ (F.push _) (fun p hp => ⟨Heap.get?_push_of_some _ (N p hp).1, (N p hp).2⟩) hcd hne hJ ?_ ?_
  · intro e; exact absurd F.ns.lt (e ▸ Nat.lt_irrefl _)
  · intro i h st; exact ⟨_, st, rfl, fun v e => by cases e⟩
  · intro o v e hi; exact hi.2 v e
  · intro i m nx hj p hp hi
    rcases hcl i m nx hj p hp with h | ⟨v, h⟩
    · exact h hi.1
    · exact hi.2 v h
  · show IsRangeIter _ _ (0 + ((0 : Nat) : Int) * 1) ((n : Int) - ((0 : Nat) : Int)) _
    rw [show (0 : Int) + ((0 : Nat) : Int) * 1 = 0 by omega, show (n : Int) - ((0 : Nat) : Int) = n by omega]
    exact Heap.get?_push_size _ rfl
  · rintro i v m₁ news₁ h tk o oc hi ⟨t, rfl⟩ hj hc hoff hcI hnc hd F₁ N₁
    rw [show (0 : Int) + (i : Int) * 1 = (i : Int) by omega] at hd
    exact turn i t m₁ news₁ h tk _ o oc hi hj hc.1 hoff hcI hnc hd F₁ N₁
  · intro m₁ news₁ h tk oc hj hd F₁ N₁
    exact done m₁ news₁ h tk oc hj hd F₁ N₁
end
local macro_rules | `(tactic| walk_at "CEnd") => `(tactic| refine Stop.mk ?_)
local macro_rules | `(tactic| walk_at "CPost") => `(tactic| dsimp only [CPost])
local macro_rules | `(tactic| walk_at "enterC") => `(tactic| (refine wpAny_call ?_; refine' code_defC ?k1 ?k2 ?k3 ?k4 ?k5 ?kA ?kF ?kK ?k6 ?k7 ?k8 ?k9 ?kB ?kD ?_ ?c2 ?c3 ?c4; (case kA => first | assumption | rfl); (case kF => assumption); (case kK => assumption); (case k1 => k_asm); (case k2 => k_asm); (case k3 => k_asm); (case k4 => k_asm); (case k5 => k_asm); (case k6 => k_is); (case k7 => k_is); (case k8 => (simp only [recursionLimit]; omega)); (case k9 => first | exact BindsTo.of_eq rfl | exact binds_K (by k_in) rfl (by k_is) rfl rfl rfl | fail "k_enter: no rule for these arguments"); (case kB => exact rfl); (case kD => decide +kernel); (case c2 => exact rfl); (case c3 => exact rfl); (case c4 => exact rfl); k_whole))

/-! part B5 -/
theorem fresh_B5 : True := by w_top off; trivial
section
variable {prog : Program} {w : World} {A : Around} {R : Result → Shared → Prop} {I : Addr} {fp wr : List Addr} {n : Nat} {P : Nat → Value → Prop} {St : Nat → Heap → Prop}

/-- one item against an earlier one, where Inv holds of the heap -/
def CmpAt (prog : Program) (w : World) (A : Around) (n : Nat) (P : Nat → Value → Prop) (Inv : Heap → Prop) (key : Nat → Nat) : Prop :=
  ∀ i j vi vj (s : Shared) (Q : Value → Shared → Prop) (E : Value → Shared → Prop), i < n → j < i → Inv s.heap → P i vi → P j vj → Q (.bool (decide (key i < key j))) s → wpAny (model prog w) A (richCompare .Lt vi vj) Q E s

theorem min_turns (W : Walks prog w A.in1 I fp wr n P St) (key : Nat → Nat) (Inv : Heap → Prop) (hcmp : CmpAt prog w A.in1 n P Inv key) (S : Addr) (hSf : S ∉ fp)
    (hInv : ∀ h h' : Heap, Inv h → (∀ b o, b ∉ wr → b ≠ S → h.get? b = some o → h'.get? b = some o) → Inv h') :
    ∀ (k j i : Nat) (s : Shared) (vb : Value) (c : Nat), n - (j + 1) = k → j + 1 ≤ n → i ≤ j → St (j + 1) s.heap → Inv s.heap → P i vb → (∀ j', j' ≤ j → key i ≤ key j') →
    s.heap.get? S = some { cls := .type "list", dict := none, data := .seq #[vb, vb] c, slots := #[] } →
    (∀ i v h' tk, P i v → (∀ j, j < n → key i ≤ key j) → (∀ b o, b ∉ wr → b ≠ S → s.heap.get? b = some o → h'.get? b = some o) → R (.ok (.ret v)) { s with heap := h', toks := tk }) →
    codeAny (model prog w) A (.builtin "min.loop" ⟨[.ref I, .none, .ref S], []⟩) R s := by
  have hSw : S ∉ wr := fun h => hSf (W.sub _ h)
  have hname : (toString "min" ++ toString ".loop" : String) = "min.loop" := by decide
  intro k
  induction k with
  | zero =>
    intro j i s vb c hk hj hij hst hiv hPb hb hS hR
    have hin : j + 1 = n := by omega
    refine codeAny_builtin F.entry_min_loop ?_
    rw [Around.under_plainId F.plain_min_loop _]
    show wpAny _ A.in1 (seqItems? (.ref S) >>= _) _ _ s
    refine wpAny_bind (wpAny_seqItems hS rfl ?_)
    show wpAny _ A.in1 (tryCatch (pyNext (.ref I)) _ >>= _) _ _ s
    refine wpAny_bind (wpAny_tryCatch (W.done s _ _ (hin ▸ hst) fun h' tk hk' => ?_))
    have hS' := hk' S _ hSw hS
    show wpAny _ A.in1 (updateSeq S (fun _ => #[]) >>= _) _ _ _
    refine wpAny_bind ?_
    refine wpAny_updateSeq hS' rfl (wpAny_bind (wpAny_letGo (wpAny_pure ?_)))
    exact hR i vb _ tk hPb (fun j' hj' => hb j' (by omega)) fun b o hbw hbS e => (Heap.get?_update_other _ _ (Ne.symm hbS)).trans (hk' b o hbw e)
  | succ k ih =>
    intro j i s vb c hk hj hij hst hiv hPb hbst hS hR
    have hlt : j + 1 < n := by omega
    refine codeAny_builtin F.entry_min_loop ?_
    rw [Around.under_plainId F.plain_min_loop _]
    show wpAny _ A.in1 (seqItems? (.ref S) >>= _) _ _ s
    refine wpAny_bind (wpAny_seqItems hS rfl ?_)
    show wpAny _ A.in1 (tryCatch (pyNext (.ref I)) _ >>= _) _ _ s
    refine wpAny_bind (wpAny_tryCatch (W.item (j + 1) s _ _ hlt hst fun v h' tk hP hst' hk' => ?_))
    have hS' := hk' S _ hSw hS
    have hiv' : Inv h' := hInv _ _ hiv fun b o hbw _ e => hk' b o hbw e
    show wpAny _ A.in1 (tryCatch (holding [v, v] (richCompare .Lt v vb >>= _)) _ >>= _) _ _ _
    refine wpAny_bind (wpAny_tryCatch (wpAny_holding (wpAny_bind (hcmp (j + 1) i v vb _ _ _ hlt (by omega) hiv' hP hPb ?_))))
    refine wpAny_bind (wpAny_holding (wpAny_truthy_bool ?_))
    refine wpAny_bind (wpAny_letGo (wpAny_pure ?_))
    by_cases hb : key (j + 1) < key i
    · simp only [hb, decide_true, if_true]
      refine wpAny_bind ?_
      refine wpAny_updateSeq hS' rfl (wpAny_bind (wpAny_letGo ?_))
      rw [hname]
      refine wpAny_pure ⟨plainId_quiet F.plain_min_loop _, ih (j + 1) (j + 1) _ v _ (by omega) hlt (Nat.le_refl _) (W.frame _ _ _ hst' fun b hbf o e => ?_) (hInv _ _ hiv' fun b o _ hbS e => ?_) hP (fun j' hj' => ?_) (Heap.get?_update_self _ hS' rfl)
        fun i' v' h'' tk'' hP' hb' hk'' => ?_⟩
      · exact (Heap.get?_update_other _ _ (fun h : S = b => hSf (by rw [h]; exact hbf))).trans e
      · exact (Heap.get?_update_other _ _ (Ne.symm hbS)).trans e
      · by_cases e : j' = j + 1
        · rw [e]; exact Nat.le_refl _
        · have := hbst j' (by omega); omega
      · exact hR i' v' h'' tk'' hP' hb' fun b o hbw hbS e => hk'' b o hbw hbS ((Heap.get?_update_other _ _ (Ne.symm hbS)).trans (hk' b o hbw e))
    · simp only [hb, decide_false, Bool.false_eq_true, if_false]
      refine wpAny_bind (wpAny_letGo ?_)
      rw [hname]
      refine wpAny_pure ⟨plainId_quiet F.plain_min_loop _, ih (j + 1) i _ vb c (by omega) hlt (by omega) hst' hiv' hPb (fun j' hj' => ?_) hS' fun i' v' h'' tk'' hP' hb' hk'' => ?_⟩
      · by_cases e : j' = j + 1
        · rw [e]; omega
        · exact hbst j' (by omega)
      · exact hR i' v' h'' tk'' hP' hb' fun b o hbw hbS e => hk'' b o hbw hbS (hk' b o hbw e)

theorem min_first (W : Walks prog w A.in1 I fp wr n P St) (key : Nat → Nat) (Inv : Heap → Prop) (hcmp : CmpAt prog w A.in1 n P Inv key) (S : Addr) (hSf : S ∉ fp)
    (hInv : ∀ h h' : Heap, Inv h → (∀ b o, b ∉ wr → b ≠ S → h.get? b = some o → h'.get? b = some o) → Inv h') (hn : 0 < n) {s : Shared} {c : Nat} (hst : St 0 s.heap) (hiv : Inv s.heap)
    (hS : s.heap.get? S = some { cls := .type "list", dict := none, data := .seq #[] c, slots := #[] })
    (hR : ∀ i v h' tk, P i v → (∀ j, j < n → key i ≤ key j) → (∀ b o, b ∉ wr → b ≠ S → s.heap.get? b = some o → h'.get? b = some o) → R (.ok (.ret v)) { s with heap := h', toks := tk }) :
    codeAny (model prog w) A (.builtin "min.loop" ⟨[.ref I, .none, .ref S], []⟩) R s := by
  have hSw : S ∉ wr := fun h => hSf (W.sub _ h)
  have hname : (toString "min" ++ toString ".loop" : String) = "min.loop" := by decide
  refine codeAny_builtin F.entry_min_loop ?_
  rw [Around.under_plainId F.plain_min_loop _]
  show wpAny _ A.in1 (seqItems? (.ref S) >>= _) _ _ s
  refine wpAny_bind (wpAny_seqItems hS rfl ?_)
  show wpAny _ A.in1 (tryCatch (pyNext (.ref I)) _ >>= _) _ _ s
  refine wpAny_bind (wpAny_tryCatch (W.item 0 s _ _ hn hst fun v h' tk hP hst' hk' => ?_))
  have hS' := hk' S _ hSw hS
  have hiv' : Inv h' := hInv _ _ hiv fun b o hbw _ e => hk' b o hbw e
  show wpAny _ A.in1 (updateSeq S (fun _ => #[v, v]) >>= _) _ _ _
  refine wpAny_bind ?_
  refine wpAny_updateSeq hS' rfl ?_
  rw [hname]
  refine wpAny_pure ⟨plainId_quiet F.plain_min_loop _, min_turns W key Inv hcmp S hSf hInv _ 0 0 _ v _ rfl hn (Nat.le_refl _) (W.frame _ _ _ hst' fun b hbf o e => ?_) (hInv _ _ hiv' fun b o _ hbS e => ?_) hP (fun j' hj' => ?_) (Heap.get?_update_self _ hS' rfl) fun i' v' h'' tk'' hP' hb' hk'' => ?_⟩
  · exact (Heap.get?_update_other _ _ (fun h : S = b => hSf (by rw [h]; exact hbf))).trans e
  · exact (Heap.get?_update_other _ _ (Ne.symm hbS)).trans e
  · rw [show j' = 0 by omega]; exact Nat.le_refl _
  · exact hR i' v' h'' tk'' hP' hb' fun b o hbw hbS e => hk'' b o hbw hbS ((Heap.get?_update_other _ _ (Ne.symm hbS)).trans (hk' b o hbw e))
end

section
variable {prog : Program} {w : World} {A : Around} {E : Value → Shared → Prop} {s : Shared} {h₀ : Heap} {L ax : Addr} {m : Str → Option Value} {news : List (Addr × Obj)} {vs : List Value} {e : Nat}

theorem min_rows {Q : Value → Shared → Prop} (key : Nat → Nat) (hh : A.handled = none) (F : Fr h₀ L s.heap m) (N : News h₀ L s.heap news) (hm : (ax, W.listOf vs.toArray e) ∈ news) (hne : 0 < vs.length)
    (hcmp : ∀ i j vi vj (s : Shared) (Q : Value → Shared → Prop) (E : Value → Shared → Prop), vs[i]? = some vi → vs[j]? = some vj → j < i → (∀ p ∈ news, s.heap.get? p.1 = some p.2) → Q (.bool (decide (key i < key j))) s → wpAny (model prog w) A.in1 (compareOp .Lt vi vj) Q E s)
    (hQ : ∀ i v h' tk, vs[i]? = some v → (∀ j, j < vs.length → key i ≤ key j) → Fr h₀ L h' m → News h₀ L h' news → Q v { s with heap := h', toks := tk }) :
    wpAny (model prog w) A (call (.builtin "min") [.ref ax]) Q E s := by
  have hname : (toString "min" ++ toString ".loop" : String) = "min.loop" := by decide
  have hax := N _ hm
  have hl : s.heap.IsList ax vs.toArray := ⟨_, hax.1, rfl, e, rfl⟩
  have hlt : ax < s.heap.objs.size := Heap.lt_size hax.1
  refine call_function_tree PySem.F.kind_min PySem.F.plain_min PySem.F.entry_min (PySem.F.args_min1 _) ?_
  show wpAny _ A.in1 (Builtin.Builtins.bindParams "min" ["key", "default"] 0 ⟨[], []⟩ >>= _) _ _ s
  refine wpAny_bind (wpAny_of_eq (show Builtin.Builtins.bindParams "min" ["key", "default"] 0 ⟨[], []⟩ = pure [none, none] from rfl) ?_)
  refine wpAny_bind (wpAny_pure ?_)
  refine wpAny_bind (wpAny_pyIter_list hl ?_)
  refine wpAny_bind (wpAny_newObj_type ?_)
  have W := Walks.list (prog := prog) (w := w) (A := A.in1) hh s.heap.objs.size ax (Nat.ne_of_lt hlt) vs.toArray
  have hsz : vs.toArray.size = vs.length := List.size_toArray
  rw [hsz] at W
  rw [hname]
  have hS : (s.heap.push { cls := .type "list_iterator", data := .fields #[.ref ax, .int 0 0] }).objs.size = s.heap.objs.size + 1 := Heap.size_push ..
  have hSf : (s.heap.push { cls := .type "list_iterator", data := .fields #[.ref ax, .int 0 0] }).objs.size ∉ [s.heap.objs.size, ax] := by
    rw [hS]
    intro hmm
    rcases List.mem_cons.mp hmm with e | hmm
    · exact absurd e (Nat.ne_of_gt (Nat.lt_succ_self _))
    · exact absurd (List.mem_singleton.mp hmm) (Nat.ne_of_gt (Nat.lt_succ_of_lt hlt))
  have keep : ∀ b o, s.heap.get? b = some o → ((s.heap.push { cls := .type "list_iterator", data := .fields #[.ref ax, .int 0 0] }).push { cls := .type "list", dict := none, data := .seq ([] : List Value).toArray }).get? b = some o := fun b o e => Heap.get?_push_of_some _ (Heap.get?_push_of_some _ e)
  have off : ∀ b, b < s.heap.objs.size → b ∉ [s.heap.objs.size] ∧ b ≠ (s.heap.push { cls := .type "list_iterator", data := .fields #[.ref ax, .int 0 0] }).objs.size := fun b hb => by
    refine ⟨fun q => ?_, ?_⟩
    · rw [List.mem_singleton.mp q] at hb; exact Nat.lt_irrefl _ hb
    · rw [hS]; exact Nat.ne_of_lt (Nat.lt_succ_of_lt hb)
  refine wpAny_pure ⟨plainId_quiet PySem.F.plain_min_loop _, min_first W key (fun h => ∀ p ∈ news, h.get? p.1 = some p.2) ?_ _ hSf ?_ hne ⟨⟨_, Heap.get?_push_of_some _ (Heap.get?_push_size _ rfl), rfl, rfl⟩, (hl.push _).push _⟩ (fun p hp => keep _ _ (N p hp).1) (Heap.get?_push_size _ rfl) ?_⟩
  · intro i j vi vj s' Q' E' hi hj hiv hPi hPj hq
    exact hcmp i j vi vj s' Q' E' (by simpa using hPi) (by simpa using hPj) hj hiv hq
  · intro h h' hiv hk p hp
    have hpl := Heap.lt_size (N p hp).1
    exact hk _ _ (off _ hpl).1 (off _ hpl).2 (hiv p hp)
  · intro i v h' tk hP hb hk
    have keep2 : ∀ b o, s.heap.get? b = some o → h'.get? b = some o := fun b o e => hk b o (off _ (Heap.lt_size e)).1 (off _ (Heap.lt_size e)).2 (keep b o e)
    exact hQ i v h' tk (by simpa using hP) hb (F.grownK keep2) (N.grown keep2)

theorem row_lt {a b : Addr} {x y : Int} {s1 s2 : Str} {t1 t2 u1 u2 : Tok} {Q : Value → Shared → Prop} (hu : A.units < 9000)
    (hx : s.heap.get? a = some (tup [.int x t1, .str s1 u1])) (hy : s.heap.get? b = some (tup [.int y t2, .str s2 u2])) (hne : x = y → s1 ≠ s2)
    (h : Q (.bool (decide (x < y ∨ x = y ∧ s1.cps.toList < s2.cps.toList))) s) : wpAny (model prog w) A (compareOp .Lt (.ref a) (.ref b)) Q E s := by
  refine tup_lt hu hx hy ?_
  refine wpAny_eqBool_int ?_
  by_cases hh : x = y
  · rw [if_pos (by simpa using hh)]
    refine wpAny_eqBool_str ?_
    rw [if_neg (by simpa using hne hh)]
    refine PyProof.Rows.lt_str ⟨(fun x => nomatch x), ?_⟩
    have : decide (x < y ∨ x = y ∧ s1.cps.toList < s2.cps.toList) = decide (s1.cps.toList < s2.cps.toList) := by
      apply decide_eq_decide.mpr
      constructor
      · rintro (h | ⟨_, h⟩)
        · omega
        · exact h
      · exact fun h => .inr ⟨hh, h⟩
    rw [this] at h; exact h
  · rw [if_neg (by simpa using hh)]
    refine lt_int ⟨(fun x => nomatch x), ?_⟩
    have : decide (x < y ∨ x = y ∧ s1.cps.toList < s2.cps.toList) = decide (x < y) := by
      apply decide_eq_decide.mpr
      constructor
      · rintro (h | ⟨h, _⟩)
        · exact h
        · exact absurd h hh
      · exact .inl
    rw [this] at h; exact h
end

/-! part H1 -/
section
theorem fresh_H1 : True := by w_top off; trivial
local macro_rules | `(tactic| walk_at "CompSrcT") => `(tactic| refine Stop.mk ?_)
local macro_rules | `(tactic| walk_at "CompEnd") => `(tactic| refine Stop.mk ?_)
local macro_rules | `(tactic| walk_at "FinA") => `(tactic| refine Stop.mk ?_)

local macro_rules | `(tactic| walk_at "binaryOp Add ref ref") => `(tactic| refine Stop.mk ?_)
local macro_rules | `(tactic| walk_at "binaryOp Add str str") => `(tactic| (refine add_strT ?hsz ?_; (case hsz => first | assumption | omega); intro ts' tks' hts'; dsimp only at hts' ⊢))
local macro_rules | `(tactic| walk_at "subscriptTail Call Constant ref int") => `(tactic| ((with_reducible show wpAny _ _ (subscriptTail _ _ (Value.ref _) (Value.int _ _)) _ _ _); k_dflt (refine' item_tupleT ?kT ?klo ?khi ?kj ?kx ?_ ?ks; (case kT => exact News.isTup (by k_asm) (by assumption)); (case klo => decide); (case khi => decide); (case kj => exact rfl); (case kx => exact rfl); (case ks => with_unfolding_all rfl)); k_whole))
local macro_rules | `(tactic| walk_at "call builtin:min") => `(tactic| refine Stop.mk ?_)

theorem compEnd_mono {h₀ : Heap} {L : Addr} {m : Str → Option Value} {s₁ : Shared} {I : Addr} {oI : Obj} {C : Addr} {oC : Obj} {D : Addr} {oD : Obj} {S : List (Addr × Obj) → Prop} {rest rest' : Value → List (Addr × Obj) → Prop} {y : Value} {s₂ : Shared}
    (hr : ∀ y n, rest y n → rest' y n) (h : LCg.CompEnd h₀ L m s₁ I oI C oC D oD S rest y s₂) : LCg.CompEnd h₀ L m s₁ I oI C oC D oD S rest' y s₂ := by
  obtain ⟨h', tk, news', a, b, c, d, e, f⟩ := h
  exact ⟨h', tk, news', a, b, c, d, e, hr _ _ f⟩

/-- the turns of a comprehension, by an invariant -/
theorem comp_turns {prog : Program} {w : World} {A : Around} {h₀ : Heap} {L : Addr} {m : Str → Option Value} {env : Env} {ct elt : PySem.Expr} {x : Str} {scope : Scope} {cl : List (Str × Addr)} {s : Shared} {S : List (Addr × Obj) → Prop} {P : Nat → Value → Prop} {Fin : List Value → List (Addr × Obj) → Prop} {news : List (Addr × Obj)} {n : Nat}
    (J : Nat → List Value → List (Addr × Obj) → Prop) (h0 : J 0 [] news)
    (step : ∀ i ys news, i < n → J i ys news → ∀ v I oI C oC D m₂ h tk (E' : Value → Shared → Prop), P i v → LCg.NsObj oC m₂ → m₂ x = some v → Fr h₀ L h m → News h₀ L h ((I, oI) :: (C, oC) :: (D, LCg.lst ys) :: news) → LCg.Off3 I C D news → ((@Ne Nat I C) ∧ (@Ne Nat I D) ∧ (@Ne Nat C D)) →
      wpAny (model prog w) A (isTrue ct (compEnvC scope cl C env) (eval ct (compEnvC scope cl C env))) (fun ok s' => if ok = true then
        wpAny (model prog w) A (eval elt (compEnvC scope cl C env)) (LCg.CompEnd h₀ L m { s with heap := h, toks := tk } I oI C oC D (LCg.lst ys) S (fun y news' => J (i + 1) (ys ++ [y]) news')) E' s'
        else LCg.CompEnd h₀ L m { s with heap := h, toks := tk } I oI C oC D (LCg.lst ys) S (fun _ news' => J (i + 1) ys news') Value.none s') E' { s with heap := h, toks := tk })
    (fin : ∀ ys news, J n ys news → Fin ys news) : LCt.CompRestT prog w A h₀ L m env ct elt x scope cl s S P Fin n 0 [] news := by
  have key : ∀ k i ys news, i + k = n → J i ys news → LCt.CompRestT prog w A h₀ L m env ct elt x scope cl s S P Fin k i ys news := by
    intro k
    induction k with
    | zero =>
      intro i ys news hi hj
      refine LCt.CompRestT.zero (fin ys news ?_)
      have : i = n := by omega
      exact this ▸ hj
    | succ k ih =>
      intro i ys news hi hj
      refine LCt.CompRestT.succ ?_
      intro v I oI C oC D m₂ h tk E' hP hC hx F N off ne
      refine wpAny_mono (step i ys news (by omega) hj v I oI C oC D m₂ h tk E' hP hC hx F N off ne) (fun ok s' q => ?_) fun _ _ e => e
      cases ok with
      | true =>
        simp only [if_true] at q ⊢
        exact wpAny_mono q (fun y s2 q2 => compEnd_mono (fun y n hn => ih (i + 1) _ n (by omega) hn) q2) fun _ _ e => e
      | false =>
        simp only [Bool.false_eq_true, if_false] at q ⊢
        exact compEnd_mono (fun y n hn => ih (i + 1) _ n (by omega) hn) q
  exact key n 0 [] news (by omega) h0

/-- the rows: who is lit, at which light -/
inductive RowsAre (lamps : List Lamp) (news : List (Addr × Obj)) : List Value → List Nat → Prop
  | nil : RowsAre lamps news [] []
  | cons {a : Addr} {k : Nat} {t u : Tok} {ys : List Value} {ks : List Nat} : (a, tup [.int (-((lamps.getD k lampD).value : Int)) t, .str ⟨#[97 + k]⟩ u]) ∈ news → RowsAre lamps news ys ks → RowsAre lamps news (.ref a :: ys) (k :: ks)
theorem RowsAre.more {lamps : List Lamp} {news news' : List (Addr × Obj)} {ys : List Value} {ks : List Nat} (h : RowsAre lamps news ys ks) (hs : ∀ p ∈ news, p ∈ news') : RowsAre lamps news' ys ks := by
  induction h with
  | nil => exact .nil
  | cons hm _ ih => exact .cons (hs _ hm) ih
theorem RowsAre.snoc {lamps : List Lamp} {news : List (Addr × Obj)} {ys : List Value} {ks : List Nat} {a : Addr} {k : Nat} {t u : Tok} (h : RowsAre lamps news ys ks) (hm : (a, tup [.int (-((lamps.getD k lampD).value : Int)) t, .str ⟨#[97 + k]⟩ u]) ∈ news) : RowsAre lamps news (ys ++ [.ref a]) (ks ++ [k]) := by
  induction h with
  | nil => exact .cons hm .nil
  | cons hm' _ ih => exact .cons hm' ih
theorem RowsAre.length {lamps : List Lamp} {news : List (Addr × Obj)} {ys : List Value} {ks : List Nat} (h : RowsAre lamps news ys ks) : ys.length = ks.length := by
  induction h with
  | nil => rfl
  | cons _ _ ih => simp [ih]

theorem RowsAre.get {lamps : List Lamp} {news : List (Addr × Obj)} {ys : List Value} {ks : List Nat} (h : RowsAre lamps news ys ks) : ∀ {i : Nat} {v : Value}, ys[i]? = some v →
    ∃ a k t u, v = .ref a ∧ ks[i]? = some k ∧ (a, tup [.int (-((lamps.getD k lampD).value : Int)) t, .str ⟨#[97 + k]⟩ u]) ∈ news := by
  induction h with
  | nil => intro i v e; simp at e
  | cons hm _ ih =>
    intro i v e
    cases i with
    | zero => simp at e; exact ⟨_, _, _, _, e.symm, by simp, hm⟩
    | succ i => simp at e; simpa using ih (by simpa using e)

theorem rows_cmp {prog : Program} {w : World} {A : Around} {lamps : List Lamp} {news : List (Addr × Obj)} {ys : List Value} {h n : Nat} {a0 : Addr} {t0 u0 : Tok} (hu : A.units < 9000) (hn : n = lamps.length) (hn4 : lamps.length ≤ 4) (ok : ∀ l ∈ lamps, l.Ok)
    (hr : RowsAre lamps news ys ((List.range n).filter (litB lamps h))) (h0 : (a0, tup [.int 0 t0, .str (Str.ofString "-") u0]) ∈ news) :
    ∀ i j vi vj (s : Shared) (Q : Value → Shared → Prop) (E : Value → Shared → Prop), (ys ++ [.ref a0])[i]? = some vi → (ys ++ [.ref a0])[j]? = some vj → j < i → (∀ p ∈ news, s.heap.get? p.1 = some p.2) →
      Q (.bool (decide ((((List.range n).filter (litB lamps h)).map (keyL lamps) ++ [80]).getD i 0 < (((List.range n).filter (litB lamps h)).map (keyL lamps) ++ [80]).getD j 0))) s → wpAny (model prog w) A (compareOp .Lt vi vj) Q E s := by
  subst hn
  intro i j vi vj s Q E hi hj hji hk hq
  have hlen := hr.length
  have hil := (List.getElem?_eq_some_iff.mp hi).1
  simp only [List.length_append, List.length_cons, List.length_nil] at hil
  rw [List.getElem?_append_left (by omega)] at hj
  obtain ⟨b, k2, t2, u2, rfl, hk2, hb⟩ := hr.get hj
  have m2 := List.mem_of_getElem? hk2
  rw [List.mem_filter, List.mem_range] at m2
  have o2 := ok_at hn4 ok m2.1
  have key2 : ((((List.range lamps.length).filter (litB lamps h)).map (keyL lamps) ++ [80]).getD j 0) = keyL lamps k2 := by
    rw [List.getD_eq_getElem?_getD, List.getElem?_append_left (by simp; omega), List.getElem?_map, hk2]; rfl
  rw [key2] at hq
  by_cases hlt : i < ys.length
  · rw [List.getElem?_append_left hlt] at hi
    obtain ⟨a, k1, t1, u1, rfl, hk1, ha⟩ := hr.get hi
    have m1 := List.mem_of_getElem? hk1
    rw [List.mem_filter, List.mem_range] at m1
    have o1 := ok_at hn4 ok m1.1
    have key1 : ((((List.range lamps.length).filter (litB lamps h)).map (keyL lamps) ++ [80]).getD i 0) = keyL lamps k1 := by
      rw [List.getD_eq_getElem?_getD, List.getElem?_append_left (by simp; omega), List.getElem?_map, hk1]; rfl
    rw [key1] at hq
    have hkk : k2 < k1 := by
      have hp : ((List.range lamps.length).filter (litB lamps h)).Pairwise (· < ·) := List.Pairwise.filter _ List.pairwise_lt_range
      have := List.pairwise_iff_getElem.mp hp j i (by omega) (by omega) hji
      rw [List.getElem?_eq_getElem (by omega)] at hk1 hk2
      rw [Option.some.inj hk1, Option.some.inj hk2] at this
      exact this
    refine row_lt hu (hk _ ha) (hk _ hb) (fun _ e => ?_) ?_
    · have := congrArg (fun s : Str => s.cps.toList) e
      simp at this; omega
    · have e : decide (-((lamps.getD k1 lampD).value : Int) < -((lamps.getD k2 lampD).value : Int) ∨ -((lamps.getD k1 lampD).value : Int) = -((lamps.getD k2 lampD).value : Int) ∧ (⟨#[97 + k1]⟩ : Str).cps.toList < (⟨#[97 + k2]⟩ : Str).cps.toList) = decide (keyL lamps k1 < keyL lamps k2) := by
        apply decide_eq_decide.mpr
        have h8 := o1.v8
        have h8' := o2.v8
        have hl : ((⟨#[97 + k1]⟩ : Str).cps.toList < (⟨#[97 + k2]⟩ : Str).cps.toList) ↔ k1 < k2 := by
          show ([97 + k1] : List Nat) < [97 + k2] ↔ _
          simp [List.cons_lt_cons_iff]
        rw [hl]
        unfold keyL
        omega
      rw [e]; exact hq
  · have hie : i = ys.length := by omega
    have e0 : vi = .ref a0 := by
      rw [hie, List.getElem?_append_right (Nat.le_refl _)] at hi
      simp at hi; exact hi.symm
    subst e0
    have key1 : ((((List.range lamps.length).filter (litB lamps h)).map (keyL lamps) ++ [80]).getD i 0) = 80 := by
      rw [List.getD_eq_getElem?_getD, List.getElem?_append_right (by simp; omega)]
      simp only [List.length_map, show i - ((List.range lamps.length).filter (litB lamps h)).length = 0 by omega]
      rfl
    rw [key1] at hq
    have := o2.v1
    have := o2.v8
    refine row_lt hu (hk _ h0) (hk _ hb) (fun e => by omega) ?_
    have e : decide ((0 : Int) < -((lamps.getD k2 lampD).value : Int) ∨ (0 : Int) = -((lamps.getD k2 lampD).value : Int) ∧ (Str.ofString "-").cps.toList < (⟨#[97 + k2]⟩ : Str).cps.toList) = decide (80 < keyL lamps k2) := by
      apply decide_eq_decide.mpr
      unfold keyL
      constructor
      · rintro (h | ⟨h, _⟩) <;> omega
      · intro h; omega
    rw [e]; exact hq

/-- the least row is the top's -/
theorem rows_top {lamps : List Lamp} {news : List (Addr × Obj)} {ys : List Value} {h n i : Nat} {a0 : Addr} {t0 u0 : Tok} {v : Value} (hn : n = lamps.length) (hn4 : lamps.length ≤ 4) (ok : ∀ l ∈ lamps, l.Ok)
    (hr : RowsAre lamps news ys ((List.range n).filter (litB lamps h))) (h0 : (a0, tup [.int 0 t0, .str (Str.ofString "-") u0]) ∈ news)
    (hv : (ys ++ [.ref a0])[i]? = some v) (hmin : ∀ j, j < (ys ++ [Value.ref a0]).length → (((List.range n).filter (litB lamps h)).map (keyL lamps) ++ [80]).getD i 0 ≤ (((List.range n).filter (litB lamps h)).map (keyL lamps) ++ [80]).getD j 0) :
    ∃ a x t u, v = .ref a ∧ (a, tup [.int x t, .str ⟨#[codeAt (nmOf lamps.length) (topAt lamps h)]⟩ u]) ∈ news := by
  subst hn
  have hlen := hr.length
  have hil := (List.getElem?_eq_some_iff.mp hv).1
  simp only [List.length_append, List.length_cons, List.length_nil] at hil hmin
  have keyj : ∀ j k, ((List.range lamps.length).filter (litB lamps h))[j]? = some k → ((((List.range lamps.length).filter (litB lamps h)).map (keyL lamps) ++ [80]).getD j 0) = keyL lamps k := by
    intro j k hk
    have := (List.getElem?_eq_some_iff.mp hk).1
    rw [List.getD_eq_getElem?_getD, List.getElem?_append_left (by simp; omega), List.getElem?_map, hk]; rfl
  have pos : ∀ k, k < lamps.length → litB lamps h k = true → ∃ j, j < ys.length ∧ ((List.range lamps.length).filter (litB lamps h))[j]? = some k := by
    intro k hk hl
    obtain ⟨j, hj, e⟩ := List.mem_iff_getElem.mp (List.mem_filter.mpr ⟨List.mem_range.mpr hk, hl⟩)
    exact ⟨j, by omega, by rw [List.getElem?_eq_getElem hj, e]⟩
  by_cases hlt : i < ys.length
  · rw [List.getElem?_append_left hlt] at hv
    obtain ⟨a, k1, t1, u1, rfl, hk1, ha⟩ := hr.get hv
    have m1 := List.mem_of_getElem? hk1
    rw [List.mem_filter, List.mem_range] at m1
    have ht : IsTop lamps h lamps.length k1 := .inl ⟨m1.1, m1.2, fun j hj hl => by
      obtain ⟨j', hj', e⟩ := pos j hj hl
      have := hmin j' (by omega)
      rwa [keyj _ _ hk1, keyj _ _ e] at this⟩
    rw [(topAt_is lamps h).uniq (by omega) ht, code_nm m1.1]
    exact ⟨a, _, _, _, rfl, ha⟩
  · have e0 : v = .ref a0 := by
      rw [List.getElem?_append_right (by omega), show i - ys.length = 0 by omega] at hv
      simp at hv; exact hv.symm
    subst e0
    have key1 : ((((List.range lamps.length).filter (litB lamps h)).map (keyL lamps) ++ [80]).getD i 0) = 80 := by
      rw [List.getD_eq_getElem?_getD, List.getElem?_append_right (by simp; omega)]
      simp only [List.length_map, show i - ((List.range lamps.length).filter (litB lamps h)).length = 0 by omega]
      rfl
    have ht : IsTop lamps h lamps.length lamps.length := .inr ⟨rfl, fun j hj => by
      cases hl : litB lamps h j with
      | false => rfl
      | true =>
        exfalso
        obtain ⟨j', hj', e⟩ := pos j hj hl
        have := hmin j' (by omega)
        rw [key1, keyj _ _ e] at this
        have o := ok_at hn4 ok hj
        have := o.v1
        have := o.v8
        unfold keyL at this
        unfold keyL at *
        omega⟩
    rw [(topAt_is lamps h).uniq (by omega) ht, code_nm_n]
    exact ⟨a0, _, _, _, rfl, h0⟩

def strOf (l : List Nat) : Str := ⟨l.toArray⟩
theorem strOf_cps (l : List Nat) : (strOf l).cps.toList = l := by simp [strOf]
theorem strOf_len (l : List Nat) : (strOf l).length = l.length := by rw [len_cps, strOf_cps]
theorem strOf_app (l : List Nat) (c : Nat) : strOf (l ++ [c]) = strOf l ++ ⟨#[c]⟩ := by
  show (⟨(l ++ [c]).toArray⟩ : Str) = ⟨l.toArray ++ #[c]⟩
  simp
theorem last_slice (S : List Nat) : Txt.slice (strOf S) (some (-1)) none = strOf S.getLast?.toList := by
  rcases List.eq_nil_or_concat S with h | ⟨l, c, h⟩
  · subst h; decide
  · rw [List.concat_eq_append] at h
    subst h
    have hl : (strOf (l ++ [c])).length = l.length + 1 := by rw [strOf_len]; simp
    have := eq_of_beq (slice_closes_from_neg (x := strOf (l ++ [c])) (i := -1) (a := (l.length : Int)) (b := (l.length : Int) + 1) (by decide) (by rw [hl]; omega) (by rw [hl]; omega) (by rw [hl]; omega))
    rw [this, strOf_cps]
    simp [strOf]

theorem item_nm {names : Str} {n k : Nat} (hn : names.cps.toList = nmOf n) (h : k < n) : Txt.item names (k : Int) = ⟨#[97 + k]⟩ := by
  rw [item_at_nat (by rw [hn, nmOf_len]; exact h), hn]
  simp [nmOf, List.getD, h]

theorem hours_K : ∀ (w : World) (A : Around) (h₀ : Heap) (L : Addr) (m : Str → Option Value) (s : Shared) (d : Nat) (names : Str) (tn : Tok) (al : Addr) (e : Nat) (lvs : List Value) (lamps : List Lamp) (news : List (Addr × Obj)) (E : Value → Shared → Prop),
   Cx w A h₀ L (d + 1) → Fr h₀ L s.heap m → News h₀ L s.heap news → (∀ p ∈ news, NotIt (.type "range_iterator") p.2) → (al, W.listOf lvs.toArray e) ∈ news → lvs.length = lamps.length → lamps.length ≤ 4 → names.cps.toList = nmOf lamps.length → (∀ i, i < lamps.length → LampAt news (lvs.getD i .none) (lamps.getD i lampD)) → (∀ l ∈ lamps, l.Ok) →
   wpAny (model Challenge.rw_qu0027_01.row.prog w) A (call (.ref 89) [.str names tn, .ref al] []) 
    (Got s h₀ L m fun v news' => news' = news ∧ ∃ t, v = .str ⟨(SU names.cps.toList lamps 16).toArray⟩ t) E s := by
  unfold Cx
  k_fill
  rintro w A h₀ L m s d names tn al e lvs lamps news E ⟨s₀, mg, mb, A₀, env, outer, base, KX, T, B, hA, hf, hke, hdp, hu, hh⟩ F N hcls hal hlen hl4 hnl hlamps hok
  obtain ⟨ah, ad, af, ag, au⟩ := A
  obtain rfl : ah = none := hh
  obtain rfl : af = some (env :: outer) := hA
  dsimp only at hdp hu
  walk_at "enterC"
  intro g' L' h' tk0 cells' FG' F' N' Y' B' X' T' l1
  walk_at "entered"
  intro C' hu' hh'
  k_cells Y'; (try simp only [List.cons_append, List.nil_append] at N'); (try dsimp only); (try k_lift B'); (try k_fold)
  k_steps
  refine Stop.go ?_
  rename_i oh ol on dh dl dn h1 F1 N1
  change ol.data = .cell (some (Value.ref al)) at dl
  change on.data = .cell (some (Value.str names tn)) at dn
  refine wpAny_For ?_
  k_steps
  refine Stop.go ?_
  rename IsRange _ _ _ _ _ _ _ _ => hR
  rename Fr g' L' _ _ => F2
  rename News g' L' _ _ => N2
  refine iter_range_C (fun i m nx => nx = (L' + 1 + 1, ol) :: (L' + 1, on) :: news ∧ ∃ t, Has m [(Str.ofString "strip", .str (strOf (SU names.cps.toList lamps i)) t)]) hh' rfl rfl rfl F2 N2 ⟨_, dh⟩ ?_ hR (n := 16) rfl (by decide) ?_ ⟨rfl, _, all1 rfl⟩ ?_ ?_
  · simp only [List.forall_mem_cons]
    exact ⟨Nat.ne_of_lt (Nat.lt_succ_self _), Nat.ne_of_lt (Nat.lt_succ_of_lt (Nat.lt_succ_self _)), fun p hp => Nat.ne_of_lt (Nat.lt_succ_of_lt (Nat.lt_succ_of_lt (Nat.lt_succ_of_lt (l1 p hp))))⟩
  · rintro i m₁ nx ⟨rfl, -⟩
    simp only [List.forall_mem_cons]
    exact ⟨.inr ⟨_, dl⟩, .inr ⟨_, dn⟩, fun p hp => hcls p hp⟩
  · rintro i t m₁ nx h tk I o oc hi ⟨rfl, ts, hm⟩ ho hoff hcI hcne hd F3 N3
    replace F3 := hm.fr F3
    simp only [kstB] at F3
    clear F2 N2 hR
    change Fr g' L' h _ at F3
    change News g' L' h _ at N3
    k_steps
    refine Stop.go ?_
    rename IsRange _ _ _ _ _ _ _ _ => hR
    rename Fr g' L' _ _ => F4
    rename News g' L' _ _ => N4
    have hrs : Builtin.Range.rangeSize 0 (lvs.length : Int) 1 = ((lvs.length : Nat) : Int) := by rw [rangeSize_one]; split <;> omega
    refine LCt.CompSrcT.range hh' F4 N4 hR (small_one (by omega) (by omega) (by omega) (by omega)) hrs (by rw [sizeLine_eq]; omega) ?_
    intro g1
    refine comp_turns (fun j ys nx => RowsAre lamps nx ys ((List.range j).filter (litB lamps i)) ∧ (∀ p ∈ (I, o) :: (L' + 1 + 1 + 1, oc) :: (L' + 1 + 1, ol) :: (L' + 1, on) :: news, p ∈ nx)) ⟨.nil, fun _ h => h⟩ ?_ ?_
    · rintro j ys nx hj ⟨hrow, hsub⟩ v I2 oI2 C oC D m₂ h2 tk2 E' ⟨tj, rfl⟩ hNs hk F5 N5 off ne
      obtain ⟨la, q1, q2, q3, q4, hla, hlam⟩ := hlamps j (by omega)
      have hlam' := hsub _ (.tail _ (.tail _ (.tail _ (.tail _ hlam))))
      have hal' := hsub _ (.tail _ (.tail _ (.tail _ (.tail _ hal))))
      have hc1 := hsub _ (.tail _ (.head _))
      have hc2 := hsub _ (.tail _ (.tail _ (.head _)))
      have hc3 := hsub _ (.tail _ (.tail _ (.tail _ (.head _))))
      clear F4 N4 hR
      rw [show (0 : Int) + (j : Int) = (j : Int) by omega] at hk
      have hjl : (j : Int) < (names.length : Int) := by rw [len_cps, hnl, nmOf_len]; omega
      k_steps
      refine Stop.go ?_
      rw [show ((j : Int)).toNat = j from rfl, hla]
      dsimp only
      k_steps
      · refine Stop.go ?_
        rw [show ((j : Int)).toNat = j from rfl, hla]
        dsimp only
        k_steps
        · refine Stop.go ?_
          rw [show ((j : Int)).toNat = j from rfl, hla]
          dsimp only
          k_steps
          refine Stop.go ?_
          refine Stop.go ?_
          rename Fr g' L' _ _ => F6
          rename News g' L' _ _ => N6
          rename _ ∧ _ ∧ _ ∧ AllLt _ _ => lt6
          rename (i : Int) < _ => hlt
          rename _ ≤ (i : Int) => hle
          rename_i D6 h6
          obtain ⟨lt1, lt2, lt3, lt4⟩ := lt6
          rw [item_nm hnl (show j < lamps.length by omega)] at N6
          obtain ⟨w1, w2, N7⟩ : ∃ w1 w2, News g' L' h6 ((D6, tup [.int (-((lamps.getD j lampD).value : Int)) w1, .str ⟨#[97 + j]⟩ w2]) :: (I2, oI2) :: (C, oC) :: (D, LCg.lst ys) :: nx) := ⟨_, _, N6⟩
          refine ⟨h6, _, (D6, tup [.int (-((lamps.getD j lampD).value : Int)) w1, .str ⟨#[97 + j]⟩ w2]) :: nx, rfl, F6, newsSub N7 ?_, ⟨⟨Nat.ne_of_gt lt1, Nat.ne_of_gt lt2, Nat.ne_of_gt lt3⟩, off⟩, ?_, ?_⟩
          · simp only [List.forall_mem_cons]
            exact ⟨by k_mem, by k_mem, by k_mem, by k_mem, fun p hp => .tail _ (.tail _ (.tail _ (.tail _ hp)))⟩
          · exact trivial
          · refine ⟨?_, fun p hp => .tail _ (hsub p hp)⟩
            have : litB lamps i j = true := by
              simp only [litB, Bool.and_eq_true, decide_eq_true_eq]; omega
            rw [List.range_succ, List.filter_append, List.filter_cons, if_pos (by simp [this]), List.filter_nil]
            exact (hrow.more fun p hp => .tail _ hp).snoc (.head _)
        · refine Stop.go ?_
          rename ¬ (_ < _) => hno
          refine LCg.CompEnd.intro F5 N5 nx (fun p hp => hp) off trivial ⟨?_, hsub⟩
          have : litB lamps i j = false := by
            simp only [litB, Bool.and_eq_false_iff, decide_eq_false_iff_not]; omega
          rw [List.range_succ, List.filter_append, List.filter_cons, if_neg (by simp [this]), List.filter_nil, List.append_nil]
          exact hrow
      · refine Stop.go ?_
        rename ¬ (_ ≤ _) => hno
        refine LCg.CompEnd.intro F5 N5 nx (fun p hp => hp) off trivial ⟨?_, hsub⟩
        have : litB lamps i j = false := by
          simp only [litB, Bool.and_eq_false_iff, decide_eq_false_iff_not]; omega
        rw [List.range_succ, List.filter_append, List.filter_cons, if_neg (by simp [this]), List.filter_nil, List.append_nil]
        exact hrow
    · rintro ys nx ⟨hrow, hsub⟩ D h2 tk2 F5 N5 off
      have hc2 := hsub _ (.tail _ (.tail _ (.head _)))
      have hc3 := hsub _ (.tail _ (.tail _ (.tail _ (.head _))))
      have hylen := hrow.length
      clear F4 N4 hR
      dsimp only
      k_steps
      refine Stop.go ?_
      rename Fr g' L' _ _ => F6
      rename News g' L' _ _ => N6
      rename _ ∧ _ ∧ AllLt _ _ => lt6
      rename _ ∧ AllLt _ _ => lt7
      rename_i D6 h6 l6 h7
      refine kmk_add_lit (zs := ys ++ [.ref D6]) F6 N6 (isList_news (items := ys) N6 (.tail _ (.tail _ (.head _)))) (isList_news (items := [.ref D6]) N6 (.head _)) rfl ?_ (by simp only [sizeLine_eq, List.length_cons, List.length_nil]; have := List.length_filter_le (litB lamps i) (List.range lvs.length); simp only [List.length_range] at this; omega)
      intro Dz h8 F8 N8 lt8
      clear F6 N6
      k_steps
      refine Stop.go ?_
      rename Fr g' L' _ _ => F6
      rename News g' L' _ _ => N6
      obtain ⟨t0, u0, LL, N7, hDz, hg0, hsubL⟩ : ∃ t0 u0 LL, News g' L' h8 LL ∧ (Dz, W.listOf (ys ++ [Value.ref D6]).toArray 0) ∈ LL ∧ (D6, tup [.int 0 t0, .str (Str.ofString "-") u0]) ∈ LL ∧ ∀ p ∈ nx, p ∈ LL :=
        ⟨_, _, _, N6, .head _, .tail _ (.tail _ (.head _)), fun p hp => .tail _ (.tail _ (.tail _ (.tail _ hp)))⟩
      clear N6
      have hrow2 := hrow.more hsubL
      refine min_rows (fun j => (((List.range lvs.length).filter (litB lamps i)).map (keyL lamps) ++ [80]).getD j 0) hh' F6 N7 hDz (by simp) ?_ ?_
      · exact rows_cmp (by rw [Around.in1_units]; show au + 3 + 1 < 9000; omega) hlen hl4 hok hrow2 hg0
      intro j v h9 tk9 hv hmin F9 N9
      obtain ⟨ra, rx, rt, ru, rfl, hra⟩ := rows_top hlen hl4 hok hrow2 hg0 hv hmin
      generalize hc : codeAt (nmOf lamps.length) (topAt lamps i) = cc at hra
      clear N7 F6
      k_steps
      rename Fr g' L' _ _ => F10
      rename News g' L' _ _ => N10
      refine slice_strN_sn (hsz := by rw [strOf_len, sizeLine_eq]; have := SU_length names.cps.toList lamps i; omega) (s := ⟨_, _, _, _, _⟩) F10 N10 ?_
      intro h11 t11 tk11 F11 N11
      rw [last_slice]
      clear F10 N10
      have hadd : (strOf (SU names.cps.toList lamps i)).length + (⟨#[cc]⟩ : Str).length ≤ 100 := by
        rw [strOf_len, len_cps]
        have := SU_length names.cps.toList lamps i
        simp only [List.length_cons, List.length_nil]; omega
      have hbase : ∀ p ∈ (I, o) :: (L' + 1 + 1 + 1, oc) :: (L' + 1 + 1, ol) :: (L' + 1, on) :: news, p ∈ LL := fun p hp => hsubL p (hsub p hp)
      k_steps
      · refine Stop.go ?_
        rename Fr g' L' _ _ => F12
        rename News g' L' _ _ => N12
        rename (_ != _) = true => hq
        have : SU names.cps.toList lamps (i + 1) = SU names.cps.toList lamps i ++ [cc] := by
          rw [SU, hnl, hc, stepS, if_neg]
          rintro e
          rw [hnl, e] at hq
          simp [strOf] at hq
        rw [← strOf_app, ← this] at F12
        exact CEnd.mk F12 (newsSub N12 hbase) hd hcne ⟨rfl, _, all1 rfl⟩
      · refine Stop.go ?_
        rename Fr g' L' _ _ => F12
        rename News g' L' _ _ => N12
        rename (_ != _) = false => hq
        refine CEnd.mk F12 (newsSub N12 hbase) hd hcne ⟨rfl, ts, all1 ?_⟩
        have : SU names.cps.toList lamps (i + 1) = SU names.cps.toList lamps i := by
          rw [SU, hnl, hc, stepS, if_pos]
          have h9 := congrArg (fun s : Str => s.cps.toList) (bne_eq_false_iff_eq.mp hq)
          simp only [strOf_cps] at h9
          rw [hnl] at h9
          cases hg : (SU (nmOf lamps.length) lamps i).getLast? with
          | none => rw [hg] at h9; simp at h9
          | some z => rw [hg] at h9; simp at h9; rw [h9]
        rw [this]
        rfl
  · rintro m₁ nx h tk oc ⟨rfl, ts, hm⟩ hd F3 N3
    replace F3 := hm.fr F3
    simp only [kstB] at F3
    clear F2 N2 hR
    change Fr g' L' h _ at F3
    change News g' L' h _ at N3
    k_steps
    refine Stop.go ?_
    rename Fr h₀ L _ _ => F13
    rename News h₀ L _ _ => N13
    exact Got.mk F13 (newsSub N13 fun p hp => .tail _ (.tail _ (.tail _ hp))) ⟨rfl, ts, rfl⟩
end

/-! part V1 -/
theorem fresh_V1 : True := by w_top off; trivial
theorem covers_K : ∀ (w : World) (A : Around) (h₀ : Heap) (L : Addr) (m : Str → Option Value) (s : Shared) (d : Nat) (vo vi : Value) (lo li : Lamp) (first : Bool) (news : List (Addr × Obj)) (E : Value → Shared → Prop),
   Cx w A h₀ L (d + 1) → Fr h₀ L s.heap m → News h₀ L s.heap news → LampAt news vo lo → LampAt news vi li →
   wpAny (model Challenge.rw_qu0027_01.row.prog w) A (call (.ref 96) [vo, vi, .bool first] []) 
    (Got s h₀ L m fun v news' => news' = news ∧ v = .bool (coversB lo li first)) E s := by
  unfold Cx
  k_fill
  rintro w A h₀ L m s d vo vi lo li first news E ⟨s₀, mg, mb, A₀, env, outer, base, KX, T, B, hA, hf, hke, hdp, hu, hh⟩ F N ⟨ao, t1, t2, t3, t4, rfl, ho⟩ ⟨ai, u1, u2, u3, u4, rfl, hi⟩
  obtain ⟨ah, ad, af, ag, au⟩ := A
  obtain rfl : ah = none := hh
  obtain rfl : af = some (env :: outer) := hA
  dsimp only at hdp hu
  walk_at "enter"
  intro g' L' h' FG' F' N' B' X' T'
  walk_at "entered"
  intro C' hu' hh'
  (try dsimp only); (try k_lift B'); (try k_fold)
  refine gen_toks_le ?_
  intro tk0 htk0
  k_steps
  all_goals
    refine Stop.go ?_
    rename Fr h₀ L _ _ => F8
    rename News h₀ L _ _ => N8
    refine Got.mk F8 N8 ⟨rfl, ?_⟩
    congr 1
    rw [Bool.eq_iff_iff]
    simp only [coversB, Bool.and_eq_true, Bool.or_eq_true, decide_eq_true_eq, beq_iff_eq, beq_eq_false_iff_ne, Bool.false_eq_true, ne_eq] at *
    first
      | omega
      | (cases first <;> simp only [Bool.false_eq_true, and_true, and_false, or_false, false_iff, true_iff] <;> omega)

/-! part B7 -/
theorem fresh_B7 : True := by w_top off; trivial
section
variable {prog : Program} {w : World} {A : Around} {s : Shared} {env : Env} {h₀ : Heap} {x : Str} {px : Pos} {body : List Stmt} {R : Result → Shared → Prop}

/-- as loop_T: that the iterator lies off the ledger is told by the invariant -/
theorem loop_F {I : Addr} {fp : List Addr} {n : Nat} {P : Nat → Value → Prop} {St : Nat → Heap → Prop} {m : Str → Option Value} {news kp : List (Addr × Obj)}
    (J : Nat → (Str → Option Value) → List (Addr × Obj) → Nat → Prop) (hmono : ∀ i m nx t t', t ≤ t' → J i m nx t → J i m nx t')
    (W : Walks prog w A I fp [I] n P St) (hx : env.kindOf x = some .local) (hp : (env.scope.kind == .class || (env.scope.kind == .module && env.locals != env.globals)) = false)
    (hLf : env.locals ∉ fp) (hI0 : h₀.get? I = none)
    (hfp : ∀ b ∈ fp, b = I ∨ h₀.get? b ≠ none ∨ ∃ o, (b, o) ∈ kp)
    (hSt : ∀ i h, St i h → ∃ o, h.get? I = some o)
    (hcl : ∀ i m nx t, J i m nx t → (∀ p ∈ nx, p.1 ≠ I) ∧ ∀ p ∈ kp, p ∈ nx)
    (hst : St 0 s.heap) (F : Fr h₀ env.locals s.heap m) (N : News h₀ env.locals s.heap news) (hJ : J 0 m news s.toks)
    (turn : ∀ i v m₁ news₁ h tk o, i < n → P i v → J i m₁ news₁ tk → (∀ p ∈ news₁, p.1 ≠ I) → Fr h₀ env.locals h (fun y => if y = x then some v else m₁ y) → News h₀ env.locals h ((I, o) :: news₁) →
      wpAny (model prog w) A (execs body env) (TPost h₀ env.locals s (J (i + 1)) I o (fun f s' => R (.ok f) s')) (fun _ _ => False) { s with heap := h, toks := tk })
    (done : ∀ m₁ news₁ h tk, J n m₁ news₁ tk → Fr h₀ env.locals h m₁ → News h₀ env.locals h news₁ → R (.ok .next) { s with heap := h, toks := tk }) :
    codeAny (model prog w) A (.forLoop (.Name x px) (.ref I) body [] env) R s := by
  have hIfp : I ∈ fp := W.sub I (List.mem_singleton.mpr rfl)
  have hLI : env.locals ≠ I := fun e => hLf (e ▸ hIfp)
  refine codeAny_forLoop
    (fun k s' => ∃ h' tk m' news' i, s' = { s with heap := h', toks := tk } ∧ St i h' ∧ Fr h₀ env.locals h' m' ∧ News h₀ env.locals h' news' ∧ J i m' news' tk ∧ i ≤ n ∧ k = n + 1 - i) ?_ (n + 1)
    ⟨s.heap, s.toks, m, news, 0, rfl, hst, F, N, hJ, Nat.zero_le _, rfl⟩
  rintro k s' ⟨h', tk, m', news', i, rfl, hst', F', N', hj, hi, rfl⟩
  have hnw := (hcl _ _ _ _ hj).1
  have next : ∀ h₁ : Heap, (∀ b o, b ∉ [I] → h'.get? b = some o → h₁.get? b = some o) → Fr h₀ env.locals h₁ m' ∧ News h₀ env.locals h₁ news' := fun h₁ hk₁ =>
    ⟨⟨F'.ns.at' fun o e => hk₁ _ o (fun q => hLI (List.mem_singleton.mp q)) e, fun b o e => hk₁ b o (fun q => by rw [List.mem_singleton.mp q, hI0] at e; cases e) (F'.keep b o e), F'.above⟩,
      fun p hp => ⟨hk₁ _ _ (fun q => hnw p hp (List.mem_singleton.mp q)) (N' p hp).1, (N' p hp).2⟩⟩
  by_cases hlt : i < n
  · refine wpAny_with_toks (n := tk) (Nat.le_refl _) (W.item i _ _ _ hlt hst' fun v h₁ tk₁ hP hst₁ hk₁ htk₁ => ?_)
    obtain ⟨F₁, N₁⟩ := next h₁ hk₁
    refine wpAny_assign_Name (wpAny_storeName_local hx F₁.ns (fun h₂ hn₂ hs₂ => ?_) hp)
    have F₂ := F₁.set hn₂ hs₂
    have hst₂ : St (i + 1) h₂ := W.frame _ _ _ hst₁ fun b hb o e => (hs₂.2 b fun q => hLf (q ▸ hb)).trans e
    obtain ⟨o, ho⟩ := hSt _ _ hst₂
    have N₂ : News h₀ env.locals h₂ news' := N₁.set hs₂
    have N₃ : News h₀ env.locals h₂ ((I, o) :: news') := fun p hp => by
      rcases List.mem_cons.mp hp with rfl | hp
      · exact ⟨ho, fun e => hLI e.symm, hI0⟩
      · exact N₂ p hp
    have hj₂ : J i m' news' (tk₁ + 1) := hmono i m' news' tk (tk₁ + 1) (by have : tk ≤ tk₁ := htk₁; omega) hj
    refine wpAny_mono (turn i v m' news' h₂ (tk₁ + 1) o hlt hP hj₂ hnw F₂ N₃) (fun f s₃ h₃ => ?_) fun _ _ e => e.elim
    have fin : TEnd h₀ env.locals s (J (i + 1)) I o s₃ → ∃ m, m < n + 1 - i ∧ ∃ h' tk m' news' i, s₃ = { s with heap := h', toks := tk } ∧ St i h' ∧ Fr h₀ env.locals h' m' ∧ News h₀ env.locals h' news' ∧ J i m' news' tk ∧ i ≤ n ∧ m = n + 1 - i := by
      rintro ⟨h₃', tk₃, m₂, news₂, rfl, F₃, N₄, hJ₃⟩
      have N₅ : News h₀ env.locals h₃' news₂ := fun p hp => N₄ p (.tail _ hp)
      refine ⟨n + 1 - (i + 1), by omega, h₃', tk₃, m₂, news₂, i + 1, rfl, ?_, F₃, N₅, hJ₃, hlt, rfl⟩
      refine W.frame _ _ _ hst₂ fun b hb ob e => ?_
      rcases hfp b hb with rfl | e1 | ⟨o', e1⟩
      · rw [ho] at e
        cases e
        exact (N₄ _ (.head _)).1
      · cases hn : h₀.get? b with
        | none => exact absurd hn e1
        | some o₀ =>
          have : o₀ = ob := by have := F₂.keep b o₀ hn; rw [e] at this; exact (Option.some.inj this).symm
          exact this ▸ F₃.keep b o₀ hn
      · have h1 := (N₂ _ ((hcl _ _ _ _ hj).2 _ e1)).1
        rw [e] at h1
        cases h1
        exact (N₅ _ ((hcl _ _ _ _ hJ₃).2 _ e1)).1
    cases f with
    | ret v => exact h₃
    | brk => exact h₃
    | cont => exact fin h₃
    | next => exact fin h₃
  · have hin : i = n := by omega
    subst hin
    refine wpAny_with_toks (n := tk) (Nat.le_refl _) (W.done _ _ _ hst' fun h₁ tk₁ hk₁ htk₁ => wpAny_execs_nil ?_)
    obtain ⟨F₁, N₁⟩ := next h₁ hk₁
    exact done m' news' h₁ tk₁ (hmono _ _ _ tk tk₁ htk₁ hj) F₁ N₁

/-- a for over a list of the ledger, the ledger standing still -/
theorem iter_list_F {ax : Addr} {vs : List Value} {e : Nat} {m : Str → Option Value} {news : List (Addr × Obj)} {E : Value → Shared → Prop}
    (J : Nat → (Str → Option Value) → Nat → Prop) (hmono : ∀ i m t t', t ≤ t' → J i m t → J i m t') (hh : A.handled = none)
    (hx : env.kindOf x = some .local) (hp : (env.scope.kind == .class || (env.scope.kind == .module && env.locals != env.globals)) = false)
    (F : Fr h₀ env.locals s.heap m) (N : News h₀ env.locals s.heap news) (hm : (ax, W.listOf vs.toArray e) ∈ news) (hJ : J 0 m s.toks)
    (turn : ∀ i v m₁ h tk I o, vs[i]? = some v → J i m₁ tk → (∀ p ∈ news, p.1 ≠ I) → Fr h₀ env.locals h (fun y => if y = x then some v else m₁ y) → News h₀ env.locals h ((I, o) :: news) →
      wpAny (model prog w) A (execs body env) (TPost h₀ env.locals s (fun m nx t => nx = news ∧ J (i + 1) m t) I o (fun f s' => R (.ok f) s')) (fun _ _ => False) { s with heap := h, toks := tk })
    (done : ∀ m₁ h tk, J vs.length m₁ tk → Fr h₀ env.locals h m₁ → News h₀ env.locals h news → R (.ok .next) { s with heap := h, toks := tk }) :
    wpAny (model prog w) A (pyIter (.ref ax)) (fun it s₂ => codeAny (model prog w) A (.forLoop (.Name x px) it body [] env) R s₂) E s := by
  have hax := N _ hm
  have hl : s.heap.IsList ax vs.toArray := ⟨_, hax.1, rfl, e, rfl⟩
  have hlt : ax < s.heap.objs.size := Heap.lt_size hax.1
  refine wpAny_pyIter_list hl ?_
  have WW := Walks.list (prog := prog) (w := w) hh s.heap.objs.size ax (Nat.ne_of_lt hlt) vs.toArray
  have hsz : vs.toArray.size = vs.length := List.size_toArray
  rw [hsz] at WW
  have hoff : ∀ p ∈ news, p.1 ≠ s.heap.objs.size := fun p hp => Nat.ne_of_lt (Heap.lt_size (N p hp).1)
  refine loop_F (kp := [(ax, W.listOf vs.toArray e)]) (m := m) (news := news) (fun i m nx t => nx = news ∧ J i m t) (fun i m nx t t' htt h => ⟨h.1, hmono i m t t' htt h.2⟩) WW hx hp ?_ (next_is_new F) ?_ ?_ ?_ ⟨⟨_, Heap.get?_push_size _ rfl, rfl, rfl⟩, hl.at fun o e => Heap.get?_push_of_some _ e⟩ (F.push _)
    (fun p hp => ⟨Heap.get?_push_of_some _ (N p hp).1, (N p hp).2⟩) ⟨rfl, hJ⟩ ?_ ?_
  · intro hmm
    rcases List.mem_cons.mp hmm with e | hmm
    · exact absurd F.ns.lt (e ▸ Nat.lt_irrefl _)
    · exact hax.2.1 (List.mem_singleton.mp hmm).symm
  · intro b hb
    rcases List.mem_cons.mp hb with rfl | hb
    · exact .inl rfl
    · exact .inr (.inr ⟨_, by rw [List.mem_singleton.mp hb]; exact .head _⟩)
  · rintro i h ⟨⟨o, ho, hc, hd⟩, _⟩
    exact ⟨o, ho⟩
  · rintro i m nx t ⟨rfl, hj⟩
    exact ⟨hoff, all1 hm⟩
  · rintro i v m₁ news₁ h tk o _ hP ⟨rfl, hj⟩ hoff F₁ N₁
    exact turn i v m₁ h tk _ o (by simpa using hP) hj hoff F₁ N₁
  · rintro m₁ news₁ h tk ⟨rfl, hj⟩ F₁ N₁
    exact done m₁ h tk hj F₁ N₁
end

/-! part E1 -/
section
theorem fresh_E1 : True := by w_top off; trivial
def pieces (cs : List Nat) : List (List Nat) := [] :: cs.map (fun c => [c]) ++ [[]]
theorem pieces_ends {cs : List Nat} {l : List (Str × Tok)} (h : l.map (fun x => x.1) = ([] :: cs.map (fun c => [c]) ++ [[]]).map strOf) :
    (∃ t, (strValues l)[(0 : Int).toNat]? = some (Value.str (strOf []) t)) ∧ (∃ t, (strValues l)[cs.length + 1]? = some (Value.str (strOf []) t)) ∧ l.length = cs.length + 2 := by
  have hlen : l.length = cs.length + 2 := by have := congrArg List.length h; simpa using this
  have key : ∀ (k : Nat) (x : Str), (([] :: cs.map (fun c => [c]) ++ [[]]).map strOf)[k]? = some x → ∃ t : Tok, (strValues l)[k]? = some (Value.str x t) := by
    intro k x e
    rw [← h, List.getElem?_map] at e
    cases hk : l[k]? with
    | none => rw [hk] at e; cases e
    | some p =>
      rw [hk] at e
      have : p.1 = x := Option.some.inj e
      exact ⟨p.2, by rw [strValues, List.getElem?_map, hk]; show some (Value.str p.1 p.2) = _; rw [this]⟩
  refine ⟨key 0 _ (by simp), key _ _ ?_, hlen⟩
  rw [List.getElem?_map, List.getElem?_append_right (by simp)]
  simp

theorem pieces_flat (cs : List Nat) : (pieces cs).flatten = cs := by
  unfold pieces
  rw [List.cons_append, List.flatten_cons, List.nil_append, List.flatten_append]
  induction cs with
  | nil => rfl
  | cons c r ih => simpa using ih
theorem pieces_one (cs : List Nat) (i : Nat) (h : i < (pieces cs).length) : (pieces cs)[i] = [] ∨ ∃ c, (pieces cs)[i] = [c] := by
  have hm : (pieces cs)[i] ∈ pieces cs := List.getElem_mem h
  generalize (pieces cs)[i] = q at hm
  unfold pieces at hm
  simp only [List.cons_append, List.mem_cons, List.mem_append, List.mem_map, List.not_mem_nil, or_false] at hm
  rcases hm with h | ⟨c, _, h⟩ | h
  · exact .inl h
  · exact .inr ⟨c, h.symm⟩
  · exact .inl h
theorem pieces_item {cs : List Nat} {l : List (Str × Tok)} {i : Nat} {v : Value} (h : l.map (fun x => x.1) = ([] :: cs.map (fun c => [c]) ++ [[]]).map strOf) (hv : (strValues l)[i]? = some v) :
    ∃ (hi : i < (pieces cs).length) (t : Tok), v = .str (strOf (pieces cs)[i]) t := by
  rw [strValues, List.getElem?_map] at hv
  cases hk : l[i]? with
  | none => rw [hk] at hv; cases hv
  | some p =>
    rw [hk] at hv
    have e2 : ((pieces cs).map strOf)[i]? = some p.1 := by
      show (([] :: cs.map (fun c => [c]) ++ [[]]).map strOf)[i]? = some p.1
      rw [← h, List.getElem?_map, hk]; rfl
    rw [List.getElem?_map] at e2
    cases hq : (pieces cs)[i]? with
    | none => rw [hq] at e2; cases e2
    | some q =>
      rw [hq] at e2
      obtain ⟨hi, e⟩ := List.getElem?_eq_some_iff.mp hq
      refine ⟨hi, p.2, ?_⟩
      rw [e, Option.some.inj e2]
      exact (Option.some.inj hv).symm

theorem fromIndex_nat (n p : Nat) : fromIndex n (p : Int) = p := by
  unfold fromIndex
  rw [if_neg (by omega)]
  omega

theorem sub_miss {c : Nat} {r : List Nat} : ∀ {T : List Nat}, c ∉ T → (c :: r).isSublist T = false
  | [], _ => rfl
  | a :: T, h => by
    have h1 : c ≠ a := fun e => h (e ▸ List.mem_cons_self)
    rw [List.isSublist]
    have : (c == a) = false := by simpa using h1
    rw [this]
    exact sub_miss fun hm => h (.tail _ hm)
theorem sub_hit {c : Nat} {r B : List Nat} : ∀ {T : List Nat}, c ∉ T → (c :: r).isSublist (T ++ c :: B) = r.isSublist B
  | [], _ => by rw [List.nil_append, List.isSublist]; simp
  | a :: T, h => by
    have h1 : c ≠ a := fun e => h (e ▸ List.mem_cons_self)
    rw [List.cons_append, List.isSublist]
    have : (c == a) = false := by simpa using h1
    rw [this]
    exact sub_hit fun hm => h (.tail _ hm)

theorem piece_step (S rest : List Nat) (p : Nat) (hp : p ≤ S.length) (pz : List Nat) (hz : pz = [] ∨ ∃ c, pz = [c]) :
    (Txt.find3 (strOf S) (strOf pz) (p : Int) = -1 ∧ (pz ++ rest).isSublist (S.drop p) = false) ∨
    ∃ k : Nat, Txt.find3 (strOf S) (strOf pz) (p : Int) = (k : Int) ∧ k + pz.length ≤ S.length ∧ (pz ++ rest).isSublist (S.drop p) = rest.isSublist (S.drop (k + pz.length)) := by
  rcases hz with rfl | ⟨c, rfl⟩
  · right
    refine ⟨p, ?_, by simpa using hp, by simp⟩
    unfold Txt.find3
    rw [fromIndex_nat]
    have hl : (strOf S).length = S.length := strOf_len S
    have hAt : ∀ i, i ≤ S.length → StrLaws.At (strOf S) (strOf []) (strOf S).length i := fun i hi => by
      refine ⟨by rw [hl]; show i + 0 ≤ _; omega, ?_⟩
      rw [StrLaws.subAt_eq]; rfl
    rcases StrLaws.occ_head_from (strOf S) (strOf []) p 1 (Nat.le_refl 1) with ⟨h0, hn⟩ | ⟨i, r, h0, hlo, hi, hn⟩
    · exact absurd (hAt p hp) (hn p (Nat.le_refl _))
    · rw [h0]
      have : i = p := by
        false_or_by_contra
        exact hn p (Nat.le_refl _) (by omega) (hAt p hp)
      rw [this]
  · have hl : (strOf S).length = S.length := strOf_len S
    have hget : ∀ v, v < S.length → (strOf S).cps.getD v 0 = S.getD v 0 := fun v hv => by
      simp [strOf, Array.getD, hv, List.getD]
    have hsp := StrLaws.find3_spec (strOf S) c (p : Int)
    rw [fromIndex_nat, hl] at hsp
    rcases hsp with ⟨h0, hn⟩ | ⟨k, h0, hlo, hk, hc, hn⟩
    · left
      refine ⟨h0, sub_miss fun hm => ?_⟩
      obtain ⟨j, hj, e⟩ := List.mem_iff_getElem.mp hm
      rw [List.length_drop] at hj
      rw [List.getElem_drop] at e
      refine hn (p + j) (by omega) (by omega) ?_
      rw [hget _ (by omega), List.getD_eq_getElem?_getD, List.getElem?_eq_getElem (by omega)]
      exact e
    · right
      refine ⟨k, h0, by simp; omega, ?_⟩
      rw [hget _ hk, List.getD_eq_getElem?_getD, List.getElem?_eq_getElem hk, Option.getD_some] at hc
      have e : S.drop p = (S.drop p).take (k - p) ++ c :: S.drop (k + 1) := by
        have h1 := (List.take_append_drop (k - p) (S.drop p)).symm
        rw [List.drop_drop, show p + (k - p) = k by omega, List.drop_eq_getElem_cons hk, hc] at h1
        exact h1
      rw [e]
      refine sub_hit fun hm => ?_
      obtain ⟨j, hj, e⟩ := List.mem_iff_getElem.mp hm
      rw [List.length_take, List.length_drop] at hj
      rw [List.getElem_take, List.getElem_drop] at e
      refine hn (p + j) (by omega) (by omega) ?_
      rw [hget _ (by omega), List.getD_eq_getElem?_getD, List.getElem?_eq_getElem (by omega)]
      exact e

theorem gives_find4 (x y : Str) (i : Int) (t u v z : Tok) : Gives (Builtin.«str.find» ⟨[.str x t, .str y u, .int i v, .int (x.length : Int) z], []⟩) (.int (Txt.find3 x y i)) := by
  show Gives (match Builtin.Str.occurrences x y (fromIndex x.length i) (min (max 0 (if (x.length : Int) < 0 then (x.length : Int) + (x.length : Int) else (x.length : Int))).toNat x.length) 1 with | k :: _ => retInt k | [] => (do rule "str.find.not-found"; retInt (-1))) _
  rw [if_neg (by omega), show min (max 0 (x.length : Int)).toNat x.length = x.length by omega]
  unfold Txt.find3
  cases Builtin.Str.occurrences x y (fromIndex x.length i) x.length 1 with
  | nil => exact .rule (.of_eq rfl)
  | cons k _ => exact .of_eq rfl
theorem find4 {prog : Program} {w : World} {A : Around} {E : Value → Shared → Prop} {s : Shared} {x y : Str} {t u v z : Tok} {i n : Int} {Q : Value → Shared → Prop} (hn : n = (x.length : Int)) (hq : Q (.int (Txt.find3 x y i) s.toks) { s with toks := s.toks + 1 }) :
    wpAny (model prog w) A (call (.builtin "str.find") [.str x t, .str y u, .int i v, .int n z]) Q E s := by
  subst hn
  exact call_gives PySem.F.slot_str_find (typeIs_str _ _ _) PySem.F.entry_str_find (PySem.F.args_str_find_4 _ _ _ _) (gives_find4 x y i t u v z) hq

local macro_rules | `(tactic| walk_at "call builtin:str.find") => `(tactic| refine Stop.mk ?_)
theorem ellipsis_K : ∀ (w : World) (A : Around) (h₀ : Heap) (L : Addr) (m : Str → Option Value) (s : Shared) (d : Nat) (want : Str) (tw tg : Tok) (cs S : List Nat) (news : List (Addr × Obj)) (E : Value → Shared → Prop),
   Cx w A h₀ L (d + 1) → Fr h₀ L s.heap m → News h₀ L s.heap news → want.length ≤ 100 → S.length ≤ 20 → cs.length ≤ 10 → (Builtin.Str.occurrences want (Str.ofString "...") 0 want.length 1).isEmpty = false → Txt.split want (Str.ofString "...") = ([] :: cs.map (fun c => [c]) ++ [[]]).map strOf →
   wpAny (model Challenge.rw_qu0027_01.row.prog w) A (call (.ref 70) [.str want tw, .str (strOf S) tg] []) 
    (Got s h₀ L m fun v news' => news' = news ∧ v = .bool (cs.isSublist S)) E s := by
  unfold Cx
  k_fill
  rintro w A h₀ L m s d want tw tg cs S news E ⟨s₀, mg, mb, A₀, env, outer, base, KX, T, B, hA, hf, hke, hdp, hu, hh⟩ F N hwl hSl hcl hocc hspl
  obtain ⟨ah, ad, af, ag, au⟩ := A
  obtain rfl : ah = none := hh
  obtain rfl : af = some (env :: outer) := hA
  dsimp only at hdp hu
  walk_at "enter"
  intro g' L' h' FG' F' N' B' X' T'
  walk_at "entered"
  intro C' hu' hh'
  (try dsimp only); (try k_lift B'); (try k_fold)
  refine gen_toks_le ?_
  intro tk0 htk0
  have hgl : (strOf S).length ≤ 100 := by rw [strOf_len]; omega
  k_steps
  · refine Stop.go ?_
    rename Fr g' L' _ _ => F1
    rename News g' L' _ _ => N1
    rename List.map _ _ = Txt.split _ _ => hlk
    rename List (Str × Tok) => l
    rw [hspl] at hlk
    obtain ⟨hl0, hl1, hll⟩ := pieces_ends hlk
    dsimp only at N1 ⊢
    generalize h'.objs.size = aw at *
    obtain ⟨t0, hl0⟩ := hl0
    obtain ⟨t1, hl1⟩ := hl1
    have hsl : (strValues l).length = cs.length + 2 := by rw [strValues, List.length_map, hll]
    refine item_at (items := strValues l) (n := 0) N1 (by k_mem) (by decide) (by decide) hl0 ?_
    have hw1 : ∀ n : Int, n = ((cs.length + 2 : Nat) : Int) → ((l.map fun x => x.1).getD (-1 + n).toNat Str.empty) = strOf [] := by
      rintro n rfl
      rw [show (-1 + ((cs.length + 2 : Nat) : Int)).toNat = cs.length + 1 by omega, hlk, List.getD_eq_getElem?_getD, List.getElem?_map, List.getElem?_append_right (by simp)]
      simp
    k_steps
    rw [hw1 _ (by rw [← hsl]; simp [strValues])]
    rename Fr g' L' _ _ => F1
    rename News g' L' _ _ => N1
    rw [hw1 _ (by rw [← hsl]; simp [strValues])] at F1
    k_steps
    refine Stop.go ?_
    refine wpAny_For ?_
    k_steps
    refine Stop.go ?_
    rename Fr g' L' _ _ => F2
    rename News g' L' _ _ => N2
    obtain ⟨nx, hnx⟩ : ∃ nx, nx = (aw, W.listOf (strValues l).toArray 0) :: news := ⟨_, rfl⟩
    have N3 : News g' L' _ nx := newsSub N2 (by
      rw [hnx]
      exact fun p hp => .tail _ hp)
    have hpl : (pieces cs).length = cs.length + 2 := by simp [pieces]
    refine iter_list_F (ax := aw) (vs := strValues l) (e := 0) (fun i m₁ _ => ∃ (p : Nat) (t te : Tok), Has m₁ [(Str.ofString "got", .str (strOf S) tg), (Str.ofString "startpos", .int (p : Int) t), (Str.ofString "endpos", .int ((strOf S).length : Int) te)] ∧ p ≤ S.length ∧ cs.isSublist S = ((pieces cs).drop i).flatten.isSublist (S.drop p))
      (fun _ _ _ _ _ h => h) hh' rfl rfl F2 N3 (by rw [hnx]; exact .head _) ⟨0, _, _, all3 rfl rfl rfl, Nat.zero_le _, ?_⟩ ?_ ?_
    · rw [List.drop_zero, List.drop_zero, pieces_flat]
    · rintro i v m₁ h tk I o hv ⟨p, t, te, hm, hp, hsub⟩ hoff F5 N5
      obtain ⟨hi, tv, rfl⟩ := pieces_item hlk hv
      replace F5 := hm.fr1 F5
      simp only [kstB] at F5
      clear F2 N2 N3
      have hdr : (pieces cs).drop i = (pieces cs)[i] :: (pieces cs).drop (i + 1) := List.drop_eq_getElem_cons hi
      rw [hdr, List.flatten_cons] at hsub
      have hz := pieces_one cs i hi
      generalize (pieces cs)[i] = pz at *
      have hzl : pz.length ≤ 1 := by rcases hz with rfl | ⟨c, rfl⟩ <;> simp
      have hzs : (strOf pz).length = pz.length := strOf_len pz
      k_steps
      refine Stop.go ?_
      refine find4 rfl ?_
      rcases piece_step S ((pieces cs).drop (i + 1)).flatten p hp pz hz with ⟨e1, e2⟩ | ⟨k, e1, e2, e3⟩
      · rw [e1]
        dsimp only
        k_steps
        refine Stop.go ?_
        rename Fr h₀ L _ _ => F8
        rename News h₀ L _ _ => N8
        refine Got.mk F8 (newsSub N8 fun p hp => .tail _ ?_) ⟨rfl, ?_⟩
        · rw [hnx]; exact .tail _ hp
        · rw [hsub, e2]
      · rw [e1]
        dsimp only
        k_steps
        refine Stop.go ?_
        rename Fr g' L' _ _ => F8
        rename News g' L' _ _ => N8
        rw [show (k : Int) + ((strOf pz).length : Int) = ((k + pz.length : Nat) : Int) by rw [strOf_len]; omega] at F8
        exact TEnd.mk F8 N8 ⟨rfl, k + pz.length, _, _, all3 rfl rfl rfl, e2, hsub.trans e3⟩
    · rintro m₁ h tk ⟨p, t, te, hm, hp, hsub⟩ F5 N5
      replace F5 := hm.fr F5
      simp only [kstB] at F5
      clear F2 N2 N3
      rw [hsl, ← hpl, List.drop_length] at hsub
      k_steps
      refine Stop.go ?_
      rename Fr h₀ L _ _ => F8
      rename News h₀ L _ _ => N8
      refine Got.mk F8 (newsSub N8 fun p hp => ?_) ⟨rfl, ?_⟩
      · rw [hnx]; exact .tail _ hp
      · rw [hsub, List.flatten_nil, List.isSublist]
  · exfalso
    rename List.map _ _ = Txt.split _ _ => hlk
    rw [hspl] at hlk
    obtain ⟨hl0, hl1, hll⟩ := pieces_ends hlk
    omega
end

/-! part B6 -/
theorem fresh_B6 : True := by w_top off; trivial
section
variable {prog : Program} {w : World} {A : Around} {E : Value → Shared → Prop} {s : Shared} {h₀ : Heap} {L : Addr} {m : Str → Option Value} {env : Env}

/-- y = [elt for x in <a text> if ct] -/
theorem assign_comp_text {ct elt iter : PySem.Expr} {x y : Str} {px py : Pos} {scope : Scope} {cl : List (Str × Addr)} {pos spos : Pos} {Q : Flow → Shared → Prop} (_F₀ : Fr h₀ L s.heap m) (hLe : env.locals = L)
    (hsw : swapsWith (.ListComp elt [⟨.Name x px, iter, [ct], 0⟩] scope pos) (some (.Name y py)) spos.line env = pure true)
    (hclos : closureFor scope env = pure cl) (hcell : ∀ z ∈ scope.names, z.2 ≠ .cell) (hkind : scope.kind = .function)
    (hnames : ∀ z ∈ scope.names, z.2 = .local → scope.names.lookup z.1 = some .local) (hx : scope.names.lookup x = some .local)
    (hy : env.kindOf y = some .local) (hp : (env.scope.kind == .class || (env.scope.kind == .module && env.locals != env.globals)) = false)
    (h : wpAny (model prog w) A (eval iter env) (fun xv s₁ => ∃ xs t news, xv = .str xs t ∧ xs.cps.all (· < 128) = true ∧ xs.cps.size ≤ sizeLine ∧ A.handled = none ∧ Fr h₀ L s₁.heap m ∧ News h₀ L s₁.heap news ∧
      ∀ s₂ : Shared, (∃ g, s₂ = { s₁ with heap := g }) → LCt.CompRestT prog w A h₀ L m env ct elt x scope cl s₂ (fun _ => True) (SignAt xs) (LCg.FinA h₀ L m s₂ y Q) xs.cps.size 0 [] news) E s)
    (hs : ∀ x, foldedSetIterable iter env x = pure x := by intro _; rfl) :
    wpAny (model prog w) A (exec (.Assign [.Name y py] (.ListComp elt [⟨.Name x px, iter, [ct], 0⟩] scope pos) spos) env) Q E s := by
  subst hLe
  rw [exec_Assign_Name_used _ _ _ _ hsw]
  refine wpAny_bind (wpAny_standAt (wpAny_bind ?_))
  show wpAny _ A (do let _ ← comprehension (.ListComp elt [⟨.Name x px, iter, [ct], 0⟩] scope pos) scope env _ (newList []) false (eval iter env) (some (assign (.Name y py) env))) _ _ s
  refine wpAny_bind (wpAny_mono (wpAny_comprehension_free (use := some (assign (.Name y py) env)) (Q := fun _ s' => Q .next s') rfl hs hclos hkind hnames
    (wpAny_mono h (fun xv s₁ h₁ => ?_) fun _ _ e => e)) (fun _ s' hq => wpAny_pure (wpAny_pure hq)) fun _ _ e => e)
  obtain ⟨xs, t, news, rfl, ha, hsz, hh, F, N, R⟩ := h₁
  refine wpAny_pyIter_ascii ha ?_
  refine LCt.block_T (Walks.strAscii hh s₁.heap.objs.size xs t) hsz (fun i h st => by obtain ⟨o, e, _⟩ := st; exact ⟨o, e⟩)
    (fun i h h' o nw st e e' _ _ _ => by
      obtain ⟨o₁, q, r⟩ := st
      rw [e] at q
      cases q
      exact ⟨o, e', r⟩) hcell hkind hx ⟨_, Heap.get?_push_size _ rfl, rfl, rfl⟩ (fun b hb => ?_)
    (F.keeps fun _ _ e => Heap.get?_push_of_some _ e) (N.grown fun _ _ e => Heap.get?_push_of_some _ e) (Nat.ne_of_lt F.ns.lt) (next_is_new F) (fun p hp => Nat.ne_of_lt (Heap.lt_size (N p hp).1)) trivial (R _ ⟨_, rfl⟩) ?_
  · rw [List.mem_singleton.mp hb]
    show s₁.heap.objs.size < (s₁.heap.push _).objs.size
    rw [Heap.size_push]; exact Nat.lt_succ_self _
  · intro D C h' tk m' ys news' F' N' o1 hn hC₀ hD₀ hCL hDL hCD offC fin
    show wpAny _ A (assign (.Name y py) env (.ref D)) _ _ _
    refine wpAny_assign_Name (wpAny_storeName_local hy F'.ns (fun h₂ hn₂ hs₂ => ?_) hp)
    have hL₀ : h₀.get? env.locals = none := Heap.get?_none_of_le F'.above
    have F₂ : Fr h₀ env.locals h₂ (fun z => if z = y then some (.ref D) else m z) := ⟨hn₂, fun b o e => hs₂.extBut b o (fun q => by rw [q, hL₀] at e; cases e) (F'.keep b o e), F'.above⟩
    refine ⟨m', hn.sameBut hs₂ hCL, fun h'' hs'' => fin D h'' _ (F₂.change hs'' hCL hC₀) (fun p hp => ?_) o1⟩
    have z : h₂.get? p.1 = some p.2 := hs₂.extBut _ _ (N' p hp).2.1 (N' p hp).1
    refine ⟨hs''.extBut _ _ ?_ z, (N' p hp).2⟩
    rcases List.mem_cons.mp hp with rfl | hp
    · exact Ne.symm hCD
    · exact offC p hp
end

/-! part B8 -/
theorem fresh_B8 : True := by w_top off; trivial
def one (c : Nat) : Str := ⟨#[c]⟩
theorem one_of (c : Nat) : (⟨#[c]⟩ : Str) = one c := rfl
theorem one_strOf (c : Nat) : one c = strOf [c] := rfl
theorem getD_strOf (S : List Nat) {v : Nat} (hv : v < S.length) : (strOf S).cps.getD v 0 = S[v] := by
  simp [strOf, Array.getD, hv]
theorem at_one {S : List Nat} {c i : Nat} : StrLaws.At (strOf S) ⟨#[c]⟩ (strOf S).length i ↔ ∃ h : i < S.length, S[i] = c := by
  rw [show StrLaws.At (strOf S) ⟨#[c]⟩ (strOf S).length i ↔ (strOf S).cps.toList[i]? = some c from StrLaws.subAt_one (strOf S) c i, strOf_cps, List.getElem?_eq_some_iff]

section
variable {prog : Program} {w : World} {A : Around} {E : Value → Shared → Prop} {s : Shared} {S : List Nat} {c : Nat} {t u : Tok} {Q : Value → Shared → Prop}

theorem index_one (hc : c ∈ S) (hq : Q (.int ((S.idxOf c : Nat) : Int) s.toks) { s with toks := s.toks + 1 }) : wpAny (model prog w) A (call (.builtin "str.index") [.str (strOf S) t, .str ⟨#[c]⟩ u]) Q E s := by
  obtain ⟨hl, e1, e2⟩ := idx_first hc
  rcases StrLaws.occ_head (strOf S) ⟨#[c]⟩ 1 (Nat.le_refl 1) with ⟨h0, hn⟩ | ⟨i, r, h0, hi, hn⟩
  · exact absurd (at_one.mpr ⟨hl, e1⟩) (hn _)
  · obtain ⟨hil, hic⟩ := at_one.mp hi
    have : i = S.idxOf c := by
      have h1 := e2 i hil hic
      false_or_by_contra
      exact hn (S.idxOf c) (by omega) (at_one.mpr ⟨hl, e1⟩)
    subst this
    exact call_gives PySem.F.slot_str_index (typeIs_str _ _ _) PySem.F.entry_str_index (PySem.F.args_str_index_2 _ _) (gives_str_index (strOf S) ⟨#[c]⟩ t u _ r h0) hq

theorem rindex_one (hc : c ∈ S) (hq : Q (.int ((ridx S c : Nat) : Int) s.toks) { s with toks := s.toks + 1 }) : wpAny (model prog w) A (call (.builtin "str.rindex") [.str (strOf S) t, .str ⟨#[c]⟩ u]) Q E s := by
  obtain ⟨hl, e1, e2⟩ := idx_last hc
  rcases StrLaws.last_spec (strOf S) ⟨#[c]⟩ with ⟨h0, hn⟩ | ⟨i, h0, hi, hn⟩
  · exact absurd (at_one.mpr ⟨hl, e1⟩) (hn _)
  · obtain ⟨hil, hic⟩ := at_one.mp hi
    have : i = ridx S c := by
      have h1 := e2 i hil hic
      false_or_by_contra
      exact hn (ridx S c) (by omega) (at_one.mpr ⟨hl, e1⟩)
    subst this
    exact call_gives PySem.F.slot_str_rindex (typeIs_str _ _ _) PySem.F.entry_str_rindex (PySem.F.args_str_rindex_2 _ _) (gives_str_rindex (strOf S) ⟨#[c]⟩ t u _ h0) hq
end

/-! the two patterns -/
def dots : Str := Str.ofString "..."
def pat4 (x y : Nat) : Str := dots ++ one x ++ dots ++ one y ++ dots ++ one x ++ dots ++ one y ++ dots
def pat3 (x y : Nat) : Str := dots ++ one x ++ dots ++ one y ++ dots ++ one x ++ dots
def patOk (want : Str) (cs : List Nat) : Bool := !(Builtin.Str.occurrences want dots 0 want.length 1).isEmpty && Txt.split want dots == ([] :: cs.map (fun c => [c]) ++ [[]]).map strOf && decide (want.length ≤ 100)
def signs : List Nat := [45, 97, 98, 99, 100]
theorem pats4 : (signs.all fun x => signs.all fun y => patOk (pat4 x y) [x, y, x, y]) = true := by decide +kernel
theorem pats3 : (signs.all fun x => signs.all fun y => patOk (pat3 x y) [x, y, x]) = true := by decide +kernel
theorem patOk_out {want : Str} {cs : List Nat} (h : patOk want cs = true) :
    (Builtin.Str.occurrences want (Str.ofString "...") 0 want.length 1).isEmpty = false ∧ Txt.split want (Str.ofString "...") = ([] :: cs.map (fun c => [c]) ++ [[]]).map strOf ∧ want.length ≤ 100 := by
  unfold patOk at h
  simp only [Bool.and_eq_true, beq_iff_eq, decide_eq_true_eq, Bool.not_eq_true'] at h
  exact ⟨h.1.1, h.1.2, h.2⟩
theorem pat4_ok {x y : Nat} (hx : x ∈ signs) (hy : y ∈ signs) : (Builtin.Str.occurrences (pat4 x y) (Str.ofString "...") 0 (pat4 x y).length 1).isEmpty = false ∧ Txt.split (pat4 x y) (Str.ofString "...") = ([] :: ([x, y, x, y]).map (fun c => [c]) ++ [[]]).map strOf ∧ (pat4 x y).length ≤ 100 :=
  patOk_out (List.all_eq_true.mp (List.all_eq_true.mp pats4 x hx) y hy)
theorem pat3_ok {x y : Nat} (hx : x ∈ signs) (hy : y ∈ signs) : (Builtin.Str.occurrences (pat3 x y) (Str.ofString "...") 0 (pat3 x y).length 1).isEmpty = false ∧ Txt.split (pat3 x y) (Str.ofString "...") = ([] :: ([x, y, x]).map (fun c => [c]) ++ [[]]).map strOf ∧ (pat3 x y).length ≤ 100 :=
  patOk_out (List.all_eq_true.mp (List.all_eq_true.mp pats3 x hx) y hy)

theorem strs_item {vs : List Value} {xs : List Str} (h : StrsAre vs xs) : ∀ {i : Nat} {v : Value}, vs[i]? = some v → ∃ x t, xs[i]? = some x ∧ v = .str x t := by
  induction h with
  | nil => intro i v e; simp at e
  | cons x t _ ih =>
    intro i v e
    cases i with
    | zero => simp at e; exact ⟨_, _, by simp, e.symm⟩
    | succ i => simp at e; simpa using ih (by simpa using e)
theorem signs_item {vs : List Value} {cs : List Nat} (h : StrsAre vs (cs.map fun c => (⟨#[c]⟩ : Str))) {i : Nat} {v : Value} (hv : vs[i]? = some v) : ∃ (hi : i < cs.length) (t : Tok), v = .str ⟨#[cs[i]]⟩ t := by
  obtain ⟨x, t, hx, rfl⟩ := strs_item h hv
  rw [List.getElem?_map] at hx
  cases hc : cs[i]? with
  | none => rw [hc] at hx; cases hx
  | some c =>
    obtain ⟨hi, e⟩ := List.getElem?_eq_some_iff.mp hc
    rw [hc] at hx
    exact ⟨hi, t, by rw [e, ← Option.some.inj hx]⟩
theorem len_one (c : Nat) : (one c).length = 1 := rfl
theorem len_dots : dots.length = 3 := by decide
theorem nm_signs {n x : Nat} (h4 : n ≤ 4) (h : ∃ k, k < n ∧ x = 97 + k) : x ∈ signs := by
  obtain ⟨k, hk, rfl⟩ := h
  have : k = 0 ∨ k = 1 ∨ k = 2 ∨ k = 3 := by omega
  rcases this with rfl | rfl | rfl | rfl <;> decide
theorem nm_idx {n k : Nat} (hk : k < n) : (nmOf n).idxOf (97 + k) = k := by
  have hm : 97 + k ∈ nmOf n := List.mem_map.mpr ⟨k, List.mem_range.mpr hk, rfl⟩
  obtain ⟨hl, e1, e2⟩ := idx_first hm
  have key : ∀ i (hi : i < (nmOf n).length), (nmOf n)[i] = 97 + i := fun i hi => by simp [nmOf]
  rw [key _ hl] at e1
  omega
/-- the depth after the first j of those asked -/
def depJ (S SN : List Nat) (x j : Nat) : Nat := (((SN ++ [45]).take j).filter fun y => y != x && isIn S y x).length
theorem depJ_zero (S SN : List Nat) (x : Nat) : depJ S SN x 0 = 0 := by simp [depJ]
theorem depJ_succ {S SN : List Nat} {x j : Nat} (h : j < (SN ++ [45]).length) : depJ S SN x (j + 1) = depJ S SN x j + if (((SN ++ [45])[j] != x) && isIn S (SN ++ [45])[j] x) = true then 1 else 0 := by
  unfold depJ
  rw [List.take_succ_eq_append_getElem h, List.filter_append, List.length_append, List.filter_cons, List.filter_nil]
  split <;> rfl
theorem depJ_all (S SN : List Nat) (x : Nat) : depJ S SN x (SN ++ [45]).length = depthOf S SN x := by
  unfold depJ depthOf
  rw [List.take_length]

/-! part W1 -/
section
theorem fresh_W1 : True := by w_top off; trivial
local macro_rules | `(tactic| walk_at "binaryOp Add ref ref") => `(tactic| refine Stop.mk ?_)
local macro_rules | `(tactic| walk_at "binaryOp Add str str") => `(tactic| (refine add_strT ?hsz ?_; (case hsz => ((try simp only [StrLaws.length_append]); exact Nat.le_of_ble_eq_true rfl)); intro ts' tks' hts'; dsimp only at hts' ⊢))
local macro_rules | `(tactic| walk_at "call builtin:str.index") => `(tactic| refine Stop.mk ?_)
local macro_rules | `(tactic| walk_at "call builtin:str.rindex") => `(tactic| refine Stop.mk ?_)
local macro_rules | `(tactic| walk_at "CompEnd") => `(tactic| refine Stop.mk ?_)
local macro_rules | `(tactic| walk_at "CompSrcT") => `(tactic| refine Stop.mk ?_)
local macro_rules | `(tactic| walk_at "exec Assign cons ListComp") => `(tactic| refine Stop.mk ?_)

local macro_rules | `(tactic| walk_at "execs cons") => `(tactic| (with_reducible refine gen_toks ?_; intro tk htk; (try dsimp only at htk)))
local macro_rules | `(tactic| walk_at "execs nil") => `(tactic| (with_reducible refine gen_toks ?_; intro tk htk; (try dsimp only at htk)))
local macro_rules | `(tactic| k_updF) => `(tactic| (refine' UpdF.head ?a; (case a => assumption)))
theorem names_slice {n : Nat} (h : n = 3 ∨ n = 4) : Txt.slice (Str.ofString "abcd") none (some (n : Int)) = strOf (nmOf n) := by
  rcases h with rfl | rfl <;> decide
theorem LampAt.more {news news' : List (Addr × Obj)} {v : Value} {l : Lamp} (h : LampAt news v l) (hs : ∀ p ∈ news, p ∈ news') : LampAt news' v l := by
  obtain ⟨a, t1, t2, t3, t4, e, hm⟩ := h
  exact ⟨a, t1, t2, t3, t4, e, hs _ hm⟩

/-- the ledger with the cell in front -/
theorem cell_front {h₀ h : Heap} {L al c : Addr} {oc ol : Obj} {v : Option Value} {an : Addr} {on : Obj} {rest : List (Addr × Obj)} {lvs : List Value} {lamps : List Lamp} (N : News h₀ L h ((al, ol) :: rest)) (hoc : (c, oc) ∈ rest) (hd : oc.data = .cell v) (hne : ∀ p ∈ rest, p.1 ≠ al)
    (hon : on.cls = .type "list") (hcls : ∀ p ∈ rest, p ∈ [(an, on), (c, oc)] ∨ p.2.cls = .type "tuple") (hlam : ∀ k, k < lamps.length → LampAt rest (lvs.getD k .none) (lamps.getD k lampD)) :
    ∃ R, News h₀ L h ((c, oc) :: (al, ol) :: R) ∧ c ≠ al ∧ (∀ p ∈ R, p.1 ≠ c) ∧ (∀ p ∈ R, p.1 ≠ al) ∧ (∀ p ∈ R, p.2.cls = .type "list" ∨ p.2.cls = .type "tuple") ∧ ∀ k, k < lamps.length → LampAt R (lvs.getD k .none) (lamps.getD k lampD) := by
  refine ⟨rest.filter fun p => decide (p.1 ≠ c), ?_, hne _ hoc, ?_, ?_, ?_, ?_⟩
  · refine newsSub N fun p hp => ?_
    rcases List.mem_cons.mp hp with rfl | hp
    · exact .tail _ hoc
    · rcases List.mem_cons.mp hp with rfl | hp
      · exact .head _
      · exact .tail _ (List.mem_filter.mp hp).1
  · intro p hp
    simpa using (List.mem_filter.mp hp).2
  · exact fun p hp => hne p (List.mem_filter.mp hp).1
  · intro p hp
    rcases hcls p (List.mem_filter.mp hp).1 with h | h
    · rcases List.mem_cons.mp h with rfl | h
      · exact .inl hon
      · rw [List.mem_singleton.mp h] at hp
        have := (List.mem_filter.mp hp).2
        simp at this
    · exact .inr h
  · intro k hk
    obtain ⟨a, t1, t2, t3, t4, e, hm⟩ := hlam k hk
    refine ⟨a, t1, t2, t3, t4, e, List.mem_filter.mpr ⟨hm, ?_⟩⟩
    have : a ≠ c := by
      rintro rfl
      have h1 := (N _ (.tail _ hoc)).1
      have h2 := (N _ (.tail _ hm)).1
      rw [h1] at h2
      have q : oc = tup _ := Option.some.inj h2
      rw [q] at hd
      cases hd
    simpa using this

theorem nmOf_nodup (n : Nat) : (nmOf n).Nodup := by
  rw [nmOf, List.nodup_iff_pairwise_ne, List.pairwise_map]
  exact List.Pairwise.imp (fun h e => h (by omega)) (List.nodup_range (n := n))

/-- between the turns of the outer loop -/
def AnewInv (nm : Str) (al D aw : Addr) (base : List (Addr × Obj)) (S SN : List Nat) (i : Nat) (m : Str → Option Value) (nx : List (Addr × Obj)) (t : Nat) : Prop :=
  1 ≤ t ∧ (∃ tnm, Has m [(Str.ofString "names", .str nm tnm), (Str.ofString "lamps", .ref al), (Str.ofString "seen", .ref D), (Str.ofString "anew", .ref aw)]) ∧
  ∃ items e' rest, nx = (aw, W.listOf (items : List Value).toArray e') :: rest ∧ (∀ p ∈ base, p ∈ rest) ∧ (∀ p ∈ rest, p ∈ base ∨ p.2.cls = .type "tuple") ∧ (∀ p ∈ rest, p.1 ≠ aw) ∧ items.length = i ∧
    ∀ k, k < i → LampAt rest (items.getD k .none) (anewOf S SN (SN.getD k 0))

/-- between the turns of the inner loop -/
def DepthInv (nm : Str) (al D aw : Addr) (S SN : List Nat) (x j : Nat) (m : Str → Option Value) (t : Nat) : Prop :=
  1 ≤ t ∧ ∃ tnm tx td, Has m [(Str.ofString "names", .str nm tnm), (Str.ofString "lamps", .ref al), (Str.ofString "seen", .ref D), (Str.ofString "anew", .ref aw), (Str.ofString "x", .str ⟨#[x]⟩ tx), (Str.ofString "depth", .int (depJ S SN x j : Int) td)]

theorem sum_ones (l : List Nat) : ((l.map fun c => (⟨#[c]⟩ : Str)).map (·.length)).sum = l.length := by
  induction l with
  | nil => rfl
  | cons a r ih =>
    simp only [List.map_cons, List.sum_cons, List.length_cons, ih]
    show 1 + r.length = r.length + 1
    omega

theorem top_go {w : World} {s₀ : Shared} {mg mb : Str → Option Value} {h₀ : Heap} {env : Env} {L : Addr} {α : Type} {t : Sem α} {Q : α → Shared → Prop} {E : Value → Shared → Prop} {s : Shared}
    (KX : (hd.heap_1 w.params).In h₀) (T : Top view (looseW view []) (ExcName.means s₀.heap) mg mb h₀) (B : Below callerA h₀ [] h₀) (hf : env.frame = some L) (hk : env.scope.kind = .function)
    (h : Cx w (callerA.deeper env) h₀ L 200 → (callerA.deeper env).units < 9000 → (callerA.deeper env).handled = none → wpAny (model Challenge.rw_qu0027_01.row.prog w) (callerA.deeper env) t Q (fun _ _ => False) s) :
    wpAny (model Challenge.rw_qu0027_01.row.prog w) (callerA.deeper env) t Q E s :=
  wpAny_mono (h ⟨s₀, mg, mb, callerA, env, [], h₀, KX, T, B, Around.frames_deeper B.stack, hf, hk, by rw [depth_deeper, depth_caller]; decide, by rw [units_deeper, units_caller]; decide, rfl⟩ (by rw [units_deeper, units_caller]; decide) rfl) (fun _ _ x => x) fun _ _ x => x.elim

local macro_rules | `(tactic| k_qdec) => `(tactic| decide +kernel)
theorem law_holds : PySem.Challenge.rw_qu0027_01.Holds := hd (by
  k_go0
  rename_i w s₀ s₁ mg mb G Y fa o pm doc ho hg KX X V GL T B TE TW w10 w9 M w8 w7 hcd ns hs hlay0 hL1 hr1 hl2 w5 w4 sa vs w1 hL ra w1' r0 hI hr hcond hcond2 K0 hD h1 tk1 F oc dc N0 X0
  clear G X V GL B TE TW M hD X0 hs hlay0 hL1 hr1 hl2 ra w1' r0 hr hcond2
  refine top_go KX T K0 rfl rfl ?_
  intro C hu' hh'
  change oc.data = .cell none at dc
  have h63 : vs.length ≤ 63 := by rw [hI.length]; omega
  try k_fold
  k_steps
  refine Stop.go ?_
  generalize hL0 : s₁.heap.objs.size = L at *
  refine wpAny_mono (lamps_K w _ _ _ _ _ 199 sa vs ns [(L + 1, oc)] _ C F N0 (all1 (.inr ⟨_, dc⟩)) hL hI h63) ?_ (fun _ _ x => x)
  rintro val s' ⟨h2, tk2, news2, rfl, F2, N2, al, an, ws, en, lvs, lamps, e, rest, rfl, rfl, hsub, hcls, hne, hlen, h3, h4, hlam, hok⟩
  clear F N0
  have hoc := hsub _ (.head _)
  obtain ⟨R, N3, hcal, hRc, hRal, hRcls, hRlam⟩ := cell_front N2 hoc dc hne rfl hcls hlam
  clear N2 hsub hcls hne hlam hoc
  have hneC : ∀ p ∈ (al, W.listOf lvs.toArray e) :: R, p.1 ≠ L + 1 := by
    simp only [List.forall_mem_cons]
    exact ⟨fun e => hcal e.symm, hRc⟩
  k_steps
  refine Stop.go ?_
  have hln : lvs.length = 3 ∨ lvs.length = 4 := by omega
  rename Fr s₁.heap L _ _ => F4
  rename News s₁.heap L _ _ => N4
  rw [names_slice hln] at F4
  rw [names_slice hln]
  rw [hlen] at F4 ⊢
  have hRnot : ∀ (cl : String), cl ≠ "list" → cl ≠ "tuple" → ∀ oc : Obj, (∃ v, oc.data = .cell v) → ∀ p ∈ (L + 1, oc) :: (al, W.listOf lvs.toArray e) :: R, NotIt (.type cl) p.2 := by
    intro cl h1 h2 oc hd
    simp only [List.forall_mem_cons]
    refine ⟨.inr hd, .inl (show (Value.type "list") ≠ Value.type cl from fun q => h1 (by cases q; rfl)), fun p hp => ?_⟩
    rcases hRcls p hp with q | q
    · exact .inl (by rw [q]; exact fun q => h1 (by cases q; rfl))
    · exact .inl (by rw [q]; exact fun q => h2 (by cases q; rfl))
  refine wpAny_mono (strip_K w _ _ _ _ _ 195 (strOf (nmOf lamps.length)) _ al e lvs lamps _ _ C F4 N4 (by (try dsimp only); omega) (hRnot "range_iterator" (by decide) (by decide) oc ⟨_, dc⟩) (.tail _ (.head _)) hlen h4 (by show (nmOf lamps.length).toArray.size = _; simp [nmOf]) (fun i hi => (hRlam i hi).more fun p hp => .tail _ (.tail _ hp)) hok) ?_ (fun _ _ x => x)
  rintro val s' ⟨h5, tk5, news5, rfl, F5, N5, rfl, ts, hval⟩
  clear F4 N4
  obtain ⟨S, hS⟩ : ∃ S, S = SU (nmOf lamps.length) lamps 16 := ⟨_, rfl⟩
  rw [strOf_cps, ← hS] at hval
  change val = .str (strOf S) ts at hval
  subst hval
  have hS16 : S.length ≤ 16 := by rw [hS]; exact SU_length _ _ _
  change News s₁.heap L h5 _ at N5
  k_steps
  refine Stop.go ?_
  rename Fr s₁.heap L _ _ => F6
  rename News s₁.heap L _ _ => N6
  rename _ = Data.cell (some _) => dc2
  rename Obj => oc2
  refine wpAny_mono (hours_K w _ _ _ _ _ 199 (strOf (nmOf lamps.length)) _ al e lvs lamps _ _ C F6 N6 (hRnot "range_iterator" (by decide) (by decide) oc2 ⟨_, dc2⟩) (.tail _ (.head _)) hlen h4 (strOf_cps _) (fun i hi => (hRlam i hi).more fun p hp => .tail _ (.tail _ hp)) hok) ?_ (fun _ _ x => x)
  rintro val s' ⟨h7, tk7, news7, rfl, F7, N7, rfl, ts2, hval⟩
  clear F6 N6
  rw [strOf_cps, ← hS] at hval
  change val = .str (strOf S) ts2 at hval
  subst hval
  k_steps
  refine Stop.go ?_
  have hnmS : (strOf (nmOf lamps.length)).cps.size = lamps.length := by show (nmOf lamps.length).toArray.size = _; simp [nmOf]
  refine assign_comp_text F7 (by rfl) (by with_unfolding_all rfl) (by with_unfolding_all rfl) (by decide) (by rfl) (by decide) (by rfl) (by rfl) (by rfl) ?_
  walk_at "eval Name"
  refine ⟨strOf (nmOf lamps.length), _, _, rfl, ?_, by rw [hnmS, sizeLine_eq]; omega, hh', F7, N7, ?_⟩
  · have : lamps.length = 3 ∨ lamps.length = 4 := by omega
    rcases this with q | q <;> rw [q] <;> decide +kernel
  rintro _ ⟨g1, rfl⟩
  rw [hnmS]
  refine comp_turns (fun i ys nx => nx = (L + 1, oc2) :: (al, W.listOf lvs.toArray e) :: R ∧ StrsAre ys ((((nmOf lamps.length).take i).filter fun c => decide (c ∈ S)).map fun c => ⟨#[c]⟩)) ⟨rfl, by simp only [List.take_zero, List.filter_nil, List.map_nil]; exact .nil⟩ ?_ ?_
  · rintro i ys nx hi ⟨rfl, hys⟩ v I oI C9 oC D m₂ h8 tk8 E' ⟨c, u, hc, rfl⟩ hNs hk F8 N8 off ne
    clear F7 N7
    have hi' : i < (nmOf lamps.length).length := by rw [nmOf_len]; exact hi
    have hcc : (nmOf lamps.length)[i] = c := by
      have : (nmOf lamps.length)[i]? = some c := by simpa [strOf] using hc
      rw [List.getElem?_eq_getElem hi'] at this
      exact Option.some.inj this
    have htk9 : (nmOf lamps.length).take (i + 1) = (nmOf lamps.length).take i ++ [c] := by rw [List.take_succ_eq_append_getElem hi', hcc]
    have hfound := StrLaws.found_one (strOf S) c
    rw [strOf_cps] at hfound
    k_steps
    · refine Stop.go ?_
      rename _ = true => hq
      rw [hq] at hfound
      refine LCg.CompEnd.intro F8 N8 _ (fun p hp => hp) off trivial ⟨rfl, ?_⟩
      rw [htk9, List.filter_append, List.filter_cons, if_neg (by rw [← hfound]; simp), List.filter_nil, List.append_nil]
      exact hys
    · refine Stop.go ?_
      rename _ = false => hq
      rw [hq] at hfound
      refine LCg.CompEnd.intro F8 N8 _ (fun p hp => hp) off trivial ⟨rfl, ?_⟩
      rw [htk9, List.filter_append, List.filter_cons, if_pos (by rw [← hfound]; simp), List.filter_nil, List.map_append]
      exact kct_snoc hys
  · rintro ys nx ⟨rfl, hys⟩ D h8 tk8 F8 N8 offD
    clear F7 N7
    rw [List.take_of_length_le (by rw [nmOf_len]; exact Nat.le_refl _)] at hys
    obtain ⟨SN, hSN⟩ : ∃ SN, SN = (nmOf lamps.length).filter fun c => decide (c ∈ S) := ⟨_, rfl⟩
    rw [← hSN] at hys
    have hW : Word S := by rw [hS]; exact SU_word h4 hok
    have hsn : ∀ x ∈ S, x = 45 ∨ x ∈ SN := by rw [hSN, hS]; exact SU_mem h4 hok
    have hin : ∀ x ∈ SN, x ∈ S := fun x hx => by rw [hSN] at hx; simpa using (List.mem_filter.mp hx).2
    have hnm : ∀ x ∈ SN, ∃ k, k < lamps.length ∧ x = 97 + k := fun x hx => by
      rw [hSN] at hx
      obtain ⟨k, hk, e⟩ := List.mem_map.mp (List.mem_filter.mp hx).1
      exact ⟨k, List.mem_range.mp hk, e.symm⟩
    have hnd : SN.Nodup := by
      rw [hSN]
      exact (nmOf_nodup lamps.length).filter _
    have h45 : 45 ∉ SN := fun h => by
      obtain ⟨k, _, e⟩ := hnm 45 h
      omega
    have hl4 : SN.length ≤ 4 := by
      rw [hSN]
      refine Nat.le_trans (List.length_filter_le _ _) ?_
      rw [nmOf_len]; exact h4
    have hshort := hW.short hsn
    have hylen : ys.length = SN.length := by rw [hys.length, List.length_map]
    have hgl : (strOf S).length = S.length := strOf_len S
    replace N8 : News s₁.heap L h8 ((D, W.listOf ys.toArray ys.length) :: (L + 1, oc2) :: (al, W.listOf lvs.toArray e) :: R) := N8
    dsimp only
    k_steps
    refine Stop.go ?_
    rename Fr s₁.heap L _ _ => F9
    rename News s₁.heap L _ _ => N9
    rename _ ∧ _ ∧ _ ∧ AllLt _ R => lt9
    rename_i tk9 htk9 aw h9 h10 tk10 htk10
    obtain ⟨lt91, lt92, lt93, lt94⟩ := lt9
    refine wpAny_For ?_
    k_steps
    refine Stop.go ?_
    obtain ⟨base, hbase⟩ : ∃ base, base = (D, W.listOf ys.toArray ys.length) :: (L + 1, oc2) :: (al, W.listOf lvs.toArray e) :: R := ⟨_, rfl⟩
    have hbD : (D, W.listOf ys.toArray ys.length) ∈ base := by rw [hbase]; exact .head _
    have hbc : (L + 1, oc2) ∈ base := by rw [hbase]; exact .tail _ (.head _)
    have hbl : (al, W.listOf lvs.toArray e) ∈ base := by rw [hbase]; exact .tail _ (.tail _ (.head _))
    have hbR : ∀ p ∈ R, p ∈ base := fun p hp => by rw [hbase]; exact .tail _ (.tail _ (.tail _ hp))
    have hbn : ∀ (cl : String), cl ≠ "list" → cl ≠ "tuple" → ∀ p ∈ base, NotIt (.type cl) p.2 := by
      intro cl h1 h2 p hp
      rw [hbase] at hp
      rcases List.mem_cons.mp hp with rfl | hp
      · exact .inl (show (Value.type "list") ≠ Value.type cl from fun q => h1 (by cases q; rfl))
      · exact hRnot cl h1 h2 oc2 ⟨_, dc2⟩ p hp
    have hblt : ∀ p ∈ base, p.1 < aw := by
      rw [hbase]
      simp only [List.forall_mem_cons]
      exact ⟨lt91, lt92, lt93, kst_ltOf lt94⟩
    replace N9 : News s₁.heap L _ ((aw, W.listOf ([] : List Value).toArray 0) :: base) := hbase ▸ N9
    refine iter_list_T (AnewInv (strOf (nmOf lamps.length)) al D aw base S SN) ?_ hh' rfl rfl F9 N9 (.tail _ hbD) ?_ ?_ ?_ ?_
    · rintro i m₁ nx t t' htt ⟨g1, g2⟩
      exact ⟨Nat.le_trans g1 htt, g2⟩
    · rintro i m₁ nx t ⟨g1, g2, items, e', rest, rfl, q1, q2, -⟩
      refine ⟨fun p hp => ?_, .tail _ (q1 _ hbD)⟩
      rcases List.mem_cons.mp hp with rfl | hp
      · exact .inl (show (Value.type "list") ≠ Value.type "list_iterator" by decide)
      · rcases q2 p hp with hp | hp
        · exact hbn _ (by decide) (by decide) p hp
        · exact .inl (by rw [hp]; decide)
    · exact ⟨by (try dsimp only); omega, ⟨_, all4 rfl rfl rfl rfl⟩, [], 0, base, rfl, fun _ h => h, fun p hp => .inl hp, fun p hp => Nat.ne_of_lt (hblt p hp), rfl, fun k hk => absurd hk (Nat.not_lt_zero k)⟩
    · rintro i v m₁ nx h tk I o hv ⟨g1, ⟨tnm, hm⟩, items, e', rest, rfl, q1, q2, q3, q4, q5⟩ ho hoff F10 N10
      obtain ⟨hi, tx, rfl⟩ := signs_item hys hv
      have hxS : SN[i] ∈ SN := List.getElem_mem hi
      have hgx : SN.getD i 0 = SN[i] := by simp [List.getD, hi]
      generalize SN[i] = x at *
      replace F10 := hm.fr1 F10
      simp only [kstB] at F10
      clear F9 N9
      change Fr s₁.heap L h _ at F10
      change News s₁.heap L h _ at N10
      k_steps
      refine Stop.go ?_
      refine wpAny_For ?_
      k_steps
      refine Stop.go ?_
      rename Fr s₁.heap L _ _ => F11
      rename News s₁.heap L _ _ => N11
      rename _ ∧ _ ∧ AllLt _ rest => lt11
      rename_i tk11 htk11 l11 h11
      obtain ⟨v45, t45, hv45, N12⟩ : ∃ v45 t45, v45 = Value.str (Str.ofString "-") t45 ∧ News s₁.heap L h11 ((l11, W.listOf [v45].toArray 0) :: (I, o) :: (aw, W.listOf items.toArray e') :: rest) := ⟨_, _, rfl, N11⟩
      clear N11
      have hDm : (D, W.listOf ys.toArray ys.length) ∈ (l11, W.listOf [v45].toArray 0) :: (I, o) :: (aw, W.listOf items.toArray e') :: rest := .tail _ (.tail _ (.tail _ (q1 _ hbD)))
      refine kmk_add_lit (zs := ys ++ [v45]) F11 N12 (isList_news (items := ys) N12 hDm) (isList_news (items := [v45]) N12 (.head _)) rfl ?_ (by simp only [sizeLine_eq, List.length_cons, List.length_nil]; omega)
      intro D2 h12 F12 N13 lt13
      obtain ⟨NX, hNX⟩ : ∃ NX, NX = (D2, W.listOf (ys ++ [v45]).toArray 0) :: (I, o) :: (aw, W.listOf items.toArray e') :: rest := ⟨_, rfl⟩
      have N14 : News s₁.heap L h12 NX := newsSub N13 (by
        rw [hNX]
        simp only [List.forall_mem_cons]
        exact ⟨by k_mem, by k_mem, by k_mem, fun p hp => .tail _ (.tail _ (.tail _ (.tail _ hp)))⟩)
      clear N12 N13 F11
      have hnx : ∀ p ∈ base, p ∈ NX := fun p hp => by rw [hNX]; exact .tail _ (.tail _ (.tail _ (q1 p hp)))
      have hcX := hnx _ hbc
      have hlX := hnx _ hbl
      have hlX2 : ∀ z, (al, W.listOf lvs.toArray e) ∈ z :: NX := fun z => .tail _ hlX
      have hys2 : StrsAre (ys ++ [v45]) ((SN ++ [45]).map fun c => (⟨#[c]⟩ : Str)) := by
        rw [hv45, List.map_append]
        exact kct_snoc hys
      k_steps
      refine Stop.go ?_
      rename Fr s₁.heap L _ _ => F13
      rename News s₁.heap L _ _ => N15
      refine iter_list_F (DepthInv (strOf (nmOf lamps.length)) al D aw S SN x) ?_ hh' rfl rfl F13 N15 (by rw [hNX]; exact .head _) ?_ ?_ ?_
      · rintro j m₁ t t' htt ⟨g1, g2⟩
        exact ⟨Nat.le_trans g1 htt, g2⟩
      · exact ⟨by (try dsimp only); omega, tnm, tx, _, all6 rfl rfl rfl rfl rfl rfl⟩
      · rintro j v m₁ h tk I2 o2 hv2 ⟨g1, tnm, tx, td, hm⟩ hoff2 F14 N16
        obtain ⟨hj, ty, rfl⟩ := signs_item hys2 hv2
        have hds := depJ_succ (S := S) (x := x) hj
        have hym : (SN ++ [45])[j] ∈ SN ++ [45] := List.getElem_mem hj
        generalize (SN ++ [45])[j] = y at *
        replace F14 := hm.fr1 F14
        simp only [kstB] at F14
        clear F13 N15
        change Fr s₁.heap L h _ at F14
        change News s₁.heap L h _ at N16
        have hxs : x ∈ signs := nm_signs h4 (hnm x hxS)
        have hysg : y ∈ signs := by
          rcases List.mem_append.mp hym with q | q
          · exact nm_signs h4 (hnm y q)
          · rw [List.mem_singleton.mp q]; decide
        obtain ⟨p41, p42, p43⟩ := pat4_ok hxs hysg
        obtain ⟨p31, p32, p33⟩ := pat3_ok hysg hxs
        k_steps
        · refine Stop.go ?_
          rename (_ != _) = true => hq
          have hyx : y ≠ x := by
            rintro rfl
            simp at hq
          refine wpAny_with_toks (n := 1) (by (try dsimp only); omega) (wpAny_mono (ellipsis_K w _ _ _ _ _ 199 (pat4 x y) _ _ [x, y, x, y] S ((I2, o2) :: NX) _ C F14 N16 p43 (by omega) (by simp) p41 p42) ?_ (fun _ _ x => x))
          rintro v s' ⟨h15, tk15, news15, rfl, F15, N17, rfl, rfl⟩ htk15
          have hno4 : [x, y, x, y].isSublist S = false := by
            cases hq9 : [x, y, x, y].isSublist S with
            | false => rfl
            | true => exact absurd (List.isSublist_iff_sublist.mp hq9) (hW.abab x y (fun e => hyx e.symm))
          rw [hno4]
          clear F14 N16 p41 p42 p43
          dsimp only at htk15
          k_steps
          refine Stop.go ?_
          rename Fr s₁.heap L _ _ => F16
          rename News s₁.heap L _ _ => N18
          refine wpAny_with_toks (n := 1) (by (try dsimp only); omega) (wpAny_mono (ellipsis_K w _ _ _ _ _ 199 (pat3 y x) _ _ [y, x, y] S ((I2, o2) :: NX) _ C F16 N18 p33 (by omega) (by simp) p31 p32) ?_ (fun _ _ x => x))
          rintro v s' ⟨h17, tk17, news17, rfl, F17, N19, rfl, rfl⟩ htk17
          clear F16 N18 p31 p32 p33
          dsimp only at htk17
          change depJ S SN x (j + 1) = depJ S SN x j + if (y != x && [y, x, y].isSublist S) = true then 1 else 0 at hds
          rw [show (y != x) = true by simpa using hyx, Bool.true_and] at hds
          cases hin3 : [y, x, y].isSublist S with
          | false =>
            rw [hin3] at hds
            replace hds : depJ S SN x (j + 1) = depJ S SN x j := by rw [hds, if_neg (by decide)]; rfl
            k_steps
            refine Stop.go ?_
            rename Fr s₁.heap L _ _ => F18
            rename News s₁.heap L _ _ => N20
            rw [← hds] at F18
            exact TEnd.mk F18 N20 ⟨rfl, by (try dsimp only); omega, _, _, _, all6 rfl rfl rfl rfl rfl rfl⟩
          | true =>
            rw [hin3] at hds
            rw [if_pos rfl] at hds
            k_steps
            · refine Stop.go ?_
              rename Fr s₁.heap L _ _ => F18
              rename News s₁.heap L _ _ => N20
              rename (_ != _) = true => hq2
              have hy45 : y ≠ 45 := by
                rintro rfl
                rw [show ((⟨#[45]⟩ : Str) != Str.ofString "-") = false by decide] at hq2
                cases hq2
              have hyS : y ∈ SN := by
                rcases List.mem_append.mp hym with q | q
                · exact q
                · exact absurd (List.mem_singleton.mp q) hy45
              obtain ⟨px, hpx, ex⟩ := hnm x hxS
              obtain ⟨py, hpy, ey⟩ := hnm y hyS
              have hxn : x ∈ nmOf lamps.length := by rw [ex]; exact List.mem_map.mpr ⟨px, List.mem_range.mpr hpx, rfl⟩
              have hyn : y ∈ nmOf lamps.length := by rw [ey]; exact List.mem_map.mpr ⟨py, List.mem_range.mpr hpy, rfl⟩
              have hix : (nmOf lamps.length).idxOf x = px := by rw [ex]; exact nm_idx hpx
              have hiy : (nmOf lamps.length).idxOf y = py := by rw [ey]; exact nm_idx hpy
              refine index_one hyn ?_
              rw [hiy]
              dsimp only
              refine item_int N20 (hlX2 _) (by omega) (by omega) (by omega) ?_ (by with_unfolding_all rfl)
              rw [show ((py : Int)).toNat = py from rfl]
              k_steps
              refine Stop.go ?_
              refine index_one hxn ?_
              rw [hix]
              dsimp only
              refine item_int N20 (hlX2 _) (by omega) (by omega) (by omega) ?_ (by with_unfolding_all rfl)
              rw [show ((px : Int)).toNat = px from rfl]
              k_steps
              refine Stop.go ?_
              have hlq : ∀ k, k < lamps.length → LampAt ((I2, o2) :: NX) (lvs.getD k .none) (lamps.getD k lampD) := fun k hk => (hRlam k hk).more fun p hp => .tail _ (hnx p (hbR p hp))
              refine wpAny_with_toks (n := 1) (by (try dsimp only); omega) (wpAny_mono (covers_K w _ _ _ _ _ 199 _ _ _ _ _ ((I2, o2) :: NX) _ C F18 N20 (hlq py hpy) (hlq px hpx)) ?_ (fun _ _ x => x))
              rintro v s' ⟨h19, tk19, news19, rfl, F19, N21, rfl, rfl⟩ htk19
              have hcv : coversB (lamps.getD py lampD) (lamps.getD px lampD) (decide ((⟨#[x]⟩ : Str).cps.toList < (⟨#[y]⟩ : Str).cps.toList)) = true := by
                have hlt : decide ((⟨#[x]⟩ : Str).cps.toList < (⟨#[y]⟩ : Str).cps.toList) = decide (px < py) := by
                  apply decide_eq_decide.mpr
                  show ([x] : List Nat) < [y] ↔ _
                  rw [ex, ey]
                  simp [List.cons_lt_cons_iff]
                rw [hlt]
                refine SU_covers h4 hok hpx hpy (fun e => hyx (by rw [ex, ey, e])) ?_
                rw [← ex, ← ey, ← hS]
                exact List.isSublist_iff_sublist.mp hin3
              rw [hcv]
              clear F18 N20
              dsimp only at htk19
              k_steps
              refine Stop.go ?_
              rename Fr s₁.heap L _ _ => F18
              rename News s₁.heap L _ _ => N20
              rw [show (depJ S SN x j : Int) + 1 = (depJ S SN x (j + 1) : Int) by rw [hds]; omega] at F18
              exact TEnd.mk F18 N20 ⟨rfl, by (try dsimp only); omega, _, _, _, all6 rfl rfl rfl rfl rfl rfl⟩
            · refine Stop.go ?_
              rename Fr s₁.heap L _ _ => F18
              rename News s₁.heap L _ _ => N20
              rw [show (depJ S SN x j : Int) + 1 = (depJ S SN x (j + 1) : Int) by rw [hds]; omega] at F18
              exact TEnd.mk F18 N20 ⟨rfl, by (try dsimp only); omega, _, _, _, all6 rfl rfl rfl rfl rfl rfl⟩
        · refine Stop.go ?_
          rename (_ != _) = false => hq
          have hyx : y = x := by
            have := congrArg (fun s : Str => s.cps.toList) (bne_eq_false_iff_eq.mp hq)
            simpa using this
          replace hds : depJ S SN x (j + 1) = depJ S SN x j := by rw [hds, hyx, show (x != x) = false by simp, Bool.false_and, if_neg (by decide)]; rfl
          rw [← hds] at F14
          exact TEnd.mk F14 N16 ⟨rfl, by (try dsimp only); omega, _, _, _, all6 rfl rfl rfl rfl rfl rfl⟩
      · rintro m₁ h tk ⟨g1, tnm, tx, td, hm⟩ F14 N16
        rw [show (ys ++ [v45]).length = (SN ++ [45]).length by simp [hylen], depJ_all] at hm
        replace F14 := hm.fr F14
        simp only [kstB] at F14
        clear F13 N15
        rw [hNX] at N16
        change Fr s₁.heap L h _ at F14
        change News s₁.heap L h _ at N16
        have hxm := hin x hxS
        have oka := (anew_ok hW hsn hin hnd h45 hl4 x hxS).1
        have hcR := q1 _ hbc
        k_steps
        refine Stop.go ?_
        refine index_one hxm ?_
        dsimp only
        k_steps
        refine Stop.go ?_
        refine rindex_one hxm ?_
        dsimp only
        k_steps
        refine Stop.go ?_
        rename Fr s₁.heap L _ _ => F15
        rename News s₁.heap L _ _ => N17
        rename _ ∧ _ ∧ _ ∧ AllLt _ rest => lt15
        rename_i D6 h15
        obtain ⟨lt151, lt152, lt153, lt154⟩ := lt15
        replace lt154 := kst_ltOf lt154
        have e2 : ((ridx S x : Nat) : Int) + 1 = ((anewOf S SN x).out : Int) := by show _ = ((ridx S x + 1 : Nat) : Int); omega
        have e3 : (1 : Int) + ((depthOf S SN x : Nat) : Int).fmod 4 = ((anewOf S SN x).share : Int) := by
          rw [Int.fmod_eq_emod_of_nonneg _ (by decide)]
          show _ = ((1 + depthOf S SN x % 4 : Nat) : Int)
          omega
        rw [e2, e3] at N17
        obtain ⟨t1, t2, t3, t4, N18⟩ : ∃ t1 t2 t3 t4, News s₁.heap L h15 ((D6, tup [.int ((anewOf S SN x).lit : Int) t1, .int ((anewOf S SN x).out : Int) t2, .int ((anewOf S SN x).share : Int) t3, .int ((anewOf S SN x).value : Int) t4]) :: (D2, W.listOf (ys ++ [v45]).toArray 0) :: (I, o) :: (aw, W.listOf items.toArray e') :: rest) := ⟨_, _, _, _, N17⟩
        clear N17
        refine append_h F15 (newsFront [_, _, _] N18) ?_ (by omega) ?_
        · simp only [List.cons_append, List.nil_append, List.forall_mem_cons]
          exact ⟨Nat.ne_of_gt lt153, Nat.ne_of_gt (lt13 _ (.tail _ (.tail _ (.head _)))), fun e => hoff _ (.head _) e.symm, q3⟩
        intro h16 F16 N19
        simp only [List.cons_append, List.nil_append] at N19
        clear F15 N18
        k_steps
        refine Stop.go ?_
        rename Fr s₁.heap L _ _ => F17
        rename News s₁.heap L _ _ => N20
        refine TEnd.mk F17 (newsFront [_] (newsSub (l' := (aw, W.listOf (items ++ [Value.ref D6]).toArray (e' + 1)) :: (I, o) :: (D6, tup [.int ((anewOf S SN x).lit : Int) t1, .int ((anewOf S SN x).out : Int) t2, .int ((anewOf S SN x).share : Int) t3, .int ((anewOf S SN x).value : Int) t4]) :: rest) N20 ?_)) ⟨by (try dsimp only); omega, ⟨_, all4 rfl rfl rfl rfl⟩, items ++ [Value.ref D6], _, _, rfl, ?_, ?_, ?_, ?_, ?_⟩
        · simp only [List.forall_mem_cons]
          exact ⟨by k_mem, by k_mem, by k_mem, fun p hp => .tail _ (.tail _ (.tail _ (.tail _ hp)))⟩
        · exact fun p hp => .tail _ (q1 p hp)
        · intro p hp
          rcases List.mem_cons.mp hp with rfl | hp
          · exact .inr rfl
          · exact q2 p hp
        · simp only [List.append_eq, List.cons_append, List.nil_append, List.forall_mem_cons]
          exact ⟨Nat.ne_of_gt lt153, q3⟩
        · simp [q4]
        · intro k hk
          by_cases hki : k < i
          · rw [List.getD_eq_getElem?_getD, List.getElem?_append_left (by omega), ← List.getD_eq_getElem?_getD]
            exact (q5 k hki).more fun p hp => .tail _ hp
          · have hke : k = i := by omega
            have e1 : (items ++ [Value.ref D6]).getD k Value.none = .ref D6 := by
              rw [List.getD_eq_getElem?_getD, List.getElem?_append_right (by omega), show k - items.length = 0 by omega]; rfl
            rw [e1, hke, hgx]
            exact ⟨D6, _, _, _, _, rfl, .head _⟩
    · rintro m₁ nx h tk ⟨g1, ⟨tnm, hm⟩, items, e', rest, rfl, q1, q2, q3, q4, q5⟩ F10 N10
      replace F10 := hm.fr F10
      simp only [kstB] at F10
      clear F9 N9
      change Fr s₁.heap L h _ at F10
      change News s₁.heap L h _ at N10
      have hcR := q1 _ hbc
      have hDR := q1 _ hbD
      rw [hylen] at q4 q5
      have hjoin : Txt.join (Str.ofString "") (SN.map fun c => (⟨#[c]⟩ : Str)) = strOf SN := by
        rw [eq_of_beq (join_plain_closes _ _)]
        have := join_nil_signs (strOf SN)
        rw [show PyProof.Rows.signs (strOf SN) = SN.map fun c => (⟨#[c]⟩ : Str) from by unfold PyProof.Rows.signs; rw [strOf_cps]] at this
        rw [← this]; rfl
      k_steps
      refine wpAny_with_toks (n := 1) (by (try dsimp only); omega) (join_list (isList_news (items := ys) N10 (.tail _ hDR)) (by rw [List.toList_toArray]; exact hys) (by
        rw [sum_ones, List.length_map]
        simp only [show (Str.ofString "").length = 0 from rfl]
        omega) ?_)
      intro t20 k20 htk20
      rw [hjoin]
      dsimp only at htk20
      k_steps
      refine Stop.go ?_
      have hmapg : ∀ i, i < SN.length → (SN.map (anewOf S SN)).getD i lampD = anewOf S SN (SN.getD i 0) := fun i hi => by simp [List.getD, hi]
      refine wpAny_mono (strip_K w _ _ _ _ _ 195 (strOf SN) _ aw e' items (SN.map (anewOf S SN)) ((aw, W.listOf items.toArray e') :: rest) _ C F10 N10 (by (try dsimp only); omega) ?_ (.head _) (by rw [List.length_map]; exact q4) (by rw [List.length_map]; exact hl4) (by rw [List.length_map]; show SN.toArray.size = _; simp) ?_ ?_) ?_ (fun _ _ x => x)
      · intro p hp
        rcases List.mem_cons.mp hp with rfl | hp
        · exact .inl (show (Value.type "list") ≠ Value.type "range_iterator" by decide)
        · rcases q2 p hp with hp | hp
          · exact hbn _ (by decide) (by decide) p hp
          · exact .inl (by rw [hp]; decide)
      · intro i hi
        rw [List.length_map] at hi
        rw [hmapg i hi]
        exact (q5 i hi).more fun p hp => .tail _ hp
      · intro l hl
        obtain ⟨x, hx, rfl⟩ := List.mem_map.mp hl
        exact (anew_ok hW hsn hin hnd h45 hl4 x hx).1
      rintro val s' ⟨h21, tk21, news21, rfl, F21, N21, rfl, ts21, hval⟩
      rw [strOf_cps, anew_strip hW hsn hin hnd h45 hl4] at hval
      change val = .str (strOf S) ts21 at hval
      subst hval
      clear F10 N10
      k_steps)
end
end Mine

theorem PySem.Challenge.cw_qu0027_01_holds : PySem.Challenge.rw_qu0027_01.Holds :=
  Mine.law_holds

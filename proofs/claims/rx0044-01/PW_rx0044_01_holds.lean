import PyProof.Rows.All
import Wide.All
import OpenK.AllK
import Wide.FinOn
import Lean
import PySem.Challenge.RW_rx0044_01
open PySem PySem.W PySem.Calls PyProof.Rows
set_option Elab.async false
set_option maxRecDepth 100000
set_option maxHeartbeats 8000000
namespace Mine
theorem split_same : @String.splitOn = @String.splitOn := rfl
name_quick tw1620339239838986703 for String.splitOn by split_same
name_quick tw6733733256287894996 for String.splitOn by split_same
name_quick tw8075568018651887793 for String.splitOn by split_same
name_quick tw4819652392690640022 for String.splitOn by split_same
name_quick tw14979626087600564940 for String.splitOn by split_same
name_quick tw5334911000542852805 for String.splitOn by split_same
name_quick tw5152614393039654373 for String.splitOn by split_same
name_quick tw1285511271290510102 for String.splitOn by split_same
name_quick tw16089473817093885840 for String.splitOn by split_same
name_quick tw2478078296215019888 for String.splitOn by split_same
name_quick tw4071324889030633612 for String.splitOn by split_same
name_quick tw14761518105344179592 for String.splitOn by split_same
name_quick tw1650756239964940038 for String.splitOn by split_same
name_quick tw383478444716035976 for String.splitOn by split_same
name_quick tw8300267637197109095 for String.splitOn by split_same
name_quick tw1649557021532216605 for String.splitOn by split_same
name_quick tw12700139031502230420 for String.splitOn by split_same
name_quick tw8303831635834835207 for String.splitOn by split_same
name_quick tw14487725735874088081 for String.splitOn by split_same
name_quick tw3202819846352761355 for String.splitOn by split_same
name_quick tw11416177751878317205 for String.splitOn by split_same
name_quick tw4388067698380316889 for String.splitOn by split_same
name_quick tw11270796479367742343 for String.splitOn by split_same
name_quick tw6122645084068987007 for String.splitOn by split_same
name_quick tw16741492637210864865 for String.splitOn by split_same
name_quick tw8537084889766193716 for String.splitOn by split_same
name_quick tw2039238271031011813 for String.splitOn by split_same
name_quick tw10205541121877940668 for String.splitOn by split_same
name_quick tw16804044748790271530 for String.splitOn by split_same
name_quick tw15742981410569661332 for String.splitOn by split_same
name_quick tw11452132507678324671 for String.splitOn by split_same
name_quick tw5706481520468235054 for String.splitOn by split_same
name_quick tw11543547407058413889 for String.splitOn by split_same
name_quick tw4444965560193506482 for String.splitOn by split_same
name_quick tw4090926877573551719 for String.splitOn by split_same
name_quick tw2408619945344806742 for String.splitOn by split_same
name_quick tw12635297910168745909 for String.splitOn by split_same
name_quick tw15480198773659482676 for String.splitOn by split_same
name_quick tw13512673800721320934 for String.splitOn by split_same
name_quick tw4636218855388986860 for String.splitOn by split_same
open_top hd for PySem.Challenge.rw_rx0044_01
theorem fill : (PySem.Challenge.rw_rx0044_01 = PySem.Challenge.rw_rx0044_01) ∧ (hd.heap_39 = hd.heap_39) := by
  w_top off
  k_fill
  exact ⟨rfl, rfl⟩
theorem reset : True := by
  w_top off
  trivial
/-- the written part stands, and the top's facts -/
structure Gd (w : World) (mean : ExcName → Option Value) (mg mb : Str → Option Value) (h : Heap) : Prop where
  kin : (hd.heap_39 w.params).In h
  top : Top hd.view_39 (looseW hd.view_39 [Str.ofString "_twin_re_1", Str.ofString "_special_chars_map"]) mean mg mb h

theorem Gd.keeps {w : World} {mean : ExcName → Option Value} {mg mb : Str → Option Value} {h h' : Heap} (G : Gd w mean mg mb h) (k : h.StaysIn h') : Gd w mean mg mb h' :=
  ⟨G.kin.keeps k, G.top.keeps k⟩

/-- room: k more calls deep -/
structure Ok (A : Around) (k : Nat) : Prop where
  hh : A.handled = none
  dp : A.depth + k < 900
  un : A.units + 20 * k < 9000

theorem Ok.deeper {A : Around} {k : Nat} {env : Env} (o : Ok A (k + 1)) : Ok (A.deeper env) k := by
  refine ⟨o.hh, ?_, ?_⟩
  · have := o.dp; show A.depth + 1 + k < 900; omega
  · have := o.un; show A.units + 3 + 20 * k < 9000; omega
theorem Ok.in1 {A : Around} {k : Nat} (o : Ok A (k + 1)) : Ok A.in1 k := by
  refine ⟨o.hh, ?_, ?_⟩
  · have := o.dp; show A.depth + k < 900; omega
  · have := o.un; show A.units + 1 + 20 * k < 9000; omega
theorem Ok.le {A : Around} {k j : Nat} (o : Ok A k) (h : j ≤ k) : Ok A j := by
  refine ⟨o.hh, ?_, ?_⟩
  · have := o.dp; omega
  · have := o.un; omega
theorem Ok.room {A : Around} {k : Nat} (o : Ok A k) : A.depth < recursionLimit := by
  have := o.dp; show A.depth < 1000; omega
theorem Ok.units {A : Around} {k : Nat} (o : Ok A k) : A.units < cLine := by
  have := o.un; show A.units < 9900; omega

/-- all but the listed stays -/
def StayBut (as : List Addr) (h h' : Heap) : Prop := ∀ b o, h.get? b = some o → b ∉ as → h'.get? b = some o
theorem StayBut.refl {as : List Addr} {h : Heap} : StayBut as h h := fun _ _ e _ => e
theorem StayBut.trans {as : List Addr} {h h' h'' : Heap} (x : StayBut as h h') (y : StayBut as h' h'') : StayBut as h h'' := fun b o e n => y b o (x b o e n) n

section
variable {prog : Program} {w : World} {A : Around} {s : Shared} {h₀ : Heap} {mean : ExcName → Option Value} {mg mb : Str → Option Value}
  {R : Result → Shared → Prop} {name qual : Str} {params : Arguments} {body : List Stmt} {scope : Scope} {dV kV doc pm cdv ct oc : Value} {an od : Option Addr} {osl : Array (Option Value)} {f : Addr} {args : Args} {binds : List (Str × Value)}

theorem gd_hide (G : Gd w mean mg mb h₀) (st : h₀.StaysIn s.heap) (as : List (Addr × Obj)) (hN : ∀ p ∈ as, s.heap.get? p.1 = some p.2 ∧ h₀.get? p.1 = none) :
    Gd w mean mg mb (hideAll s.heap (as.map (·.1))) := by
  refine G.keeps fun b o e => hideAll_get _ (st b o e) fun q => ?_
  obtain ⟨p, hp, rfl⟩ := List.mem_map.mp q
  rw [(hN p hp).2] at e; cases e

theorem enter (hroom : A.depth < recursionLimit) (G : Gd w mean mg mb h₀) (st : h₀.StaysIn s.heap) (as : List (Addr × Obj)) (hN : ∀ p ∈ as, s.heap.get? p.1 = some p.2 ∧ h₀.get? p.1 = none)
    (ho : (hd.heap_39 w.params).lookup f = some ⟨oc, od, .func (fnOf name qual params body scope dV kV doc pm an cdv ct), osl⟩) (hcd : codeIn (hd.heap_39 w.params) cdv qual = true)
    (hbind : BindsTo s (fnOf name qual params body scope dV kV doc pm an cdv ct) args binds) (hloc : ∀ y ∈ binds, scope.names.lookup y.1 = some .local)
    (h : ∀ g L' h₁, Gd w mean mg mb g → StayBut (as.map (·.1)) s.heap g → (∀ a ∈ as, g.get? a.1 = none) → Fr g L' h₁ (fun y => binds.reverse.lookup y) → News g L' h₁ as →
      wpAny (model prog w) (A.deeper (envOf qual scope L' f cdv)) (execs body (envOf qual scope L' f cdv))
        (fun fl s' => R (.ok (.ret (match fl with | .ret v => v | _ => .none))) s') (fun _ _ => False) { s with heap := h₁, toks := s.toks + binds.length })
    (hco : scope.isCoroutine = false) (hgen : scope.isGenerator = false) (hk : scope.kind = .function)
    (hcell : ∀ x ∈ scope.names, x.2 ≠ .cell) : codeAny (model prog w) A (.call (.ref f) args) R s := by
  refine codeAny_call_def (fd := fnOf name qual params body scope dV kV doc pm an cdv ct) (body := body) (binds := binds) hroom ((G.kin.keeps st) _ _ ho) rfl (G.top.nolimit.keeps st) (codeRec_of (G.kin.keeps st) hcd) rfl hbind hcell hloc (fun h₁ hns hk₁ => ?_) hco hgen hk
  refine wpAny_mono (h (hideAll s.heap (as.map (·.1))) s.heap.objs.size h₁ (gd_hide G st as hN) (fun b o e n => hideAll_get _ e n) (fun a ha => hideAll_none _ (List.mem_map_of_mem ha))
    ⟨hns, fun b o e => hk₁ b o (of_hideAll _ e), Nat.le_of_eq (hideAll_size _ _)⟩
    (fun p hp => ⟨hk₁ _ _ (hN p hp).1, Nat.ne_of_lt (Heap.lt_size (hN p hp).1), hideAll_none _ (List.mem_map_of_mem hp)⟩)) (fun _ _ x => x) fun _ _ x => x.elim

/-- back in the caller's frame -/
theorem back {L : Addr} {m : Str → Option Value} {h h' : Heap} {as : List Addr} (F : Fr h₀ L h m) (hs : StayBut as h h') (ha : ∀ a ∈ as, h₀.get? a = none) (hL : L ∉ as) : Fr h₀ L h' m := by
  obtain ⟨oL, es, ep, hL', r⟩ := F.ns
  refine ⟨⟨oL, es, ep, hs _ _ hL' hL, r⟩, fun b o e => hs _ _ (F.keep b o e) fun q => ?_, F.above⟩
  rw [ha b q] at e
  cases e
end
/-- a place where the steps stop -/
def Halt (P : Prop) : Prop := P
theorem Halt.mk {P : Prop} (h : Halt P) : P := h
theorem Halt.of {P : Prop} (h : P) : Halt P := h

section
variable {prog : Program} {w : World} {A : Around} {E : Value → Shared → Prop} {s : Shared} {h₀ : Heap} {L D : Addr} {m : Str → Option Value} {news news' : List (Addr × Obj)} {vs : List Value} {n : Nat} {k : Int} {x : Value} {t u : Tok}
theorem g_sub {value slice : PySem.Expr} {Q : Value → Shared → Prop} (ho : s.heap.get? D = some (listOf vs.toArray n)) (h0 : 0 ≤ k) (h1 : k < (vs.length : Int)) (hz : vs.length ≤ 1000) (h : Q (vs.getD k.toNat .none) s)
    (hs : subscripted slice false (.ref D) (.int k u) = operate [.ref D, .int k u] (getItem (.ref D) (.int k u)) := by with_unfolding_all rfl) (hg : ∀ r, letTemporaryGo value (.ref D) r = pure () := by intro _; with_unfolding_all rfl) :
    wpAny (model prog w) A (subscriptTail value slice (.ref D) (.int k u)) Q E s :=
  item_listL (PySem.IsL.isList (n := n) ho) h0 (by omega) (x := vs.getD k.toNat .none) (by
    have : k.toNat < vs.length := by omega
    simp [List.getD, List.getElem?_eq_getElem this]) h hs hg
theorem g_len {Q : Value → Shared → Prop} (ho : s.heap.get? D = some (listOf vs.toArray n)) (hz : vs.length ≤ 1000) (h : Q (.int (vs.length : Int) (s.toks + 1)) { s with toks := s.toks + 1 + 1 }) :
    wpAny (model prog w) A (call (.builtin "len") [.ref D]) Q E s :=
  len_list (PySem.IsL.isList (n := n) ho) (by rw [List.size_toArray]; omega) (by rw [List.size_toArray]; exact h)
theorem g_set {Q : Unit → Shared → Prop} (F : Fr h₀ L s.heap m) (N : News h₀ L s.heap news) (U : Upd D (listOf vs.toArray n) (listOf (vs.set k.toNat x).toArray n) news news') (h0 : 0 ≤ k) (h1 : k < (vs.length : Int)) (hz : vs.length ≤ 1000)
    (h : ∀ h', Fr h₀ L h' m → News h₀ L h' news' → Q () { s with heap := h' }) :
    wpAny (model prog w) A (setItem (.ref D) (.int k t) x) Q E s := by
  obtain ⟨pre, post, rfl, rfl, a, b⟩ := U.split
  have z := N (D, listOf vs.toArray n) (List.mem_append.mpr (.inr (.head _)))
  have hs : vs.toArray.size = vs.length := by rw [List.size_toArray]
  refine ki_setAt z.1 h0 (by omega) (by omega) (h _ (F.change (Heap.SameBut.update ..) z.2.1 z.2.2) (ki_turn _ N a b ?_ ?_))
  · show vs.toArray.setIfInBounds k.toNat x = (vs.set k.toNat x).toArray
    apply Array.toList_inj.mp
    simp
  · simp
end

/-- lt x y is what the comparison says, wherever the listed objects stand -/
def CmpOk (prog : Program) (w : World) (tups : List (Addr × Obj)) (P : Value → Prop) (lt : Value → Value → Bool) : Prop :=
  ∀ x y, P x → P y → ∀ (A : Around) (s : Shared) (Q : Value → Shared → Prop) (E : Value → Shared → Prop), Ok A 1 → (∀ p ∈ tups, s.heap.get? p.1 = some p.2) →
    (∀ tk, Q (.bool (lt x y)) { s with toks := tk }) → wpAny (model prog w) A (compareOp .Lt x y) Q E s

/-- written locals over the rest -/
def lm : List (Str × Value) → (Str → Option Value) → Str → Option Value
  | [], u => u
  | (x, v) :: r, u => fun y => if y = x then some v else lm r u y
def Has (m : Str → Option Value) : List (Str × Value) → Prop
  | [] => True
  | p :: r => m p.1 = some p.2 ∧ Has m r
theorem Has.lm {m : Str → Option Value} : ∀ {ps : List (Str × Value)}, Has m ps → ∃ u, m = lm ps u
  | [], _ => ⟨m, rfl⟩
  | (x, v) :: r, ⟨h, hr⟩ => by
    obtain ⟨u, e⟩ := Has.lm hr
    refine ⟨u, funext fun y => ?_⟩
    show m y = if y = x then some v else Mine.lm r u y
    by_cases hy : y = x
    · rw [if_pos hy, hy]; exact h
    · rw [if_neg hy, e]

theorem fr_lm {g h : Heap} {L : Addr} {m : Str → Option Value} {ps : List (Str × Value)} (F : Fr g L h m) (H : Has m ps) : ∃ u, Fr g L h (lm ps u) := by
  obtain ⟨u, rfl⟩ := H.lm
  exact ⟨u, F⟩
theorem shr1 (p : Nat) (h : 0 < p) : ((p : Int) - 1).fdiv (2 ^ Int.toNat 1) = (((p - 1) / 2 : Nat) : Int) := by
  show ((p : Int) - 1).fdiv 2 = _
  rw [Int.fdiv_eq_ediv_of_nonneg _ (by decide)]
  omega

theorem g_shr1 {prog : Program} {w : World} {A : Around} {E : Value → Shared → Prop} {s : Shared} {Q : Value → Shared → Prop} {p : Nat} {t u : Tok} (hp : 0 < p) (h : Q (.int (((p - 1) / 2 : Nat) : Int) s.toks) { s with toks := s.toks + 1 }) :
    wpAny (model prog w) A (binaryOp .RShift (.int ((p : Int) - 1) t) (.int 1 u)) Q E s :=
  rshift_int (by decide) (by rw [shr1 p hp]; exact h)

section
variable {h₀ h h' : Heap} {L a : Addr} {m : Str → Option Value} {news news' rest : List (Addr × Obj)} {o o' : Obj}
/-- back from a call that turned one object of the ledger -/
theorem news_back (N : News h₀ L h news) (U : Upd a o o' news news') (hs : StayBut [a] h h') (ha : h'.get? a = some o') : News h₀ L h' news' := by
  obtain ⟨pre, post, rfl, rfl, hp, hq⟩ := U.split
  have z := N (a, o) (List.mem_append.mpr (.inr (.head _)))
  intro p hp'
  rcases List.mem_append.mp hp' with h1 | h1
  · have := N p (List.mem_append.mpr (.inl h1))
    exact ⟨hs _ _ this.1 (by simpa using hp p h1), this.2⟩
  · rcases List.mem_cons.mp h1 with rfl | h1
    · exact ⟨ha, z.2⟩
    · have := N p (List.mem_append.mpr (.inr (.tail _ h1)))
      exact ⟨hs _ _ this.1 (by simpa using hq p h1), this.2⟩
theorem fr_back (F : Fr h₀ L h m) (N : News h₀ L h news) (hm : (a, o) ∈ news) (hs : StayBut [a] h h') : Fr h₀ L h' m :=
  back F hs (fun b hb => by rw [List.mem_singleton.mp hb]; exact (N _ hm).2.2) (by simpa using fun e : L = a => (N _ hm).2.1 e.symm)
/-- back from a call that turned nothing -/
theorem news_keep (N : News h₀ L h news) (hs : StayBut [] h h') : News h₀ L h' news := fun p hp => ⟨hs _ _ (N p hp).1 (by simp), (N p hp).2⟩
theorem fr_keep (F : Fr h₀ L h m) (hs : StayBut [] h h') : Fr h₀ L h' m := back F hs (by simp) (by simp)
end
example : True := by
  w_top off
  trivial
section
variable {α : Type} (d : α) (lt : α → α → Bool)
/-- the loop of _siftdown: the list and the place it stops at -/
def sdGo (x : α) (sp : Nat) : Nat → List α → Nat → List α × Nat
  | 0, l, p => (l, p)
  | f + 1, l, p => if sp < p then (if lt x (l.getD ((p - 1) / 2) d) then sdGo x sp f (l.set p (l.getD ((p - 1) / 2) d)) ((p - 1) / 2) else (l, p)) else (l, p)
def sdown (l : List α) (sp p : Nat) : List α :=
  (sdGo d lt (l.getD p d) sp p l p).1.set (sdGo d lt (l.getD p d) sp p l p).2 (l.getD p d)
end

section
variable {α : Type} {d : α} {lt : α → α → Bool}
theorem sdGo_stop {x : α} {sp f : Nat} {l : List α} {p : Nat} (h : ¬ sp < p ∨ lt x (l.getD ((p - 1) / 2) d) = false) : sdGo d lt x sp f l p = (l, p) := by
  cases f with
  | zero => rfl
  | succ f =>
    unfold sdGo
    rcases h with h | h
    · rw [if_neg h]
    · by_cases hp : sp < p
      · rw [if_pos hp, h]; rfl
      · rw [if_neg hp]
theorem sdGo_step {x : α} {sp f : Nat} {l : List α} {p : Nat} (hp : sp < p) (hf : p ≤ f) (h : lt x (l.getD ((p - 1) / 2) d) = true) :
    sdGo d lt x sp f l p = sdGo d lt x sp (f - 1) (l.set p (l.getD ((p - 1) / 2) d)) ((p - 1) / 2) := by
  cases f with
  | zero => omega
  | succ f =>
    conv => lhs; unfold sdGo
    rw [if_pos hp, h]
    rfl
end

local macro_rules | `(tactic| walk_at "mine at") => `(tactic| (first | exact News.get (by k_asm) (by k_mem) | exact Fr.keep (by k_asm) _ _ (by k_asm)))
local macro_rules | `(tactic| walk_at "mine 1") => `(tactic| (k_here; (with_reducible show wpAny _ _ (subscriptTail _ _ (Value.ref _) (Value.int _ _)) _ _ _); k_dflt (refine' g_sub ?k1 ?k4 ?k5 ?k6 ?_ ?k7 ?k8; (case k1 => walk_at "mine at"); (case k4 => omega); (case k5 => omega); (case k6 => omega); (case k7 => with_unfolding_all rfl); (case k8 => (intro _; with_unfolding_all rfl)); k_whole)))
local macro_rules | `(tactic| walk_at "mine 2") => `(tactic| (k_here; (with_reducible show wpAny _ _ (setItem (Value.ref _) (Value.int _ _) _) _ _ _); k_dflt (refine' g_set ?k1 ?k2 ?k3 ?k4 ?k5 ?k6 ?_; (case k1 => k_asm); (case k2 => k_asm); (case k3 => k_upd); (case k4 => omega); (case k5 => omega); (case k6 => omega); k_whole); intro h' F' N'; (try k_sweep)))
section
local macro_rules
  | `(tactic| walk_at "subscriptTail") => `(tactic| walk_at "mine 1")
  | `(tactic| walk_at "setItem ref int") => `(tactic| walk_at "mine 2")
  | `(tactic| walk_at "exec While Compare cons nil") => `(tactic| refine Halt.mk ?_)
  | `(tactic| walk_at "compareOp Lt") => `(tactic| refine Halt.mk ?_)
  | `(tactic| walk_at "binaryOp RShift int int") => `(tactic| (refine g_shr1 (by omega) ?_))

theorem siftdown_spec {prog : Program} {w : World} {A : Around} {s : Shared} {h₀ : Heap} {mean : ExcName → Option Value} {mg mb : Str → Option Value} {Q : Value → Shared → Prop} {E : Value → Shared → Prop}
  {tups : List (Addr × Obj)} {P : Value → Prop} {lt : Value → Value → Bool} (C : CmpOk prog w tups P lt)
  (a : Addr) (vs : List Value) (n : Nat) (sp pos : Nat) (t1 t2 : Tok) (hA : Ok A 2) (G : Gd w mean mg mb h₀) (st : h₀.StaysIn s.heap) (hT : ∀ p ∈ tups, s.heap.get? p.1 = some p.2 ∧ p.1 ≠ a)
  (ha : s.heap.get? a = some (listOf vs.toArray n)) (ha0 : h₀.get? a = none) (hz : vs.length ≤ 1000) (hp : pos < vs.length) (hP : ∀ v ∈ vs, P v)
  (hret : ∀ h' tk', StayBut [a] s.heap h' → h'.get? a = some (listOf (sdown .none lt vs sp pos).toArray n) → Q .none { s with heap := h', toks := tk' }) :
  wpAny (model prog w) A (call (.ref 110) [.ref a, .int sp t1, .int pos t2]) Q E s := by
  refine wpAny_call ?_
  refine' enter (binds := [(Str.ofString "heap", .ref a), (Str.ofString "startpos", .int sp t1), (Str.ofString "pos", .int pos t2)]) (as := [(a, listOf vs.toArray n)]) hA.room G st ?kN ?k6 ?k7 ?k9 ?kB ?_ ?c2 ?c3 ?c4 ?c5
  case kN => intro p hp; simp only [List.mem_singleton] at hp; subst hp; exact ⟨ha, ha0⟩
  case k6 => k_is
  case k7 => k_is
  case k9 => exact BindsTo.of_eq rfl
  case kB => exact locs rfl
  case c2 => exact rfl
  case c3 => exact rfl
  case c4 => exact rfl
  case c5 => decide
  intro g L h₁ G' hs hn F N
  obtain ⟨X, T⟩ := G'
  have hTg : ∀ p ∈ tups, g.get? p.1 = some p.2 := fun p hp => hs _ _ (hT p hp).1 (by simpa using (hT p hp).2)
  have hPx : P (vs.getD pos .none) := hP _ (by simp [List.getD, List.getElem?_eq_getElem hp])
  k_steps
  refine Halt.of ?_
  rename Fr _ _ _ _ => F'
  rename News _ _ _ _ => N'
  generalize hx : vs.getD (↑pos : Int).toNat Value.none = x at F'
  rw [Int.toNat_natCast] at hx
  rw [hx] at hPx
  refine wpAny_mono (While_inv2 (Q := fun f s' => Halt (f = .next ∧ ∃ l p t u h' tk', s' = { s with heap := h', toks := tk' } ∧
      Fr g L h' (lm [(Str.ofString "heap", .ref a), (Str.ofString "startpos", .int sp t1), (Str.ofString "newitem", x), (Str.ofString "pos", .int (p : Nat) t)] u) ∧ News g L h' [(a, listOf l.toArray n)] ∧ l.length = vs.length ∧ p < l.length ∧ sdGo .none lt x sp pos vs pos = (l, p)))
    (fun k m nx => ∃ l p t, nx = [(a, listOf (l : List Value).toArray n)] ∧ Has m [(Str.ofString "heap", .ref a), (Str.ofString "startpos", .int sp t1), (Str.ofString "newitem", x), (Str.ofString "pos", .int (p : Nat) t)] ∧
      l.length = vs.length ∧ p < l.length ∧ p ≤ k ∧ (∀ v ∈ l, P v) ∧ sdGo .none lt x sp k l p = sdGo .none lt x sp pos vs pos)
    F' N' (n₀ := pos) ⟨vs, pos, t2, rfl, ⟨rfl, rfl, rfl, rfl, trivial⟩, rfl, hp, Nat.le_refl _, hP, rfl⟩ ?turn PassesOwn.never) ?after (fun _ _ x => x.elim)
  case turn =>
    clear F' N'
    rintro k m₁ nx h₂ tk₂ F₂ N₂ ⟨l, p, t, rfl, hm, hl, hpl, hpk, hPl, hgo⟩
    obtain ⟨u, rfl⟩ := hm.lm
    k_steps
    · refine Halt.of ?_
      rename Fr _ _ _ _ => F'
      rename News _ _ _ _ => N'
      have hlt : sp < p := by omega
      have hpp : (p - 1) / 2 < l.length := by omega
      rw [Int.toNat_natCast] at F' ⊢
      refine C x _ hPx (hPl _ (by simp [List.getD, List.getElem?_eq_getElem hpp])) _ _ _ _ hA.deeper (fun q hq => F'.keep _ _ (hTg q hq)) fun tk => ?_
      k_steps
      · rename Fr _ _ _ _ => F'
        rename News _ _ _ _ => N'
        rename lt _ _ = true => hc
        refine ⟨_, _, _, _, k - 1, rfl, F', N', by omega, l.set p (l.getD ((p - 1) / 2) Value.none), (p - 1) / 2, _, rfl, ⟨rfl, rfl, rfl, rfl, trivial⟩, by simp [hl], by simpa using hpp, by omega, ?_, ?_⟩
        · intro v hv
          rcases List.mem_or_eq_of_mem_set hv with hv | rfl
          · exact hPl v hv
          · exact hPl _ (by simp [List.getD, List.getElem?_eq_getElem hpp])
        · rw [← hgo]
          exact (sdGo_step hlt hpk hc).symm
      · rename lt _ _ = false => hc
        obtain ⟨u', F2⟩ := fr_lm F' (ps := [(Str.ofString "heap", .ref a), (Str.ofString "startpos", .int sp t1), (Str.ofString "newitem", x), (Str.ofString "pos", .int (p : Nat) t)]) ⟨rfl, rfl, rfl, rfl, trivial⟩
        exact Halt.of ⟨rfl, l, p, t, u', _, _, rfl, F2, N', hl, hpl, by rw [← hgo]; exact sdGo_stop (.inr (by simpa using hc))⟩
    · exact Halt.of ⟨rfl, l, p, t, u, h₂, tk₂, rfl, F₂, N₂, hl, hpl, by rw [← hgo]; exact sdGo_stop (.inl (by omega))⟩
  case after =>
    clear F' N'
    rintro f s' ⟨rfl, l, p, t, u, h', tk', rfl, F₂, N₂, hl, hpl, hgo⟩
    dsimp only
    k_steps
    rename Fr _ _ _ _ => F'
    rename News _ _ _ _ => N'
    refine hret _ _ (fun b o e nb => F'.keep _ _ (hs _ _ e nb)) ?_
    have := (N' _ (List.mem_singleton.mpr rfl)).1
    unfold sdown
    rw [hx, hgo]
    exact this
end
example : True := by
  w_top off
  trivial
section
variable {α : Type} (d : α) (lt : α → α → Bool)
/-- the child that _siftup takes -/
def child (l : List α) (c : Nat) : Nat := if c + 1 < l.length ∧ lt (l.getD c d) (l.getD (c + 1) d) = false then c + 1 else c
/-- the loop of _siftup -/
def suGo : Nat → List α → Nat → List α × Nat
  | 0, l, p => (l, p)
  | f + 1, l, p => if 2 * p + 1 < l.length then suGo f (l.set p (l.getD (child d lt l (2 * p + 1)) d)) (child d lt l (2 * p + 1)) else (l, p)
def sup (l : List α) (pos : Nat) : List α :=
  sdown d lt ((suGo d lt l.length l pos).1.set (suGo d lt l.length l pos).2 (l.getD pos d)) pos (suGo d lt l.length l pos).2
end
section
variable {α : Type} {d : α} {lt : α → α → Bool}
theorem child_lt {l : List α} {c : Nat} (h : c < l.length) : child d lt l c < l.length := by
  unfold child; split <;> omega
theorem child_keep {l : List α} {c : Nat} (h : lt (l.getD c d) (l.getD (c + 1) d) = true) : child d lt l c = c := by
  unfold child; rw [if_neg]; rintro ⟨_, q⟩; rw [h] at q; cases q
theorem child_right {l : List α} {c : Nat} (h1 : c + 1 < l.length) (h : lt (l.getD c d) (l.getD (c + 1) d) = false) : child d lt l c = c + 1 := by
  unfold child; rw [if_pos ⟨h1, h⟩]
theorem child_last {l : List α} {c : Nat} (h1 : ¬ c + 1 < l.length) : child d lt l c = c := by
  unfold child; rw [if_neg fun q => h1 q.1]
theorem child_ge {l : List α} {c : Nat} : c ≤ child d lt l c := by
  unfold child; split <;> omega
theorem suGo_stop {f : Nat} {l : List α} {p : Nat} (h : ¬ 2 * p + 1 < l.length) : suGo d lt f l p = (l, p) := by
  cases f with
  | zero => rfl
  | succ f => unfold suGo; rw [if_neg h]
theorem suGo_step {f : Nat} {l : List α} {p : Nat} (h : 2 * p + 1 < l.length) (hf : 0 < f) :
    suGo d lt f l p = suGo d lt (f - 1) (l.set p (l.getD (child d lt l (2 * p + 1)) d)) (child d lt l (2 * p + 1)) := by
  cases f with
  | zero => omega
  | succ f =>
    conv => lhs; unfold suGo
    rw [if_pos h]
    rfl
end

def SuJ (lt : Value → Value → Bool) (P : Value → Prop) (a : Addr) (n : Nat) (vs : List Value) (pos : Nat) (t1 : Tok) (x : Value) (k : Nat) (m : Str → Option Value) (nx : List (Addr × Obj)) : Prop :=
  ∃ l p kp kc t t' t'', kp = ((p : Nat) : Int) ∧ kc = 2 * ((p : Nat) : Int) + 1 ∧ nx = [(a, listOf (l : List Value).toArray n)] ∧ Has m [(Str.ofString "heap", .ref a), (Str.ofString "endpos", .int (vs.length : Nat) t''), (Str.ofString "startpos", .int pos t1), (Str.ofString "newitem", x), (Str.ofString "pos", .int kp t), (Str.ofString "childpos", .int kc t')] ∧
      l.length = vs.length ∧ p < l.length ∧ vs.length - p ≤ k ∧ (∀ v ∈ l, P v) ∧ suGo .none lt k l p = suGo .none lt vs.length vs pos
theorem SuJ.turn {lt : Value → Value → Bool} {P : Value → Prop} {a : Addr} {n : Nat} {vs : List Value} {pos : Nat} {t1 : Tok} {x : Value} {k : Nat} {m : Str → Option Value} {l : List Value} {p c : Nat} {i j kp kc : Int} {t t' t'' : Tok}
    (hl : l.length = vs.length) (hpl : p < l.length) (hpk : vs.length - p ≤ k) (hP : ∀ v ∈ l, P v) (hgo : suGo .none lt k l p = suGo .none lt vs.length vs pos) (h : 2 * p + 1 < l.length) (hc : child .none lt l (2 * p + 1) = c)
    (hm : Has m [(Str.ofString "heap", .ref a), (Str.ofString "endpos", .int (vs.length : Nat) t''), (Str.ofString "startpos", .int pos t1), (Str.ofString "newitem", x), (Str.ofString "pos", .int kp t), (Str.ofString "childpos", .int kc t')])
    (hi : i = (p : Int)) (hj : j = (c : Int)) (hkp : kp = (c : Int)) (hkc : kc = 2 * (c : Int) + 1) : SuJ lt P a n vs pos t1 x (k - 1) m [(a, listOf (l.set i.toNat (l.getD j.toNat .none)).toArray n)] := by
  subst hi hj
  rw [Int.toNat_natCast, Int.toNat_natCast]
  have hcl : c < l.length := hc ▸ child_lt h
  have hcg : 2 * p + 1 ≤ c := hc ▸ child_ge
  refine ⟨l.set p (l.getD c .none), c, kp, kc, t, t', t'', hkp, hkc, rfl, hm, by simp [hl], by simpa using hcl, by omega, ?_, ?_⟩
  · intro v hv
    rcases List.mem_or_eq_of_mem_set hv with hv | rfl
    · exact hP v hv
    · exact hP _ (by simp [List.getD, List.getElem?_eq_getElem hcl])
  · rw [← hgo, suGo_step h (by omega), hc]

local macro_rules | `(tactic| walk_at "mine 3") => `(tactic| (k_here; (with_reducible show wpAny _ _ (call (Value.builtin "len") [Value.ref _]) _ _ _); k_dflt (refine' g_len ?k1 ?k6 ?_; (case k1 => walk_at "mine at"); (case k6 => omega); k_whole)))
section
local macro_rules
  | `(tactic| walk_at "subscriptTail") => `(tactic| walk_at "mine 1")
  | `(tactic| walk_at "call builtin:len") => `(tactic| walk_at "mine 3")
  | `(tactic| walk_at "setItem ref int") => `(tactic| walk_at "mine 2")
  | `(tactic| walk_at "exec While Compare cons nil") => `(tactic| refine Halt.mk ?_)
  | `(tactic| walk_at "compareOp Lt") => `(tactic| refine Halt.mk ?_)
  | `(tactic| walk_at "call ref cons nil") => `(tactic| refine Halt.mk ?_)

theorem siftup_spec {prog : Program} {w : World} {A : Around} {s : Shared} {h₀ : Heap} {mean : ExcName → Option Value} {mg mb : Str → Option Value} {Q : Value → Shared → Prop} {E : Value → Shared → Prop}
  {tups : List (Addr × Obj)} {P : Value → Prop} {lt : Value → Value → Bool} (C : CmpOk prog w tups P lt)
  (a : Addr) (vs : List Value) (n : Nat) (pos : Nat) (t1 : Tok) (hA : Ok A 3) (G : Gd w mean mg mb h₀) (st : h₀.StaysIn s.heap) (hT : ∀ p ∈ tups, s.heap.get? p.1 = some p.2 ∧ p.1 ≠ a)
  (ha : s.heap.get? a = some (listOf vs.toArray n)) (ha0 : h₀.get? a = none) (hz : vs.length ≤ 1000) (hp : pos < vs.length) (hP : ∀ v ∈ vs, P v)
  (hret : ∀ h' tk', StayBut [a] s.heap h' → h'.get? a = some (listOf (sup .none lt vs pos).toArray n) → Q .none { s with heap := h', toks := tk' }) :
  wpAny (model prog w) A (call (.ref 117) [.ref a, .int pos t1]) Q E s := by
  refine wpAny_call ?_
  refine' enter (binds := [(Str.ofString "heap", .ref a), (Str.ofString "pos", .int pos t1)]) (as := [(a, listOf vs.toArray n)]) hA.room G st ?kN ?k6 ?k7 ?k9 ?kB ?_ ?c2 ?c3 ?c4 ?c5
  case kN => intro p hp; simp only [List.mem_singleton] at hp; subst hp; exact ⟨ha, ha0⟩
  case k6 => k_is
  case k7 => k_is
  case k9 => exact BindsTo.of_eq rfl
  case kB => exact locs rfl
  case c2 => exact rfl
  case c3 => exact rfl
  case c4 => exact rfl
  case c5 => decide
  intro g L h₁ G' hs hn F N
  obtain ⟨X, T⟩ := G'
  have hTg : ∀ p ∈ tups, g.get? p.1 = some p.2 := fun p hp => hs _ _ (hT p hp).1 (by simpa using (hT p hp).2)
  have hPx : P (vs.getD pos .none) := hP _ (by simp [List.getD, List.getElem?_eq_getElem hp])
  k_steps
  refine Halt.of ?_
  rename Fr _ _ _ _ => F'
  rename News _ _ _ _ => N'
  generalize hx : vs.getD (↑pos : Int).toNat Value.none = x at F'
  rw [Int.toNat_natCast] at hx
  rw [hx] at hPx
  refine wpAny_mono (While_inv2 (Q := fun f s' => Halt (f = .next ∧ ∃ l p t t' t'' u h' tk', s' = { s with heap := h', toks := tk' } ∧
      Fr g L h' (lm [(Str.ofString "heap", .ref a), (Str.ofString "endpos", .int (vs.length : Nat) t''), (Str.ofString "startpos", .int pos t1), (Str.ofString "newitem", x), (Str.ofString "pos", .int (p : Nat) t), (Str.ofString "childpos", .int (2 * (p : Nat) + 1) t')] u) ∧ News g L h' [(a, listOf l.toArray n)] ∧ l.length = vs.length ∧ p < l.length ∧ (∀ v ∈ l, P v) ∧ suGo .none lt vs.length vs pos = (l, p)))
    (SuJ lt P a n vs pos t1 x)
    F' N' (n₀ := vs.length) ⟨vs, pos, _, _, _, _, _, rfl, rfl, rfl, ⟨rfl, rfl, rfl, rfl, rfl, rfl, trivial⟩, rfl, hp, Nat.sub_le _ _, hP, rfl⟩ ?turn PassesOwn.never) ?after (fun _ _ x => x.elim)
  case turn =>
    clear F' N'
    rintro k m₁ nx h₂ tk₂ F₂ N₂ ⟨l, p, kp, kc, t, t', t'', rfl, rfl, rfl, hm, hl, hpl, hpk, hPl, hgo⟩
    obtain ⟨u, rfl⟩ := hm.lm
    have e1 : (2 * (p : Int) + 1).toNat = 2 * p + 1 := by omega
    have e2 : (2 * (p : Int) + 1 + 1).toNat = 2 * p + 1 + 1 := by omega
    have hA' : ∀ env, Ok (A.deeper env) 1 := fun env => (hA.le (by decide)).deeper
    k_steps
    · refine Halt.of ?_
      rename Fr _ _ _ _ => F'
      rename News _ _ _ _ => N'
      have h2 : 2 * p + 1 + 1 < l.length := by omega
      refine C _ _ (hPl _ (by rw [e1]; simp [List.getD, List.getElem?_eq_getElem (show 2 * p + 1 < l.length by omega)])) (hPl _ (by rw [e2]; simp [List.getD, List.getElem?_eq_getElem h2])) _ _ _ _ (hA' _) (fun q hq => F'.keep _ _ (hTg q hq)) fun tk => ?_
      rw [e1, e2]
      cases hc : lt (l.getD (2 * p + 1) Value.none) (l.getD (2 * p + 1 + 1) Value.none) with
      | true =>
        k_steps
        rename Fr _ _ _ _ => F'
        rename News _ _ _ _ => N'
        exact ⟨_, _, _, _, k - 1, rfl, F', N', by omega, SuJ.turn (c := 2 * p + 1) hl hpl hpk hPl hgo (by omega) (child_keep hc) ⟨rfl, rfl, rfl, rfl, rfl, rfl, trivial⟩ rfl (by omega) (by omega) (by omega)⟩
      | false =>
        k_steps
        rename Fr _ _ _ _ => F'
        rename News _ _ _ _ => N'
        exact ⟨_, _, _, _, k - 1, rfl, F', N', by omega, SuJ.turn (c := 2 * p + 1 + 1) hl hpl hpk hPl hgo (by omega) (child_right h2 hc) ⟨rfl, rfl, rfl, rfl, rfl, rfl, trivial⟩ rfl (by omega) (by omega) (by omega)⟩
    · rename Fr _ _ _ _ => F'
      rename News _ _ _ _ => N'
      exact ⟨_, _, _, _, k - 1, rfl, F', N', by omega, SuJ.turn (c := 2 * p + 1) hl hpl hpk hPl hgo (by omega) (child_last (by omega)) ⟨rfl, rfl, rfl, rfl, rfl, rfl, trivial⟩ rfl (by omega) (by omega) (by omega)⟩
    · exact Halt.of ⟨rfl, l, p, t, t', t'', u, h₂, tk₂, rfl, F₂, N₂, hl, hpl, hPl, by rw [← hgo]; exact suGo_stop (by omega)⟩
  case after =>
    clear F' N'
    rintro f s' ⟨rfl, l, p, t, t', t'', u, h', tk', rfl, F₂, N₂, hl, hpl, hPl, hgo⟩
    dsimp only
    k_steps
    refine Halt.of ?_
    rename Fr _ _ _ _ => F'
    rename News _ _ _ _ => N'
    refine siftdown_spec C a (l.set p x) n pos p t1 t (hA.deeper) ⟨X, T⟩ F'.keep (fun q hq => ⟨F'.keep _ _ (hTg q hq), (hT q hq).2⟩) (N' _ (List.mem_singleton.mpr rfl)).1 (hn _ (List.mem_singleton.mpr rfl)) (by simp; omega) (by simp; omega) ?_ ?_
    · intro v hv
      rcases List.mem_or_eq_of_mem_set hv with hv | rfl
      · exact hPl v hv
      · exact hPx
    · intro h₃ tk₃ hs₃ ha₃
      dsimp only at hs₃
      k_steps
      refine hret _ _ (fun b o e nb => hs₃ _ _ (F'.keep _ _ (hs _ _ e nb)) nb) ?_
      unfold sup
      rw [hx, hgo]
      exact ha₃
end
def hpf {α : Type} (d : α) (lt : α → α → Bool) : Nat → List α → List α
  | 0, l => l
  | k + 1, l => hpf d lt k (sup d lt l k)

section
variable {α : Type} {d : α} {lt : α → α → Bool} {P : α → Prop}
theorem getD_all {l : List α} {i : Nat} (h : ∀ v ∈ l, P v) (hi : i < l.length) : P (l.getD i d) := h _ (by simp [List.getD, List.getElem?_eq_getElem hi])
theorem set_all {l : List α} {i : Nat} {x : α} (h : ∀ v ∈ l, P v) (hx : P x) : ∀ v ∈ l.set i x, P v := fun v hv => by
  rcases List.mem_or_eq_of_mem_set hv with hv | rfl
  · exact h v hv
  · exact hx
theorem sdGo_length {x : α} {sp : Nat} : ∀ (f : Nat) (l : List α) (p : Nat), (sdGo d lt x sp f l p).1.length = l.length
  | 0, _, _ => rfl
  | f + 1, l, p => by
    unfold sdGo
    split
    · split
      · rw [sdGo_length f]; simp
      · rfl
    · rfl
theorem sdGo_place {x : α} {sp : Nat} : ∀ (f : Nat) (l : List α) (p : Nat), (sdGo d lt x sp f l p).2 ≤ p
  | 0, _, _ => Nat.le_refl _
  | f + 1, l, p => by
    unfold sdGo
    split
    · split
      · have := sdGo_place (x := x) (sp := sp) f (l.set p (l.getD ((p - 1) / 2) d)) ((p - 1) / 2)
        omega
      · exact Nat.le_refl _
    · exact Nat.le_refl _
theorem sdGo_all {x : α} {sp : Nat} : ∀ (f : Nat) (l : List α) (p : Nat), p < l.length → (∀ v ∈ l, P v) → ∀ v ∈ (sdGo d lt x sp f l p).1, P v
  | 0, _, _, _, h => h
  | f + 1, l, p, hp, h => by
    unfold sdGo
    split
    · split
      · exact sdGo_all f _ _ (by simp; omega) (set_all h (getD_all h (by omega)))
      · exact h
    · exact h
theorem sdown_length {l : List α} {sp p : Nat} : (sdown d lt l sp p).length = l.length := by
  unfold sdown; rw [List.length_set, sdGo_length]
theorem sdown_all {l : List α} {sp p : Nat} (hp : p < l.length) (h : ∀ v ∈ l, P v) : ∀ v ∈ sdown d lt l sp p, P v :=
  set_all (sdGo_all _ _ _ hp h) (getD_all h hp)
theorem suGo_length : ∀ (f : Nat) (l : List α) (p : Nat), (suGo d lt f l p).1.length = l.length
  | 0, _, _ => rfl
  | f + 1, l, p => by
    unfold suGo
    split
    · rw [suGo_length f]; simp
    · rfl
theorem suGo_place : ∀ (f : Nat) (l : List α) (p : Nat), p < l.length → (suGo d lt f l p).2 < l.length
  | 0, _, _, h => h
  | f + 1, l, p, h => by
    unfold suGo
    split
    · rename_i hc
      have := suGo_place f (l.set p (l.getD (child d lt l (2 * p + 1)) d)) (child d lt l (2 * p + 1)) (by simpa using child_lt hc)
      simpa using this
    · exact h
theorem suGo_all : ∀ (f : Nat) (l : List α) (p : Nat), p < l.length → (∀ v ∈ l, P v) → ∀ v ∈ (suGo d lt f l p).1, P v
  | 0, _, _, _, h => h
  | f + 1, l, p, hp, h => by
    unfold suGo
    split
    · rename_i hc
      exact suGo_all f _ _ (by simpa using child_lt hc) (set_all h (getD_all h (child_lt hc)))
    · exact h
theorem sup_length {l : List α} {p : Nat} : (sup d lt l p).length = l.length := by
  unfold sup; rw [sdown_length, List.length_set, suGo_length]
theorem sup_all {l : List α} {p : Nat} (hp : p < l.length) (h : ∀ v ∈ l, P v) : ∀ v ∈ sup d lt l p, P v :=
  sdown_all (by rw [List.length_set, suGo_length]; exact suGo_place _ _ _ hp) (set_all (suGo_all _ _ _ hp h) (getD_all h hp))
theorem hpf_length : ∀ (k : Nat) (l : List α), (hpf d lt k l).length = l.length
  | 0, _ => rfl
  | k + 1, l => by unfold hpf; rw [hpf_length k, sup_length]
theorem hpf_all : ∀ (k : Nat) (l : List α), k ≤ l.length → (∀ v ∈ l, P v) → ∀ v ∈ hpf d lt k l, P v
  | 0, _, _, h => h
  | k + 1, l, hk, h => by unfold hpf; exact hpf_all k _ (by rw [sup_length]; omega) (sup_all (by omega) h)
end
section
variable {prog : Program} {w : World} {A : Around} {E : Value → Shared → Prop} {s : Shared} {h₀ : Heap} {L D : Addr} {m : Str → Option Value} {news news' : List (Addr × Obj)} {vs : List Value} {n : Nat} {x : Value}
theorem g_append {Q : Value → Shared → Prop} (F : Fr h₀ L s.heap m) (N : News h₀ L s.heap news) (U : Upd D (listOf vs.toArray n) (listOf (vs ++ [x]).toArray (n + 1)) news news') (hz : vs.length ≤ 1000)
    (h : ∀ h', Fr h₀ L h' m → News h₀ L h' news' → Q .none { s with heap := h' }) : wpAny (model prog w) A (call (.builtin "list.append") [.ref D, x]) Q E s := by
  refine append_K (its := vs.toArray) (n := n) F N ?_ h (by rw [List.size_toArray, sizeLine_eq]; omega)
  have e : vs.toArray.push x = (vs ++ [x]).toArray := by simp
  rw [e]
  exact U
theorem g_pop {Q : Value → Shared → Prop} (F : Fr h₀ L s.heap m) (N : News h₀ L s.heap news) (U : Upd D (listOf vs.toArray n) (listOf vs.dropLast.toArray (n + 1)) news news') (hne : 0 < vs.length) (hz : vs.length ≤ 1000)
    (h : ∀ h', Fr h₀ L h' m → News h₀ L h' news' → Q (vs.getD (vs.length - 1) .none) { s with heap := h' }) : wpAny (model prog w) A (call (.builtin "list.pop") [.ref D]) Q E s := by
  have hvs : vs ≠ [] := fun e => by rw [e] at hne; exact absurd hne (Nat.lt_irrefl _)
  have e : vs = vs.dropLast ++ [vs.getD (vs.length - 1) .none] := by
    have h1 := (List.dropLast_concat_getLast hvs).symm
    have h2 : vs.getLast hvs = vs.getD (vs.length - 1) .none := by
      rw [List.getLast_eq_getElem]
      simp [List.getD, List.getElem?_eq_getElem (show vs.length - 1 < vs.length by omega)]
    rw [h2] at h1
    exact h1
  refine kl_pop F N (p := vs.dropLast) (y := vs.getD (vs.length - 1) .none) ?_ U (by simp; rw [sizeLine_eq]; omega) h
  have := kpa_last (vs.getD (vs.length - 1) .none) vs.dropLast
  rw [← e] at this
  simpa using this
theorem g_truthy {Q : Bool → Shared → Prop} (ho : s.heap.get? D = some (listOf vs.toArray n)) (hz : vs.length ≤ 1000) (h : Q (!vs.isEmpty) { s with toks := s.toks + 1 + 1 }) : wpAny (model prog w) A (truthy (.ref D)) Q E s :=
  wpAny_truthy_list (items := vs.toArray) (PySem.IsL.isList (n := n) ho) (by rw [List.size_toArray]; omega) (by rw [List.isEmpty_toArray]; exact h)
theorem g_method {name : Str} {id : String} {pl : Sem Bool} {Q : Value × List Value → Shared → Prop} (ho : s.heap.get? D = some (listOf vs.toArray n)) (slot : Slot "list" name id) (hty : typeOf (.builtin id) = pure (.type "method_descriptor"))
    (h : Q (.builtin id, [.ref D]) s) : wpAny (model prog w) A (getMethod (.ref D) name pl) Q E s :=
  getMethod_builtin ⟨_, ho, rfl⟩ PySem.F.plainAttrs_list slot hty (fun a e => by cases e; exact ⟨_, ho, rfl⟩) h
end
theorem sub_rit_reversed : isSubtype (.type "range_iterator") (.type "reversed") = pure false := by rw [isSubtype_type]; kernel_rfl

theorem meets_range_reversed (r : Addr) (a b c : Int) (t u v : Tok) (hc0 : (Builtin.Range.rangeFitsLong a && Builtin.Range.rangeFitsLong b && Builtin.Range.rangeFitsLong c && Builtin.Range.rangeFitsLong (-c) && Builtin.Range.rangeFitsLong (a - c) && Builtin.Range.rangeFitsLong (Builtin.Range.rangeSize a b c)) = true) :
    Meets (Builtin.«range.__reversed__» ⟨[.ref r], []⟩) (fun _ R s => s.heap.get? r = some { cls := .type "range", dict := none, data := .fields #[.int a t, .int b u, .int c v], slots := #[] } ∧ R (.ok (.ret (Value.ref s.heap.objs.size))) { s with heap := s.heap.push { cls := Value.type "range_iterator", data := Data.fields #[rawInt (a + (Builtin.Range.rangeSize a b c - 1) * c), rawInt (Builtin.Range.rangeSize a b c), rawInt (-c)] }, toks := s.toks }) :=
  .of_wp fun prog w A R s h => by
    obtain ⟨hp, g, d, tk, os⟩ := s
    obtain ⟨hl, h⟩ := h
    have hc1 : ¬ (!(Builtin.Range.rangeFitsLong a && Builtin.Range.rangeFitsLong b && Builtin.Range.rangeFitsLong c && Builtin.Range.rangeFitsLong (-c) && Builtin.Range.rangeFitsLong (a - c) && Builtin.Range.rangeFitsLong (Builtin.Range.rangeSize a b c))) = true := by rw [hc0]; decide
    wp_walk
    rw [hc0]
    exact ⟨_, rfl, h⟩

section
variable {prog : Program} {w : World} {A : Around} {E : Value → Shared → Prop} {s : Shared}
theorem code_reversed_range {r : Addr} {a b c : Int} {t u v : Tok} {Q₁ : Value → Shared → Prop} (hr : IsRange s.heap r a b c t u v) (hc0 : (Builtin.Range.rangeFitsLong a && Builtin.Range.rangeFitsLong b && Builtin.Range.rangeFitsLong c && Builtin.Range.rangeFitsLong (-c) && Builtin.Range.rangeFitsLong (a - c) && Builtin.Range.rangeFitsLong (Builtin.Range.rangeSize a b c)) = true)
    (h : Q₁ (.ref s.heap.objs.size) { s with heap := s.heap.push { cls := Value.type "range_iterator", data := Data.fields #[rawInt (a + (Builtin.Range.rangeSize a b c - 1) * c), rawInt (Builtin.Range.rangeSize a b c), rawInt (-c)] } }) :
    codeAny (model prog w) A (.call (.builtin "reversed.__new__") ⟨[.type "reversed", .ref r], []⟩) (wants Q₁ E) s := by
  have hT : s.TypeIs (.ref r) "range" := ⟨_, hr, rfl⟩
  refine codeAny_of_tree ?_
  show wpAny _ A.in1 (do checkBuiltinCall "reversed.__new__" ⟨[.type "reversed", .ref r], []⟩; again (.builtin "reversed.__new__" ⟨[.type "reversed", .ref r], []⟩)) _ _ s
  refine wpAny_bind (wpAny_of_eq (F.newCall_reversed_1 _) (wpAny_pure ⟨plainId_quiet F.plain_reversed_new _, codeAny_builtin F.entry_reversed_new ?_⟩))
  rw [Around.under_plainId F.plain_reversed_new _]
  unfold Builtin.«reversed.__new__»
  refine wpAny_bind (wpAny_of_eq (newClass_reversed _) ?_)
  try dsimp only
  refine wpAny_bind (wpAny_of_eq (a := ()) (by first | rfl | kernel_rfl) ?_)
  refine wpAny_bind (wpAny_of_eq (a := ()) (by first | rfl | kernel_rfl) ?_)
  try dsimp only
  refine wpAny_bind (wpAny_specialOf hT F.slot_range_reversed.lookup ?_)
  try dsimp only
  refine wpAny_bind (wpAny_of_eq (F.slot_range_reversed.bind _) ?_)
  try dsimp only
  first
  | rw [if_neg (show ¬ ((Value.builtin "range.__reversed__" == Value.none) = true) from Bool.false_ne_true)]
  | (show wpAny _ _ (if (Value.builtin "range.__reversed__" == Value.none) = true then _ else _) _ _ _; rw [if_neg (show ¬ ((Value.builtin "range.__reversed__" == Value.none) = true) from Bool.false_ne_true)])
  refine wpAny_bind (wpAny_rule ?_)
  refine wpAny_bind (m := runValue (.call (.builtin "range.__reversed__") ⟨[.ref r], []⟩)) (show wpAny _ _ (call (.builtin "range.__reversed__") [.ref r]) _ _ _ from
    call_meets F.slot_range_reversed hT F.entry_range_reversed (F.args_range_reversed_1 _) (meets_range_reversed r a b c t u v hc0) ⟨hr, ?_⟩)
  first
  | exact wpAny_pure h
  | exact wpAny_bind (wpAny_pure (wpAny_pure h))
theorem rev_range {r : Addr} {a b c : Int} {t u v : Tok} {Q : Value → Shared → Prop} (hr : IsRange s.heap r a b c t u v) (hc0 : (Builtin.Range.rangeFitsLong a && Builtin.Range.rangeFitsLong b && Builtin.Range.rangeFitsLong c && Builtin.Range.rangeFitsLong (-c) && Builtin.Range.rangeFitsLong (a - c) && Builtin.Range.rangeFitsLong (Builtin.Range.rangeSize a b c)) = true)
    (h : Q (.ref s.heap.objs.size) { s with heap := s.heap.push { cls := Value.type "range_iterator", data := Data.fields #[rawInt (a + (Builtin.Range.rangeSize a b c - 1) * c), rawInt (Builtin.Range.rangeSize a b c), rawInt (-c)] } }) :
    wpAny (model prog w) A (call (.type "reversed") [.ref r]) Q E s := by
  refine callType_other (U := "range_iterator") (Q₁ := fun obj s₁ => obj = .ref s.heap.objs.size ∧ s₁ = { s with heap := s.heap.push { cls := Value.type "range_iterator", data := Data.fields #[rawInt (a + (Builtin.Range.rangeSize a b c - 1) * c), rawInt (Builtin.Range.rangeSize a b c), rawInt (-c)] } }) (by decide +kernel) F.create_reversed ⟨_, _, F.mro_reversed⟩ F.made_reversed sub_rit_reversed (F.typeCall_reversed_1 _) (code_reversed_range hr hc0 ⟨rfl, rfl⟩) ?_
  rintro obj s₁ ⟨rfl, rfl⟩
  exact ⟨⟨_, Heap.get?_push_size _ rfl, rfl⟩, h⟩
end
abbrev tupL (vs : List Value) : Obj := { cls := .type "tuple", data := .seq vs.toArray }
section
variable {prog : Program} {w : World} {A : Around} {E : Value → Shared → Prop} {s : Shared}
theorem tuple_lt_tree {a b : Addr} {i j i' j' : Int} {t u t' u' : Tok} {P : Fin → Shared → Prop} (hx : s.heap.get? a = some (tupL [.int i t, .int j u])) (hy : s.heap.get? b = some (tupL [.int i' t', .int j' u']))
    (h : P (.done (.ret (.bool (decide (i < i' ∨ (i = i' ∧ j < j')))))) s) : wpAny (model prog w) A (Builtin.«tuple.__lt__» ⟨[.ref a, .ref b], []⟩) P E s := by
  show wpAny _ _ (isInstance (.ref b) (.type "tuple") >>= _) _ _ s
  refine wpAny_bind (wpAny_isInstance ⟨_, hy, rfl⟩ isSubtype_tuple_tuple ?_)
  simp only [Bool.not_true, Bool.false_eq_true, if_false]
  refine wpAny_bind (wpAny_tupleItemsOf hx rfl ?_)
  refine wpAny_bind (wpAny_tupleItemsOf hy rfl ?_)
  refine wpAny_bind ?_
  show wpAny _ _ (forIn [((Value.int i t), (Value.int i' t')), ((Value.int j u), (Value.int j' u'))] _ _) _ _ s
  rw [List.forIn_cons]
  refine wpAny_bind (wpAny_bind (wpAny_eqBool_int ?_))
  by_cases h1 : i = i'
  · subst h1
    simp only [beq_self_eq_true, Bool.not_true, Bool.false_eq_true, if_false]
    refine wpAny_pure ?_
    dsimp only
    rw [List.forIn_cons]
    refine wpAny_bind (wpAny_bind (wpAny_eqBool_int ?_))
    by_cases h2 : j = j'
    · subst h2
      simp only [beq_self_eq_true, Bool.not_true, Bool.false_eq_true, if_false]
      refine wpAny_pure ?_
      dsimp only
      rw [List.forIn_nil]
      refine wpAny_pure ?_
      dsimp only
      refine wpAny_pure ?_
      have h' : P (.done (.ret (.bool false))) s := by simpa using h
      exact h'
    · have e : (j == j') = false := by simpa using h2
      rw [e]
      simp only [Bool.not_false, if_true]
      refine wpAny_bind (wpAny_rule (wpAny_bind (lt_int (wpAny_bind (wpAny_pure (wpAny_pure ?_))))))
      dsimp only
      refine wpAny_pure (wpAny_pure ?_)
      simpa using h
  · have e : (i == i') = false := by simpa using h1
    rw [e]
    simp only [Bool.not_false, if_true]
    refine wpAny_bind (wpAny_rule (wpAny_bind (lt_int (wpAny_bind (wpAny_pure (wpAny_pure ?_))))))
    dsimp only
    refine wpAny_pure (wpAny_pure ?_)
    simpa [h1] using h
theorem tuple_lt {a b : Addr} {i j i' j' : Int} {t u t' u' : Tok} {Q : Value → Shared → Prop} (hu : A.units < cLine) (hx : s.heap.get? a = some (tupL [.int i t, .int j u])) (hy : s.heap.get? b = some (tupL [.int i' t', .int j' u']))
    (h : Q (.bool (decide (i < i' ∨ (i = i' ∧ j < j')))) s) : wpAny (model prog w) A (compareOp .Lt (.ref a) (.ref b)) Q E s :=
  wpAny_richCompare_same_room (op := .Lt) (T := "tuple") ⟨_, hx, rfl⟩ ⟨_, hy, rfl⟩ F.slot_tuple_lt
      (wpAny_call_entry F.slot_tuple_lt ⟨_, hx, rfl⟩ F.entry_tuple_lt (tuple_lt_tree hx hy ⟨_, rfl, (fun e => nomatch e), h⟩) (F.args_tuple_lt_2 _ _)) hu
end
def ForPost (h₀ : Heap) (L : Addr) (s : Shared) (wr : List Addr) (own : List (Addr × Obj)) (Jn : (Str → Option Value) → List (Addr × Obj) → Prop) (Q : Flow → Shared → Prop) (f : Flow) (s₂ : Shared) : Prop :=
  match f with
  | .ret v => Q (.ret v) s₂
  | .brk => Q .next s₂
  | _ => ∃ h' tk' m₂ news₂, s₂ = { s with heap := h', toks := tk' } ∧ Fr h₀ L h' m₂ ∧ News h₀ L h' (news₂ ++ own) ∧ (∀ p ∈ news₂, p.1 ∉ wr) ∧ Jn m₂ news₂

section
variable {prog : Program} {w : World} {A : Around} {E : Value → Shared → Prop} {s : Shared} {env : Env} {h₀ : Heap} {x : Str} {body : List Stmt} {Q : Flow → Shared → Prop} {m : Str → Option Value} {news : List (Addr × Obj)}
theorem for_rule {I : Addr} {fp wr : List Addr} {n : Nat} {P : Nat → Value → Prop} {St : Nat → Heap → Prop} (J : Nat → (Str → Option Value) → List (Addr × Obj) → Prop)
    (W : Walks prog w A I fp wr n P St) (hL : env.locals ∉ fp) (hwr : ∀ b ∈ wr, h₀.get? b = none) (hnw : ∀ p ∈ news, p.1 ∉ wr) (hst : St 0 s.heap) (F : Fr h₀ env.locals s.heap m) (N : News h₀ env.locals s.heap news) (h0 : J 0 m news)
    (turn : ∀ i v m₁ news₁ h tk own, i < n → P i v → J i m₁ news₁ → St (i + 1) h → (∀ p ∈ own, p.1 ∈ fp) → (∀ p ∈ news₁, p.1 ∉ wr) → Fr h₀ env.locals h (fun y => if y = x then some v else m₁ y) → News h₀ env.locals h (news₁ ++ own) →
      wpAny (model prog w) A (execs body env) (ForPost h₀ env.locals s wr own (J (i + 1)) Q) E { s with heap := h, toks := tk })
    (done : ∀ h' tk m' news', J n m' news' → Fr h₀ env.locals h' m' → News h₀ env.locals h' news' → Q .next { s with heap := h', toks := tk }) :
    LoopAtV prog w A h₀ env x body Q E (.ref I) s := by
  refine ⟨I, fp, wr, n, P, St, m, news, J, rfl, W, hL, hwr, hnw, hst, F, N, h0, ?_, fun h' tk m' news' F' N' _ hJ => done h' tk m' news' hJ F' N'⟩
  rintro i v m₁ news₁ s₁ own ⟨h, tk, rfl⟩ hi hP hJ hn₁ hown hget hall hst₁ F₁ N₁
  have N₂ : News h₀ env.locals h (news₁ ++ own) := fun p hp => N₁ p (List.mem_append.mpr (List.mem_append.mp hp).symm)
  refine wpAny_mono (turn i v m₁ news₁ h tk own hi hP hJ hst₁ hown hn₁ F₁ N₂) (fun f s₂ p => ?_) fun _ _ e => e
  have fin : (∃ h' tk' m₂ news₂, s₂ = { s with heap := h', toks := tk' } ∧ Fr h₀ env.locals h' m₂ ∧ News h₀ env.locals h' (news₂ ++ own) ∧ (∀ p ∈ news₂, p.1 ∉ wr) ∧ J (i + 1) m₂ news₂) → LoopStepU h₀ env.locals wr own (J (i + 1)) { s with heap := h, toks := tk } .next s₂ := by
    rintro ⟨h', tk', m₂, news₂, rfl, F', N', hw, hj⟩
    exact ⟨rfl, h', tk', m₂, news₂, rfl, F', fun p hp => N' p (List.mem_append.mpr (List.mem_append.mp hp).symm), hw, hj⟩
  cases f with
  | ret v => exact .ret p
  | brk => exact .brk p
  | next => exact .next (fin p)
  | cont => exact .cont (fin p)

/-- over a list that stands anywhere but in the frame -/
theorem for_list {ax : Addr} {vs : List Value} {k : Nat} (J : Nat → (Str → Option Value) → List (Addr × Obj) → Prop) (hh : A.handled = none)
    (hl : s.heap.get? ax = some (listOf vs.toArray k)) (hne : ax ≠ env.locals) (F : Fr h₀ env.locals s.heap m) (N : News h₀ env.locals s.heap news) (h0 : J 0 m news)
    (turn : ∀ i v m₁ news₁ h tk I own, i < vs.length → v = vs.getD i .none → J i m₁ news₁ → (∀ p ∈ own, p.1 = I ∨ p.1 = ax) → I ≠ ax → s.heap.get? I = none → (∀ p ∈ news₁, p.1 ≠ I) → Fr h₀ env.locals h (fun y => if y = x then some v else m₁ y) → News h₀ env.locals h (news₁ ++ own) →
      wpAny (model prog w) A (execs body env) (ForPost h₀ env.locals s [I] own (J (i + 1)) Q) E { s with heap := h, toks := tk })
    (done : ∀ h' tk m' news', J vs.length m' news' → Fr h₀ env.locals h' m' → News h₀ env.locals h' news' → Q .next { s with heap := h', toks := tk }) :
    wpAny (model prog w) A (pyIter (.ref ax)) (fun it s₂ => LoopAtV prog w A h₀ env x body Q E it s₂) E s := by
  have hls : s.heap.IsList ax vs.toArray := PySem.IsL.isList hl
  have hlt : ax < s.heap.objs.size := Heap.lt_size hl
  have hne' : ax ≠ s.heap.objs.size := Nat.ne_of_lt hlt
  refine wpAny_pyIter_list hls ?_
  have W := Walks.list (prog := prog) (w := w) hh s.heap.objs.size ax hne' vs.toArray
  have hsz : vs.toArray.size = vs.length := by simp
  rw [hsz] at W
  have hnone : s.heap.get? s.heap.objs.size = none := by
    cases q : s.heap.get? s.heap.objs.size with
    | none => rfl
    | some o => exact absurd (Heap.lt_size q) (Nat.lt_irrefl _)
  refine for_rule (m := m) (news := news) J W ?_ ?_ ?_ ⟨⟨_, Heap.get?_push_size _ rfl, rfl, rfl⟩, hls.at fun o e => Heap.get?_push_of_some _ e⟩ (F.push _) (fun p hp => ⟨Heap.get?_push_of_some _ (N p hp).1, (N p hp).2⟩) h0 ?_ done
  · intro hm
    rcases List.mem_cons.mp hm with e | hm
    · exact absurd F.ns.lt (e ▸ Nat.lt_irrefl _)
    · exact hne (List.mem_singleton.mp hm).symm
  · intro b hb
    rw [List.mem_singleton.mp hb]
    exact next_is_new F
  · intro p hp hI
    exact absurd (Heap.lt_size (N p hp).1) ((List.mem_singleton.mp hI) ▸ Nat.lt_irrefl _)
  · intro i v m₁ news₁ h tk own hi hP hJ _ hown hn₁ F₁ N₁
    refine turn i v m₁ news₁ h tk _ own hi ?_ hJ (fun p hp => ?_) hne'.symm hnone (fun p hp e => hn₁ p hp (List.mem_singleton.mpr e)) F₁ N₁
    · have : vs[i]? = some v := by simpa using hP
      simp [List.getD, this]
    · rcases List.mem_cons.mp (hown p hp) with h | h
      · exact .inl h
      · exact .inr (List.mem_singleton.mp h)

/-- over a range's iterator that is made already -/
theorem for_rangeIter {I : Addr} {a c : Int} {n : Nat} (J : Nat → (Str → Option Value) → List (Addr × Obj) → Prop) (hh : A.handled = none)
    (hit : IsRangeIter s.heap I a (n : Int) c) (hI0 : h₀.get? I = none) (hIL : env.locals ≠ I) (hnw : ∀ p ∈ news, p.1 ≠ I) (F : Fr h₀ env.locals s.heap m) (N : News h₀ env.locals s.heap news) (h0 : J 0 m news)
    (turn : ∀ i t m₁ news₁ h tk own, i < n → J i m₁ news₁ → (∀ p ∈ own, p.1 = I) → (∀ p ∈ news₁, p.1 ≠ I) → Fr h₀ env.locals h (fun y => if y = x then some (.int (a + i * c) t) else m₁ y) → News h₀ env.locals h (news₁ ++ own) →
      wpAny (model prog w) A (execs body env) (ForPost h₀ env.locals s [I] own (J (i + 1)) Q) E { s with heap := h, toks := tk })
    (done : ∀ h' tk m' news', J n m' news' → Fr h₀ env.locals h' m' → News h₀ env.locals h' news' → Q .next { s with heap := h', toks := tk }) :
    wpAny (model prog w) A (pyIter (.ref I)) (fun it s₂ => LoopAtV prog w A h₀ env x body Q E it s₂) E s := by
  have W := Walks.range (prog := prog) (w := w) hh I a c n
  have hst : IsRangeIter s.heap I (a + ((0 : Nat) : Int) * c) ((n : Int) - ((0 : Nat) : Int)) c := by simpa using hit
  refine W.self 0 _ _ _ hst ?_
  refine for_rule (m := m) (news := news) J W (by simpa using hIL) (by intro b hb; rw [List.mem_singleton.mp hb]; exact hI0) (fun p hp e => hnw p hp (List.mem_singleton.mp e)) hst F N h0 ?_ done
  intro i v m₁ news₁ h tk own hi hP hJ _ hown hn₁ F₁ N₁
  obtain ⟨t, rfl⟩ := hP
  exact turn i t m₁ news₁ h tk own hi hJ (fun p hp => List.mem_singleton.mp (hown p hp)) (fun p hp e => hn₁ p hp (List.mem_singleton.mpr e)) F₁ N₁
end
theorem own_off {I ax D : Addr} {o : Obj} {own : List (Addr × Obj)} (hown : ∀ p ∈ own, p.1 = I ∨ p.1 = ax) (hne : ∀ p ∈ [(D, o)], p.1 ≠ I) (h : D ≠ ax) : ∀ p ∈ own, p.1 ≠ D := fun p hp e => by
  rcases hown p hp with q | q
  · exact hne _ (.head _) (e.symm.trans q)
  · exact h (e.symm.trans q)
example : True := by
  w_top off
  trivial
section
local macro_rules
  | `(tactic| walk_at "subscriptTail") => `(tactic| walk_at "mine 1")
  | `(tactic| walk_at "call builtin:len") => `(tactic| walk_at "mine 3")
  | `(tactic| walk_at "setItem ref int") => `(tactic| walk_at "mine 2")
  | `(tactic| walk_at "exec While Compare cons nil") => `(tactic| refine Halt.mk ?_)
  | `(tactic| walk_at "compareOp Lt") => `(tactic| refine Halt.mk ?_)
  | `(tactic| walk_at "call ref cons nil") => `(tactic| refine Halt.mk ?_)
  | `(tactic| walk_at "call type:reversed") => `(tactic| refine Halt.mk ?_)
  | `(tactic| walk_at "exec For Name Call cons nil") => `(tactic| refine Halt.mk ?_)
local macro_rules | `(tactic| walk_at "mine 0") => `(tactic| skip)
theorem heapify_spec {prog : Program} {w : World} {A : Around} {s : Shared} {h₀ : Heap} {mean : ExcName → Option Value} {mg mb : Str → Option Value} {Q : Value → Shared → Prop} {E : Value → Shared → Prop}
  {tups : List (Addr × Obj)} {P : Value → Prop} {lt : Value → Value → Bool} (C : CmpOk prog w tups P lt)
  (a : Addr) (vs : List Value) (n : Nat) (hA : Ok A 4) (G : Gd w mean mg mb h₀) (st : h₀.StaysIn s.heap) (hT : ∀ p ∈ tups, s.heap.get? p.1 = some p.2 ∧ p.1 ≠ a)
  (ha : s.heap.get? a = some (listOf vs.toArray n)) (ha0 : h₀.get? a = none) (hz : vs.length ≤ 1000) (hP : ∀ v ∈ vs, P v)
  (hret : ∀ h' tk', StayBut [a] s.heap h' → h'.get? a = some (listOf (hpf .none lt (vs.length / 2) vs).toArray n) → Q .none { s with heap := h', toks := tk' }) :
  wpAny (model prog w) A (call (.ref 103) [.ref a]) Q E s := by
  refine wpAny_call ?_
  refine' enter (binds := [(Str.ofString "x", .ref a)]) (as := [(a, listOf vs.toArray n)]) hA.room G st ?kN ?k6 ?k7 ?k9 ?kB ?_ ?c2 ?c3 ?c4 ?c5
  case kN => intro p hp; simp only [List.mem_singleton] at hp; subst hp; exact ⟨ha, ha0⟩
  case k6 => k_is
  case k7 => k_is
  case k9 => exact BindsTo.of_eq rfl
  case kB => exact locs rfl
  case c2 => exact rfl
  case c3 => exact rfl
  case c4 => exact rfl
  case c5 => decide
  intro g L h₁ G' hs hn F N
  obtain ⟨X, T⟩ := G'
  have hTg : ∀ p ∈ tups, g.get? p.1 = some p.2 := fun p hp => hs _ _ (hT p hp).1 (by simpa using (hT p hp).2)
  k_steps
  refine Halt.of ?_
  rename Fr _ _ _ _ => F'
  refine For_invVF F' rfl rfl ?_
  k_steps
  refine Halt.of ?_
  rename Fr _ _ _ _ => F'
  rename News _ _ _ _ => N'
  rename IsRange _ _ _ _ _ _ _ _ => R
  have e1 : ((vs.length : Nat) : Int).fdiv 2 = ((vs.length / 2 : Nat) : Int) := by
    rw [Int.fdiv_eq_ediv_of_nonneg _ (by decide)]; omega
  rw [e1] at R
  have e2 : Builtin.Range.rangeSize 0 ((vs.length / 2 : Nat) : Int) 1 = ((vs.length / 2 : Nat) : Int) := by
    rw [rangeSize_one]; split <;> omega
  have e3 : ∀ x : Int, -1000 ≤ x → x ≤ 1000 → Builtin.Range.rangeFitsLong x = true := by
    intro x h1 h2
    unfold Builtin.Range.rangeFitsLong
    simp; omega
  generalize hk : vs.length / 2 = k at R e2 hret
  refine rev_range R ?_ ?_
  · show (Builtin.Range.rangeFitsLong 0 && Builtin.Range.rangeFitsLong (k : Int) && Builtin.Range.rangeFitsLong 1 && Builtin.Range.rangeFitsLong (-1) && Builtin.Range.rangeFitsLong (0 - 1) && Builtin.Range.rangeFitsLong (Builtin.Range.rangeSize 0 (k : Int) 1)) = true
    rw [e2, e3 0 (by omega) (by omega), e3 (k : Int) (by omega) (by omega), e3 1 (by omega) (by omega), e3 (-1) (by omega) (by omega), e3 (0 - 1) (by omega) (by omega)]
    rfl
  dsimp only
  rw [e2]
  have hI0 := next_is_new F'
  have hlt := F'.ns.lt
  refine for_rangeIter (m := _) (news := [(a, listOf vs.toArray n)]) (fun i m nx => ∃ l, nx = [(a, listOf (l : List Value).toArray n)] ∧ Has m [(Str.ofString "x", .ref a)] ∧ l.length = vs.length ∧ (∀ v ∈ l, P v) ∧ hpf .none lt (k - i) l = hpf .none lt k vs)
    hA.hh (Heap.get?_push_size _ rfl) hI0 (Nat.ne_of_lt hlt) ?_ (F'.push _) (fun p hp => ⟨Heap.get?_push_of_some _ (N' p hp).1, (N' p hp).2⟩) ⟨vs, rfl, ⟨rfl, trivial⟩, rfl, hP, rfl⟩ ?turn ?done
  · intro p hp e
    exact absurd (Heap.lt_size (N' p hp).1) (e ▸ Nat.lt_irrefl _)
  case turn =>
    clear N'
    rintro i t m₁ nx h₂ tk₂ own hik ⟨l, rfl, hm, hl, hPl, hgo⟩ hown hne F₂ N₂
    obtain ⟨u, rfl⟩ := hm.lm
    have ei : (0 + ((k : Int) - 1) * 1 + (i : Int) * -1) = ((k - 1 - i : Nat) : Int) := by omega
    rw [ei] at F₂
    k_steps
    refine Halt.of ?_
    have hoa : ∀ p ∈ own, p.1 ≠ a := fun p hp e => hne _ (List.mem_singleton.mpr rfl) (e ▸ hown p hp)
    refine siftup_spec C a l n (k - 1 - i) t hA.deeper ⟨X, T⟩ F₂.keep (fun q hq => ⟨F₂.keep _ _ (hTg q hq), (hT q hq).2⟩) (N₂ _ (.head _)).1 (hn _ (List.mem_singleton.mpr rfl)) (by omega) (by omega) hPl ?_
    intro h₃ tk₃ hs₃ ha₃
    dsimp only at hs₃
    k_steps
    have F₃ := fr_back F₂ N₂ (.head _) hs₃
    have N₃ := news_back N₂ (Upd.head hoa) hs₃ ha₃
    refine ⟨_, _, _, [(a, listOf (sup .none lt l (k - 1 - i)).toArray n)], rfl, F₃, N₃, ?_, _, rfl, ⟨rfl, trivial⟩, by rw [sup_length, hl], sup_all (by omega) hPl, ?_⟩
    · intro p hp
      rw [List.mem_singleton.mp hp]
      have := hne _ (List.mem_singleton.mpr rfl)
      simpa using this
    · rw [← hgo, show k - i = (k - 1 - i) + 1 by omega, show k - (i + 1) = k - 1 - i by omega]
      rfl
  case done =>
    rintro h₂ tk₂ m₂ nx ⟨l, rfl, hm, hl, hPl, hgo⟩ F₂ N₂
    dsimp only
    k_steps
    refine hret _ _ (fun b o e nb => F₂.keep _ _ (hs _ _ e nb)) ?_
    rw [Nat.sub_self] at hgo
    have := (N₂ _ (List.mem_singleton.mpr rfl)).1
    rw [← hgo]
    exact this
end
example : True := by
  w_top off
  trivial
local macro_rules | `(tactic| walk_at "mine 4") => `(tactic| (k_here; (with_reducible show wpAny _ _ (call (Value.builtin _) [Value.ref _, _]) _ _ _); k_dflt (refine' g_append ?k1 ?k2 ?k3 ?z ?_; (case k1 => k_asm); (case k2 => k_asm); (case k3 => k_upd); (case z => omega); k_whole); intro h' F' N'; (try k_sweep)))
local macro_rules | `(tactic| walk_at "mine 5") => `(tactic| (k_here; (with_reducible show wpAny _ _ (getMethod (Value.ref _) (PySem.Str.ofString "append") _) _ _ _); k_dflt (refine' g_method ?N PySem.F.slot_list_append PySem.F.type_list_append ?_; (case N => walk_at "mine at"))))
section
local macro_rules
  | `(tactic| walk_at "subscriptTail") => `(tactic| walk_at "mine 1")
  | `(tactic| walk_at "call builtin:len") => `(tactic| walk_at "mine 3")
  | `(tactic| walk_at "setItem ref int") => `(tactic| walk_at "mine 2")
  | `(tactic| walk_at "call ref cons nil") => `(tactic| refine Halt.mk ?_)
  | `(tactic| walk_at "call builtin:list.append") => `(tactic| walk_at "mine 4")
  | `(tactic| walk_at "getMethod ref") => `(tactic| walk_at "mine 5")
  | `(tactic| walk_at "truthy ref") => `(tactic| refine Halt.mk ?_)
  | `(tactic| walk_at "call builtin:list.pop") => `(tactic| (k_here; (with_reducible show wpAny _ _ (call (Value.builtin _) [Value.ref _]) _ _ _); k_dflt (refine' g_pop ?k1 ?k2 ?k3 ?k4 ?z ?_; (case k1 => k_asm); (case k2 => k_asm); (case k3 => k_upd); (case k4 => omega); (case z => omega); k_whole); intro h' F' N'; (try k_sweep)))

theorem heappush_spec {prog : Program} {w : World} {A : Around} {s : Shared} {h₀ : Heap} {mean : ExcName → Option Value} {mg mb : Str → Option Value} {Q : Value → Shared → Prop} {E : Value → Shared → Prop}
  {tups : List (Addr × Obj)} {P : Value → Prop} {lt : Value → Value → Bool} (C : CmpOk prog w tups P lt)
  (a : Addr) (x : Value) (vs : List Value) (n : Nat) (hA : Ok A 3) (G : Gd w mean mg mb h₀) (st : h₀.StaysIn s.heap) (hT : ∀ p ∈ tups, s.heap.get? p.1 = some p.2 ∧ p.1 ≠ a)
  (ha : s.heap.get? a = some (listOf vs.toArray n)) (ha0 : h₀.get? a = none) (hz : vs.length < 1000) (hP : ∀ v ∈ vs, P v) (hPx : P x)
  (hret : ∀ h' tk', StayBut [a] s.heap h' → h'.get? a = some (listOf (sdown .none lt (vs ++ [x]) 0 vs.length).toArray (n + 1)) → Q .none { s with heap := h', toks := tk' }) :
  wpAny (model prog w) A (call (.ref 89) [.ref a, x]) Q E s := by
  refine wpAny_call ?_
  refine' enter (binds := [(Str.ofString "heap", .ref a), (Str.ofString "item", x)]) (as := [(a, listOf vs.toArray n)]) hA.room G st ?kN ?k6 ?k7 ?k9 ?kB ?_ ?c2 ?c3 ?c4 ?c5
  case kN => intro p hp; simp only [List.mem_singleton] at hp; subst hp; exact ⟨ha, ha0⟩
  case k6 => k_is
  case k7 => k_is
  case k9 => exact BindsTo.of_eq rfl
  case kB => exact locs rfl
  case c2 => exact rfl
  case c3 => exact rfl
  case c4 => exact rfl
  case c5 => decide
  intro g L h₁ G' hs hn F N
  obtain ⟨X, T⟩ := G'
  have hTg : ∀ p ∈ tups, g.get? p.1 = some p.2 := fun p hp => hs _ _ (hT p hp).1 (by simpa using (hT p hp).2)
  have hlen : (vs ++ [x]).length = vs.length + 1 := by simp
  k_steps
  refine Halt.of ?_
  rename Fr _ _ _ _ => F'
  rename News _ _ _ _ => N'
  have e : (((vs ++ [x]).length : Nat) : Int) - 1 = ((vs.length : Nat) : Int) := by rw [hlen]; omega
  rw [e]
  refine siftdown_spec C a (vs ++ [x]) (n + 1) 0 vs.length _ _ hA.deeper ⟨X, T⟩ F'.keep (fun q hq => ⟨F'.keep _ _ (hTg q hq), (hT q hq).2⟩) (N' _ (List.mem_singleton.mpr rfl)).1 (hn _ (List.mem_singleton.mpr rfl)) (by omega) (by omega) ?_ ?_
  · intro v hv
    rcases List.mem_append.mp hv with hv | hv
    · exact hP v hv
    · rw [List.mem_singleton.mp hv]; exact hPx
  · intro h₃ tk₃ hs₃ ha₃
    dsimp only at hs₃
    k_steps
    exact hret _ _ (fun b o e nb => hs₃ _ _ (F'.keep _ _ (hs _ _ e nb)) nb) ha₃

theorem heappop_spec {prog : Program} {w : World} {A : Around} {s : Shared} {h₀ : Heap} {mean : ExcName → Option Value} {mg mb : Str → Option Value} {Q : Value → Shared → Prop} {E : Value → Shared → Prop}
  {tups : List (Addr × Obj)} {P : Value → Prop} {lt : Value → Value → Bool} (C : CmpOk prog w tups P lt)
  (a : Addr) (vs : List Value) (n : Nat) (hA : Ok A 4) (G : Gd w mean mg mb h₀) (st : h₀.StaysIn s.heap) (hT : ∀ p ∈ tups, s.heap.get? p.1 = some p.2 ∧ p.1 ≠ a)
  (ha : s.heap.get? a = some (listOf vs.toArray n)) (ha0 : h₀.get? a = none) (hz : vs.length ≤ 1000) (hne : 0 < vs.length) (hP : ∀ v ∈ vs, P v)
  (hret : ∀ h' tk', StayBut [a] s.heap h' → h'.get? a = some (listOf (if vs.length = 1 then [] else sup .none lt (vs.dropLast.set 0 (vs.getD (vs.length - 1) .none)) 0).toArray (n + 1)) →
    Q (vs.getD 0 .none) { s with heap := h', toks := tk' }) :
  wpAny (model prog w) A (call (.ref 96) [.ref a]) Q E s := by
  refine wpAny_call ?_
  refine' enter (binds := [(Str.ofString "heap", .ref a)]) (as := [(a, listOf vs.toArray n)]) hA.room G st ?kN ?k6 ?k7 ?k9 ?kB ?_ ?c2 ?c3 ?c4 ?c5
  case kN => intro p hp; simp only [List.mem_singleton] at hp; subst hp; exact ⟨ha, ha0⟩
  case k6 => k_is
  case k7 => k_is
  case k9 => exact BindsTo.of_eq rfl
  case kB => exact locs rfl
  case c2 => exact rfl
  case c3 => exact rfl
  case c4 => exact rfl
  case c5 => decide
  intro g L h₁ G' hs hn F N
  obtain ⟨X, T⟩ := G'
  have hTg : ∀ p ∈ tups, g.get? p.1 = some p.2 := fun p hp => hs _ _ (hT p hp).1 (by simpa using (hT p hp).2)
  have hlen : vs.dropLast.length = vs.length - 1 := by simp
  have hl0 : vs.getD 0 .none = vs.dropLast.getD 0 .none ∨ vs.length = 1 := by
    by_cases h1 : vs.length = 1
    · exact .inr h1
    · left
      have : 0 < vs.dropLast.length := by omega
      simp [List.getD, List.getElem?_eq_getElem hne, List.getElem?_eq_getElem this]
  k_steps
  refine Halt.of ?_
  rename Fr _ _ _ _ => F'
  rename News _ _ _ _ => N'
  refine g_truthy (N' _ (List.mem_singleton.mpr rfl)).1 (by omega) ?_
  by_cases h1 : vs.length = 1
  · have e : vs.dropLast.isEmpty = true := by
      rw [List.isEmpty_iff]; exact List.eq_nil_of_length_eq_zero (by omega)
    rw [e]
    k_steps
    rename Fr _ _ _ _ => F'
    rename News _ _ _ _ => N'
    have e2 : vs.dropLast = [] := List.eq_nil_of_length_eq_zero (by omega)
    rw [h1]
    refine hret _ _ (fun b o e nb => F'.keep _ _ (hs _ _ e nb)) ?_
    rw [if_pos h1, ← e2]
    exact (N' _ (List.mem_singleton.mpr rfl)).1
  · have e : vs.dropLast.isEmpty = false := by
      rw [Bool.eq_false_iff]; intro q; rw [List.isEmpty_iff] at q; rw [q] at hlen; simp at hlen; omega
    rw [e]
    have hlen2 : 1 < vs.length := by omega
    k_steps
    refine Halt.of ?_
    rename Fr _ _ _ _ => F'
    rename News _ _ _ _ => N'
    have hPl : ∀ v ∈ vs.dropLast.set 0 (vs.getD (vs.length - 1) Value.none), P v := set_all (fun v hv => hP v (List.dropLast_subset _ hv)) (getD_all hP (by omega))
    refine siftup_spec C a (vs.dropLast.set 0 (vs.getD (vs.length - 1) Value.none)) (n + 1) 0 _ hA.deeper ⟨X, T⟩ F'.keep (fun q hq => ⟨F'.keep _ _ (hTg q hq), (hT q hq).2⟩) (N' _ (List.mem_singleton.mpr rfl)).1 (hn _ (List.mem_singleton.mpr rfl)) (by simp; omega) (by simp; omega) hPl ?_
    intro h₃ tk₃ hs₃ ha₃
    dsimp only at hs₃
    have F₃ := fr_back F' N' (.head _) hs₃
    have N₃ := news_back N' (Upd.head (fun _ h => nomatch h)) hs₃ ha₃
    k_steps
    rename Fr _ _ _ _ => F₄
    rcases hl0 with q | q
    · show Q (vs.dropLast.getD 0 Value.none) _
      rw [← q]
      refine hret _ _ (fun b o e nb => hs₃ _ _ (F'.keep _ _ (hs _ _ e nb)) nb) ?_
      rw [if_neg h1]
      exact ha₃
    · exact absurd q h1
end
theorem g_half {prog : Program} {w : World} {A : Around} {E : Value → Shared → Prop} {s : Shared} {Q : Value → Shared → Prop} {p : Nat} {t u : Tok} (h : Q (.int ((p / 2 : Nat) : Int) s.toks) { s with toks := s.toks + 1 }) :
    wpAny (model prog w) A (binaryOp .FloorDiv (.int (p : Int) t) (.int 2 u)) Q E s := by
  have e : ((p : Nat) : Int).fdiv 2 = ((p / 2 : Nat) : Int) := by
    rw [Int.fdiv_eq_ediv_of_nonneg _ (by decide)]; omega
  refine floordiv_int (by decide) ?_
  rw [e]
  exact h
theorem pick_to {vs : List Value} {k : Nat} (h : k ≤ vs.length) : kms_pick vs none (some (k : Int)) = vs.take k := by
  unfold kms_pick kms_lo kms_hi
  simp only [show ¬ ((k : Int) < 0) by omega, if_false, List.drop_zero, Nat.sub_zero, Int.toNat_natCast, Nat.min_eq_left h]
theorem pick_from {vs : List Value} {k : Nat} (h : k ≤ vs.length) : kms_pick vs (some (k : Int)) none = vs.drop k := by
  unfold kms_pick kms_lo kms_hi
  simp only [show ¬ ((k : Int) < 0) by omega, if_false, Int.toNat_natCast, Nat.min_eq_left h]
  exact List.take_of_length_le (by simp)
theorem pick_toArr {vs : List Value} {k : Nat} (h : k ≤ vs.length) : kms_pick vs.toArray.toList none (some (k : Int)) = vs.take k := pick_to h
theorem pick_fromArr {vs : List Value} {k : Nat} (h : k ≤ vs.length) : kms_pick vs.toArray.toList (some (k : Int)) none = vs.drop k := pick_from h
theorem g_size {vs : List Value} (h : vs.length ≤ 1000) : vs.toArray.size ≤ sizeLine := by rw [List.size_toArray, sizeLine_eq]; omega

def IsI (v : Value) : Prop := ∃ i t, v = .int i t
def keyI : Value → Int
  | .int i _ => i
  | _ => 0
def ltI (x y : Value) : Bool := decide (keyI x < keyI y)
theorem cmp_ints {prog : Program} {w : World} : CmpOk prog w [] IsI ltI := by
  rintro x y ⟨i, t, rfl⟩ ⟨j, u, rfl⟩ A s Q E _ _ h
  exact lt_int (h s.toks)
/-- a list of ints, by their numbers -/
def Ints (vs : List Value) (ns : List Int) : Prop := (∀ v ∈ vs, IsI v) ∧ vs.map keyI = ns
theorem Ints.length {vs : List Value} {ns : List Int} (h : Ints vs ns) : vs.length = ns.length := by rw [← h.2]; simp
theorem Ints.nil : Ints [] [] := ⟨(fun _ h => nomatch h), rfl⟩
theorem Ints.are {vs : List Value} {ns : List Int} (h : Ints vs ns) : IntsAre vs ns := by
  obtain ⟨h1, rfl⟩ := h
  induction vs with
  | nil => exact .nil
  | cons v r ih =>
    obtain ⟨i, t, rfl⟩ := h1 v (.head _)
    exact .cons i t (ih fun x hx => h1 x (.tail _ hx))
theorem Ints.of {vs : List Value} {ns : List Int} (h : IntsAre vs ns) : Ints vs ns := by
  induction h with
  | nil => exact Ints.nil
  | cons i t _ ih =>
    refine ⟨fun v hv => ?_, by simp [keyI, ih.2]⟩
    rcases List.mem_cons.mp hv with rfl | hv
    · exact ⟨i, t, rfl⟩
    · exact ih.1 v hv
theorem Ints.take {vs : List Value} {ns : List Int} (h : Ints vs ns) (k : Nat) : Ints (vs.take k) (ns.take k) := ⟨fun v hv => h.1 v (List.mem_of_mem_take hv), by rw [List.map_take, h.2]⟩
theorem Ints.drop {vs : List Value} {ns : List Int} (h : Ints vs ns) (k : Nat) : Ints (vs.drop k) (ns.drop k) := ⟨fun v hv => h.1 v (List.mem_of_mem_drop hv), by rw [List.map_drop, h.2]⟩
theorem Ints.append {vs ws : List Value} {ns ms : List Int} (h : Ints vs ns) (h' : Ints ws ms) : Ints (vs ++ ws) (ns ++ ms) :=
  ⟨fun v hv => (List.mem_append.mp hv).elim (h.1 v) (h'.1 v), by rw [List.map_append, h.2, h'.2]⟩
theorem Ints.getD {vs : List Value} {ns : List Int} (h : Ints vs ns) {i : Nat} (hi : i < ns.length) : ∃ t, vs.getD i .none = .int (ns.getD i 0) t := by
  have hl := h.length
  obtain ⟨j, t, e⟩ := getD_all (d := Value.none) h.1 (i := i) (by omega)
  refine ⟨t, ?_⟩
  rw [e]
  have : (vs.map keyI)[i]? = some (keyI (vs.getD i .none)) := by
    have hi' : i < vs.length := by omega
    simp [List.getD, List.getElem?_eq_getElem hi']
  rw [h.2, e] at this
  simp [List.getD, this, keyI]

section
variable {α β : Type} {d : α} {d' : β} {lt : α → α → Bool} {lt' : β → β → Bool} {f : α → β} (hd : f d = d') (hlt : ∀ x y, lt x y = lt' (f x) (f y))
include hd in
theorem getD_map {l : List α} {i : Nat} : (l.map f).getD i d' = f (l.getD i d) := by
  subst hd
  simp only [List.getD, List.getElem?_map]
  cases l[i]? <;> rfl
include hd hlt
theorem sdGo_map {x : α} {sp : Nat} : ∀ (k : Nat) (l : List α) (p : Nat), sdGo d' lt' (f x) sp k (l.map f) p = ((sdGo d lt x sp k l p).1.map f, (sdGo d lt x sp k l p).2)
  | 0, _, _ => rfl
  | k + 1, l, p => by
    unfold sdGo
    rw [getD_map hd, ← hlt]
    by_cases h : sp < p
    · rw [if_pos h, if_pos h]
      cases q : lt x (l.getD ((p - 1) / 2) d) with
      | true => simp only [if_true]; rw [← List.map_set, sdGo_map k]
      | false => simp
    · rw [if_neg h, if_neg h]
theorem sdown_map (l : List α) (sp p : Nat) : sdown d' lt' (l.map f) sp p = (sdown d lt l sp p).map f := by
  unfold sdown
  rw [getD_map hd, sdGo_map hd hlt, List.map_set]
theorem child_map (l : List α) (c : Nat) : child d' lt' (l.map f) c = child d lt l c := by
  unfold child
  rw [getD_map hd, getD_map hd, ← hlt, List.length_map]
theorem suGo_map : ∀ (k : Nat) (l : List α) (p : Nat), suGo d' lt' k (l.map f) p = ((suGo d lt k l p).1.map f, (suGo d lt k l p).2)
  | 0, _, _ => rfl
  | k + 1, l, p => by
    unfold suGo
    rw [child_map hd hlt, getD_map hd, List.length_map, ← List.map_set]
    by_cases h : 2 * p + 1 < l.length
    · rw [if_pos h, if_pos h, suGo_map k]
    · rw [if_neg h, if_neg h]
theorem sup_map (l : List α) (p : Nat) : sup d' lt' (l.map f) p = (sup d lt l p).map f := by
  unfold sup
  rw [getD_map hd, List.length_map, suGo_map hd hlt, ← List.map_set, sdown_map hd hlt]
theorem hpf_map : ∀ (k : Nat) (l : List α), hpf d' lt' k (l.map f) = (hpf d lt k l).map f
  | 0, _ => rfl
  | k + 1, l => by unfold hpf; rw [sup_map hd hlt, hpf_map k]
end

/-- ints, compared -/
def iLt (x y : Int) : Bool := decide (x < y)
theorem Ints.sdown {vs : List Value} {ns : List Int} (h : Ints vs ns) {sp p : Nat} (hp : p < ns.length) : Ints (sdown .none ltI vs sp p) (Mine.sdown 0 iLt ns sp p) :=
  ⟨sdown_all (by rw [h.length]; exact hp) h.1, by rw [← h.2]; exact (sdown_map (d := Value.none) (lt := ltI) (f := keyI) rfl (fun _ _ => rfl) vs sp p).symm⟩
theorem Ints.hpf {vs : List Value} {ns : List Int} (h : Ints vs ns) {k : Nat} (hk : k ≤ ns.length) : Ints (hpf .none ltI k vs) (Mine.hpf 0 iLt k ns) :=
  ⟨hpf_all k vs (by rw [h.length]; exact hk) h.1, by rw [← h.2]; exact (hpf_map (d := Value.none) (lt := ltI) (f := keyI) rfl (fun _ _ => rfl) k vs).symm⟩
example : True := by
  w_top off
  trivial
def heapedGo : List Int → List Int → List Int
  | [], l => l
  | x :: r, l => heapedGo r (sdown 0 iLt (l ++ [x]) 0 l.length)
def heaped (ns : List Int) : List Int := heapedGo (ns.drop (ns.length / 2)) (hpf 0 iLt ((ns.take (ns.length / 2)).length / 2) (ns.take (ns.length / 2)))
local macro_rules | `(tactic| walk_at "mine 6") => `(tactic| (k_here; (with_reducible show wpAny _ _ (subscriptTail _ (PySem.Expr.Slice _ _ none _) (Value.ref _) (Value.ref _)) _ _ _); k_dflt (refine' kms_slice_lit ?F ?N ?l ?p ?q ?e ?_ ?s ?t ?z; (case F => k_asm); (case N => k_asm); (case l => first | exact PySem.IsL.isList (News.get (by k_asm) (by k_mem)) | exact PySem.IsL.isList (Fr.keep (by k_asm) _ _ (by k_asm))); (case p => kmk_part); (case q => kmk_part); (case e => first | exact pick_toArr (by omega) | exact pick_fromArr (by omega)); (case s => with_unfolding_all rfl); (case t => kmk_pure); (case z => exact g_size (by omega))); intro D' h' F' N' l1; (try k_lt l1); (try k_sweep)))
section
local macro_rules
  | `(tactic| walk_at "subscriptTail") => `(tactic| walk_at "mine 1")
  | `(tactic| walk_at "call builtin:len") => `(tactic| walk_at "mine 3")
  | `(tactic| walk_at "binaryOp FloorDiv int int") => `(tactic| (refine g_half ?_))
  | `(tactic| walk_at "subscriptTail Name Slice ref ref") => `(tactic| walk_at "mine 6")
  | `(tactic| walk_at "call ref cons nil") => `(tactic| refine Halt.mk ?_)
  | `(tactic| walk_at "exec For Name Subscript cons nil") => `(tactic| refine Halt.mk ?_)
  | `(tactic| walk_at "pyIter ref") => `(tactic| refine Halt.mk ?_)

theorem heaped_spec {prog : Program} {w : World} {A : Around} {s : Shared} {h₀ : Heap} {mean : ExcName → Option Value} {mg mb : Str → Option Value} {Q : Value → Shared → Prop} {E : Value → Shared → Prop}
  (r : Addr) (vs : List Value) (ns : List Int) (n : Nat) (hA : Ok A 5) (G : Gd w mean mg mb s.heap)
  (hr : s.heap.get? r = some (listOf vs.toArray n)) (hi : Ints vs ns) (hz : ns.length < 1000)
  (hret : ∀ D ws k h' tk', StayBut [] s.heap h' → s.heap.get? D = none → h'.get? D = some (listOf (List.toArray ws) k) → Ints ws (heaped ns) → Q (.ref D) { s with heap := h', toks := tk' }) :
  wpAny (model prog w) A (call (.ref 124) [.ref r]) Q E s := by
  refine wpAny_call ?_
  refine' enter (binds := [(Str.ofString "row", .ref r)]) (as := []) hA.room G (fun _ _ e => e) ?kN ?k6 ?k7 ?k9 ?kB ?_ ?c2 ?c3 ?c4 ?c5
  case kN => intro p hp; exact nomatch hp
  case k6 => k_is
  case k7 => k_is
  case k9 => exact BindsTo.of_eq rfl
  case kB => exact locs rfl
  case c2 => exact rfl
  case c3 => exact rfl
  case c4 => exact rfl
  case c5 => decide
  intro g L h₁ G' hs hn F N
  obtain ⟨X, T⟩ := G'
  have hz' : vs.length < 1000 := by rw [hi.length]; exact hz
  have hr' : g.get? r = some (listOf vs.toArray n) := hs _ _ hr (by simp)
  have hlt : (vs.take (vs.length / 2)).length = vs.length / 2 := by simp; omega
  k_steps
  refine Halt.of ?_
  rename Fr _ _ _ _ => F'
  rename News _ _ _ _ => N'
  have hD := N' _ (.head _)
  refine heapify_spec (tups := []) cmp_ints _ _ _ hA.deeper ⟨X, T⟩ F'.keep (fun q hq => nomatch hq) hD.1 hD.2.2 (by omega) (hi.take _).1 ?_
  intro h₃ tk₃ hs₃ ha₃
  dsimp only at hs₃
  have F₃ := fr_back F' N' (.head _) hs₃
  have N₃ := news_back N' (Upd.head (fun _ h => nomatch h)) hs₃ ha₃
  dsimp only at hD
  clear N' F' hs₃ ha₃
  k_steps
  refine Halt.of ?_
  rename Fr _ _ _ _ => F'
  refine For_invVF F' rfl rfl ?_
  k_steps
  refine Halt.of ?_
  rename Fr _ _ _ _ => F'
  rename News _ _ _ _ => N'
  rename _ < _ => hlt2
  have hi0 := (hi.take (vs.length / 2)).hpf (k := (vs.take (vs.length / 2)).length / 2) (by rw [← (hi.take (vs.length / 2)).length]; omega)
  have hl := hi.length
  generalize hL0 : hpf Value.none ltI ((vs.take (vs.length / 2)).length / 2) (vs.take (vs.length / 2)) = l0 at N' hi0
  have hl0 : l0.length = vs.length / 2 := by rw [← hL0, hpf_length]; exact hlt
  refine for_list (m := _) (news := _) (fun i m nx => ∃ l k ms, nx = [(_, listOf (l : List Value).toArray k)] ∧ Has m [(Str.ofString "pile", .ref _)] ∧ Ints l ms ∧ l.length = vs.length / 2 + i ∧ heapedGo ((ns.drop (ns.length / 2)).drop i) ms = heaped ns)
    hA.hh (N' _ (.head _)).1 (N' _ (.head _)).2.1 F' (fun p hp => N' p (.tail _ hp)) ⟨l0, 0, _, rfl, ⟨rfl, trivial⟩, hi0, hl0, ?_⟩ ?turn ?done
  · rw [List.drop_zero, (hi.take (vs.length / 2)).length, hl]
    rfl
  case turn =>
    rintro i v m₁ nx h₂ tk₂ I own hil rfl ⟨l, k, ms, rfl, hm, hms, hlen, hgo⟩ hown hIax hI hne F₂ N₂
    obtain ⟨u, rfl⟩ := hm.lm
    have hdl : (vs.drop (vs.length / 2)).length = vs.length - vs.length / 2 := by simp
    k_steps
    refine Halt.of ?_
    rename Fr _ _ _ _ => F₂
    have hoa := own_off hown hne (Nat.ne_of_lt hlt2)
    obtain ⟨tv, hv⟩ := (hi.drop (vs.length / 2)).getD (i := i) (by rw [← (hi.drop (vs.length / 2)).length]; exact hil)
    refine heappush_spec (tups := []) cmp_ints _ _ l k (hA.le (by decide)).deeper ⟨X, T⟩ F₂.keep (fun q hq => nomatch hq) (N₂ _ (.head _)).1 (N₂ _ (.head _)).2.2 (by omega) hms.1 ⟨_, _, hv⟩ ?_
    intro h₃ tk₃ hs₃ ha₃
    dsimp only at hs₃
    have F₃ := fr_back F₂ N₂ (.head _) hs₃
    have N₃ := news_back N₂ (Upd.head hoa) hs₃ ha₃
    k_steps
    have hml := hms.length
    have hadd : Ints (l ++ [(vs.drop (vs.length / 2)).getD i .none]) (ms ++ [(ns.drop (vs.length / 2)).getD i 0]) :=
      hms.append ⟨fun v hv' => by rw [List.mem_singleton.mp hv']; exact ⟨_, _, hv⟩, by rw [List.map_singleton, hv]; rfl⟩
    refine ⟨_, _, _, [(_, _)], rfl, F₃, N₃, fun p hp => ?_, _, _, _, rfl, ⟨rfl, trivial⟩, hadd.sdown (sp := 0) (by simp [hml]), by rw [sdown_length]; simp; omega, ?_⟩
    · rw [List.mem_singleton.mp hp]
      have := hne _ (.head _)
      simpa using this
    · rw [← hgo, hl]
      have hi' : i < (ns.drop (ns.length / 2)).length := by simp; omega
      rw [List.drop_eq_getElem_cons hi']
      show heapedGo _ _ = heapedGo _ (sdown 0 iLt (ms ++ [(ns.drop (ns.length / 2))[i]]) 0 ms.length)
      rw [hml, show (ns.drop (ns.length / 2)).getD i 0 = (ns.drop (ns.length / 2))[i] by simp [List.getD, List.getElem?_eq_getElem hi']]
  case done =>
    rintro h₂ tk₂ m₂ nx ⟨l, k, ms, rfl, hm, hms, hlen, hgo⟩ F₂ N₂
    obtain ⟨u, rfl⟩ := hm.lm
    dsimp only
    k_steps
    have hms' : Ints l (heaped ns) := by
      rw [← hgo, List.drop_of_length_le (by simp; omega)]
      exact hms
    refine hret _ _ _ _ _ (fun b o e _ => F₂.keep _ _ (hs _ _ e (by simp))) ?_ (N₂ _ (.head _)).1 hms'
    have h1 := (N₂ _ (.head _)).2.2
    cases q : s.heap.get? _ with
    | none => rfl
    | some o => rw [hs _ _ q (by simp)] at h1; cases h1
end
/-- the numbers in rising order -/
def isort (ns : List Int) : List Int := ns.mergeSort (fun a b => decide (a ≤ b))
theorem isort_perm (ns : List Int) : (isort ns).Perm ns := List.mergeSort_perm ..
theorem isort_sorted (ns : List Int) : (isort ns).Pairwise (· ≤ ·) := by
  have := List.pairwise_mergeSort (le := fun a b : Int => decide (a ≤ b)) (by intro a b c h1 h2; simp at *; omega) (by intro a b; simp; omega) ns
  exact this.imp (by intro a b h; simpa using h)
theorem isort_unique {a ns : List Int} (hp : a.Perm ns) (hs : a.Pairwise (· ≤ ·)) : a = isort ns :=
  List.Perm.eq_of_pairwise (fun _ _ _ _ h1 h2 => Int.le_antisymm h1 h2) hs (isort_sorted ns) (hp.trans (isort_perm ns).symm)
theorem isort_length (ns : List Int) : (isort ns).length = ns.length := (isort_perm ns).length_eq
section
variable {prog : Program} {w : World} {A : Around} {E : Value → Shared → Prop} {s : Shared} {h₀ : Heap} {L D : Addr} {m : Str → Option Value} {news : List (Addr × Obj)} {vs : List Value} {ns : List Int} {n : Nat}
theorem g_sorted {Q : Value → Shared → Prop} (F : Fr h₀ L s.heap m) (N : News h₀ L s.heap news) (ho : s.heap.get? D = some (listOf vs.toArray n)) (hi : Ints vs ns) (h64 : vs.length < 64)
    (h : ∀ D' ws e h', Fr h₀ L h' m → News h₀ L h' ((D', listOf (List.toArray ws) e) :: news) → Ints ws (isort ns) → ws.length = ns.length → (∀ p ∈ news, p.1 < D') → Q (.ref D') { s with heap := h' }) :
    wpAny (model prog w) A (call (.builtin "sorted") [.ref D]) Q E s := by
  refine sorted_N F N (PySem.IsL.isList (n := n) ho) hi.are h64 fun h' vs' ns' e F' N' hI' hp' hs' => ?_
  have := isort_unique hp' hs'
  subst this
  exact h _ vs' e h' F' N' (Ints.of hI') (by rw [hI'.length, isort_length]) fun p hp => Nat.lt_succ_of_lt (Heap.lt_size (N p hp).1)
end
theorem g_mod2 {prog : Program} {w : World} {A : Around} {E : Value → Shared → Prop} {s : Shared} {Q : Value → Shared → Prop} {p : Nat} {t u : Tok} (h : Q (.int ((p % 2 : Nat) : Int) s.toks) { s with toks := s.toks + 1 }) :
    wpAny (model prog w) A (binaryOp .Mod (.int (p : Int) t) (.int 2 u)) Q E s := by
  have e : ((p : Nat) : Int).fmod 2 = ((p % 2 : Nat) : Int) := by
    rw [Int.fmod_eq_emod_of_nonneg _ (by decide)]; omega
  refine mod_int (by decide) ?_
  rw [e]
  exact h
example : True := by
  w_top off
  trivial
def medLow (ns : List Int) : Int := if ns.length % 2 = 1 then (isort ns).getD (ns.length / 2) 0 else (isort ns).getD (ns.length / 2 - 1) 0
def medHigh (ns : List Int) : Int := (isort ns).getD (ns.length / 2) 0
local macro_rules | `(tactic| walk_at "mine 7") => `(tactic| (k_here; (with_reducible show wpAny _ _ (call (Value.builtin _) [Value.ref _]) _ _ _); k_dflt (refine' g_sorted ?k1 ?k2 ?k3 ?k4 ?k5 ?_; (case k1 => k_asm); (case k2 => k_asm); (case k3 => walk_at "mine at"); (case k4 => assumption); (case k5 => omega)); intro D' ws' e' h' F' N' hW' hWl' l1; (try k_lt l1); (try k_sweep)))
section
local macro_rules
  | `(tactic| walk_at "exec Raise some none") => `(tactic| (exfalso; omega))
  | `(tactic| walk_at "subscriptTail") => `(tactic| walk_at "mine 1")
  | `(tactic| walk_at "call builtin:len") => `(tactic| walk_at "mine 3")
  | `(tactic| walk_at "binaryOp FloorDiv int int") => `(tactic| (refine g_half ?_))
  | `(tactic| walk_at "call builtin:sorted") => `(tactic| walk_at "mine 7")
  | `(tactic| walk_at "binaryOp Mod int int") => `(tactic| (refine g_mod2 ?_))

theorem medlow_spec {prog : Program} {w : World} {A : Around} {s : Shared} {h₀ : Heap} {mean : ExcName → Option Value} {mg mb : Str → Option Value} {Q : Value → Shared → Prop} {E : Value → Shared → Prop}
  (r : Addr) (vs : List Value) (ns : List Int) (n : Nat) (hA : Ok A 2) (G : Gd w mean mg mb s.heap)
  (hr : s.heap.get? r = some (listOf vs.toArray n)) (hi : Ints vs ns) (hz : ns.length < 64) (hne : 0 < ns.length)
  (hret : ∀ h' t tk', StayBut [] s.heap h' → Q (.int (medLow ns) t) { s with heap := h', toks := tk' }) :
  wpAny (model prog w) A (call (.ref 51) [.ref r]) Q E s := by
  refine wpAny_call ?_
  refine' enter (binds := [(Str.ofString "data", .ref r)]) (as := []) hA.room G (fun _ _ e => e) ?kN ?k6 ?k7 ?k9 ?kB ?_ ?c2 ?c3 ?c4 ?c5
  case kN => intro p hp; exact nomatch hp
  case k6 => k_is
  case k7 => k_is
  case k9 => exact BindsTo.of_eq rfl
  case kB => exact locs rfl
  case c2 => exact rfl
  case c3 => exact rfl
  case c4 => exact rfl
  case c5 => decide
  intro g L h₁ G' hs hn F N
  obtain ⟨X, T⟩ := G'
  have hl := hi.length
  have hr' : g.get? r = some (listOf vs.toArray n) := hs _ _ hr (by simp)
  k_steps
  · rename Fr _ _ _ _ => F'
    rename Ints _ (isort _) => hW
    rename List.length _ = ns.length => hWl
    have hiL := isort_length ns
    have ei : ∀ c : Nat, c = ns.length → (((c / 2 : Nat) : Int)).toNat = ns.length / 2 := by intro c hc; omega
    rw [ei _ hWl]
    obtain ⟨t, e⟩ := hW.getD (i := ns.length / 2) (by rw [hiL]; omega)
    rw [e]
    have em : medLow ns = (isort ns).getD (ns.length / 2) 0 := by unfold medLow; rw [if_pos (by omega)]
    rw [← em]
    exact hret _ _ _ (fun b o e' _ => F'.keep _ _ (hs _ _ e' (by simp)))
  · rename Fr _ _ _ _ => F'
    rename Ints _ (isort _) => hW
    rename List.length _ = ns.length => hWl
    have hiL := isort_length ns
    have ei : ∀ c : Nat, c = ns.length → (((c / 2 : Nat) : Int) - 1).toNat = ns.length / 2 - 1 := by intro c hc; omega
    rw [ei _ hWl]
    obtain ⟨t, e⟩ := hW.getD (i := ns.length / 2 - 1) (by rw [hiL]; omega)
    rw [e]
    have em : medLow ns = (isort ns).getD (ns.length / 2 - 1) 0 := by unfold medLow; rw [if_neg (by omega)]
    rw [← em]
    exact hret _ _ _ (fun b o e' _ => F'.keep _ _ (hs _ _ e' (by simp)))

theorem medhigh_spec {prog : Program} {w : World} {A : Around} {s : Shared} {h₀ : Heap} {mean : ExcName → Option Value} {mg mb : Str → Option Value} {Q : Value → Shared → Prop} {E : Value → Shared → Prop}
  (r : Addr) (vs : List Value) (ns : List Int) (n : Nat) (hA : Ok A 2) (G : Gd w mean mg mb s.heap)
  (hr : s.heap.get? r = some (listOf vs.toArray n)) (hi : Ints vs ns) (hz : ns.length < 64) (hne : 0 < ns.length)
  (hret : ∀ h' t tk', StayBut [] s.heap h' → Q (.int (medHigh ns) t) { s with heap := h', toks := tk' }) :
  wpAny (model prog w) A (call (.ref 58) [.ref r]) Q E s := by
  refine wpAny_call ?_
  refine' enter (binds := [(Str.ofString "data", .ref r)]) (as := []) hA.room G (fun _ _ e => e) ?kN ?k6 ?k7 ?k9 ?kB ?_ ?c2 ?c3 ?c4 ?c5
  case kN => intro p hp; exact nomatch hp
  case k6 => k_is
  case k7 => k_is
  case k9 => exact BindsTo.of_eq rfl
  case kB => exact locs rfl
  case c2 => exact rfl
  case c3 => exact rfl
  case c4 => exact rfl
  case c5 => decide
  intro g L h₁ G' hs hn F N
  obtain ⟨X, T⟩ := G'
  have hl := hi.length
  have hr' : g.get? r = some (listOf vs.toArray n) := hs _ _ hr (by simp)
  k_steps
  · rename Fr _ _ _ _ => F'
    rename Ints _ (isort _) => hW
    rename List.length _ = ns.length => hWl
    have hiL := isort_length ns
    have ei : ∀ c : Nat, c = ns.length → (((c / 2 : Nat) : Int)).toNat = ns.length / 2 := by intro c hc; omega
    rw [ei _ hWl]
    obtain ⟨t, e⟩ := hW.getD (i := ns.length / 2) (by rw [hiL]; omega)
    rw [e]
    have em : medHigh ns = (isort ns).getD (ns.length / 2) 0 := by unfold medHigh; rfl
    rw [← em]
    exact hret _ _ _ (fun b o e' _ => F'.keep _ _ (hs _ _ e' (by simp)))
end
section
variable {prog : Program} {w : World} {A : Around} {E : Value → Shared → Prop} {s : Shared} {env : Env} {h₀ : Heap} {x : Str} {body : List Stmt} {Q : Flow → Shared → Prop} {m : Str → Option Value} {news : List (Addr × Obj)}
/-- over a tuple of the ledger -/
theorem for_tuple {ax : Addr} {vs : List Value} (J : Nat → (Str → Option Value) → List (Addr × Obj) → Prop) (hh : A.handled = none)
    (hl : s.heap.get? ax = some (tupL vs)) (hne : ax ≠ env.locals) (F : Fr h₀ env.locals s.heap m) (N : News h₀ env.locals s.heap news) (h0 : J 0 m news)
    (turn : ∀ i v m₁ news₁ h tk I own, i < vs.length → v = vs.getD i .none → J i m₁ news₁ → (∀ p ∈ own, p.1 = I ∨ p.1 = ax) → I ≠ ax → (∃ o, h.get? I = some o) → (∀ p ∈ news₁, p.1 ≠ I) → Fr h₀ env.locals h (fun y => if y = x then some v else m₁ y) → News h₀ env.locals h (news₁ ++ own) →
      wpAny (model prog w) A (execs body env) (ForPost h₀ env.locals s [I] own (J (i + 1)) Q) E { s with heap := h, toks := tk })
    (done : ∀ h' tk m' news', J vs.length m' news' → Fr h₀ env.locals h' m' → News h₀ env.locals h' news' → Q .next { s with heap := h', toks := tk }) :
    wpAny (model prog w) A (pyIter (.ref ax)) (fun it s₂ => LoopAtV prog w A h₀ env x body Q E it s₂) E s := by
  have hls : s.heap.IsTuple ax vs.toArray := ⟨_, hl, rfl, _, rfl⟩
  have hlt : ax < s.heap.objs.size := Heap.lt_size hl
  have hne' : ax ≠ s.heap.objs.size := Nat.ne_of_lt hlt
  refine wpAny_pyIter_tuple hls ?_
  have W := Walks.tuple (prog := prog) (w := w) hh s.heap.objs.size ax hne' vs.toArray
  have hsz : vs.toArray.size = vs.length := by simp
  rw [hsz] at W
  refine for_rule (m := m) (news := news) J W ?_ ?_ ?_ ⟨⟨_, Heap.get?_push_size _ rfl, rfl, rfl⟩, hls.at fun o e => Heap.get?_push_of_some _ e⟩ (F.push _) (fun p hp => ⟨Heap.get?_push_of_some _ (N p hp).1, (N p hp).2⟩) h0 ?_ done
  · intro hm
    rcases List.mem_cons.mp hm with e | hm
    · exact absurd F.ns.lt (e ▸ Nat.lt_irrefl _)
    · exact hne (List.mem_singleton.mp hm).symm
  · intro b hb
    rw [List.mem_singleton.mp hb]
    exact next_is_new F
  · intro p hp hI
    exact absurd (Heap.lt_size (N p hp).1) ((List.mem_singleton.mp hI) ▸ Nat.lt_irrefl _)
  · intro i v m₁ news₁ h tk own hi hP hJ hst₁ hown hn₁ F₁ N₁
    refine turn i v m₁ news₁ h tk _ own hi ?_ hJ (fun p hp => ?_) hne'.symm ⟨_, hst₁.1.choose_spec.1⟩ (fun p hp e => hn₁ p hp (List.mem_singleton.mpr e)) F₁ N₁
    · have : vs[i]? = some v := by simpa using hP
      simp [List.getD, this]
    · rcases List.mem_cons.mp (hown p hp) with h | h
      · exact .inl h
      · exact .inr (List.mem_singleton.mp h)
end

theorem g_newTuple {M : Model} {A : Around} {E : Value → Shared → Prop} {s : Shared} {h₀ : Heap} {L : Addr} {m : Str → Option Value} {news : List (Addr × Obj)} {vs : List Value} {Q : Value → Shared → Prop} (F : Fr h₀ L s.heap m) (N : News h₀ L s.heap news) (hz : vs.length ≤ 1000)
    (h : ∀ D h', Fr h₀ L h' m → News h₀ L h' ((D, tupL vs) :: news) → (∀ b o, s.heap.get? b = some o → b < D) → Q (.ref D) { s with heap := h' }) : wpAny M A (newTuple vs) Q E s :=
  newTuple_N (hsz := by rw [sizeLine_eq]; omega) F N fun h' F' N' => h _ h' F' N' fun b o e => Heap.lt_size e
theorem g_newList {M : Model} {A : Around} {E : Value → Shared → Prop} {s : Shared} {h₀ : Heap} {L : Addr} {m : Str → Option Value} {news : List (Addr × Obj)} {vs : List Value} {Q : Value → Shared → Prop} (F : Fr h₀ L s.heap m) (N : News h₀ L s.heap news) (hz : vs.length ≤ 1000)
    (h : ∀ D h', Fr h₀ L h' m → News h₀ L h' ((D, listOf vs.toArray 0) :: news) → (∀ p ∈ news, p.1 < D) → Q (.ref D) { s with heap := h' }) : wpAny M A (newList vs) Q E s :=
  newList_K (hsz := by rw [sizeLine_eq]; omega) F N h

/-- pairs, compared -/
def pLt (x y : Int × Nat) : Bool := decide (x.1 < y.1 ∨ (x.1 = y.1 ∧ x.2 < y.2))
def objKey : Option Obj → Int × Nat
  | some ⟨_, _, .seq arr _, _⟩ => match arr.toList with
    | [.int i _, .int j _] => (i, j.toNat)
    | _ => (0, 0)
  | _ => (0, 0)
def keyT (tups : List (Addr × Obj)) : Value → Int × Nat
  | .ref a => objKey (tups.lookup a)
  | _ => (0, 0)
def ltT (tups : List (Addr × Obj)) (x y : Value) : Bool := pLt (keyT tups x) (keyT tups y)
def IsP (tups : List (Addr × Obj)) (v : Value) : Prop := ∃ (a : Addr) (i : Int) (j : Nat) (t u : Tok), v = .ref a ∧ (a, tupL [.int i t, .int (j : Int) u]) ∈ tups
theorem lookup_stands {h : Heap} {a : Addr} {o : Obj} : ∀ {tups : List (Addr × Obj)}, (∀ q ∈ tups, h.get? q.1 = some q.2) → (a, o) ∈ tups → tups.lookup a = some o
  | [], _, hm => nomatch hm
  | (b, o') :: r, hN, hm => by
    rw [List.lookup_cons]
    by_cases hab : a = b
    · subst hab
      have h1 := hN (a, o') (.head _)
      have h2 := hN (a, o) hm
      rw [h1] at h2
      cases h2
      simp
    · have : (a == b) = false := by simpa using hab
      rw [this]
      rcases List.mem_cons.mp hm with e | hm
      · cases e; exact absurd rfl hab
      · exact lookup_stands (fun q hq => hN q (.tail _ hq)) hm
theorem keyT_of {h : Heap} {a : Addr} {i : Int} {j : Nat} {t u : Tok} {tups : List (Addr × Obj)} (hN : ∀ q ∈ tups, h.get? q.1 = some q.2) (hm : (a, tupL [.int i t, .int (j : Int) u]) ∈ tups) : keyT tups (.ref a) = (i, j) := by
  show objKey (tups.lookup a) = _
  rw [lookup_stands hN hm]
  rfl
theorem keyT_grow {a : Addr} {o : Obj} {v : Value} {tups : List (Addr × Obj)} (h : ∀ q ∈ tups, q.1 ≠ a) (hv : IsP tups v) : keyT ((a, o) :: tups) v = keyT tups v := by
  obtain ⟨b, i, j, t, u, rfl, hm⟩ := hv
  have hne : b ≠ a := h _ hm
  show objKey (((a, o) :: tups).lookup b) = objKey (tups.lookup b)
  rw [List.lookup_cons]
  have : (b == a) = false := by simpa using hne
  rw [this]
theorem IsP.grow {p : Addr × Obj} {v : Value} {tups : List (Addr × Obj)} (hv : IsP tups v) : IsP (p :: tups) v := by
  obtain ⟨b, i, j, t, u, rfl, hm⟩ := hv
  exact ⟨b, i, j, t, u, rfl, .tail _ hm⟩
theorem cmp_tups {prog : Program} {w : World} {tups : List (Addr × Obj)} : CmpOk prog w tups (IsP tups) (ltT tups) := by
  rintro x y ⟨a, i, j, t, u, rfl, hm⟩ ⟨a', i', j', t', u', rfl, hm'⟩ A s Q E ok hN h
  refine tuple_lt ok.units (hN _ hm) (hN _ hm') ?_
  have := h s.toks
  unfold ltT at this
  rw [keyT_of hN hm, keyT_of hN hm'] at this
  have e : decide (i < i' ∨ (i = i' ∧ (j : Int) < (j' : Int))) = pLt (i, j) (i', j') := by
    unfold pLt
    congr 1
    simp
  rw [e]
  exact this
/-- a list of such pairs -/
def Pairs (tups : List (Addr × Obj)) (vs : List Value) (fr : List (Int × Nat)) : Prop := (∀ v ∈ vs, IsP tups v) ∧ vs.map (keyT tups) = fr
theorem Pairs.length {tups : List (Addr × Obj)} {vs : List Value} {fr : List (Int × Nat)} (h : Pairs tups vs fr) : vs.length = fr.length := by rw [← h.2]; simp
theorem Pairs.grow {a : Addr} {o : Obj} {tups : List (Addr × Obj)} {vs : List Value} {fr : List (Int × Nat)} (h : ∀ q ∈ tups, q.1 ≠ a) (hp : Pairs tups vs fr) : Pairs ((a, o) :: tups) vs fr := by
  refine ⟨fun v hv => (hp.1 v hv).grow, ?_⟩
  rw [← hp.2]
  exact List.map_congr_left fun v hv => keyT_grow h (hp.1 v hv)
theorem Pairs.append {tups : List (Addr × Obj)} {vs ws : List Value} {fr gr : List (Int × Nat)} (h : Pairs tups vs fr) (h' : Pairs tups ws gr) : Pairs tups (vs ++ ws) (fr ++ gr) :=
  ⟨fun v hv => (List.mem_append.mp hv).elim (h.1 v) (h'.1 v), by rw [List.map_append, h.2, h'.2]⟩
theorem Pairs.sdown {tups : List (Addr × Obj)} {vs : List Value} {fr : List (Int × Nat)} (h : Pairs tups vs fr) {sp p : Nat} (hp : p < fr.length) : Pairs tups (sdown .none (ltT tups) vs sp p) (Mine.sdown (0, 0) pLt fr sp p) :=
  ⟨sdown_all (by rw [h.length]; exact hp) h.1, by rw [← h.2]; exact (sdown_map (d := Value.none) (lt := ltT tups) (f := keyT tups) rfl (fun _ _ => rfl) vs sp p).symm⟩
theorem Pairs.sup {tups : List (Addr × Obj)} {vs : List Value} {fr : List (Int × Nat)} (h : Pairs tups vs fr) {p : Nat} (hp : p < fr.length) : Pairs tups (sup .none (ltT tups) vs p) (Mine.sup (0, 0) pLt fr p) :=
  ⟨sup_all (by rw [h.length]; exact hp) h.1, by rw [← h.2]; exact (sup_map (d := Value.none) (lt := ltT tups) (f := keyT tups) rfl (fun _ _ => rfl) vs p).symm⟩
theorem Pairs.getD {tups : List (Addr × Obj)} {vs : List Value} {fr : List (Int × Nat)} (h : Pairs tups vs fr) {i : Nat} : keyT tups (vs.getD i .none) = fr.getD i (0, 0) := by
  rw [← h.2]; exact (getD_map (d := Value.none) (f := keyT tups) rfl).symm

/-- what the walk holds after it took its least pair -/
def wPop (fr : List (Int × Nat)) : List (Int × Nat) := if fr.length = 1 then [] else sup (0, 0) pLt (fr.dropLast.set 0 (fr.getD (fr.length - 1) (0, 0))) 0
def wPush (pile : List Int) (b : Nat) (fr : List (Int × Nat)) : List (Int × Nat) := if b < pile.length then sdown (0, 0) pLt (fr ++ [(pile.getD b 0, b)]) 0 fr.length else fr
def walkGo (pile : List Int) : Nat → List (Int × Nat) → List Int → Option (List Int)
  | 0, _, told => some told
  | k + 1, fr, told => if fr.length = 0 then none else
      walkGo pile k (wPush pile (2 * (fr.getD 0 (0, 0)).2 + 2) (wPush pile (2 * (fr.getD 0 (0, 0)).2 + 1) (wPop fr))) (told ++ [(fr.getD 0 (0, 0)).1])
theorem wPop_length {fr : List (Int × Nat)} (h : 0 < fr.length) : (wPop fr).length = fr.length - 1 := by
  unfold wPop
  split
  · rename_i h1; simp [h1]
  · rw [sup_length]; simp
theorem wPush_length {pile : List Int} {b : Nat} {fr : List (Int × Nat)} : (wPush pile b fr).length ≤ fr.length + 1 := by
  unfold wPush
  split
  · rw [sdown_length]; simp
  · omega
theorem Pairs.pop {tups : List (Addr × Obj)} {vs : List Value} {fr : List (Int × Nat)} (h : Pairs tups vs fr) (hne : 0 < vs.length) :
    Pairs tups (if vs.length = 1 then [] else Mine.sup .none (ltT tups) (vs.dropLast.set 0 (vs.getD (vs.length - 1) .none)) 0) (wPop fr) := by
  have hl := h.length
  unfold wPop
  rw [hl]
  split
  · exact ⟨(fun _ h => nomatch h), rfl⟩
  · refine Pairs.sup ?_ (by simp; omega)
    refine ⟨set_all (fun v hv => h.1 v (List.dropLast_subset _ hv)) (getD_all h.1 (by omega)), ?_⟩
    rw [List.map_set, h.getD, ← h.2]
    simp
section
variable {prog : Program} {w : World} {A : Around} {E : Value → Shared → Prop} {env : Env}

/-- the tests of a comprehension's clause -/
abbrev compOk (ifs : List PySem.Expr) (env : Env) : Sem Bool :=
  forIn ifs true fun c r => if r = true then do let ok ← isTrue c env (eval c env); pure (ForInStep.yield ok) else pure (ForInStep.yield r)

/-- the heap below an address -/
def low (h : Heap) (C : Addr) : Heap := ⟨h.objs.extract 0 C, h.life⟩
theorem low_size (h : Heap) (C : Addr) : (low h C).objs.size ≤ C := by
  show (h.objs.extract 0 C).size ≤ C
  rw [Array.size_extract]
  have : @min Nat _ C h.objs.size ≤ C := Nat.min_le_left ..
  omega
theorem low_at {h : Heap} {C b : Addr} (hb : b < C) : (low h C).get? b = h.get? b := by
  have : (h.objs.extract 0 C)[b]? = h.objs[b]? := by
    have hb' : (@LT.lt Nat _ b C) := hb
    rw [Array.getElem?_extract]
    by_cases h2 : (@LT.lt Nat _ b h.objs.size)
    · rw [if_pos (by omega), Nat.zero_add]
    · rw [if_neg (by omega)]
      exact (Array.getElem?_eq_none (by omega)).symm
  show (match (h.objs.extract 0 C)[b]? with | some ⟨_, _, .freed, _⟩ => none | o => o) = (match h.objs[b]? with | some ⟨_, _, .freed, _⟩ => none | o => o)
  rw [this]
theorem low_of {h : Heap} {C b : Addr} {o : Obj} (e : (low h C).get? b = some o) : b < C ∧ h.get? b = some o := by
  have h1 : b < C := Nat.lt_of_lt_of_le (Heap.lt_size e) (low_size h C)
  exact ⟨h1, by rwa [low_at h1] at e⟩
theorem low_none {h : Heap} {C b : Addr} (hb : C ≤ b) : (low h C).get? b = none := by
  cases e : (low h C).get? b with
  | none => rfl
  | some o => exact absurd (low_of e).1 (Nat.not_lt.mpr hb)

/-- what one turn has to show -/
def GTurn (prog : Program) (w : World) (A : Around) (cenv : Env) (ifs : List PySem.Expr) (elt : PySem.Expr) (C : Addr) (wr : List Addr) (P : Nat → Value → Prop) (p : Value → Bool) (F : Value → Value → Prop) (Z : Heap → Prop) (Zv : Value → Heap → Prop) (s₂ : Shared) : Prop :=
  ∀ i v s₃ E', P i v → Zv v s₃.heap → (∀ b o, b ∉ wr → s₂.heap.get? b = some o → s₃.heap.get? b = some o) →
    wpAny (model prog w) A (compOk ifs cenv) (fun ok s₄ => ok = p v ∧ ∃ h' tk, s₄ = { s₃ with heap := h', toks := tk } ∧ Zv v h' ∧ ∀ b o, b < C → s₃.heap.get? b = some o → h'.get? b = some o) E' s₃ ∧
    (p v = true → wpAny (model prog w) A (eval elt cenv) (fun y s₄ => F v y ∧ ∃ h' tk, s₄ = { s₃ with heap := h', toks := tk } ∧ Z h' ∧ ∀ b o, b < C → s₃.heap.get? b = some o → h'.get? b = some o) E' s₃)

theorem comp_loopG {elt iter : PySem.Expr} {x : Str} {px : Pos} {ifs : List PySem.Expr} {scope : Scope} {pos : Pos} {s₂ : Shared} {I : Addr} {fp wr : List Addr} {n : Nat} {P : Nat → Value → Prop} {St : Nat → Heap → Prop} {cenv : Env}
    {R : Result → Shared → Prop} {D C : Addr} {h₁ : Heap} {tk₁ : Nat} (W : Walks prog w A I fp wr n P St) (hsz : n ≤ 100) (p : Value → Bool) (F : Value → Value → Prop) {Z : Heap → Prop} {Zv : Value → Heap → Prop}
    (hst : St 0 h₁) (hfp : ∀ b ∈ fp, b < s₂.heap.objs.size) (hD : s₂.heap.objs.size ≤ D) (hDC : D < C)
    (hZ : ∀ h h', Z h → (∀ b o, C ≤ b → h.get? b = some o → h'.get? b = some o) → Z h') (hZv : ∀ v h, Zv v h → Z h)
    (hass : ∀ v (s : Shared) E' (Q : Unit → Shared → Prop), Z s.heap → (∀ h' tk', Zv v h' → (∀ b o, b < C → s.heap.get? b = some o → h'.get? b = some o) → Q () { s with heap := h', toks := tk' }) → wpAny (model prog w) A (assign (.Name x px) cenv v) Q E' s)
    (h0 : Z h₁) (hacc : h₁.PlainList D #[]) (hold : ∀ b o, b ∉ wr → s₂.heap.get? b = some o → h₁.get? b = some o)
    (hq : GTurn prog w A cenv ifs elt C wr P p F Z Zv s₂)
    (hR : ∀ h' tk ys (vs : List Value), Z h' → h'.PlainList D ys → vs.length = n → (∀ j v, vs[j]? = some v → P j v) → Paired F (vs.filter p) ys.toList →
      (∀ b o, b ∉ wr → s₂.heap.get? b = some o → h'.get? b = some o) → R (.ok .next) { s₂ with heap := h', toks := tk }) :
    codeAny (model prog w) A (.compLoop (.ListComp elt [⟨.Name x px, iter, ifs, 0⟩] scope pos) 0 (.ref I) (.ref D) cenv) R { s₂ with heap := h₁, toks := tk₁ } := by
  have hSC : s₂.heap.objs.size < C := Nat.lt_of_le_of_lt hD hDC
  have cfp : ∀ b ∈ fp, b < C := fun b hb => Nat.lt_trans (hfp b hb) hSC
  have cwr : ∀ b ∈ wr, b < C := fun b hb => cfp b (W.sub b hb)
  have nD : D ∉ wr := fun h => absurd (hfp _ (W.sub _ h)) (Nat.not_lt.mpr hD)
  have fD : ∀ b ∈ fp, b ≠ D := fun b hb e => absurd (hfp b hb) (Nat.not_lt.mpr (e ▸ hD))
  have oD : ∀ b o, s₂.heap.get? b = some o → b ≠ D := fun b o e q => absurd (Heap.lt_size e) (Nat.not_lt.mpr (q ▸ hD))
  have oC : ∀ b o, s₂.heap.get? b = some o → b < C := fun b o e => Nat.lt_trans (Heap.lt_size e) hSC
  refine codeAny_compLoop_tests (fun k s' => ∃ h' tk ys, ∃ vs : List Value, s' = { s₂ with heap := h', toks := tk } ∧ St vs.length h' ∧ h'.PlainList D ys ∧ Z h' ∧
      (∀ j v, vs[j]? = some v → P j v) ∧ Paired F (vs.filter p) ys.toList ∧ vs.length ≤ n ∧ k = n + 1 - vs.length ∧ ∀ b o, b ∉ wr → s₂.heap.get? b = some o → h'.get? b = some o)
    ?_ (n + 1) ⟨h₁, tk₁, #[], [], rfl, hst, hacc, h0, by simp, by simpa using Paired.nil, Nat.zero_le _, rfl, hold⟩
  rintro k s' ⟨H, tk, ys, vs, rfl, hst', hacc', hz', hP, hF, hi, rfl, hk⟩
  by_cases hlt : vs.length < n
  · refine W.item vs.length _ _ _ hlt hst' fun v h₂ tk₂ hPv hst₂ hk₂ => ?_
    have hz₂ : Z h₂ := hZ _ _ hz' fun b o hb e => hk₂ b o (fun hm => absurd (cwr b hm) (Nat.not_lt.mpr hb)) e
    refine hass v _ _ _ hz₂ fun h₃ tk₃ hz₃ hs₃ => ?_
    have hst₃ : St (vs.length + 1) h₃ := W.frame _ _ _ hst₂ fun b hb o e => hs₃ b o (cfp b hb) e
    have up₃ : ∀ b o, b ∉ wr → s₂.heap.get? b = some o → h₃.get? b = some o := fun b o hb e => hs₃ b o (oC b o e) (hk₂ b o hb (hk b o hb e))
    have hacc₃ : h₃.PlainList D ys := hacc'.at fun o e => hs₃ D o hDC (hk₂ _ o nD e)
    have turn := fun E' => hq vs.length v { s₂ with heap := h₃, toks := tk₃ } E' hPv hz₃ up₃
    refine wpAny_mono (turn _).1 (fun ok s₄ h₄ => ?_) fun _ _ e => e
    obtain ⟨rfl, h₄, tk₄, rfl, hz₄, hk₄⟩ := h₄
    have hst₄ : St (vs.length + 1) h₄ := W.frame _ _ _ hst₃ fun b hb o e => hk₄ b o (cfp b hb) e
    have hacc₄ : h₄.PlainList D ys := hacc₃.at fun o e => hk₄ _ o hDC e
    have hP' : ∀ j u, (vs ++ [v])[j]? = some u → P j u := fun j u hj => by
      rcases Nat.lt_trichotomy j vs.length with h | h | h
      · exact hP j u (by rwa [List.getElem?_append_left h] at hj)
      · subst h; simp at hj; subst hj; exact hPv
      · have hnone : (vs ++ [v])[j]? = none := List.getElem?_eq_none (by rw [List.length_append, List.length_singleton]; omega)
        rw [hnone] at hj; cases hj
    have hlen : (vs ++ [v]).length = vs.length + 1 := by simp
    have up₄ : ∀ b o, b ∉ wr → s₂.heap.get? b = some o → h₄.get? b = some o := fun b o hb e => hk₄ b o (oC b o e) (up₃ b o hb e)
    cases hpv : p v with
    | false =>
      simp only [Bool.false_eq_true, if_false]
      refine ⟨n + 1 - (vs.length + 1), by omega, h₄, tk₄, ys, vs ++ [v], rfl, by rw [hlen]; exact hst₄, hacc₄, hZv _ _ hz₄, hP', ?_, by rw [hlen]; exact hlt, by rw [hlen], up₄⟩
      rw [List.filter_append]; simpa [hpv] using hF
    | true =>
      simp only [if_true]
      have turn' := fun E' => (hq vs.length v { s₂ with heap := h₄, toks := tk₄ } E' hPv hz₄ up₄).2 hpv
      refine wpAny_mono (turn' _) (fun y s₅ h₅ => ?_) fun _ _ e => e
      obtain ⟨hFy, h₅, tk₅, rfl, hz₅, hk₅⟩ := h₅
      have hys : ys.size ≤ sizeLine := by
        have e1 := hF.length
        have e2 : (vs.filter p).length ≤ vs.length := List.length_filter_le _ _
        have e4 : ys.toList.length = ys.size := by simp
        rw [sizeLine_eq]
        omega
      refine wpAny_list_append_plain (hsz := hys) (hacc₄.at fun o e => hk₅ _ o hDC e) fun h₆ hl₆ hs₆ => ?_
      have hst₆ : St (vs.length + 1) h₆ := W.frame _ _ _ hst₄ fun b hb o e => hs₆.extBut b o (fD b hb) (hk₅ b o (cfp b hb) e)
      refine ⟨n + 1 - (vs.length + 1), by omega, h₆, tk₅, ys.push y, vs ++ [v], rfl, by rw [hlen]; exact hst₆, hl₆, hZ _ _ hz₅ (fun b o hb e => hs₆.extBut b o (fun q => absurd hDC (Nat.not_lt.mpr (q ▸ hb))) e), hP', ?_, by rw [hlen]; exact hlt, by rw [hlen],
        fun b o hb e => hs₆.extBut b o (oD b o e) (hk₅ b o (oC b o e) (up₄ b o hb e))⟩
      rw [List.filter_append]; simpa [hpv] using Paired.snoc hF hFy
  · have hin : vs.length = n := by omega
    refine W.done _ _ _ (hin ▸ hst') fun h₂ tk₂ hk₂ => ?_
    exact hR h₂ tk₂ ys vs (hZ _ _ hz' fun b o hb e => hk₂ b o (fun hm => absurd (cwr b hm) (Nat.not_lt.mpr hb)) e) (hacc'.at fun o e => hk₂ _ o nD e) hin hP hF fun b o hb e => hk₂ b o hb (hk b o hb e)

/-- what one turn of a comprehension has to show; the letter is a local -/
def CTurn (prog : Program) (w : World) (A : Around) (env : Env) (scope : Scope) (cl : List (Str × Addr)) (x : Str) (ifs : List PySem.Expr) (elt : PySem.Expr) (P : Nat → Value → Prop) (p : Value → Bool) (F : Value → Value → Prop) (s₂ : Shared) : Prop :=
  ∀ C g i v s₃ m E', P i v → Fr g C s₃.heap m → m x = some v → (∀ b o, s₂.heap.get? b = some o → g.get? b = some o) →
    wpAny (model prog w) A (compOk ifs (compEnvC scope cl C env)) (fun ok s₄ => Halt (ok = p v ∧ ∃ h' tk, s₄ = { s₃ with heap := h', toks := tk } ∧ Fr g C h' m)) E' s₃ ∧
    (p v = true → wpAny (model prog w) A (eval elt (compEnvC scope cl C env)) (fun y s₄ => Halt (F v y ∧ ∃ h' tk, s₄ = { s₃ with heap := h', toks := tk } ∧ Fr g C h' m)) E' s₃)
/-- the same; the letter is a cell -/
def KTurn (prog : Program) (w : World) (A : Around) (env : Env) (scope : Scope) (cl : List (Str × Addr)) (x : Str) (ifs : List PySem.Expr) (elt : PySem.Expr) (P : Nat → Value → Prop) (p : Value → Bool) (F : Value → Value → Prop) (s₂ : Shared) : Prop :=
  ∀ C c g i v o s₃ m E', P i v → Fr g C s₃.heap m → News g C s₃.heap [(c, o)] → o.data = .cell (some v) → (∀ b o, s₂.heap.get? b = some o → g.get? b = some o) →
    wpAny (model prog w) A (compOk ifs (compEnvC scope ((x, c) :: cl) C env)) (fun ok s₄ => Halt (ok = p v ∧ ∃ h' tk, s₄ = { s₃ with heap := h', toks := tk } ∧ Fr g C h' m ∧ News g C h' [(c, o)])) E' s₃ ∧
    (p v = true → wpAny (model prog w) A (eval elt (compEnvC scope ((x, c) :: cl) C env)) (fun y s₄ => Halt (F v y ∧ ∃ h' tk, s₄ = { s₃ with heap := h', toks := tk } ∧ Fr g C h' m ∧ News g C h' [(c, o)])) E' s₃)

section
variable {scope : Scope} {cl : List (Str × Addr)} {x : Str} {ifs : List PySem.Expr} {elt : PySem.Expr} {P : Nat → Value → Prop} {p : Value → Bool} {F : Value → Value → Prop} {s₁ s₂ : Shared} {wr : List Addr} {C c : Addr}
theorem CTurn.gturn (hq : CTurn prog w A env scope cl x ifs elt P p F s₁) (k : ∀ b o, s₁.heap.get? b = some o → s₂.heap.get? b = some o ∧ b ∉ wr) (hC : s₂.heap.objs.size ≤ C) :
    GTurn prog w A (compEnvC scope cl C env) ifs elt C wr P p F (fun h => ∃ m, h.Ns C m) (fun v h => ∃ m, h.Ns C m ∧ m x = some v) s₂ := by
  rintro i v s₃ E' hP ⟨m, hn, hm⟩ hk
  have Fg : Fr (low s₃.heap C) C s₃.heap m := ⟨hn, fun b o e => (low_of e).2, low_size _ _⟩
  have hg : ∀ b o, s₁.heap.get? b = some o → (low s₃.heap C).get? b = some o := fun b o e => by
    rw [low_at (Nat.lt_of_lt_of_le (Heap.lt_size (k b o e).1) hC)]
    exact hk b o (k b o e).2 (k b o e).1
  have t := hq C _ i v s₃ m E' hP Fg hm hg
  refine ⟨wpAny_mono t.1 (fun ok s₄ h₄ => ?_) fun _ _ e => e, fun hp => wpAny_mono (t.2 hp) (fun y s₄ h₄ => ?_) fun _ _ e => e⟩
  · obtain ⟨rfl, h', tk, rfl, F'⟩ := h₄
    exact ⟨rfl, h', tk, rfl, ⟨m, F'.ns, hm⟩, fun b o hb e => F'.keep b o (by rw [low_at hb]; exact e)⟩
  · obtain ⟨hF, h', tk, rfl, F'⟩ := h₄
    exact ⟨hF, h', tk, rfl, ⟨m, F'.ns⟩, fun b o hb e => F'.keep b o (by rw [low_at hb]; exact e)⟩
theorem KTurn.gturn (hq : KTurn prog w A env scope cl x ifs elt P p F s₁) (k : ∀ b o, s₁.heap.get? b = some o → s₂.heap.get? b = some o ∧ b ∉ wr) (hC : s₂.heap.objs.size ≤ C) (hCc : C < c) :
    GTurn prog w A (compEnvC scope ((x, c) :: cl) C env) ifs elt C wr P p F (fun h => (∃ m, h.Ns C m) ∧ ∃ v, h.IsCell c v) (fun v h => (∃ m, h.Ns C m) ∧ h.IsCell c (some v)) s₂ := by
  rintro i v s₃ E' hP ⟨⟨m, hn⟩, o, ho, hd⟩ hk
  have Fg : Fr (low s₃.heap C) C s₃.heap m := ⟨hn, fun b o e => (low_of e).2, low_size _ _⟩
  have Ng : News (low s₃.heap C) C s₃.heap [(c, o)] := fun p hp => by
    rw [List.mem_singleton.mp hp]
    exact ⟨ho, Nat.ne_of_gt hCc, low_none (Nat.le_of_lt hCc)⟩
  have hg : ∀ b o, s₁.heap.get? b = some o → (low s₃.heap C).get? b = some o := fun b o e => by
    rw [low_at (Nat.lt_of_lt_of_le (Heap.lt_size (k b o e).1) hC)]
    exact hk b o (k b o e).2 (k b o e).1
  have t := hq C c _ i v o s₃ m E' hP Fg Ng hd hg
  refine ⟨wpAny_mono t.1 (fun ok s₄ h₄ => ?_) fun _ _ e => e, fun hp => wpAny_mono (t.2 hp) (fun y s₄ h₄ => ?_) fun _ _ e => e⟩
  · obtain ⟨rfl, h', tk, rfl, F', N'⟩ := h₄
    exact ⟨rfl, h', tk, rfl, ⟨⟨m, F'.ns⟩, o, (N' _ (.head _)).1, hd⟩, fun b o hb e => F'.keep b o (by rw [low_at hb]; exact e)⟩
  · obtain ⟨hF, h', tk, rfl, F', N'⟩ := h₄
    exact ⟨hF, h', tk, rfl, ⟨⟨m, F'.ns⟩, _, o, (N' _ (.head _)).1, hd⟩, fun b o hb e => F'.keep b o (by rw [low_at hb]; exact e)⟩
end

theorem comp_cell {s : Shared} {elt iter : PySem.Expr} {x : Str} {px : Pos} {ifs : List PySem.Expr} {scope : Scope} {cl : List (Str × Addr)} {pos : Pos} {Q : Value → Shared → Prop} (p : Value → Bool) (F : Value → Value → Prop)
    (hclos : closureFor scope env = pure cl) (hkind : scope.kind = .function) (hnames : ∀ y ∈ scope.names, y.2 = .local → scope.names.lookup y.1 = some .local)
    (hx : (relabel scope env).names.lookup x = some .cell) (hcells : ∀ k, cellsFrom k scope.names cl = (x, k) :: cl) (hpush : ∀ h : Heap, pushCells h scope.names = h.push { cls := .type "cell", data := .cell none })
    (h : wpAny (model prog w) A (eval iter env) (fun xv s₁ => wpAny (model prog w) A (pyIter xv) (fun it s₂ => ∃ I fp wr n P St s₀, it = .ref I ∧ Walks prog w A I fp wr n P St ∧ n ≤ 100 ∧ St 0 s₂.heap ∧ (∀ b ∈ fp, b < s₂.heap.objs.size) ∧
      KTurn prog w A env scope cl x ifs elt P p F s₀ ∧ (∀ b o, s₀.heap.get? b = some o → s₂.heap.get? b = some o ∧ b ∉ wr) ∧
      (∀ D h' tk ys (vs : List Value), s₂.heap.get? D = none → h'.PlainList D ys → vs.length = n → (∀ j v, vs[j]? = some v → P j v) → Paired F (vs.filter p) ys.toList →
        (∀ b o, b ∉ wr → s₂.heap.get? b = some o → h'.get? b = some o) → Q (.ref D) { s₂ with heap := h', toks := tk })) E s₁) E s)
    (hs : ∀ x, foldedSetIterable iter env x = pure x := by intro _; rfl) :
    wpAny (model prog w) A (eval (.ListComp elt [⟨.Name x px, iter, ifs, 0⟩] scope pos) env) Q E s := by
  rw [eval_ListComp]
  refine wpAny_comprehension_free (use := none) rfl hs hclos hkind hnames (wpAny_mono h (fun xv s₁ h₁ => wpAny_mono h₁ (fun it s₂ h₂ => ?_) fun _ _ e => e) fun _ _ e => e)
  obtain ⟨I, fp, wr, n, P, St, s₀, rfl, W, hsz, hst, hfp, hq, hk0, hQ⟩ := h₂
  refine wpAny_newObj_type ?_
  simp only [newFunctionEnv, Option.isSome_some, if_true]
  refine wpAny_bind (wpAny_alloc ?_)
  refine wpAny_bind (wpAny_layCells _ (fun name kind cells => by cases kind == NameKind.cell <;> simp) _ _ _ _ ?_)
  refine wpAny_bind (wpAny_pure (wpAny_pure ?_))
  dsimp only
  rw [hcells, hpush]
  generalize hH2 : s₂.heap.push { cls := .type "list", dict := none, data := .seq ([] : List Value).toArray } = H2
  have hH2' : H2.objs.size = s₂.heap.objs.size + 1 := by rw [← hH2, Heap.size_push]
  generalize hH3 : H2.push { cls := .type "dict", data := .dict #[] } = H3
  have hH3' : H3.objs.size = s₂.heap.objs.size + 2 := by rw [← hH3, Heap.size_push, hH2']
  have e12 : @LT.lt Nat _ s₂.heap.objs.size H2.objs.size := by omega
  have e13 : @LT.lt Nat _ s₂.heap.objs.size H3.objs.size := by omega
  have e23 : @LT.lt Nat _ H2.objs.size H3.objs.size := by omega
  have hlist : H2.PlainList s₂.heap.objs.size #[] := ⟨_, hH2 ▸ Heap.get?_push_size _ rfl⟩
  have hns : H3.Ns H2.objs.size (fun _ => none) := hH3 ▸ Heap.Ns.new H2 (.type "dict")
  have k2 : ∀ b o, s₂.heap.get? b = some o → H2.get? b = some o := fun b o e => hH2 ▸ Heap.get?_push_of_some _ e
  have k3 : ∀ b o, H2.get? b = some o → H3.get? b = some o := fun b o e => hH3 ▸ Heap.get?_push_of_some _ e
  have k4 : ∀ b o, H3.get? b = some o → (H3.push { cls := .type "cell", data := .cell none }).get? b = some o := fun b o e => Heap.get?_push_of_some _ e
  have fresh : ∀ a, s₂.heap.objs.size ≤ a → s₂.heap.get? a = none := fun a ha => by
    cases e : s₂.heap.get? a with
    | none => rfl
    | some o' => exact absurd (Heap.lt_size e) (Nat.not_lt.mpr ha)
  have loop : ∀ tk, codeAny (model prog w) A (.compLoop (.ListComp elt [⟨.Name x px, iter, ifs, 0⟩] scope pos) 0 (.ref I) (.ref s₂.heap.objs.size) (compEnvC scope ((x, H3.objs.size) :: cl) H2.objs.size env))
      (compPost (model prog w) A E none Q (.ref s₂.heap.objs.size) H2.objs.size) { s₂ with heap := H3.push { cls := .type "cell", data := .cell none }, toks := tk } := fun tk => by
    refine comp_loopG (s₂ := s₂) W hsz p F (W.frame _ _ _ hst fun b _ o e => k4 b o (k3 b o (k2 b o e))) hfp (Nat.le_refl _) e12 ?_ ?_ ?_ ⟨⟨_, hns.keeps k4⟩, none, _, Heap.get?_push_size _ rfl, rfl⟩
      ((hlist.at fun o e => k3 _ o e).at fun o e => k4 _ o e) (fun b o _ e => k4 b o (k3 b o (k2 b o e))) (hq.gturn hk0 (Nat.le_of_lt e12) e23) ?_
    · rintro h h' ⟨⟨m, hn⟩, v, o, ho, hd⟩ k
      exact ⟨⟨m, hn.at' fun o e => k _ o (Nat.le_refl _) e⟩, v, o, k _ o (Nat.le_of_lt e23) ho, hd⟩
    · rintro v h ⟨a, b⟩
      exact ⟨a, some v, b⟩
    · rintro v s E' Q ⟨⟨m, hn⟩, v0, hc⟩ hQ'
      refine wpAny_assign_Name (wpAny_storeName_cell (c := H3.objs.size) (by simp [compEnvC, relabel, hkind]) hx (by simp [compEnvC]) hc fun h₃ hce₃ hs₃ => ?_)
      exact hQ' h₃ _ ⟨⟨m, hn.sameBut hs₃ (Nat.ne_of_lt e23)⟩, hce₃⟩ fun b o hb e => hs₃.extBut b o (Nat.ne_of_lt (Nat.lt_trans hb e23)) e
    intro h' tk ys vs hz hpl hlen hP hF hk
    obtain ⟨⟨m', hn⟩, _⟩ := hz
    refine ⟨m', hn, fun h'' hs'' => hQ s₂.heap.objs.size h'' tk ys vs (fresh _ (Nat.le_refl _)) (hpl.extBut hs''.extBut (Nat.ne_of_lt e12)) hlen hP hF fun b o hb e => hs''.extBut b o ?_ (hk b o hb e)⟩
    intro q
    have h1 := Heap.lt_size e
    rw [q] at h1
    exact Nat.lt_asymm h1 e12
  have hst4 : St 0 (H3.push { cls := .type "cell", data := .cell none }) := W.frame _ _ _ hst fun b _ o e => k4 b o (k3 b o (k2 b o e))
  exact codeAny_compStart_list (loop _) (W.self 0 _ _ _ hst4 (loop _))

theorem comp_block {elt iter : PySem.Expr} {x : Str} {px : Pos} {ifs : List PySem.Expr} {scope : Scope} {cl : List (Str × Addr)} {pos : Pos} {s₀ s₂ : Shared} {I : Addr} {fp wr : List Addr} {n : Nat} {P : Nat → Value → Prop}
    {St : Nat → Heap → Prop} (W : Walks prog w A I fp wr n P St) (hsz : n ≤ 100) (p : Value → Bool) (F : Value → Value → Prop) {RR : Value → Addr → Result → Shared → Prop}
    (hcell : ∀ y ∈ scope.names, y.2 ≠ .cell) (hkind : scope.kind = .function) (hx : scope.names.lookup x = some .local) (hst : St 0 s₂.heap) (hfp : ∀ b ∈ fp, b < s₂.heap.objs.size)
    (hq : CTurn prog w A env scope cl x ifs elt P p F s₀) (hk0 : ∀ b o, s₀.heap.get? b = some o → s₂.heap.get? b = some o ∧ b ∉ wr)
    (hRR : ∀ D C h' tk m' ys (vs : List Value), s₂.heap.get? D = none → s₂.heap.get? C = none → D ≠ C → h'.Ns C m' → h'.PlainList D ys → vs.length = n → (∀ j v, vs[j]? = some v → P j v) → Paired F (vs.filter p) ys.toList →
      (∀ b o, b ∉ wr → s₂.heap.get? b = some o → h'.get? b = some o) → RR (.ref D) C (.ok .next) { s₂ with heap := h', toks := tk }) :
    wpAny (model prog w) A (newList []) (fun acc s₃ => wpAny (model prog w) A (newFunctionEnv scope env.globals cl [] env.qual none .none (some env)) (fun cenv s₄ =>
      codeAny (model prog w) A (.compStart (.ListComp elt [⟨.Name x px, iter, ifs, 0⟩] scope pos) 0 (.ref I) acc { cenv with scope := relabel scope env }) (RR acc cenv.locals) s₄) E s₃) E s₂ := by
  refine wpAny_newObj_type (wpAny_newFunctionEnv hcell (by intro y hy; simp at hy) (fun h₁ hns₁ hsb₁ => ?_) hkind)
  dsimp only at hns₁ hsb₁ ⊢
  generalize hH2 : s₂.heap.push { cls := .type "list", dict := none, data := .seq ([] : List Value).toArray } = H2 at hns₁ hsb₁ ⊢
  have hC : H2.objs.size = s₂.heap.objs.size + 1 := by rw [← hH2, Heap.size_push]
  have hDC : s₂.heap.objs.size ≠ H2.objs.size := by rw [hC]; exact Nat.ne_of_lt (Nat.lt_succ_self _)
  have hDC' : @LT.lt Nat _ s₂.heap.objs.size H2.objs.size := by rw [hC]; exact Nat.lt_succ_self _
  have hCle : s₂.heap.objs.size ≤ H2.objs.size := by rw [hC]; exact Nat.le_succ _
  have below : ∀ b, b < s₂.heap.objs.size → b ≠ H2.objs.size := fun b hb => by rw [hC]; exact Nat.ne_of_lt (Nat.lt_succ_of_lt hb)
  have old : ∀ b o, s₂.heap.get? b = some o → h₁.get? b = some o := fun b o e => hsb₁.extBut b o (below b (Heap.lt_size e)) (Heap.get?_push_of_some _ (hH2 ▸ Heap.get?_push_of_some _ e))
  have hacc : h₁.PlainList s₂.heap.objs.size #[] := ⟨_, hsb₁.extBut _ _ hDC (Heap.get?_push_of_some _ (hH2 ▸ Heap.get?_push_size _ rfl))⟩
  have hst₁ : St 0 h₁ := W.frame _ _ _ hst fun b _ o e => old b o e
  have fresh : ∀ a, s₂.heap.objs.size ≤ a → s₂.heap.get? a = none := fun a ha => by
    cases e : s₂.heap.get? a with
    | none => rfl
    | some o' => exact absurd (Heap.lt_size e) (Nat.not_lt.mpr ha)
  have loop : ∀ tk, codeAny (model prog w) A (.compLoop (.ListComp elt [⟨.Name x px, iter, ifs, 0⟩] scope pos) 0 (.ref I) (.ref s₂.heap.objs.size) (compEnvC scope cl H2.objs.size env))
        (RR (.ref s₂.heap.objs.size) H2.objs.size) { s₂ with heap := h₁, toks := tk } := by
    intro tk
    refine comp_loopG (s₂ := s₂) W hsz p F hst₁ hfp (Nat.le_refl _) hDC' ?_ ?_ ?_ ⟨_, hns₁⟩ hacc (fun b o _ e => old b o e) (hq.gturn hk0 hCle) ?_
    · rintro h h' ⟨m, hn⟩ k
      exact ⟨m, hn.at' fun o e => k _ o (Nat.le_refl _) e⟩
    · rintro v h ⟨m, a, b⟩
      exact ⟨m, a⟩
    · rintro v s E' Q ⟨m, hn⟩ hQ'
      refine wpAny_assign_Name (wpAny_storeName_local (lookup_relabel_local hx) hn (fun h₃ hn₃ hs₃ => ?_) (by simp [compEnvC, relabel, hkind]))
      exact hQ' h₃ _ ⟨_, hn₃, by simp⟩ fun b o hb e => hs₃.extBut b o (Nat.ne_of_lt hb) e
    · intro h' tk ys vs hz hpl hlen hP hF hk
      obtain ⟨m', hn⟩ := hz
      exact hRR _ _ h' tk m' ys vs (fresh _ (Nat.le_refl _)) (fresh _ hCle) hDC hn hpl hlen hP hF hk
  exact codeAny_compStart_list (loop _) (W.self 0 _ _ _ hst₁ (loop _))
end
section
variable {prog : Program} {w : World} {A : Around} {E : Value → Shared → Prop} {env : Env}

/-- what comes of it -/
def CDone (P : Nat → Value → Prop) (n : Nat) (p : Value → Bool) (F : Value → Value → Prop) (s₂ : Shared) (Q : Value → Shared → Prop) : Prop :=
  ∀ D h' tk (ys vs : List Value) k, s₂.heap.get? D = none → StayBut [] s₂.heap h' → h'.get? D = some (listOf ys.toArray k) → vs.length = n → (∀ j v, vs[j]? = some v → P j v) → Paired F (vs.filter p) ys → Q (.ref D) { s₂ with heap := h', toks := tk }
/-- what comes of it, stored under a name of the frame -/
def CDoneA (env : Env) (y : Str) (m : Str → Option Value) (P : Nat → Value → Prop) (n : Nat) (p : Value → Bool) (F : Value → Value → Prop) (s₂ : Shared) (Q : Flow → Shared → Prop) : Prop :=
  ∀ D h' tk (ys vs : List Value) k, s₂.heap.get? D = none → h'.Ns env.locals (fun z => if z = y then some (.ref D) else m z) → StayBut [env.locals] s₂.heap h' → h'.get? D = some (listOf ys.toArray k) → vs.length = n →
    (∀ j v, vs[j]? = some v → P j v) → Paired F (vs.filter p) ys → Q .next { s₂ with heap := h', toks := tk }

theorem new_ne {h : Heap} : ∀ b o, h.get? b = some o → b ≠ h.objs.size := fun b o e => Nat.ne_of_lt (Heap.lt_size e)
theorem push_keeps {h : Heap} {ob : Obj} : ∀ b o, h.get? b = some o → (h.push ob).get? b = some o ∧ b ∉ [h.objs.size] := fun b o e => ⟨Heap.get?_push_of_some _ e, by simpa using new_ne b o e⟩
theorem not_new {h : Heap} {b : Addr} {o : Obj} (e : h.get? b = some o) : b ∉ [h.objs.size] := by simpa using new_ne b o e
theorem old_none {h : Heap} {ob : Obj} {D : Addr} (hD : (h.push ob).get? D = none) : h.get? D = none := by
  cases q : h.get? D with
  | none => rfl
  | some o => rw [Heap.get?_push_of_some _ q] at hD; cases hD

section
variable {scope : Scope} {cl : List (Str × Addr)} {x : Str} {ifs : List PySem.Expr} {elt : PySem.Expr} {P P' : Nat → Value → Prop} {p : Value → Bool} {F : Value → Value → Prop} {s₁ : Shared}
theorem CTurn.weaken (hq : CTurn prog w A env scope cl x ifs elt P p F s₁) (h : ∀ i v, P' i v → P i v) : CTurn prog w A env scope cl x ifs elt P' p F s₁ := fun C g i v s₃ m E' hP => hq C g i v s₃ m E' (h i v hP)
theorem KTurn.weaken (hq : KTurn prog w A env scope cl x ifs elt P p F s₁) (h : ∀ i v, P' i v → P i v) : KTurn prog w A env scope cl x ifs elt P' p F s₁ := fun C c g i v o s₃ m E' hP => hq C c g i v o s₃ m E' (h i v hP)
end
/-- the numbers of a range, in order -/
def NumAt (n : Nat) (i : Nat) (v : Value) : Prop := i < n ∧ ∃ t, v = .int (i : Int) t
theorem NumAt.of {n i : Nat} {v : Value} (h : i < n ∧ ∃ t, v = .int (0 + (i : Int) * 1) t) : NumAt n i v := ⟨h.1, by obtain ⟨t, e⟩ := h.2; exact ⟨t, by rw [e]; congr 1; omega⟩⟩

section
variable {s : Shared} {elt iter : PySem.Expr} {x : Str} {px : Pos} {ifs : List PySem.Expr} {scope : Scope} {cl : List (Str × Addr)} {pos : Pos} {Q : Value → Shared → Prop} (p : Value → Bool) (F : Value → Value → Prop)

theorem comp_list (hh : A.handled = none) (hclos : closureFor scope env = pure cl) (hcell : ∀ y ∈ scope.names, y.2 ≠ .cell) (hkind : scope.kind = .function)
    (hnames : ∀ y ∈ scope.names, y.2 = .local → scope.names.lookup y.1 = some .local) (hx : scope.names.lookup x = some .local)
    (h : wpAny (model prog w) A (eval iter env) (fun xv s₁ => Halt (∃ ax us k, xv = .ref ax ∧ s₁.heap.get? ax = some (listOf (List.toArray us) k) ∧ us.length ≤ 100 ∧
      CTurn prog w A env scope cl x ifs elt (fun i v => us[i]? = some v) p F s₁ ∧ CDone (fun i v => us[i]? = some v) us.length p F s₁ Q)) E s)
    (hs : ∀ x, foldedSetIterable iter env x = pure x := by intro _; rfl) :
    wpAny (model prog w) A (eval (.ListComp elt [⟨.Name x px, iter, ifs, 0⟩] scope pos) env) Q E s := by
  rw [eval_ListComp]
  refine wpAny_comprehension_free (use := none) rfl hs hclos hkind hnames (wpAny_mono h (fun xv s₁ h₁ => ?_) fun _ _ e => e)
  obtain ⟨ax, us, k, rfl, ho, hlen, hq, hd⟩ := h₁
  have hl : s₁.heap.IsList ax us.toArray := PySem.IsL.isList ho
  have hlt : ax < s₁.heap.objs.size := Heap.lt_size ho
  refine wpAny_pyIter_list hl (comp_block (s₀ := s₁) (RR := fun acc C => compPost (model prog w) A E none Q acc C) (Walks.list hh s₁.heap.objs.size ax (Nat.ne_of_lt hlt) us.toArray) (by rw [List.size_toArray]; exact hlen) p F hcell hkind hx
    ⟨⟨_, Heap.get?_push_size _ rfl, rfl, rfl⟩, hl.at fun o e => Heap.get?_push_of_some _ e⟩ ?_ (hq.weaken fun i v h => by simpa using h) push_keeps ?_)
  · intro b hb
    show b < (s₁.heap.push _).objs.size
    rw [Heap.size_push]
    rcases List.mem_cons.mp hb with rfl | hb
    · exact Nat.lt_succ_self _
    · rw [List.mem_singleton.mp hb]; exact Nat.lt_succ_of_lt hlt
  · intro D C h' tk m' ys vs hD hC hDC hn hpl hvl hP hF hk
    refine ⟨m', hn, fun h'' hs'' => ?_⟩
    obtain ⟨kk, hkk⟩ := hpl.extBut hs''.extBut hDC
    refine hd D h'' tk ys.toList vs kk (old_none hD) (fun b o e _ => hs''.extBut b o ?_ (hk b o (not_new e) (Heap.get?_push_of_some _ e))) hkk (by simpa using hvl) (fun j v e => by simpa using hP j v e) hF
    rintro rfl
    rw [old_none hC] at e; cases e

theorem comp_range (hh : A.handled = none) (hclos : closureFor scope env = pure cl) (hcell : ∀ y ∈ scope.names, y.2 ≠ .cell) (hkind : scope.kind = .function)
    (hnames : ∀ y ∈ scope.names, y.2 = .local → scope.names.lookup y.1 = some .local) (hx : scope.names.lookup x = some .local)
    (h : wpAny (model prog w) A (eval iter env) (fun xv s₁ => Halt (∃ (r : Addr) (n : Nat) (t u t' : Tok), xv = .ref r ∧ IsRange s₁.heap r 0 (n : Int) 1 t u t' ∧ n ≤ 100 ∧
      CTurn prog w A env scope cl x ifs elt (NumAt n) p F s₁ ∧ CDone (NumAt n) n p F s₁ Q)) E s)
    (hs : ∀ x, foldedSetIterable iter env x = pure x := by intro _; rfl) :
    wpAny (model prog w) A (eval (.ListComp elt [⟨.Name x px, iter, ifs, 0⟩] scope pos) env) Q E s := by
  rw [eval_ListComp]
  refine wpAny_comprehension_free (use := none) rfl hs hclos hkind hnames (wpAny_mono h (fun xv s₁ h₁ => ?_) fun _ _ e => e)
  obtain ⟨r, n, t, u, t', rfl, hr, hlen, hq, hd⟩ := h₁
  have hn : Builtin.Range.rangeSize 0 (n : Int) 1 = (n : Int) := by rw [rangeSize_one]; split <;> omega
  refine wpAny_pyIter_range hr (small_one (by decide) (by decide) (by omega) (by omega)) (comp_block (s₀ := s₁) (RR := fun acc C => compPost (model prog w) A E none Q acc C) ((Walks.range hh s₁.heap.objs.size 0 1 n).bound) hlen p F hcell hkind hx
    ?_ ?_ (hq.weaken fun i v h => NumAt.of h) push_keeps ?_)
  · show IsRangeIter _ _ (0 + ((0 : Nat) : Int) * 1) ((n : Int) - ((0 : Nat) : Int)) 1
    rw [hn]
    simpa using Heap.get?_push_size _ rfl
  · intro b hb
    show b < (s₁.heap.push _).objs.size
    rw [Heap.size_push, List.mem_singleton.mp hb]
    exact Nat.lt_succ_self _
  · intro D C h' tk m' ys vs hD hC hDC hn hpl hvl hP hF hk
    refine ⟨m', hn, fun h'' hs'' => ?_⟩
    obtain ⟨kk, hkk⟩ := hpl.extBut hs''.extBut hDC
    refine hd D h'' tk ys.toList vs kk (old_none hD) (fun b o e _ => hs''.extBut b o ?_ (hk b o (not_new e) (Heap.get?_push_of_some _ e))) hkk hvl (fun j v e => NumAt.of (hP j v e)) hF
    rintro rfl
    rw [old_none hC] at e; cases e

theorem comp_range_cell (hh : A.handled = none) (hclos : closureFor scope env = pure cl) (hkind : scope.kind = .function) (hnames : ∀ y ∈ scope.names, y.2 = .local → scope.names.lookup y.1 = some .local)
    (hx : (relabel scope env).names.lookup x = some .cell) (hcells : ∀ k, cellsFrom k scope.names cl = (x, k) :: cl) (hpush : ∀ h : Heap, pushCells h scope.names = h.push { cls := .type "cell", data := .cell none })
    (h : wpAny (model prog w) A (eval iter env) (fun xv s₁ => Halt (∃ (r : Addr) (n : Nat) (t u t' : Tok), xv = .ref r ∧ IsRange s₁.heap r 0 (n : Int) 1 t u t' ∧ n ≤ 100 ∧
      KTurn prog w A env scope cl x ifs elt (NumAt n) p F s₁ ∧ CDone (NumAt n) n p F s₁ Q)) E s)
    (hs : ∀ x, foldedSetIterable iter env x = pure x := by intro _; rfl) :
    wpAny (model prog w) A (eval (.ListComp elt [⟨.Name x px, iter, ifs, 0⟩] scope pos) env) Q E s := by
  refine comp_cell p F hclos hkind hnames hx hcells hpush (wpAny_mono h (fun xv s₁ h₁ => ?_) fun _ _ e => e) hs
  obtain ⟨r, n, t, u, t', rfl, hr, hlen, hq, hd⟩ := h₁
  have hn : Builtin.Range.rangeSize 0 (n : Int) 1 = (n : Int) := by rw [rangeSize_one]; split <;> omega
  refine wpAny_pyIter_range hr (small_one (by decide) (by decide) (by omega) (by omega)) ⟨_, _, _, n, _, _, s₁, rfl, (Walks.range hh s₁.heap.objs.size 0 1 n).bound, hlen, ?_, ?_, hq.weaken fun i v h => NumAt.of h, push_keeps, ?_⟩
  · show IsRangeIter _ _ (0 + ((0 : Nat) : Int) * 1) ((n : Int) - ((0 : Nat) : Int)) 1
    rw [hn]
    simpa using Heap.get?_push_size _ rfl
  · intro b hb
    show b < (s₁.heap.push _).objs.size
    rw [Heap.size_push, List.mem_singleton.mp hb]
    exact Nat.lt_succ_self _
  · intro D h' tk ys vs hD hplD hvl hP hF hk
    obtain ⟨kk, hkk⟩ := hplD
    exact hd D h' tk ys.toList vs kk (old_none hD) (fun b o e _ => hk b o (not_new e) (Heap.get?_push_of_some _ e)) hkk hvl (fun j v e => NumAt.of (hP j v e)) hF
end

variable {s : Shared} {elt iter : PySem.Expr} {x y : Str} {px py : Pos} {ifs : List PySem.Expr} {scope : Scope} {cl : List (Str × Addr)} {pos spos : Pos} {Q : Flow → Shared → Prop} {m : Str → Option Value} (p : Value → Bool) (F : Value → Value → Prop)

theorem comp_store {D C : Addr} {h₂ h' : Heap} {s₁ : Shared} {tk : Nat} {m' : Str → Option Value} {ys : Array Value} {us : List Value} {n : Nat} {P P' : Nat → Value → Prop} {ob : Obj} (he : h₂ = s₁.heap.push ob) (hns : s₁.heap.Ns env.locals m)
    (hy : env.kindOf y = some .local) (hp : (env.scope.kind == .class || (env.scope.kind == .module && env.locals != env.globals)) = false)
    (hd : CDoneA env y m P n p F s₁ Q) (hPP : ∀ i v, P' i v → P i v) (hD : h₂.get? D = none) (hC : h₂.get? C = none) (hDC : D ≠ C) (hnC : h'.Ns C m') (hpl : h'.PlainList D ys) (hvl : us.length = n) (hP : ∀ j v, us[j]? = some v → P' j v) (hF : Paired F (us.filter p) ys.toList)
    (hk : ∀ b o, b ∉ [s₁.heap.objs.size] → h₂.get? b = some o → h'.get? b = some o) :
    compPost (model prog w) A E (some (assign (.Name y py) env)) (fun _ s' => Q .next s') (.ref D) C (.ok .next) { s₁ with heap := h', toks := tk } := by
  subst he
  have hLC : env.locals ≠ C := by rintro rfl; obtain ⟨o, _, _, ho, _⟩ := hns; rw [old_none hC] at ho; cases ho
  have hLD : env.locals ≠ D := by rintro rfl; obtain ⟨o, _, _, ho, _⟩ := hns; rw [old_none hD] at ho; cases ho
  show wpAny _ A (assign (.Name y py) env (.ref D)) _ _ _
  refine wpAny_assign_Name (wpAny_storeName_local hy (hns.at' fun o e => hk _ o (not_new e) (Heap.get?_push_of_some _ e)) (fun h₂ hn₂ hs₂ => ?_) hp)
  refine ⟨m', hnC.sameBut hs₂ (Ne.symm hLC), fun h₃ hs₃ => ?_⟩
  obtain ⟨kk, hkk⟩ := (hpl.extBut hs₂.extBut (Ne.symm hLD)).extBut hs₃.extBut hDC
  exact hd D h₃ _ ys.toList us kk (old_none hD) (hn₂.sameBut hs₃ hLC) (fun b o e nb => hs₃.extBut b o (by rintro rfl; rw [old_none hC] at e; cases e) (hs₂.extBut b o (by simpa using nb) (hk b o (not_new e) (Heap.get?_push_of_some _ e)))) hkk hvl (fun j v e => hPP j v (hP j v e)) hF

theorem comp_listA (hsw : swapsWith (.ListComp elt [⟨.Name x px, iter, ifs, 0⟩] scope pos) (some (.Name y py)) spos.line env = pure true) (hh : A.handled = none) (hclos : closureFor scope env = pure cl) (hcell : ∀ y ∈ scope.names, y.2 ≠ .cell) (hkind : scope.kind = .function)
    (hnames : ∀ y ∈ scope.names, y.2 = .local → scope.names.lookup y.1 = some .local) (hx : scope.names.lookup x = some .local)
    (hy : env.kindOf y = some .local) (hp : (env.scope.kind == .class || (env.scope.kind == .module && env.locals != env.globals)) = false)
    (h : wpAny (model prog w) A (eval iter env) (fun xv s₁ => Halt (∃ ax us k, xv = .ref ax ∧ s₁.heap.get? ax = some (listOf (List.toArray us) k) ∧ us.length ≤ 100 ∧ s₁.heap.Ns env.locals m ∧
      CTurn prog w A env scope cl x ifs elt (fun i v => us[i]? = some v) p F s₁ ∧ CDoneA env y m (fun i v => us[i]? = some v) us.length p F s₁ Q)) E s)
    (hs : ∀ x, foldedSetIterable iter env x = pure x := by intro _; rfl) :
    wpAny (model prog w) A (exec (.Assign [.Name y py] (.ListComp elt [⟨.Name x px, iter, ifs, 0⟩] scope pos) spos) env) Q E s := by
  rw [exec_Assign_Name_used _ _ _ _ hsw]
  refine wpAny_bind (wpAny_standAt (wpAny_bind ?_))
  show wpAny _ A (do let _ ← comprehension (.ListComp elt [⟨.Name x px, iter, ifs, 0⟩] scope pos) scope env _ (newList []) false (eval iter env) (some (assign (.Name y py) env))) _ _ s
  refine wpAny_bind (wpAny_mono (wpAny_comprehension_free (use := some (assign (.Name y py) env)) (Q := fun _ s' => Q .next s') rfl hs hclos hkind hnames
    (wpAny_mono h (fun xv s₁ h₁ => ?_) fun _ _ e => e)) (fun _ s' hq => wpAny_pure (wpAny_pure hq)) fun _ _ e => e)
  obtain ⟨ax, us, k, rfl, ho, hlen, hns, hq, hd⟩ := h₁
  have hl : s₁.heap.IsList ax us.toArray := PySem.IsL.isList ho
  have hlt : ax < s₁.heap.objs.size := Heap.lt_size ho
  refine wpAny_pyIter_list hl (comp_block (s₀ := s₁) (RR := fun acc C => compPost (model prog w) A E (some (assign (.Name y py) env)) (fun _ s' => Q .next s') acc C) (Walks.list hh s₁.heap.objs.size ax (Nat.ne_of_lt hlt) us.toArray) (by rw [List.size_toArray]; exact hlen) p F hcell hkind hx
    ⟨⟨_, Heap.get?_push_size _ rfl, rfl, rfl⟩, hl.at fun o e => Heap.get?_push_of_some _ e⟩ ?_ (hq.weaken fun i v h => by simpa using h) push_keeps ?_)
  · intro b hb
    show b < (s₁.heap.push _).objs.size
    rw [Heap.size_push]
    rcases List.mem_cons.mp hb with rfl | hb
    · exact Nat.lt_succ_self _
    · rw [List.mem_singleton.mp hb]; exact Nat.lt_succ_of_lt hlt
  · intro D C h' tk m' ys vs hD hC hDC hn hpl hvl hP hF hk
    exact comp_store (s₁ := s₁) p F rfl hns hy hp hd (fun i v h => by simpa using h) hD hC hDC hn hpl (by simpa using hvl) hP hF hk

theorem comp_rangeA (hsw : swapsWith (.ListComp elt [⟨.Name x px, iter, ifs, 0⟩] scope pos) (some (.Name y py)) spos.line env = pure true) (hh : A.handled = none) (hclos : closureFor scope env = pure cl) (hcell : ∀ y ∈ scope.names, y.2 ≠ .cell) (hkind : scope.kind = .function)
    (hnames : ∀ y ∈ scope.names, y.2 = .local → scope.names.lookup y.1 = some .local) (hx : scope.names.lookup x = some .local)
    (hy : env.kindOf y = some .local) (hp : (env.scope.kind == .class || (env.scope.kind == .module && env.locals != env.globals)) = false)
    (h : wpAny (model prog w) A (eval iter env) (fun xv s₁ => Halt (∃ (r : Addr) (n : Nat) (t u t' : Tok), xv = .ref r ∧ IsRange s₁.heap r 0 (n : Int) 1 t u t' ∧ n ≤ 100 ∧ s₁.heap.Ns env.locals m ∧
      CTurn prog w A env scope cl x ifs elt (NumAt n) p F s₁ ∧ CDoneA env y m (NumAt n) n p F s₁ Q)) E s)
    (hs : ∀ x, foldedSetIterable iter env x = pure x := by intro _; rfl) :
    wpAny (model prog w) A (exec (.Assign [.Name y py] (.ListComp elt [⟨.Name x px, iter, ifs, 0⟩] scope pos) spos) env) Q E s := by
  rw [exec_Assign_Name_used _ _ _ _ hsw]
  refine wpAny_bind (wpAny_standAt (wpAny_bind ?_))
  show wpAny _ A (do let _ ← comprehension (.ListComp elt [⟨.Name x px, iter, ifs, 0⟩] scope pos) scope env _ (newList []) false (eval iter env) (some (assign (.Name y py) env))) _ _ s
  refine wpAny_bind (wpAny_mono (wpAny_comprehension_free (use := some (assign (.Name y py) env)) (Q := fun _ s' => Q .next s') rfl hs hclos hkind hnames
    (wpAny_mono h (fun xv s₁ h₁ => ?_) fun _ _ e => e)) (fun _ s' hq => wpAny_pure (wpAny_pure hq)) fun _ _ e => e)
  obtain ⟨r, n, t, u, t', rfl, hr, hlen, hns, hq, hd⟩ := h₁
  have hn : Builtin.Range.rangeSize 0 (n : Int) 1 = (n : Int) := by rw [rangeSize_one]; split <;> omega
  refine wpAny_pyIter_range hr (small_one (by decide) (by decide) (by omega) (by omega)) (comp_block (s₀ := s₁) (RR := fun acc C => compPost (model prog w) A E (some (assign (.Name y py) env)) (fun _ s' => Q .next s') acc C) ((Walks.range hh s₁.heap.objs.size 0 1 n).bound) hlen p F hcell hkind hx
    ?_ ?_ (hq.weaken fun i v h => NumAt.of h) push_keeps ?_)
  · show IsRangeIter _ _ (0 + ((0 : Nat) : Int) * 1) ((n : Int) - ((0 : Nat) : Int)) 1
    rw [hn]
    simpa using Heap.get?_push_size _ rfl
  · intro b hb
    show b < (s₁.heap.push _).objs.size
    rw [Heap.size_push, List.mem_singleton.mp hb]
    exact Nat.lt_succ_self _
  · intro D C h' tk m' ys vs hD hC hDC hn hpl hvl hP hF hk
    exact comp_store (s₁ := s₁) p F rfl hns hy hp hd (fun i v h => NumAt.of h) hD hC hDC hn hpl hvl hP hF hk
end
section
variable {prog : Program} {w : World} {A : Around} {E : Value → Shared → Prop} {env : Env} {h₀ : Heap} {s : Shared} {Q : Flow → Shared → Prop}
/-- the state between the turns of a loop whose letter is the cell c -/
def CellInv (h₀ : Heap) (L c : Addr) (J : Nat → (Str → Option Value) → List (Addr × Obj) → Prop) (i : Nat) (more : List (Addr × Obj)) (h : Heap) : Prop :=
  ∃ m news o v, Fr h₀ L h m ∧ News h₀ L h ((c, o) :: (news ++ more)) ∧ o.data = .cell v ∧ (∀ p ∈ news ++ more, p.1 ≠ c) ∧ (∀ p ∈ news, ∀ q ∈ more, p.1 ≠ q.1) ∧ J i m news

theorem for_cell {x : Str} {px pos : Pos} {iter : PySem.Expr} {body : List Stmt} {c : Addr} (J : Nat → (Str → Option Value) → List (Addr × Obj) → Prop) (hh : A.handled = none)
    (hk : env.scope.kind = .function) (hx : env.kindOf x = some .cell) (hc : env.cells.lookup x = some c)
    (h : wpAny (model prog w) A (eval iter env) (fun xv s₁ => Halt (∃ ax us k, xv = .ref ax ∧ h₀.get? ax = some (listOf (List.toArray us) k) ∧ us.length ≤ 100 ∧ CellInv h₀ env.locals c J 0 [] s₁.heap ∧
      (∀ i m₁ news₁ h tk o₁ I oI, i < us.length → J i m₁ news₁ → Fr h₀ env.locals h m₁ → News h₀ env.locals h ((c, o₁) :: (news₁ ++ [(I, oI)])) → o₁.data = .cell (some (us.getD i .none)) → (∀ p ∈ news₁ ++ [(I, oI)], p.1 ≠ c) → (∀ p ∈ news₁, p.1 ≠ I) →
        wpAny (model prog w) A (execs body env) (fun f s₂ => Halt (f = .next ∧ ∃ h' tk', s₂ = { s₁ with heap := h', toks := tk' } ∧ CellInv h₀ env.locals c J (i + 1) [(I, oI)] h')) (fun _ _ => False) { s₁ with heap := h, toks := tk }) ∧
      (∀ h' tk, CellInv h₀ env.locals c J us.length [] h' → Q .next { s₁ with heap := h', toks := tk }))) E s)
    (hs : ∀ x, foldedSetIterable iter env x = pure x := by intro _; rfl) :
    wpAny (model prog w) A (exec (.For (.Name x px) iter body [] pos) env) Q E s := by
  refine wpAny_For (wpAny_mono h (fun xv s₁ h₁ => ?_) fun _ _ e => e) hs
  obtain ⟨ax, us, k, rfl, ho, hlen, hI, turn, done⟩ := h₁
  have hax : s₁.heap.get? ax = some (listOf us.toArray k) := by
    obtain ⟨m, news, o, v, F, _⟩ := hI
    exact F.keep _ _ ho
  have hl : s₁.heap.IsList ax us.toArray := PySem.IsL.isList hax
  have hlt : ax < s₁.heap.objs.size := Heap.lt_size hax
  have hne : ax ≠ s₁.heap.objs.size := Nat.ne_of_lt hlt
  refine wpAny_pyIter_list hl ?_
  generalize hIt : s₁.heap.objs.size = I at hne
  have W := Walks.list (prog := prog) (w := w) hh I ax hne us.toArray
  have hsz : us.toArray.size = us.length := by simp
  rw [hsz] at W
  refine codeAny_forLoop (fun kk s' => ∃ i h' tk oI, s' = { s₁ with heap := h', toks := tk } ∧ h'.IsListIter I ax i ∧ CellInv h₀ env.locals c J i [(I, oI)] h' ∧ i ≤ us.length ∧ kk = us.length + 1 - i) ?_ (us.length + 1) ?_
  · rintro kk s' ⟨i, h', tk, oI, rfl, hit, ⟨m, news, o, v, F, N, hd, hnc, hnm, hJ⟩, hi, rfl⟩
    have hlist : h'.IsList ax us.toArray := PySem.IsL.isList (F.keep _ _ ho)
    have hIc : I ≠ c := hnc _ (List.mem_append_right _ (.head _))
    have hIL : I ≠ env.locals := (N _ (.tail _ (List.mem_append_right _ (.head _)))).2.1
    have hI0 : h₀.get? I = none := (N _ (.tail _ (List.mem_append_right _ (.head _)))).2.2
    have hnI : ∀ p ∈ news, p.1 ≠ I := fun p hp => hnm p hp _ (.head _)
    have keep : ∀ h₂ : Heap, (∀ b o, b ∉ [I] → h'.get? b = some o → h₂.get? b = some o) → Fr h₀ env.locals h₂ m ∧ News h₀ env.locals h₂ ((c, o) :: news) := fun h₂ hk₂ =>
      ⟨⟨F.ns.at' fun o e => hk₂ _ o (by simpa using hIL.symm) e, fun b o e => hk₂ b o (by simp only [List.mem_singleton]; intro q; rw [q, hI0] at e; cases e) (F.keep b o e), F.above⟩, fun p hp => by
        have hpN : p ∈ (c, o) :: (news ++ [(I, oI)]) := by
          rcases List.mem_cons.mp hp with rfl | hp
          · exact .head _
          · exact .tail _ (List.mem_append_left _ hp)
        have hpI : p.1 ≠ I := by
          rcases List.mem_cons.mp hp with rfl | hp
          · exact hIc.symm
          · exact hnI p hp
        exact ⟨hk₂ _ _ (by simpa using hpI) (N p hpN).1, (N p hpN).2⟩⟩
    by_cases hlti : i < us.length
    · refine W.item i _ _ _ hlti ⟨hit, hlist⟩ fun u h₂ tk₂ hPu hst₂ hk₂ => ?_
      obtain ⟨F₂, N₂⟩ := keep h₂ hk₂
      have hu : us.getD i .none = u := by
        have : us[i]? = some u := by simpa using hPu
        simp [List.getD, this]
      obtain ⟨oI₂, hoI₂, hcl₂, hdI₂⟩ := hst₂.1
      refine wpAny_assign_Name (wpAny_storeName_cell hk hx hc ⟨o, (N₂ _ (.head _)).1, hd⟩ fun h₃ hc₃ hs₃ => ?_)
      obtain ⟨o₃, ho₃, hd₃⟩ := hc₃
      have F₃ : Fr h₀ env.locals h₃ m := F₂.change hs₃ (N₂ _ (.head _)).2.1 (N₂ _ (.head _)).2.2
      have hI₃ : h₃.get? I = some oI₂ := (hs₃.2 I hIc).trans hoI₂
      have N₃ : News h₀ env.locals h₃ ((c, o₃) :: (news ++ [(I, oI₂)])) := fun p hp => by
        rcases List.mem_cons.mp hp with rfl | hp
        · exact ⟨ho₃, (N₂ _ (.head _)).2⟩
        · rcases List.mem_append.mp hp with hp | hp
          · exact ⟨(hs₃.2 _ (hnc p (List.mem_append_left _ hp))).trans (N₂ p (.tail _ hp)).1, (N₂ p (.tail _ hp)).2⟩
          · rw [List.mem_singleton.mp hp]; exact ⟨hI₃, hIL, hI0⟩
      refine wpAny_mono (turn i m news h₃ tk₂ o₃ I oI₂ hlti hJ F₃ N₃ (by rw [hu]; exact hd₃) (fun p hp => ?_) hnI) (fun f s₄ h₄ => ?_) fun _ _ e => e.elim
      · rcases List.mem_append.mp hp with hp | hp
        · exact hnc p (List.mem_append_left _ hp)
        · rw [List.mem_singleton.mp hp]; exact hIc
      · obtain ⟨rfl, h₄, tk₄, rfl, hinv⟩ := h₄
        refine ⟨us.length + 1 - (i + 1), by omega, i + 1, h₄, tk₄, oI₂, rfl, ?_, hinv, hlti, rfl⟩
        obtain ⟨m₄, news₄, o₄, v₄, F₄, N₄, _⟩ := hinv
        exact ⟨oI₂, (N₄ _ (.tail _ (List.mem_append_right _ (.head _)))).1, hcl₂, hdI₂⟩
    · have hin : i = us.length := by omega
      subst hin
      refine W.done _ _ _ ⟨hit, hlist⟩ fun h₂ tk₂ hk₂ => wpAny_execs_nil ?_
      obtain ⟨F₂, N₂⟩ := keep h₂ hk₂
      exact done h₂ tk₂ ⟨m, news, o, v, F₂, by simpa using N₂, hd, fun p hp => hnc p (List.mem_append_left _ (by simpa using hp)), (fun p hp q hq => nomatch hq), hJ⟩
  · obtain ⟨m, news, o, v, F, N, hd, hnc, hnm, hJ⟩ := hI
    have hold : ∀ p ∈ news, p.1 ≠ I := fun p hp => hIt ▸ Nat.ne_of_lt (Heap.lt_size (N p (.tail _ (List.mem_append_left _ hp))).1)
    have hco : c ≠ I := hIt ▸ Nat.ne_of_lt (Heap.lt_size (N _ (.head _)).1)
    have hLI : I ≠ env.locals := hIt ▸ Nat.ne_of_gt F.ns.lt
    have hpush : ∀ ob : Obj, ob.isFreed = false → (s₁.heap.push ob).get? I = some ob := fun ob hf => hIt ▸ Heap.get?_push_size _ hf
    refine ⟨0, _, s₁.toks, { cls := .type "list_iterator", data := .fields #[.ref ax, .int 0 0] }, rfl, ⟨_, hpush _ rfl, rfl, rfl⟩, ⟨m, news, o, v, F.push _, fun p hp => ?_, hd, ?_, ?_, hJ⟩, Nat.zero_le _, rfl⟩
    · rcases List.mem_cons.mp hp with rfl | hp
      · exact ⟨Heap.get?_push_of_some _ (N _ (.head _)).1, (N _ (.head _)).2⟩
      · rcases List.mem_append.mp hp with hp | hp
        · have := N p (.tail _ (List.mem_append_left _ hp))
          exact ⟨Heap.get?_push_of_some _ this.1, this.2⟩
        · rw [List.mem_singleton.mp hp]
          exact ⟨hpush _ rfl, hLI, hIt ▸ next_is_new F⟩
    · intro p hp
      rcases List.mem_append.mp hp with hp | hp
      · exact hnc p (List.mem_append_left _ hp)
      · rw [List.mem_singleton.mp hp]; exact hco.symm
    · intro p hp q hq
      rw [List.mem_singleton.mp hq]; exact hold p hp
end
section
variable {M : Model} {A : Around} {E : Value → Shared → Prop} {s : Shared} {K : Frag} {h₀ : Heap} {C : Addr} {m mg mb : Str → Option Value} {scope : Scope} {cl : List (Str × Addr)} {env : Env} {p : Program} {loose : List Str}
  {x : Str} {pos : Pos} {v : Value} {Q : Value → Shared → Prop} {c : Addr} {o : Obj}
theorem nameK_K (F : Fr h₀ C s.heap m) (X : K.In h₀) (T : TopRead p loose mg mb h₀) (e : nsIn K mainGlobals x = some (some v)) (h : Q v s)
    (hk : (compEnvC scope cl C env).scope.kind = .function) (hx : (compEnvC scope cl C env).kindOf x = some .globalImplicit) (hg : env.globals = mainGlobals) (hd : (x == ("__debug__" : Str)) = false := by decide) :
    wpAny M A (eval (.Name x pos) (compEnvC scope cl C env)) Q E s := Name_function_global hk hx (loadGlobal_global (env := compEnvC scope cl C env) (show s.heap.Ns env.globals mg from hg ▸ T.g.keeps F.keep) (mg_of X T.g e) h) hd
theorem nameK_B (F : Fr h₀ C s.heap m) (X : K.In h₀) (T : TopRead p loose mg mb h₀) (e : nsIn K mainGlobals x = some none) (hv : bootBuiltins x = some v) (hn : x ≠ "__name__") (h : Q v s)
    (hk : (compEnvC scope cl C env).scope.kind = .function) (hx : (compEnvC scope cl C env).kindOf x = some .globalImplicit) (hg : env.globals = mainGlobals) (hb : env.builtins = builtinsNs) (hd : (x == ("__debug__" : Str)) = false := by decide) :
    wpAny M A (eval (.Name x pos) (compEnvC scope cl C env)) Q E s :=
  Name_function_global hk hx (loadGlobal_builtin (env := compEnvC scope cl C env) (show s.heap.Ns env.globals mg from hg ▸ T.g.keeps F.keep) (mg_none_of X T.g e) (show s.heap.Ns env.builtins mb from hb ▸ T.b.keeps F.keep) ((T.builtins x hn).trans hv) h) hd
theorem nameK_L (F : Fr h₀ C s.heap m) (hv : m x = some v) (h : Q v s)
    (hk : (compEnvC scope cl C env).scope.kind = .function) (hx : (compEnvC scope cl C env).kindOf x = some .local) (hd : (x == ("__debug__" : Str)) = false := by decide) :
    wpAny M A (eval (.Name x pos) (compEnvC scope cl C env)) Q E s := wpAny_Name (wpAny_loadName_local hk hx F.ns hv h) hd
theorem nameK_C (hx : (compEnvC scope cl C env).kindOf x = some .cell) (hc : cl.lookup x = some c) (ho : s.heap.get? c = some o) (hd : o.data = .cell (some v)) (h : Q v s)
    (hk : (compEnvC scope cl C env).scope.kind = .function) (hb : (x == ("__debug__" : Str)) = false := by decide) :
    wpAny M A (eval (.Name x pos) (compEnvC scope cl C env)) Q E s := wpAny_Name (wpAny_loadName_cell hk hx hc ⟨o, ho, hd⟩ h) hb
theorem nameK_F (hx : (compEnvC scope cl C env).kindOf x = some .free) (hc : cl.lookup x = some c) (ho : s.heap.get? c = some o) (hd : o.data = .cell (some v)) (h : Q v s)
    (hk : (compEnvC scope cl C env).scope.kind = .function) (hb : (x == ("__debug__" : Str)) = false := by decide) (hn : (x == ("__classdict__" : Str)) = false := by decide) :
    wpAny M A (eval (.Name x pos) (compEnvC scope cl C env)) Q E s := wpAny_Name (wpAny_loadName_free hk hx hc ⟨o, ho, hd⟩ h hn) hb
end
theorem news_sub {h₀ h : Heap} {L : Addr} {news news' : List (Addr × Obj)} (N : News h₀ L h news) (hs : ∀ q ∈ news', q ∈ news) : News h₀ L h news' := fun q hq => N q (hs q hq)

section
variable {prog : Program} {w : World} {A : Around} {E : Value → Shared → Prop} {s : Shared} {env : Env} {Q : Bool → Shared → Prop}
theorem compOk_one {c : PySem.Expr} (h : wpAny (model prog w) A (isTrue c env (eval c env)) Q E s) : wpAny (model prog w) A (compOk [c] env) Q E s := by
  unfold compOk
  simp only [List.forIn_cons, List.forIn_nil, if_true]
  exact wpAny_bind (wpAny_bind (wpAny_mono h (fun b s' hq => wpAny_pure (wpAny_pure hq)) fun _ _ e => e))
theorem compOk_nil (h : Q true s) : wpAny (model prog w) A (compOk [] env) Q E s := by
  unfold compOk
  simp only [List.forIn_nil]
  exact wpAny_pure h
end

theorem news_new {h₀ h h' : Heap} {L D : Addr} {m : Str → Option Value} {news : List (Addr × Obj)} {o : Obj} (F : Fr h₀ L h m) (N : News h₀ L h news) (hs : StayBut [] h h') (hD : h.get? D = none) (ho : h'.get? D = some o) : News h₀ L h' ((D, o) :: news) := by
  intro p hp
  rcases List.mem_cons.mp hp with rfl | hp
  · refine ⟨ho, ?_, ?_⟩
    · rintro rfl
      obtain ⟨oL, _, _, e, _⟩ := F.ns
      rw [hD] at e; cases e
    · cases q : h₀.get? D with
      | none => rfl
      | some ob => have := F.keep _ _ q; rw [hD] at this; cases this
  · exact news_keep N hs p hp
theorem new_off {h₀ h : Heap} {L D : Addr} {news : List (Addr × Obj)} (N : News h₀ L h news) (hD : h.get? D = none) : ∀ p ∈ news, p.1 ≠ D := by
  rintro p hp rfl
  have := (N p hp).1
  rw [hD] at this; cases this
theorem g_sitem {prog : Program} {w : World} {A : Around} {E : Value → Shared → Prop} {s : Shared} {value slice : PySem.Expr} {x : Str} {t u : Tok} {i : Int} {Q : Value → Shared → Prop} (h0 : 0 ≤ i) (h1 : i < (x.length : Int)) (hz : x.length ≤ 1000) (h : Q (.str (Txt.item x i) s.toks) { s with toks := s.toks + 1 })
    (hs : subscripted slice false (.str x t) (.int i u) = operate [.str x t, .int i u] (getItem (.str x t) (.int i u)) := by with_unfolding_all rfl)
    (ht : ∀ r, letTemporaryGo value (.str x t) r = pure () := by intro _; with_unfolding_all rfl) : wpAny (model prog w) A (subscriptTail value slice (.str x t) (.int i u)) Q E s :=
  item_str (by have a : ¬ i < -(2 ^ 63 : Int) := by omega
               have b : ¬ i ≥ (2 ^ 63 : Int) := by omega
               unfold fitsSsize; simp only [a, b]; decide) (by omega) h1 (fun _ => h) hs ht
theorem g_slen {prog : Program} {w : World} {A : Around} {E : Value → Shared → Prop} {s : Shared} {x : Str} {t : Tok} {Q : Value → Shared → Prop} (hz : x.length ≤ 1000) (h : Q (.int (x.length : Int) (s.toks + 1)) { s with toks := s.toks + 1 + 1 }) : wpAny (model prog w) A (call (.builtin "len") [.str x t]) Q E s :=
  P.len_str (by omega) h
example : True := by
  w_top off
  trivial
def WJ (p : Addr) (z : Nat) (t2 : Tok) (Fa Ta : Addr) (pile told : List Int) (k : Nat) (m : Str → Option Value) (nx : List (Addr × Obj)) : Prop :=
  ∃ vs kk ws e tups fr tl, nx = (Ta, listOf (List.toArray ws) e) :: (Fa, listOf (List.toArray vs) kk) :: tups ∧ Has m [(Str.ofString "pile", .ref p), (Str.ofString "size", .int z t2), (Str.ofString "front", .ref Fa), (Str.ofString "told", .ref Ta)] ∧
    Pairs tups vs fr ∧ Ints ws tl ∧ (∀ q ∈ tups, q.2.cls = .type "tuple") ∧ tl.length + k = z / 2 + 1 ∧ fr.length ≤ 1 + tl.length ∧ walkGo pile k fr tl = some told
def pushN (pile : List Int) (j : Nat) : Nat → List (Int × Nat) → List (Int × Nat)
  | 0, fr => fr
  | i + 1, fr => wPush pile (2 * j + 1 + i) (pushN pile j i fr)
theorem pushN_length {pile : List Int} {j : Nat} {fr : List (Int × Nat)} : ∀ i, (pushN pile j i fr).length ≤ fr.length + i
  | 0 => Nat.le_refl _
  | i + 1 => by
    have h1 := pushN_length (pile := pile) (j := j) (fr := fr) i
    have h2 := wPush_length (pile := pile) (b := 2 * j + 1 + i) (fr := pushN pile j i fr)
    show (wPush pile (2 * j + 1 + i) (pushN pile j i fr)).length ≤ _
    omega
/-- the turn's inner loop -/
def WK (p : Addr) (z : Nat) (t2 : Tok) (Fa Ta : Addr) (ws : List Value) (e : Nat) (pile : List Int) (j : Nat) (fr0 : List (Int × Nat)) (i : Nat) (m : Str → Option Value) (nx : List (Addr × Obj)) : Prop :=
  ∃ vs kk tups, nx = (Ta, listOf (List.toArray ws) e) :: (Fa, listOf (List.toArray vs) kk) :: tups ∧ Has m [(Str.ofString "pile", .ref p), (Str.ofString "size", .int z t2), (Str.ofString "front", .ref Fa), (Str.ofString "told", .ref Ta)] ∧
    Pairs tups vs (pushN pile j i fr0) ∧ (∀ q ∈ tups, q.2.cls = .type "tuple")
theorem off_list {h₀ h : Heap} {L a : Addr} {vs : List Value} {n : Nat} {news tups : List (Addr × Obj)} (N : News h₀ L h news) (hm : (a, listOf vs.toArray n) ∈ news) (hs : ∀ q ∈ tups, q ∈ news) (hc : ∀ q ∈ tups, q.2.cls = .type "tuple") : ∀ q ∈ tups, q.1 ≠ a := fun q hq e => by
  have h1 := (N _ hm).1
  have h2 := (N _ (hs q hq)).1
  rw [e] at h2
  dsimp only at h1
  rw [h1] at h2
  have h3 := hc q hq
  rw [← Option.some.inj h2] at h3
  exact absurd (Value.type.inj (show Value.type "list" = Value.type "tuple" from h3)) (by decide)
section
local macro_rules
  | `(tactic| walk_at "subscriptTail") => `(tactic| walk_at "mine 1")
  | `(tactic| walk_at "call builtin:len") => `(tactic| walk_at "mine 3")
  | `(tactic| walk_at "binaryOp FloorDiv int int") => `(tactic| (refine g_half ?_))
  | `(tactic| walk_at "call ref cons nil") => `(tactic| refine Halt.mk ?_)
  | `(tactic| walk_at "exec While Compare cons nil") => `(tactic| refine Halt.mk ?_)
  | `(tactic| walk_at "call builtin:list.append") => `(tactic| walk_at "mine 4")
  | `(tactic| walk_at "getMethod ref") => `(tactic| walk_at "mine 5")
  | `(tactic| walk_at "exec For Name Tuple cons nil") => `(tactic| refine Halt.mk ?_)
  | `(tactic| walk_at "pyIter ref") => `(tactic| refine Halt.mk ?_)
  | `(tactic| walk_at "newTuple") => `(tactic| refine Halt.mk ?_)
  | `(tactic| walk_at "newList") => `(tactic| refine Halt.mk ?_)
  | `(tactic| walk_at "assign Tuple") => `(tactic| refine Halt.mk ?_)
local macro_rules | `(tactic| walk_at "mine 0") => `(tactic| skip)
local macro_rules | `(tactic| k_all) => `(tactic| assumption)
theorem walk_spec {prog : Program} {w : World} {A : Around} {s : Shared} {h₀ : Heap} {mean : ExcName → Option Value} {mg mb : Str → Option Value} {Q : Value → Shared → Prop} {E : Value → Shared → Prop}
  (p : Addr) (pv : List Value) (pile : List Int) (n : Nat) (k z : Nat) (t1 t2 : Tok) (hA : Ok A 6) (G : Gd w mean mg mb s.heap)
  (hp : s.heap.get? p = some (listOf pv.toArray n)) (hi : Ints pv pile) (hz : pile.length < 60) (hk : k < pile.length) (hzz : z < 60) (told : List Int)
  (hw : walkGo pile (z / 2 + 1) [(pile.getD k 0, k)] [] = some told)
  (hret : ∀ D ws e h' tk', StayBut [] s.heap h' → s.heap.get? D = none → h'.get? D = some (listOf (List.toArray ws) e) → Ints ws told → Q (.ref D) { s with heap := h', toks := tk' }) :
  wpAny (model prog w) A (call (.ref 143) [.ref p, .int k t1, .int z t2]) Q E s := by
  refine wpAny_call ?_
  refine' enter (binds := [(Str.ofString "pile", .ref p), (Str.ofString "place", .int k t1), (Str.ofString "size", .int z t2)]) (as := []) hA.room G (fun _ _ e => e) ?kN ?k6 ?k7 ?k9 ?kB ?_ ?c2 ?c3 ?c4 ?c5
  case kN => intro p hp; exact nomatch hp
  case k6 => k_is
  case k7 => k_is
  case k9 => exact BindsTo.of_eq rfl
  case kB => exact locs rfl
  case c2 => exact rfl
  case c3 => exact rfl
  case c4 => exact rfl
  case c5 => decide
  intro g L h₁ G' hs hn F N
  obtain ⟨X, T⟩ := G'
  have hl := hi.length
  have hp' : g.get? p = some (listOf pv.toArray n) := hs _ _ hp (by simp)
  k_steps
  refine Halt.of (g_newTuple F N (by simp) ?_)
  intro T0 h' F' N' l1
  clear l1
  k_steps
  refine Halt.of (g_newList (by assumption) (by assumption) (by simp) ?_)
  intro Fa h' F' N' l1
  clear l1
  k_steps
  rename Fr _ _ _ _ => F'
  rename News _ _ _ _ => N'
  refine Halt.of (g_newList F' N' (by simp) ?_)
  intro Ta h' F' N' l1
  have hFT : Fa ≠ Ta := Nat.ne_of_lt (l1 _ (.head _))
  clear l1
  obtain ⟨tv, hv⟩ := hi.getD hk
  k_steps
  refine Halt.of ?_
  rename Fr _ _ _ _ => F'
  rename News _ _ _ _ => N'
  have hv' : pv.getD (k : Int).toNat .none = .int (pile.getD k 0) tv := hv
  rw [hv'] at N'
  refine wpAny_mono (While_inv2 (Q := fun f s' => Halt (f = .next ∧ ∃ ws e u h' tk', s' = { s with heap := h', toks := tk' } ∧ Fr g L h' (lm [(Str.ofString "told", .ref Ta)] u) ∧ News g L h' [(Ta, listOf (List.toArray ws) e)] ∧ Ints ws told))
    (WJ p z t2 Fa Ta pile told) F' N' (n₀ := z / 2 + 1) ?start ?turn PassesOwn.never) ?after (fun _ _ x => x.elim)
  case start =>
    refine ⟨[.ref T0], 0, [], 0, [(T0, tupL [.int (pile.getD k 0) tv, .int (k : Int) t1])], [(pile.getD k 0, k)], [], rfl, ⟨rfl, rfl, rfl, rfl, trivial⟩, ⟨?_, ?_⟩, Ints.nil, ?_, by simp, by simp, hw⟩
    · intro v hv
      rw [List.mem_singleton.mp hv]
      exact ⟨T0, _, _, _, _, rfl, .head _⟩
    · rw [List.map_singleton, keyT_of (fun q hq => (N' q (.tail _ (.tail _ hq))).1) (.head _)]
    · intro q hq
      rw [List.mem_singleton.mp hq]
  case turn =>
    clear F' N'
    rintro kt m₁ nx h₂ tk₂ F₂ N₂ ⟨vs, kk, ws, e, tups, fr, tl, rfl, hm, hP, hI, hC, hkl, hfl, hgo⟩
    obtain ⟨u, rfl⟩ := hm.lm
    have hwl := hI.length
    have hvl := hP.length
    have hTT := off_list N₂ (.head _) (fun q hq => .tail _ (.tail _ hq)) hC
    have hTF := off_list N₂ (.tail _ (.head _)) (fun q hq => .tail _ (.tail _ hq)) hC
    k_steps
    · refine Halt.of ?_
      rename Fr _ _ _ _ => F'
      rename News _ _ _ _ => N'
      obtain ⟨k', rfl⟩ : ∃ k', kt = k' + 1 := ⟨kt - 1, by omega⟩
      unfold walkGo at hgo
      by_cases hf0 : fr.length = 0
      · rw [if_pos hf0] at hgo; cases hgo
      rw [if_neg hf0] at hgo
      have hA1 : ∀ env, Ok (A.deeper env) 5 := fun env => hA.deeper
      have hNt : ∀ q ∈ tups, Heap.get? _ q.1 = some q.2 := fun q hq => (N' q (.tail _ (.tail _ hq))).1
      refine heappop_spec cmp_tups Fa vs kk ((hA1 _).le (by decide)) ⟨X, T⟩ F'.keep (fun q hq => ⟨hNt q hq, hTF q hq⟩) (N' _ (.tail _ (.head _))).1 (N' _ (.tail _ (.head _))).2.2 (by omega) (by omega) hP.1 ?_
      intro h₃ tk₃ hs₃ ha₃
      dsimp only at hs₃
      have F₃ := fr_back F' N' (.tail _ (.head _)) hs₃
      have N₃ := news_back N' (Upd.tail hFT.symm (Upd.head hTF)) hs₃ ha₃
      have hP' := hP.pop (by omega)
      obtain ⟨a0, i0, j0, ta, ua, hva, hma⟩ := getD_all (d := Value.none) hP.1 (i := 0) (by omega)
      have hk0 := hP.getD (i := 0)
      rw [hva, keyT_of hNt hma] at hk0
      rw [hva]
      rw [← hk0] at hgo
      generalize hvs' : (if vs.length = 1 then [] else sup Value.none (ltT tups) (vs.dropLast.set 0 (vs.getD (vs.length - 1) Value.none)) 0) = vs' at N₃ hP'
      have hpl := wPop_length (fr := fr) (by omega)
      generalize hfr' : wPop fr = fr' at hP' hgo hpl
      clear F' N' hs₃ ha₃ hNt
      k_steps
      refine Halt.of (unpackN_ F₃ N₃ (N₃.isTup (.tail _ (.tail _ hma))) hA.hh rfl rfl ?_)
      intro h₄ F₄ N₄
      clear F₃ N₃
      dsimp only
      k_steps
      refine Halt.of ?_
      rename Fr _ _ _ _ => F'
      rename News _ _ _ _ => N'
      refine For_invVF F' rfl rfl ?_
      k_steps
      refine Halt.of (g_newTuple F' N' (by simp) ?_)
      intro It h₅ F₅ N₅ lt₅
      have hFI : Fa < It := lt₅ _ _ (N' _ (.tail _ (.head _))).1
      clear F' N' lt₅
      k_steps
      refine Halt.of ?_
      refine for_tuple (m := _) (news := _) (WK p z t2 Fa Ta (ws ++ [.int i0 ta]) (e + 1) pile j0 fr') hA.hh (N₅ _ (.head _)).1 (N₅ _ (.head _)).2.1 F₅ (fun q hq => N₅ q (.tail _ hq)) ⟨vs', kk + 1, tups, rfl, ⟨rfl, rfl, rfl, rfl, trivial⟩, hP', hC⟩ ?turn2 ?done2
      case turn2 =>
        rintro i v m₁ nx h₆ tk₆ I own hi2 hvi ⟨vs2, kk2, tups2, rfl, hm2, hP2, hC2⟩ hown hIne hIs hne2 F₆ N₆
        obtain ⟨u2, rfl⟩ := hm2.lm
        have hb : ∃ tb, v = .int ((2 * j0 + 1 + i : Nat) : Int) tb := by
          rcases (show i = 0 ∨ i = 1 by simp at hi2; omega) with rfl | rfl
          · exact ⟨_, hvi.trans (congrArg (fun x => Value.int x _) (by omega))⟩
          · exact ⟨_, hvi.trans (congrArg (fun x => Value.int x _) (by omega))⟩
        obtain ⟨tb, rfl⟩ := hb
        clear hvi
        have hlp := pushN_length (pile := pile) (j := j0) (fr := fr') i
        have hvl2 := hP2.length
        have hi3 : i < 2 := by simpa using hi2
        generalize hbb : 2 * j0 + 1 + i = b at F₆
        have hun : pushN pile j0 (i + 1) fr' = wPush pile b (pushN pile j0 i fr') := by rw [← hbb]; rfl
        have hTT2 : ∀ q ∈ tups2, q.1 ≠ Ta := off_list N₆ (.head _) (fun q hq => .tail _ (.tail _ (List.mem_append_left _ hq))) hC2
        have hTF2 : ∀ q ∈ tups2, q.1 ≠ Fa := off_list N₆ (.tail _ (.head _)) (fun q hq => .tail _ (.tail _ (List.mem_append_left _ hq))) hC2
        have hoF : ∀ q ∈ own, q.1 ≠ Fa := fun q hq e => by
          rcases hown q hq with h | h
          · exact hne2 _ (.tail _ (.head _)) (e.symm.trans h)
          · exact Nat.ne_of_lt hFI (e.symm.trans h)
        k_steps
        · refine Halt.of ?_
          rename (b : Int) < _ => hbl
          obtain ⟨tq, hq⟩ := hi.getD (i := b) (by omega)
          rw [Int.toNat_natCast, hq]
          rename Fr _ _ _ _ => F'
          rename News _ _ _ _ => N'
          refine g_newTuple F' N' (by simp) ?_
          intro Tn h₇ F₇ N₇ lt₇
          obtain ⟨oI, hoI⟩ := hIs
          have hTnI : Tn ≠ I := Nat.ne_of_gt (lt₇ _ _ hoI)
          have hTn2 : ∀ q ∈ tups2, q.1 ≠ Tn := fun q hq => Nat.ne_of_lt (lt₇ _ _ (N' q (.tail _ (.tail _ (List.mem_append_left _ hq)))).1)
          have hTnT : Tn ≠ Ta := Nat.ne_of_gt (lt₇ _ _ (N' _ (.head _)).1)
          have hTnF : Tn ≠ Fa := Nat.ne_of_gt (lt₇ _ _ (N' _ (.tail _ (.head _))).1)
          clear F' N'
          k_steps
          refine Halt.of ?_
          rename Fr _ _ _ _ => F'
          rename News _ _ _ _ => N'
          have hNt : ∀ q ∈ (Tn, tupL [Value.int (pile.getD b 0) tq, Value.int (b : Int) tb]) :: tups2, Heap.get? _ q.1 = some q.2 := fun q hq => by
            rcases List.mem_cons.mp hq with rfl | hq
            · exact (N' _ (.head _)).1
            · exact (N' q (.tail _ (.tail _ (.tail _ (List.mem_append_left _ hq))))).1
          have hPg := hP2.grow (o := tupL [Value.int (pile.getD b 0) tq, Value.int (b : Int) tb]) hTn2
          refine heappush_spec (cmp_tups (tups := (Tn, tupL [Value.int (pile.getD b 0) tq, Value.int (b : Int) tb]) :: tups2)) Fa (.ref Tn) vs2 kk2 ((hA1 _).le (by decide)) ⟨X, T⟩ F'.keep (fun q hq => ⟨hNt q hq, ?_⟩) (N' _ (.tail _ (.tail _ (.head _)))).1 (N' _ (.tail _ (.tail _ (.head _)))).2.2 (by omega) hPg.1 ⟨Tn, _, _, _, _, rfl, .head _⟩ ?_
          · rcases List.mem_cons.mp hq with rfl | hq
            · exact hTnF
            · exact hTF2 q hq
          intro h₈ tk₈ hs₈ ha₈
          dsimp only at hs₈
          have F₈ := fr_back F' N' (.tail _ (.tail _ (.head _))) hs₈
          have N₈ := news_back N' (Upd.tail hTnF (Upd.tail hFT.symm (Upd.head (fun q hq => (List.mem_append.mp hq).elim (hTF2 q) (hoF q))))) hs₈ ha₈
          have hP3 : Pairs ((Tn, tupL [Value.int (pile.getD b 0) tq, Value.int (b : Int) tb]) :: tups2) (vs2 ++ [.ref Tn]) (pushN pile j0 i fr' ++ [(pile.getD b 0, b)]) :=
            hPg.append ⟨fun v hv => by rw [List.mem_singleton.mp hv]; exact ⟨Tn, _, _, _, _, rfl, .head _⟩, by rw [List.map_singleton, keyT_of hNt (.head _)]⟩
          clear F' N'
          k_steps
          refine ⟨_, _, _, (Ta, listOf (ws ++ [Value.int i0 ta]).toArray (e + 1)) :: (Fa, listOf (sdown .none (ltT ((Tn, tupL [Value.int (pile.getD b 0) tq, Value.int (b : Int) tb]) :: tups2)) (vs2 ++ [Value.ref Tn]) 0 vs2.length).toArray (kk2 + 1)) :: (Tn, tupL [Value.int (pile.getD b 0) tq, Value.int (b : Int) tb]) :: tups2, rfl, F₈, news_sub N₈ ?hsub, ?hoff, sdown .none (ltT ((Tn, tupL [Value.int (pile.getD b 0) tq, Value.int (b : Int) tb]) :: tups2)) (vs2 ++ [Value.ref Tn]) 0 vs2.length, kk2 + 1, (Tn, tupL [Value.int (pile.getD b 0) tq, Value.int (b : Int) tb]) :: tups2, rfl, ⟨rfl, rfl, rfl, rfl, trivial⟩, ?hp, ?hc⟩
          case hsub =>
            intro q hq
            simp only [List.cons_append, List.mem_cons, List.mem_append] at hq ⊢
            rcases hq with h | h | h | h | h
            · exact .inr (.inl h)
            · exact .inr (.inr (.inl h))
            · exact .inl h
            · exact .inr (.inr (.inr (List.mem_append.mpr (.inl h))))
            · exact .inr (.inr (.inr (List.mem_append.mpr (.inr h))))
          case hoff =>
            intro q hq hqI
            have hqI' : q.1 = I := List.mem_singleton.mp hqI
            simp only [List.mem_cons] at hq
            rcases hq with rfl | rfl | rfl | h
            · exact hne2 _ (.head _) hqI'
            · exact hne2 (Fa, listOf vs2.toArray kk2) (.tail _ (.head _)) hqI'
            · exact hTnI hqI'
            · exact hne2 q (.tail _ (.tail _ h)) hqI'
          case hp =>
            rw [hun]
            unfold wPush
            rw [if_pos (by omega)]
            have := hP3.sdown (sp := 0) (p := (pushN pile j0 i fr').length) (by simp)
            rw [hvl2]
            exact this
          case hc =>
            intro q hq
            rcases List.mem_cons.mp hq with rfl | hq
            · rfl
            · exact hC2 q hq
        · rename Fr _ _ _ _ => F'
          rename News _ _ _ _ => N'
          refine ⟨_, _, _, _ :: _ :: tups2, rfl, F', N', fun q hq hqI => hne2 q hq (List.mem_singleton.mp hqI), vs2, kk2, tups2, rfl, ⟨rfl, rfl, rfl, rfl, trivial⟩, ?_, hC2⟩
          rw [hun]
          unfold wPush
          rw [if_neg (by omega)]
          exact hP2
      case done2 =>
        rintro h₆ tk₆ m₁ nx ⟨vs2, kk2, tups2, rfl, hm2, hP2, hC2⟩ F₆ N₆
        dsimp only
        obtain ⟨u2, rfl⟩ := hm2.lm
        k_steps
        have hI2 : Ints (ws ++ [.int i0 ta]) (tl ++ [i0]) := hI.append ⟨fun v hv => by rw [List.mem_singleton.mp hv]; exact ⟨_, _, rfl⟩, rfl⟩
        have hlp := pushN_length (pile := pile) (j := j0) (fr := fr') 2
        refine ⟨_, _, _, _, k', rfl, F₆, N₆, by omega, vs2, kk2, _, _, tups2, _, _, rfl, ⟨rfl, rfl, rfl, rfl, trivial⟩, hP2, hI2, hC2, by simp; omega, ?_, hgo⟩
        have : (tl ++ [i0]).length = tl.length + 1 := by simp
        rw [this]
        exact Nat.le_trans hlp (by omega)
    · refine Halt.of ?_
      rename Fr _ _ _ _ => F'
      rename News _ _ _ _ => N'
      have hk0 : kt = 0 := by omega
      subst hk0
      cases hgo
      obtain ⟨u', F2⟩ := fr_lm F' (ps := [(Str.ofString "told", .ref Ta)]) ⟨rfl, trivial⟩
      exact ⟨by trivial, ws, e, u', _, _, rfl, F2, news_sub N' (fun q hq => by rw [List.mem_singleton.mp hq]; exact .head _), hI⟩
  case after =>
    clear F' N'
    rintro f s' ⟨rfl, ws, e, u, h', tk', rfl, F₂, N₂, hI⟩
    dsimp only
    k_steps
    refine hret _ _ _ _ _ (fun b o e' _ => F₂.keep _ _ (hs _ _ e' (by simp))) ?_ (N₂ _ (.head _)).1 hI
    have h1 := (N₂ _ (.head _)).2.2
    cases q : s.heap.get? _ with
    | none => rfl
    | some o => rw [hs _ _ q (by simp)] at h1; cases h1
end
def Nats (vs : List Value) (rs : List Nat) : Prop := Ints vs (rs.map Int.ofNat)
theorem Nats.mem {vs : List Value} {rs : List Nat} (h : Nats vs rs) {v : Value} (hv : v ∈ vs) : ∃ (k : Nat) (t : Tok), v = .int (k : Int) t ∧ k ∈ rs := by
  obtain ⟨i, t, rfl⟩ := h.1 v hv
  have : keyI (.int i t) ∈ rs.map Int.ofNat := by rw [← h.2]; exact List.mem_map_of_mem hv
  obtain ⟨k, hk, e⟩ := List.mem_map.mp this
  exact ⟨k, t, by rw [show i = (k : Int) from e.symm], hk⟩
/-- a list's ints, turned one by one -/
def PairI (f : Int → Int) (v y : Value) : Prop := ∃ (i : Int) (t t' : Tok), v = .int i t ∧ y = .int (f i) t'
theorem Ints.paired {f : Int → Int} {vs ys : List Value} {ns : List Int} (h : Ints vs ns) (hp : Paired (PairI f) vs ys) : Ints ys (ns.map f) := by
  induction hp generalizing ns with
  | nil => obtain ⟨_, rfl⟩ := h; exact Ints.nil
  | cons hf r ih =>
    obtain ⟨i, t, t', rfl, rfl⟩ := hf
    obtain ⟨h1, rfl⟩ := h
    have ih := ih (ns := _) ⟨fun v hv => h1 v (.tail _ hv), rfl⟩
    exact Ints.append (ns := [f i]) ⟨fun v hv => by rw [List.mem_singleton.mp hv]; exact ⟨f i, t', rfl⟩, rfl⟩ ih
theorem Ints.filter {P : Int → Bool} {vs : List Value} {ns : List Int} (h : Ints vs ns) : Ints (vs.filter fun v => P (keyI v)) (ns.filter P) := by
  refine ⟨fun v hv => h.1 v (List.mem_filter.mp hv).1, ?_⟩
  rw [← h.2, List.filter_map]
  rfl
theorem Nats.turned {f : Int → Int} {f' : Nat → Nat} {P : Int → Bool} {vs ys : List Value} {rs : List Nat} (h : Nats vs rs) (hp : Paired (PairI f) (vs.filter fun v => P (keyI v)) ys) (hf : ∀ k : Nat, f (k : Int) = ((f' k : Nat) : Int)) :
    Nats ys ((rs.filter fun (k : Nat) => P (k : Int)).map f') := by
  have := (Ints.filter (P := P) h).paired hp
  unfold Nats
  have e : ((rs.map Int.ofNat).filter P).map f = ((rs.filter fun (k : Nat) => P (k : Int)).map f').map Int.ofNat := by
    rw [List.filter_map, List.map_map, List.map_map]
    exact List.map_congr_left fun k _ => hf k
  rw [← e]
  exact this
theorem same_list {α : Type} : ∀ {us vs : List α}, us.length = vs.length → (∀ (j : Nat) v, us[j]? = some v → vs[j]? = some v) → us = vs := by
  intro us vs hl h
  refine List.ext_getElem hl fun i h1 h2 => ?_
  have := h i us[i] (List.getElem?_eq_getElem h1)
  rw [List.getElem?_eq_getElem h2] at this
  exact (Option.some.inj this).symm
theorem Nats.range {vs : List Value} {n : Nat} (hl : vs.length = n) (h : ∀ j v, vs[j]? = some v → NumAt n j v) : Nats vs (List.range n) := by
  refine ⟨fun v hv => ?_, ?_⟩
  · obtain ⟨j, hj⟩ := List.getElem?_of_mem hv
    obtain ⟨_, t, rfl⟩ := h j v hj
    exact ⟨_, t, rfl⟩
  · refine List.ext_getElem (by simp [hl]) fun i h1 h2 => ?_
    have h1' : i < vs.length := by simpa using h1
    obtain ⟨_, t, e⟩ := h i vs[i] (List.getElem?_eq_getElem h1')
    simp [e, keyI]

section
variable {prog : Program} {w : World} {A : Around} {E : Value → Shared → Prop} {s : Shared} {a b : Addr} {vs us : List Value} {ns ms : List Int} {n n' : Nat} {Q : Value → Shared → Prop}
theorem g_eqL (ho : s.heap.get? a = some (listOf vs.toArray n)) (hi : Ints vs ns) (ho' : s.heap.get? b = some (listOf us.toArray n')) (hi' : Ints us ms) (hu : A.units + 64 < cLine) (h : Q (.bool (decide (ns = ms))) s) : wpAny (model prog w) A (compareOp .Eq (.ref a) (.ref b)) Q E s :=
  eq_intsK (PySem.IsL.isList ho) hi.are (PySem.IsL.isList ho') hi'.are hu h
theorem g_neL (ho : s.heap.get? a = some (listOf vs.toArray n)) (hi : Ints vs ns) (ho' : s.heap.get? b = some (listOf us.toArray n')) (hi' : Ints us ms) (hu : A.units + 64 < cLine) (h : Q (.bool (!decide (ns = ms))) s) : wpAny (model prog w) A (compareOp .NotEq (.ref a) (.ref b)) Q E s :=
  ne_intsK (PySem.IsL.isList ho) hi.are (PySem.IsL.isList ho') hi'.are hu h
theorem kf_of : ∀ {vs : List Value} {ns : List Int}, Ints vs ns → kf_ints vs = true
  | [], _, _ => rfl
  | v :: r, _, h => by
    obtain ⟨h1, rfl⟩ := h
    obtain ⟨i, t, rfl⟩ := h1 v (.head _)
    have := kf_of (vs := r) (ns := _) ⟨fun v hv => h1 v (.tail _ hv), rfl⟩
    simp only [kf_ints] at this ⊢
    simpa using this
theorem any_isInt {k : Int} : ∀ {vs : List Value} {ns : List Int}, Ints vs ns → vs.any (isInt k) = ns.contains k
  | [], _, h => by obtain ⟨_, rfl⟩ := h; rfl
  | v :: r, _, h => by
    obtain ⟨h1, rfl⟩ := h
    obtain ⟨i, t, rfl⟩ := h1 v (.head _)
    have := any_isInt (k := k) (vs := r) (ns := _) ⟨fun v hv => h1 v (.tail _ hv), rfl⟩
    rw [List.any_cons, this, List.map_cons, List.contains_cons]
    congr 1
    show (i == k) = (k == i)
    exact BEq.comm
theorem g_inL {k : Int} {t : Tok} (ho : s.heap.get? a = some (listOf vs.toArray n)) (hi : Ints vs ns) (h : Q (.bool (ns.contains k)) s) : wpAny (model prog w) A (compareOp .In (.int k t) (.ref a)) Q E s :=
  SeqInW.in_listW (isInt k) (fun y hy => kf_eq (kf_of hi) y (by simpa using hy)) (PySem.IsL.isList (n := n) ho) (by rw [← Array.any_toList]; rw [← any_isInt hi] at h; exact h)
end
example : True := by
  w_top off
  trivial
section
variable {prog : Program} {w : World} {A : Around} {s : Shared} {mean : ExcName → Option Value} {mg mb : Str → Option Value}
  {R : Result → Shared → Prop} {name : Str} {params : Arguments} {body : List Stmt} {scope : Scope} {pm cd doc oc : Value} {od : Option Addr} {osl : Array (Option Value)} {f : Addr} {args : List Value} {binds : List (Str × Value)}
theorem enterC (hroom : A.depth < recursionLimit) (G : Gd w mean mg mb s.heap)
    (ho : (hd.heap_39 w.params).lookup f = some ⟨oc, od, .func (docDef name params body scope pm cd doc), osl⟩) (hcd : codeIn (hd.heap_39 w.params) cd name = true)
    (hbind : bindArgs (docDef name params body scope pm cd doc) ⟨args, []⟩ = pure binds) (hkind : (binds.all fun y => scope.names.lookup y.1 == some .local || scope.names.lookup y.1 == some .cell) = true)
    (hnd : ((cellsFrom 0 scope.names []).map (·.1)).Nodup)
    (h : ∀ g L h₁ tk cells, Gd w mean mg mb g → StayBut [] s.heap g → Fr g L h₁ (bindL (envOfC name scope L f cd).kindOf binds fun _ => none) → News g L h₁ cells →
      CellsAre (bindC (envOfC name scope L f cd).kindOf binds fun _ => none) (cellsFrom (L + 1) scope.names []) cells →
      wpAny (model prog w) (A.deeper (envOfC name scope L f cd)) (execs body (envOfC name scope L f cd))
        (fun fl s' => R (.ok (.ret (match fl with | .ret v => v | _ => .none))) s') (fun _ _ => False) { s with heap := h₁, toks := tk })
    (hco : scope.isCoroutine = false) (hgen : scope.isGenerator = false) (hk : scope.kind = .function) : codeAny (model prog w) A (.call (.ref f) ⟨args, []⟩) R s :=
  call_cellsN_ret hroom (G.kin _ _ ho) rfl G.top.nolimit (codeRec_of G.kin hcd) hbind (fun x hx => kindsX hkind _ x hx) hnd (fun h₁ tk cells F N Y => h s.heap s.heap.objs.size h₁ tk cells G StayBut.refl F N Y) hco hgen hk
end

def IsS (v : Value) (x : Str) : Prop := ∃ t, v = .str x t
def IsO (v : Value) (x : Option Str) : Prop := match x with
  | none => v = .none
  | some x => IsS v x
abbrev bs : Str := Str.ofString "\\"
def tStep (name : Str) (it : Option Str) (rs : List Nat) : List Nat := match it with
  | none => (List.range (name.length + 1)).filter fun (k : Nat) => (rs.filter fun (j : Nat) => decide ((j : Int) ≤ (k : Int))) != []
  | some x => (rs.filter fun (k : Nat) => decide ((k : Int) < (name.length : Int)) && (x == bs ++ Txt.item name (k : Int))).map (· + 1)
def tRun (name : Str) : List (Option Str) → List Nat → List Nat
  | [], rs => rs
  | it :: r, rs => tRun name r (tStep name it rs)
def takes (items : List (Option Str)) (name : Str) : Bool := (tRun name items [0]).contains name.length
theorem ne_nil_map (fs : List Nat) : (!decide (fs.map Int.ofNat = [])) = (fs != []) := by cases fs <;> rfl
/-- between the items -/
def TJ (L : Addr) (name : Str) (t1 : Tok) (items : List (Option Str)) (i : Nat) (m : Str → Option Value) (nx : List (Addr × Obj)) : Prop :=
  ∃ o2 o3 D rv rs k, nx = [(L + 1 + 1, o2), (L + 1, o3), (D, listOf (List.toArray rv) k)] ∧ o2.data = .cell (some (.ref D)) ∧ o3.data = .cell (some (.str name t1)) ∧ Nats rv rs ∧ rs.length ≤ 30 ∧ tRun name (items.drop i) rs = tRun name items [0] ∧ Has m []
theorem tj_turn {L I D : Addr} {g h : Heap} {name : Str} {t1 : Tok} {items : List (Option Str)} {i : Nat} {m : Str → Option Value} {nx : List (Addr × Obj)} {o₁ o2 o3 oI : Obj} {v : Option Value} {ys : List Value} {k : Nat} {rs : List Nat}
    (F : Fr g L h m) (N : News g L h nx) (hm : ∀ q ∈ [(L + 1 + 1 + 1, o₁), (L + 1 + 1, o2), (L + 1, o3), (D, listOf (List.toArray ys) k), (I, oI)], q ∈ nx) (d1 : o₁.data = .cell v) (d2 : o2.data = .cell (some (.ref D))) (d3 : o3.data = .cell (some (.str name t1)))
    (h1 : D ≠ L + 1 + 1 + 1) (h2 : I ≠ L + 1 + 1 + 1) (h3 : L + 1 + 1 ≠ I) (h4 : L + 1 ≠ I) (h5 : D ≠ I) (hr : Nats ys rs) (hl : rs.length ≤ 30) (hrun : tRun name (items.drop i) rs = tRun name items [0]) :
    CellInv g L (L + 1 + 1 + 1) (TJ L name t1 items) i [(I, oI)] h := by
  refine ⟨m, [(L + 1 + 1, o2), (L + 1, o3), (D, listOf (List.toArray ys) k)], o₁, v, F, news_sub N hm, d1, ?_, ?_, o2, o3, D, ys, rs, k, rfl, d2, d3, hr, hl, hrun, trivial⟩
  · intro q hq
    simp at hq
    rcases hq with rfl | rfl | rfl | rfl
    · show L + 1 + 1 ≠ L + 1 + 1 + 1; exact Nat.ne_of_lt (Nat.lt_succ_self _)
    · show L + 1 ≠ L + 1 + 1 + 1; exact Nat.ne_of_lt (Nat.lt_succ_of_lt (Nat.lt_succ_self _))
    · exact h1
    · exact h2
  · intro q hq p hp
    simp at hq hp
    subst hp
    rcases hq with rfl | rfl | rfl
    · exact h3
    · exact h4
    · exact h5
local macro_rules | `(tactic| walk_at "mine 8") => `(tactic| (k_here; k_dflt (first
  | (refine' nameK_L ?F ?v ?_ ?a ?b; (case a => rfl); (case b => rfl); (case F => k_asm); (case v => rfl); k_whole)
  | (refine' nameK_C ?b ?c ?o ?d ?_ ?a; (case a => rfl); (case b => rfl); (case c => rfl); (case o => walk_at "mine at"); (case d => k_asm); k_whole)
  | (refine' nameK_F ?b ?c ?o ?d ?_ ?a; (case a => rfl); (case b => rfl); (case c => rfl); (case o => walk_at "mine at"); (case d => k_asm); k_whole)
  | (refine' nameK_K ?F ?X ?T ?e ?_ ?a ?b ?g; (case F => k_asm); (case X => k_asm); (case T => k_asm); (case a => rfl); (case b => rfl); (case g => rfl); (case e => k_is); k_whole)
  | (refine' nameK_B ?F ?X ?T ?e ?v ?n ?_ ?a ?b ?g ?u; (case F => k_asm); (case X => k_asm); (case T => k_asm); (case a => rfl); (case b => rfl); (case g => rfl); (case u => rfl); (case e => k_is); (case v => boot_fast); (case n => decide); k_whole))))
local macro_rules | `(tactic| walk_at "mine 9") => `(tactic| (k_here; (with_reducible show wpAny _ _ (subscriptTail _ _ (Value.str _ _) (Value.int _ _)) _ _ _); k_dflt (refine' g_sitem ?k1 ?k2 ?k3 ?_ ?k7 ?k8; (case k1 => omega); (case k2 => omega); (case k3 => omega); (case k7 => with_unfolding_all rfl); (case k8 => (intro _; with_unfolding_all rfl)); k_whole)))
section
local macro_rules
  | `(tactic| walk_at "call builtin:len") => `(tactic| walk_at "mine 3")
  | `(tactic| walk_at "exec For Name Name cons nil") => `(tactic| refine Halt.mk ?_)
  | `(tactic| walk_at "newList") => `(tactic| refine Halt.mk ?_)
  | `(tactic| walk_at "exec Assign Name ListComp") => `(tactic| refine Halt.mk ?_)
  | `(tactic| walk_at "eval ListComp") => `(tactic| refine Halt.mk ?_)
  | `(tactic| walk_at "compareOp NotEq ref ref") => `(tactic| refine Halt.mk ?_)
  | `(tactic| walk_at "compareOp In int ref") => `(tactic| refine Halt.mk ?_)
  | `(tactic| walk_at "eval Name") => `(tactic| walk_at "mine 8")
  | `(tactic| walk_at "subscriptTail") => `(tactic| walk_at "mine 9")

theorem takes_spec {prog : Program} {w : World} {A : Around} {s : Shared} {h₀ : Heap} {mean : ExcName → Option Value} {mg mb : Str → Option Value} {Q : Value → Shared → Prop} {E : Value → Shared → Prop}
  (ia : Addr) (iv : List Value) (items : List (Option Str)) (n : Nat) (name : Str) (t1 : Tok) (hA : Ok A 6) (G : Gd w mean mg mb s.heap)
  (hp : s.heap.get? ia = some (listOf iv.toArray n)) (hlen : iv.length = items.length) (hiv : ∀ i, i < items.length → IsO (iv.getD i .none) (items.getD i none)) (hz : items.length ≤ 20) (hn : name.length ≤ 20)
  (hret : ∀ h' tk', StayBut [] s.heap h' → Q (.bool (takes items name)) { s with heap := h', toks := tk' }) :
  wpAny (model prog w) A (call (.ref 136) [.ref ia, .str name t1]) Q E s := by
  refine wpAny_call ?_
  refine' enterC (binds := [(Str.ofString "items", .ref ia), (Str.ofString "name", .str name t1)]) hA.room G ?k6 ?k7 ?k9 ?kB ?kD ?_ ?c2 ?c3 ?c4
  case k6 => k_is
  case k7 => k_is
  case k9 => exact rfl
  case kB => exact rfl
  case kD => decide +kernel
  case c2 => exact rfl
  case c3 => exact rfl
  case c4 => exact rfl
  intro g L h₁ tk0 cells G' hs F N Y
  obtain ⟨X, T⟩ := G'
  obtain ⟨o1, o2, o3, rfl, d1, d2, d3⟩ := Y.three
  dsimp only at *
  have hp' : g.get? ia = some (listOf iv.toArray n) := hs _ _ hp (by simp)
  k_steps
  refine Halt.of (g_newList F N (by simp) ?_)
  intro D h' F' N' l1
  have hD3 : L + 1 ≠ D := Nat.ne_of_lt (l1 _ (.tail _ (.tail _ (.head _))))
  have hD2 : L + 1 + 1 ≠ D := Nat.ne_of_lt (l1 _ (.tail _ (.head _)))
  have hD1 : L + 1 + 1 + 1 ≠ D := Nat.ne_of_lt (l1 _ (.head _))
  clear l1
  k_steps
  refine Halt.of ?_
  rename Fr _ _ _ _ => F'
  rename News _ _ _ _ => N'
  rename Obj.data _ = Data.cell (some (Value.ref D)) => e2
  refine for_cell (h₀ := g) (c := L + 1 + 1 + 1) (TJ L name t1 items) hA.hh rfl ?kx ?kc ?_
  case kx => with_unfolding_all rfl
  case kc => with_unfolding_all rfl
  k_steps
  refine ⟨ia, iv, n, rfl, hp', by omega, ?I, ?turn, ?done⟩
  case I =>
    rename Obj => ob2
    refine ⟨_, [(L + 1 + 1, ob2), (L + 1, o3), (D, listOf (List.toArray [.int 0 tk0]) 0)], o1, none, F', news_sub N' ?_, d1, ?_, ?_, ⟨ob2, o3, D, [.int 0 tk0], [0], 0, rfl, e2, d3, ?_, ?_, rfl, trivial⟩⟩
    · intro q hq
      simp at hq ⊢
      rcases hq with h | h | h | h <;> simp [h]
    · intro q hq
      simp at hq
      rcases hq with rfl | rfl | rfl
      · show L + 1 + 1 ≠ L + 1 + 1 + 1; exact Nat.ne_of_lt (Nat.lt_succ_self _)
      · show L + 1 ≠ L + 1 + 1 + 1; exact Nat.ne_of_lt (Nat.lt_succ_of_lt (Nat.lt_succ_self _))
      · exact hD1.symm
    · simp
    · exact ⟨fun v hv => by rw [List.mem_singleton.mp hv]; exact ⟨0, _, rfl⟩, rfl⟩
    · simp
  case done =>
    rintro h₂ tk₂ ⟨m₁, nx, o₁, v, F₂, N₂, hd₁, hnc, hnm, o2, o3, D, rv, rs, k, rfl, e2, e3, hr, hrl, hrun, hm⟩
    have F₂ : Fr g L h₂ m₁ := F₂
    have N₂ : News g L h₂ [(L + 1 + 1 + 1, o₁), (L + 1 + 1, o2), (L + 1, o3), (D, listOf (List.toArray rv) k)] := N₂
    have hi' : Ints rv (rs.map Int.ofNat) := hr
    have hdr : items.drop iv.length = [] := by rw [hlen]; simp
    rw [hdr] at hrun
    k_steps
    refine Halt.of (g_inL (N₂ (D, listOf (List.toArray rv) k) (by simp)).1 hi' ?_)
    k_steps
    have e : (rs.map Int.ofNat).contains (name.length : Int) = takes items name := by
      unfold takes
      rw [← hrun]
      show _ = rs.contains name.length
      rw [Bool.eq_iff_iff]
      simp
      exact ⟨fun ⟨a, ha, e⟩ => by have : a = name.length := by omega
                                  exact this ▸ ha, fun h => ⟨_, h, rfl⟩⟩
    rw [e]
    refine hret _ _ fun b o eb hb => F₂.keep _ _ (hs _ _ eb hb)
  case turn =>
    clear F' N'
    intro i m₁ nx h₂ tk₂ o₁ I oI hi hJ F₂ N₂ hd₁ hnc hnI
    obtain ⟨o2, o3, D, rv, rs, k, rfl, e2, e3, hr, hrl, hrun, -⟩ := hJ
    have hv := hiv i (by omega)
    have hdrop : items.drop i = items.getD i none :: items.drop (i + 1) := by
      have : i < items.length := by omega
      rw [List.drop_eq_getElem_cons this]
      simp [List.getD, List.getElem?_eq_getElem this]
    rw [hdrop] at hrun
    generalize items.getD i none = it at hrun hv
    cases it with
    | none =>
      have hv' : iv.getD i .none = .none := hv
      rw [hv'] at hd₁
      have F₂ : Fr g L h₂ m₁ := F₂
      have N₂ : News g L h₂ [(L + 1 + 1 + 1, o₁), (L + 1 + 1, o2), (L + 1, o3), (D, listOf (List.toArray rv) k), (I, oI)] := N₂
      k_steps
      refine Halt.of ?_
      refine' comp_range_cell (cl := [(Str.ofString "reached", L + 1 + 1)]) (fun v => (fun i : Int => (rs.filter fun (j : Nat) => decide ((j : Int) ≤ i)) != []) (keyI v)) (PairI id) ?hh ?clos rfl ?names rfl ?cells ?push ?_
      case hh => exact hA.hh
      case clos => with_unfolding_all rfl
      case names => decide
      case cells => intro _; rfl
      case push => intro _; rfl
      k_steps
      rename IsRange _ _ _ _ _ _ _ _ => R
      rename Fr _ _ _ _ => F₂
      rename News _ _ _ _ => N₂
      refine Halt.of ⟨_, name.length + 1, _, _, _, rfl, R, by omega, ?turn, ?done⟩
      case turn =>
        intro C c g' j v o s₃ m₃ E' hP F₃ Nc hc hg
        obtain ⟨hjn, tj, rfl⟩ := hP
        have X' := X.keeps fun b o e => hg b o (F₂.keep b o e)
        have T' := T.keeps fun b o e => hg b o (F₂.keep b o e)
        have c2 : g'.get? (L + 1 + 1) = some o2 := hg _ _ (N₂ (L + 1 + 1, o2) (by simp)).1
        have cD : g'.get? D = some (listOf rv.toArray k) := hg _ _ (N₂ (D, listOf rv.toArray k) (by simp)).1
        clear F₂ N₂ R
        refine ⟨compOk_one ?_, fun hp => ?_⟩
        · k_steps
          refine Halt.of ?_
          refine' comp_list (cl := [(Str.ofString "k", c)]) (fun v' => (fun i : Int => decide (i ≤ (j : Int))) (keyI v')) (PairI id) ?hh ?clos ?cell rfl ?names rfl ?_
          case hh => exact hA.hh
          case clos => with_unfolding_all rfl
          case cell => decide
          case names => decide
          k_steps
          refine Halt.of ⟨D, rv, k, rfl, F₃.keep _ _ cD, by have := hr.length; rw [List.length_map] at this; omega, ?turn2, ?done2⟩
          case turn2 =>
            intro C2 g2 j2 v2 s4 m4 E2 hP4 F4 hm4 hg4
            obtain ⟨u4, rfl⟩ := Has.lm (ps := [(Str.ofString "j", v2)]) ⟨hm4, trivial⟩
            obtain ⟨kk, tk, rfl, hkr⟩ := hr.mem (List.mem_of_getElem? hP4)
            have cc : g2.get? c = some o := hg4 _ _ (Nc (c, o) (.head _)).1
            clear F₃ Nc
            refine ⟨compOk_one ?_, fun hp => ?_⟩
            · k_steps
              all_goals (refine Halt.of ⟨?_, _, _, rfl, F4⟩)
              all_goals (simp only [keyI]; simp [*])
            · k_steps
              exact Halt.of ⟨⟨_, _, _, rfl, rfl⟩, _, _, rfl, F4⟩
          case done2 =>
            intro D2 h4 tk4 ys vs k' hD2 hs4 ho4 hvl hPv hFv
            have F5 := fr_keep F₃ hs4
            have N5 := news_new F₃ Nc hs4 hD2 ho4
            clear F₃ Nc hs4
            have hvs := same_list hvl hPv
            subst hvs
            have hr' : Nats ys ((rs.filter fun (i : Nat) => decide ((i : Int) ≤ (j : Int))).map id) := hr.turned (P := fun i : Int => decide (i ≤ (j : Int))) (f := id) (f' := id) hFv (fun k => rfl)
            k_steps
            refine Halt.of (g_newList F5 N5 (by simp) ?_)
            intro D3 h' F' N' l1
            clear l1
            k_steps
            refine Halt.of (g_neL (N' _ (.tail _ (.head _))).1 hr' (N' _ (.head _)).1 Ints.nil ?_ ?_)
            · have := hA.un
              show A.units + 3 + 64 < 9900
              omega
            k_steps
            refine Halt.of ⟨?_, _, _, rfl, F', news_sub N' (by simp)⟩
            rw [List.map_id]
            exact ne_nil_map _
        · k_steps
          exact Halt.of ⟨⟨_, _, _, rfl, rfl⟩, _, _, rfl, F₃, Nc⟩
      case done =>
        intro D' h₄ tk₄ ys vs k' hD' hs₄ ho₄ hvl hPv hFv
        have F₄ := fr_keep F₂ hs₄
        have N₄ := news_sub (news' := [(D', listOf (List.toArray ys) k'), (L + 1 + 1 + 1, o₁), (L + 1 + 1, o2), (L + 1, o3), (I, oI)]) (news_new F₂ N₂ hs₄ hD' ho₄) (by
          intro q hq
          simp at hq ⊢
          rcases hq with h | h | h | h | h <;> simp [h])
        have hoff := new_off N₂ hD'
        clear hs₄ F₂ N₂
        have q1 : @Ne Nat (L + 1 + 1 + 1) (D') := hoff (L + 1 + 1 + 1, o₁) (by simp)
        have q2 : @Ne Nat (L + 1 + 1) (D') := hoff (L + 1 + 1, o2) (by simp)
        have q3 : @Ne Nat (L + 1) (D') := hoff (L + 1, o3) (by simp)
        have q4 : @Ne Nat (L + 1 + 1) (I) := hnI (L + 1 + 1, o2) (by simp)
        have q6 : @Ne Nat (L + 1) (I) := hnI (L + 1, o3) (by simp)
        have q7 : @Ne Nat (I) (L + 1 + 1 + 1) := hnc (I, oI) (by simp)
        have q5 : @Ne Nat (I) (D') := hoff (I, oI) (by simp)
        k_steps
        rename Fr _ _ _ _ => F₅
        rename News _ _ _ _ => N₅
        rename Obj.data _ = Data.cell (some (Value.ref D')) => e5
        have hr' : Nats ys (tStep name none rs) := by
          have := (Nats.range hvl hPv).turned (P := fun i : Int => (rs.filter fun (j : Nat) => decide ((j : Int) ≤ i)) != []) (f := id) (f' := id) hFv (fun k => rfl)
          rw [List.map_id] at this
          exact this
        refine Halt.of ⟨rfl, _, _, rfl, tj_turn (L := L) (I := I) (D := D') F₅ N₅ ?_ hd₁ e5 e3 q1.symm q7 q4 q6 q5.symm (k := k') hr' ?_ hrun⟩
        · intro q hq
          simp at hq ⊢
          rcases hq with h | h | h | h | h <;> simp [h]
        · unfold tStep
          refine Nat.le_trans (List.length_filter_le _ _) ?_
          rw [List.length_range]; omega
    | some x =>
      obtain ⟨tx, hv'⟩ : IsS (iv.getD i .none) x := hv
      rw [hv'] at hd₁
      have F₂ : Fr g L h₂ m₁ := F₂
      have N₂ : News g L h₂ [(L + 1 + 1 + 1, o₁), (L + 1 + 1, o2), (L + 1, o3), (D, listOf (List.toArray rv) k), (I, oI)] := N₂
      k_steps
      refine Halt.of ?_
      refine' comp_list (cl := [(Str.ofString "name", L + 1), (Str.ofString "item", L + 1 + 1 + 1)]) (fun v => (fun i : Int => decide (i < (name.length : Int)) && (x == bs ++ Txt.item name i)) (keyI v)) (PairI (· + 1)) ?hh ?clos ?cell rfl ?names rfl ?_
      case hh => exact hA.hh
      case clos => with_unfolding_all rfl
      case cell => decide
      case names => decide
      k_steps
      refine Halt.of ⟨D, rv, k, rfl, (N₂ (D, listOf rv.toArray k) (by simp)).1, by have := hr.length; rw [List.length_map] at this; omega, ?turn, ?done⟩
      case turn =>
        intro C g' j v s₃ m₃ E' hP F₃ hm₃ hg
        have hA' : ∀ env, Ok (A.deeper env) 5 := fun env => hA.deeper
        obtain ⟨u₃, rfl⟩ := Has.lm (ps := [(Str.ofString "k", v)]) ⟨hm₃, trivial⟩
        obtain ⟨kk, tk, rfl, hkr⟩ := hr.mem (List.mem_of_getElem? hP)
        have X' := X.keeps fun b o e => hg b o (F₂.keep b o e)
        have T' := T.keeps fun b o e => hg b o (F₂.keep b o e)
        have c3 : g'.get? (L + 1) = some o3 := hg _ _ (N₂ (L + 1, o3) (by simp)).1
        have c1 : g'.get? (L + 1 + 1 + 1) = some o₁ := hg _ _ (N₂ (L + 1 + 1 + 1, o₁) (by simp)).1
        clear F₂ N₂
        refine ⟨compOk_one ?_, fun hp => ?_⟩
        · k_steps
          all_goals (refine Halt.of ⟨?_, _, _, rfl, F₃⟩)
          all_goals (simp only [keyI]; simp [*])
        · k_steps
          exact Halt.of ⟨⟨_, _, _, rfl, rfl⟩, _, _, rfl, F₃⟩
      case done =>
        intro D' h₄ tk₄ ys vs k' hD' hs₄ ho₄ hvl hPv hFv
        have F₄ := fr_keep F₂ hs₄
        have N₄ := news_sub (news' := [(D', listOf (List.toArray ys) k'), (L + 1 + 1 + 1, o₁), (L + 1 + 1, o2), (L + 1, o3), (I, oI)]) (news_new F₂ N₂ hs₄ hD' ho₄) (by
          intro q hq
          simp at hq ⊢
          rcases hq with h | h | h | h | h <;> simp [h])
        have hoff := new_off N₂ hD'
        clear hs₄ F₂ N₂
        have q1 : @Ne Nat (L + 1 + 1 + 1) (D') := hoff (L + 1 + 1 + 1, o₁) (by simp)
        have q2 : @Ne Nat (L + 1 + 1) (D') := hoff (L + 1 + 1, o2) (by simp)
        have q3 : @Ne Nat (L + 1) (D') := hoff (L + 1, o3) (by simp)
        have q4 : @Ne Nat (L + 1 + 1) (I) := hnI (L + 1 + 1, o2) (by simp)
        have q6 : @Ne Nat (L + 1) (I) := hnI (L + 1, o3) (by simp)
        have q7 : @Ne Nat (I) (L + 1 + 1 + 1) := hnc (I, oI) (by simp)
        have q5 : @Ne Nat (I) (D') := hoff (I, oI) (by simp)
        k_steps
        rename Fr _ _ _ _ => F₅
        rename News _ _ _ _ => N₅
        rename Obj.data _ = Data.cell (some (Value.ref D')) => e5
        have hvs := same_list hvl hPv
        subst hvs
        have hr' : Nats ys (tStep name (some x) rs) := hr.turned (P := fun i : Int => decide (i < (name.length : Int)) && (x == bs ++ Txt.item name i)) (f := (· + 1)) (f' := (· + 1)) hFv (fun k => rfl)
        refine Halt.of ⟨rfl, _, _, rfl, tj_turn (L := L) (I := I) (D := D') F₅ N₅ ?_ hd₁ e5 e3 q1.symm q7 q4 q6 q5.symm (k := k') hr' ?_ hrun⟩
        · intro q hq
          simp at hq ⊢
          rcases hq with h | h | h | h | h <;> simp [h]
        · unfold tStep
          rw [List.length_map]
          exact Nat.le_trans (List.length_filter_le _ _) hrl
end
example : True := by
  w_top off
  trivial
abbrev dots : Str := Str.ofString ".["
def nmGo : Nat → Nat → Str → Str
  | 0, _, acc => acc
  | k + 1, p, acc => if p = 0 then acc else nmGo k ((p - 1) / 2) (Txt.item dots (((p - 1) % 2 : Nat) : Int) ++ acc)
def nameOf (p : Nat) : Str := nmGo p p ⟨#[]⟩
theorem nmGo_stop {k : Nat} {acc : Str} : nmGo k 0 acc = acc := by cases k <;> simp [nmGo]
theorem nmGo_step {k p : Nat} {acc : Str} (hp : 0 < p) (hk : p ≤ k) : nmGo (k - 1) ((p - 1) / 2) (Txt.item dots (((p - 1) % 2 : Nat) : Int) ++ acc) = nmGo k p acc := by
  obtain ⟨j, rfl⟩ : ∃ j, k = j + 1 := ⟨k - 1, by omega⟩
  show _ = (if p = 0 then acc else _)
  rw [if_neg (by omega)]
  rfl
theorem g_modm {prog : Program} {w : World} {A : Around} {E : Value → Shared → Prop} {s : Shared} {Q : Value → Shared → Prop} {p : Nat} {t u : Tok} (hp : 0 < p) (h : Q (.int (((p - 1) % 2 : Nat) : Int) s.toks) { s with toks := s.toks + 1 }) :
    wpAny (model prog w) A (binaryOp .Mod (.int ((p : Int) - 1) t) (.int 2 u)) Q E s := by
  have e : ((p : Int) - 1).fmod 2 = (((p - 1) % 2 : Nat) : Int) := by
    rw [Int.fmod_eq_emod_of_nonneg _ (by decide)]; omega
  refine mod_int (by decide) ?_
  rw [e]
  exact h
theorem g_halfm {prog : Program} {w : World} {A : Around} {E : Value → Shared → Prop} {s : Shared} {Q : Value → Shared → Prop} {p : Nat} {t u : Tok} (hp : 0 < p) (h : Q (.int (((p - 1) / 2 : Nat) : Int) s.toks) { s with toks := s.toks + 1 }) :
    wpAny (model prog w) A (binaryOp .FloorDiv (.int ((p : Int) - 1) t) (.int 2 u)) Q E s := by
  have e : ((p : Int) - 1).fdiv 2 = (((p - 1) / 2 : Nat) : Int) := by
    rw [Int.fdiv_eq_ediv_of_nonneg _ (by decide)]; omega
  refine floordiv_int (by decide) ?_
  rw [e]
  exact h
section
local macro_rules
  | `(tactic| walk_at "binaryOp Mod int int") => `(tactic| (refine g_modm (by omega) ?_))
  | `(tactic| walk_at "binaryOp FloorDiv int int") => `(tactic| (refine g_halfm (by omega) ?_))
  | `(tactic| walk_at "exec While Compare cons nil") => `(tactic| refine Halt.mk ?_)
  | `(tactic| walk_at "subscriptTail") => `(tactic| walk_at "mine 9")
local macro_rules | `(tactic| walk_at "mine 0") => `(tactic| skip)

theorem name_spec {prog : Program} {w : World} {A : Around} {s : Shared} {h₀ : Heap} {mean : ExcName → Option Value} {mg mb : Str → Option Value} {Q : Value → Shared → Prop} {E : Value → Shared → Prop}
  (place : Nat) (t1 : Tok) (hA : Ok A 3) (G : Gd w mean mg mb s.heap) (hz : place ≤ 20)
  (hret : ∀ t' h' tk', StayBut [] s.heap h' → Q (.str (nameOf place) t') { s with heap := h', toks := tk' }) :
  wpAny (model prog w) A (call (.ref 131) [.int place t1]) Q E s := by
  refine wpAny_call ?_
  refine' enter (binds := [(Str.ofString "place", .int place t1)]) (as := []) hA.room G (fun _ _ e => e) ?kN ?k6 ?k7 ?k9 ?kB ?_ ?c2 ?c3 ?c4 ?c5
  case kN => intro p hp; exact nomatch hp
  case k6 => k_is
  case k7 => k_is
  case k9 => exact BindsTo.of_eq rfl
  case kB => exact locs rfl
  case c2 => exact rfl
  case c3 => exact rfl
  case c4 => exact rfl
  case c5 => decide
  intro g L h₁ G' hs hn F N
  obtain ⟨X, T⟩ := G'
  k_steps
  refine Halt.of ?_
  rename Fr _ _ _ _ => F'
  rename News _ _ _ _ => N'
  refine wpAny_mono (While_inv2 (Q := fun f s' => Halt (f = .next ∧ ∃ u t h' tk', s' = { s with heap := h', toks := tk' } ∧ Fr g L h' (lm [(Str.ofString "name", .str (nameOf place) t)] u) ∧ News g L h' []))
    (fun k m nx => ∃ p acc t t', nx = [] ∧ Has m [(Str.ofString "place", .int (p : Nat) t), (Str.ofString "name", .str acc t')] ∧ p ≤ k ∧ acc.length + p ≤ 20 ∧ nmGo k p acc = nameOf place)
    F' N' (n₀ := place) ⟨place, _, t1, _, rfl, ⟨rfl, rfl, trivial⟩, Nat.le_refl _, ?start, rfl⟩ ?turn PassesOwn.never) ?after (fun _ _ x => x.elim)
  case start =>
    show (0 : Nat) + place ≤ 20
    omega
  case turn =>
    clear F' N'
    rintro k m₁ nx h₂ tk₂ F₂ N₂ ⟨p, acc, t, t', rfl, hm, hpk, hl, hgo⟩
    obtain ⟨u, rfl⟩ := hm.lm
    have hdl : dots.length = 2 := by decide +kernel
    k_steps
    · rename Fr _ _ _ _ => F'
      rename News _ _ _ _ => N'
      have hp0 : 0 < p := by omega
      refine ⟨_, _, _, _, k - 1, rfl, F', N', by omega, (p - 1) / 2, Txt.item dots (((p - 1) % 2 : Nat) : Int) ++ acc, _, _, rfl, ⟨rfl, rfl, trivial⟩, by omega, ?_, ?_⟩
      · rw [strLen_append, len_item]; omega
      · rw [← hgo]; exact nmGo_step hp0 hpk
    · have hp0 : p = 0 := by omega
      subst hp0
      rw [nmGo_stop] at hgo
      subst hgo
      obtain ⟨u', F2⟩ := fr_lm F₂ (ps := [(Str.ofString "name", .str (nameOf place) t')]) ⟨rfl, trivial⟩
      exact Halt.of ⟨rfl, u', t', h₂, _, rfl, F2, N₂⟩
  case after =>
    clear F' N'
    rintro f s' ⟨rfl, u, t, h', tk', rfl, F₂, N₂⟩
    dsimp only
    k_steps
    exact hret _ _ _ (fun b o e nb => F₂.keep _ _ (hs _ _ e nb))
end
example : True := by
  w_top off
  trivial
def IntKeys : List DictEntry → Prop
  | [] => True
  | e :: r => (∃ k t, e.key = .int k t ∧ e.hash = hashInt k) ∧ IntKeys r
theorem IntKeys.all {l : List DictEntry} (h : IntKeys l) : ∀ e ∈ l, ∃ k t, e.key = .int k t ∧ e.hash = hashInt k := by
  induction l with
  | nil => intro e he; exact nomatch he
  | cons a r ih =>
    intro e he
    rcases List.mem_cons.mp he with rfl | he
    · exact h.1
    · exact ih h.2 e he
theorem mapOf_KI {prog : Program} {w : World} {K : Frag} {h : Heap} {a : Addr} {es : Array DictEntry} {n : Nat} (X : K.In h) (hl : K.lookup a = some ⟨.type "dict", none, .dict es n, #[]⟩) (hk : IntKeys es.toList) : h.MapOf (intKind prog w) a (fun k => findBy Value.isInt es k) :=
  ⟨_, es, n, X _ _ hl, ⟨rfl, rfl, rfl⟩, rfl, fun e he => by
    obtain ⟨k, t, e1, e2⟩ := hk.all e (Array.mem_toList_iff.mpr he)
    exact ⟨k, by rw [e1]; exact intKind_is prog w k t, e2⟩, fun _ => rfl⟩
theorem lk65 (w : World) : ∃ es n, (hd.heap_39 w.params).lookup 65 = some ⟨.type "dict", none, .dict es n, #[]⟩ ∧ IntKeys es.toList ∧ findBy Value.isInt es 46 = some (.str (Str.ofString "\\.") 447) := by
  apply Exists.intro
  apply Exists.intro
  refine ⟨?_, ?_, ?_⟩
  · k_is
  · repeat (first | exact True.intro | refine And.intro ⟨_, _, rfl, rfl⟩ ?_)
  · rfl
section
variable {prog : Program} {w : World} {A : Around} {E : Value → Shared → Prop} {s : Shared}
theorem g_methodS {x name : Str} {t : Tok} {id : String} {pl : Sem Bool} {Q : Value × List Value → Shared → Prop} (slot : Slot "str" name id) (hty : typeOf (.builtin id) = pure (.type "method_descriptor")) (h : Q (.builtin id, [.str x t]) s) : wpAny (model prog w) A (getMethod (.str x t) name pl) Q E s := by
  refine' getMethod_builtin ?hT ?pa ?slot ?hty ?hd ?_
  case hT => exact typeIs_str s x t
  case pa => exact PySem.F.plainAttrs_str
  case slot => exact slot
  case hty => exact hty
  case hd => intro a e; cases e
  exact h
theorem item65 {u : Tok} {Q : Value → Shared → Prop} (X : (hd.heap_39 w.params).In s.heap) (h : Q (.str (Str.ofString "\\.") 447) { s with toks := s.toks + 1 }) : wpAny (model prog w) A (getItem (.ref 65) (.int 46 u)) Q E s := by
  obtain ⟨es, n, hl, hk, hf⟩ := lk65 w
  exact wpAny_getItem_of (intKind_is prog w 46 u) (mapOf_KI X hl hk) hf h
theorem table65 {Q : Builtin.Str.Mapped → Shared → Prop} (X : (hd.heap_39 w.params).In s.heap) (h : ∀ tk, Q (.text (Str.ofString "\\.")) { s with toks := tk }) : wpAny (model prog w) A (Builtin.Str.tableLookup (.ref 65) 46) Q E s := by
  unfold Builtin.Str.tableLookup
  refine wpAny_bind (wpAny_attempt (wpAny_bind (wpAny_mkInt (item65 X ?_))))
  dsimp only
  refine wpAny_bind (wpAny_of_eq (a := none) (by first | rfl | kernel_rfl) ?_)
  dsimp only
  refine wpAny_bind (wpAny_of_eq (a := some (Str.ofString "\\.")) (by first | rfl | kernel_rfl) ?_)
  exact wpAny_pure (h _)
theorem tr46 {t : Tok} {Q : Value → Shared → Prop} (X : (hd.heap_39 w.params).In s.heap) (h : ∀ t tk, Q (.str (Str.ofString "\\.") t) { s with toks := tk }) : wpAny (model prog w) A (call (.builtin "str.translate") [.str ⟨#[46]⟩ t, .ref 65]) Q E s := by
  refine wpAny_call_entry F.slot_str_translate (typeIs_str s _ t) F.entry_str_translate ?_ (F.args_str_translate_2 _ _)
  unfold Builtin.«str.translate»
  refine wpAny_bind (wpAny_of_eq (a := (.str ⟨#[46]⟩ t, ⟨#[46]⟩, .ref 65)) (by first | rfl | kernel_rfl) ?_)
  dsimp only
  rw [if_neg (by decide)]
  refine wpAny_bind ?_
  rw [List.forIn_toArray, List.forIn_cons]
  refine wpAny_bind ?_
  rw [if_neg (by decide), if_pos (by decide +kernel)]
  dsimp only [List.lookup]
  refine wpAny_bind (table65 X fun tk => ?_)
  dsimp only
  rw [if_neg (by decide +kernel)]
  dsimp only
  refine wpAny_bind (wpAny_pure ?_)
  dsimp only
  refine wpAny_bind (wpAny_rule ?_)
  rw [if_neg (by decide)]
  refine wpAny_bind (table65 X fun tk => ?_)
  dsimp only
  refine wpAny_pure ?_
  dsimp only
  rw [List.forIn_nil]
  refine wpAny_pure ?_
  dsimp only
  rw [if_neg (by decide +kernel)]
  have e : (⟨List.foldl (fun acc (p : Str) => acc ++ p.cps) #[] (List.reverse [Str.ofString "\\."])⟩ : Str) = Str.ofString "\\." := by decide +kernel
  rw [e]
  unfold retStr
  exact wpAny_bind (wpAny_mkStr (wpAny_pure ⟨_, rfl, h _ _⟩) (by decide +kernel))
end

section
local macro_rules
  | `(tactic| walk_at "call builtin:str.translate") => `(tactic| refine Halt.mk ?_)
  | `(tactic| walk_at "getMethod str") => `(tactic| refine Halt.mk ?_)

theorem escape_spec {prog : Program} {w : World} {A : Around} {s : Shared} {h₀ : Heap} {mean : ExcName → Option Value} {mg mb : Str → Option Value} {Q : Value → Shared → Prop} {E : Value → Shared → Prop}
  (t1 : Tok) (hA : Ok A 3) (G : Gd w mean mg mb s.heap)
  (hret : ∀ t' h' tk', StayBut [] s.heap h' → Q (.str (Str.ofString "\\.") t') { s with heap := h', toks := tk' }) :
  wpAny (model prog w) A (call (.ref 75) [.str ⟨#[46]⟩ t1]) Q E s := by
  refine wpAny_call ?_
  refine' enter (binds := [(Str.ofString "pattern", .str ⟨#[46]⟩ t1)]) (as := []) hA.room G (fun _ _ e => e) ?kN ?k6 ?k7 ?k9 ?kB ?_ ?c2 ?c3 ?c4 ?c5
  case kN => intro p hp; exact nomatch hp
  case k6 => k_is
  case k7 => k_is
  case k9 => exact BindsTo.of_eq rfl
  case kB => exact locs rfl
  case c2 => exact rfl
  case c3 => exact rfl
  case c4 => exact rfl
  case c5 => decide
  intro g L h₁ G' hs hn F N
  obtain ⟨X, T⟩ := G'
  k_steps
  refine Halt.of ?_
  refine' g_methodS ?slot ?ty ?_
  case slot => exact PySem.F.slot_str_translate
  case ty => exact PySem.F.type_str_translate
  k_steps
  have Xh := X.keeps F.keep
  refine Halt.of ?_
  refine' tr46 ?X ?_
  case X => exact Xh
  intro t tk
  k_steps
  exact hret _ _ _ (fun b o e nb => F.keep _ _ (hs _ _ e nb))
end
abbrev boundObj (D : Addr) : Obj := { cls := .type "builtin_function_or_method", dict := none, data := .fields #[.builtin "list.append", .ref D] }
theorem lk_md_get : typeLookup (.type "method_descriptor") "__get__" = pure (some (.builtin "method_descriptor.__get__")) := by rw [typeLookup_type, builtinLookup_eq_fast]; kernel_rfl
theorem lk_md_set : typeLookup (.type "method_descriptor") "__set__" = pure none := by rw [typeLookup_type, builtinLookup_eq_fast]; kernel_rfl
theorem lk_md_delete : typeLookup (.type "method_descriptor") "__delete__" = pure none := by rw [typeLookup_type, builtinLookup_eq_fast]; kernel_rfl
theorem slot_md_get : Slot "method_descriptor" "__get__" "method_descriptor.__get__" :=
  .of (owner := "method_descriptor") (n := "__get__") (by rw [typeLookup_type, builtinLookup_eq_fast]; kernel_rfl) (by decide +kernel) (by decide +kernel) (by decide +kernel)
    (by first | exact .inl (by decide +kernel) | exact .inr (by decide +kernel)) (by rw [isSubtype_type]; kernel_rfl)
theorem entry_md_get : entryFor table "method_descriptor.__get__" = some Builtin.«method_descriptor.__get__» := entryFor_of_tree (by kernel_rfl)
theorem args_md_get (a b c : Value) : argsOk "method_descriptor.__get__" ⟨[a, b, c], []⟩ := by
  unfold argsOk
  first | rfl | kernel_rfl
theorem meets_bind (D : Addr) (xs : Array Value) (k : Nat) :
    Meets (Builtin.«method_descriptor.__get__» ⟨[.builtin "list.append", .ref D, .type "list"], []⟩) (fun _ R s => s.heap.get? D = some { cls := .type "list", dict := none, data := .seq xs k } ∧ R (.ok (.ret (.ref s.heap.objs.size))) { s with heap := s.heap.push (boundObj D) }) :=
  .of_wp fun prog w A R s h => by
    obtain ⟨hp, g, d, tk, os⟩ := s
    obtain ⟨hl, h⟩ := h
    have hT : (⟨hp, g, d, tk, os⟩ : Shared).TypeIs (.ref D) "list" := ⟨_, hl, rfl⟩
    unfold Builtin.«method_descriptor.__get__»
    refine wpAny_bind (wpAny_of_eq (a := (.builtin "list.append", some (.ref D), some (.type "list"))) (by first | rfl | kernel_rfl) ?_)
    dsimp only
    rw [if_neg (by decide +kernel)]
    refine wpAny_bind (wpAny_bind ?_)
    refine wpAny_of_eq (a := (Str.ofString "append", .type "list")) (by first | rfl | kernel_rfl) ?_
    dsimp only
    refine wpAny_bind (wpAny_isInstance hT (b := true) (by rw [isSubtype_type]; kernel_rfl) ?_)
    rw [if_neg (by decide)]
    refine wpAny_pure ?_
    refine wpAny_bind ?_
    unfold newFields
    refine wpAny_newObj_type ?_
    exact wpAny_pure ⟨_, rfl, h⟩
theorem code_bind {prog : Program} {w : World} {A : Around} {R : Result → Shared → Prop} {s : Shared} {D : Addr} {xs : Array Value} {k : Nat} (hx : s.heap.get? D = some { cls := .type "list", dict := none, data := .seq xs k })
    (h : R (.ok (.ret (.ref s.heap.objs.size))) { s with heap := s.heap.push (boundObj D) }) : codeAny (model prog w) A (.call (.builtin "method_descriptor.__get__") ⟨[.builtin "list.append", .ref D, .type "list"], []⟩) R s := by
  refine codeAny_call_builtin slot_md_get.plain entry_md_get ?_
  refine slot_md_get.check _ _ _ _ _ _ _ _ PySem.F.type_list_append (args_md_get _ _ _) ?_
  exact meets_bind D xs k prog w A R s ⟨hx, h⟩
theorem meets_getattribute_append (D : Addr) (xs : Array Value) (k : Nat) (u : Tok) :
    Meets (Builtin.«object.__getattribute__» ⟨[.ref D, .str (Str.ofString "append") u], []⟩) (fun _ R s => s.heap.get? D = some { cls := .type "list", dict := none, data := .seq xs k } ∧ R (.ok (.ret (.ref s.heap.objs.size))) { s with heap := s.heap.push (boundObj D) }) :=
  Meets.of_wp fun prog w A R s hs => by
    obtain ⟨hp, g, d, tk, os⟩ := s
    obtain ⟨hx, hs⟩ := hs
    have hT : (⟨hp, g, d, tk, os⟩ : Shared).TypeIs (.ref D) "list" := ⟨_, hx, rfl⟩
    have f1 := PySem.F.slot_list_append.lookup
    have f2 := PySem.F.type_list_append
    have f3 := lk_md_get
    have f4 := lk_md_set
    have f5 := lk_md_delete
    have hname : (["__module__", "__name__", "__qualname__", "__doc__", "__annotations__"] : List Str).contains (Str.ofString "append") = false := by decide +kernel
    unfold Builtin.«object.__getattribute__»
    repeat (any_goals (first | assumption | wp_step))
    exact code_bind hx (wpAny_pure ⟨_, rfl, hs⟩)
section
variable {prog : Program} {w : World} {A : Around} {E : Value → Shared → Prop} {s : Shared}
theorem g_boundAttr0 {D : Addr} {xs : Array Value} {k : Nat} {Q : Value → Shared → Prop} (hx : s.heap.get? D = some { cls := .type "list", dict := none, data := .seq xs k })
    (h : Q (.ref s.heap.objs.size) { s with heap := s.heap.push (boundObj D), toks := s.toks + 1 }) : wpAny (model prog w) A (getAttr (.ref D) (Str.ofString "append") true) Q E s := by
  obtain ⟨hp, g, d, tk, os⟩ := s
  have hT : ∀ tk', (⟨hp, g, d, tk', os⟩ : Shared).TypeIs (.ref D) "list" := fun _ => ⟨_, hx, rfl⟩
  have f3 := PySem.F.slot_list_getattribute.lookup
  have f4 := PySem.F.slot_list_getattribute.bind (.ref D)
  have f5 := am_list_getattr_none
  unfold getAttr getAttrBy
  repeat (any_goals (first | assumption | exact hT _ | ((with_reducible show wpAny _ _ (call (Value.builtin "list.__getattribute__") _ _) _ _ _); refine call_meets PySem.F.slot_list_getattribute (hT _) am_entry_list_getattribute (PySem.F.args_list_getattribute_2 _ _) (meets_getattribute_append D xs k _) ⟨hx, ?_⟩) | wp_step))
  show wpAny _ _ (handedOut _) _ _ _
  refine wpAny_of_eq (a := _) rfl ?_
  exact h
end
theorem sig_append : Manifest.signature? "list.append" = some ⟨.oneArg, "list.append", "append", .self, [⟨"object", .posOnly, true⟩]⟩ := by
  rw [signature?_of (id := "list.append") (n := ['d', 'n', 'e', 'p', 'p', 'a']) (o := ['t', 's', 'i', 'l']) (by kernel_rfl) PySem.F.owner_list]; kernel_rfl
theorem kind_append : builtinKind "list.append" = some .method := by kernel_rfl
section
variable {prog : Program} {w : World} {A : Around} {E : Value → Shared → Prop} {s : Shared}
theorem check_bound {D : Addr} {xs : Array Value} {k : Nat} {x : Value} {Q : Unit → Shared → Prop} (hx : s.heap.get? D = some { cls := .type "list", dict := none, data := .seq xs k }) (h : Q () s) :
    wpAny (model prog w) A (checkBoundCall "list.append" ⟨[.ref D, x], []⟩) Q E s := by
  have hT : s.TypeIs (.ref D) "list" := ⟨_, hx, rfl⟩
  unfold checkBoundCall
  rw [sig_append, kind_append]
  dsimp only
  rw [if_neg (by decide)]
  refine wpAny_bind (wpAny_isInstance hT (b := false) (by rw [isSubtype_type]; kernel_rfl) ?_)
  rw [if_neg (by decide +kernel)]
  unfold isType
  refine wpAny_bind ?_
  repeat (any_goals (first | assumption | wp_step))
theorem g_boundCall {h₀ : Heap} {L B D : Addr} {m : Str → Option Value} {news news' : List (Addr × Obj)} {vs : List Value} {n : Nat} {x : Value} {Q : Value → Shared → Prop} (hB : s.heap.get? B = some (boundObj D)) (F : Fr h₀ L s.heap m) (N : News h₀ L s.heap news) (U : Upd D (listOf vs.toArray n) (listOf (vs ++ [x]).toArray (n + 1)) news news') (hz : vs.length ≤ 1000)
    (h : ∀ h', Fr h₀ L h' m → News h₀ L h' news' → Q .none { s with heap := h' }) : wpAny (model prog w) A (call (.ref B) [x]) Q E s := by
  have ho : s.heap.get? D = some { cls := .type "list", dict := none, data := .seq vs.toArray n } := by
    obtain ⟨pre, post, rfl, rfl, a, b⟩ := U.split
    exact (N (D, listOf vs.toArray n) (List.mem_append.mpr (.inr (.head _)))).1
  refine wpAny_call ?_
  refine codeAny_of_tree ?_
  show wpAny _ _ (callAny (.ref B) _) _ _ _
  refine nd_load hB ?_
  refine nd_bind (wpAny_pure ?_)
  dsimp only
  rw [if_pos (by decide +kernel)]
  refine wpAny_bind (m := checkBoundCall "list.append" ⟨[.ref D, x], []⟩) (check_bound ho ?_)
  refine wpAny_pure ⟨plainId_quiet (by decide +kernel) _, codeAny_builtin PySem.F.entry_list_append ?_⟩
  rw [Around.under_plainId (by decide +kernel) _]
  show wpAny _ _ (updateSeq D (·.push x) >>= fun _ => ret .none) _ _ s
  refine wpAny_bind ?_
  refine wpAny_updateSeq ho rfl (wpAny_pure ?_)
  show Q .none _
  obtain ⟨pre, post, rfl, rfl, a, b⟩ := U.split
  have z := N (D, listOf vs.toArray n) (List.mem_append.mpr (.inr (.head _)))
  have e : vs.toArray.push x = (vs ++ [x]).toArray := by simp
  refine h _ (F.change (Heap.SameBut.update ..) z.2.1 z.2.2) (news_set N a b (Heap.SameBut.update ..) ?_)
  rw [Heap.get?_update_self _ ho (by rw [Obj.mapSeq_push_plain]; rfl), Obj.mapSeq_push_plain, e]
end
theorem g_boundAttr {prog : Program} {w : World} {A : Around} {E : Value → Shared → Prop} {s : Shared} {h₀ : Heap} {L D : Addr} {m : Str → Option Value} {news : List (Addr × Obj)} {vs : List Value} {n : Nat} {Q : Value → Shared → Prop} (F : Fr h₀ L s.heap m) (N : News h₀ L s.heap news) (hm : (D, listOf vs.toArray n) ∈ news)
    (h : ∀ B h' tk', Fr h₀ L h' m → News h₀ L h' ((B, boundObj D) :: news) → (∀ p ∈ news, p.1 < B) → Q (.ref B) { s with heap := h', toks := tk' }) : wpAny (model prog w) A (getAttr (.ref D) (Str.ofString "append") true) Q E s := by
  refine g_boundAttr0 (N _ hm).1 (h _ _ _ (F.push _) (fun p hp => ?_) fun p hp => Heap.lt_size (N p hp).1)
  rcases List.mem_cons.mp hp with rfl | hp
  · exact ⟨Heap.get?_push_size _ rfl, Nat.ne_of_gt F.ns.lt, next_is_new F⟩
  · exact ⟨Heap.get?_push_of_some _ (N p hp).1, (N p hp).2⟩
section
variable {M : Model} {A : Around} {E : Value → Shared → Prop} {s : Shared} {env : Env} {pos : Pos} {Q : Value → Shared → Prop}
theorem callWith_B {B D : Addr} {e : PySem.Expr} {rest : List PySem.Expr} (h : wpAny M A (spliced (backTo pos (starEach (e :: rest) env))) (fun vs s₁ => Halt (s₁.heap.get? B = some (boundObj D) ∧ wpAny M A (call (.ref B) ([] ++ vs)) Q E s₁)) E s)
    (he : starEach (e :: rest) env = (false, eval e env) :: starEach rest env := by rfl) (hplain : (backTo pos (starEach rest env)).any (·.1) = false := by rfl) :
    wpAny M A (callWith pos (.ref B) [] (backTo pos (starEach (e :: rest) env)) []) Q E s := by
  rw [he] at h ⊢
  refine callWith_of (P := fun h => h.get? B = some (boundObj D)) (by show ((false || (backTo pos (starEach rest env)).any (·.1)) || false) = false; rw [hplain]; rfl) (fun h X => ?_) (evalArgs_plain h)
  exact ⟨.machine, .inr (.inl rfl), (Looks.ld (part := none) X).andThen .now⟩
end
example : True := by
  w_top off
  trivial
section
variable {prog : Program} {w : World} {A : Around} {E : Value → Shared → Prop} {s : Shared} {Q : Value → Shared → Prop}
theorem g_ltT {a b : Int} {t u : Tok} (hab : a < b) (h : Q (.bool true) s) : wpAny (model prog w) A (compareOp .Lt (.int a t) (.int b u)) Q E s := lt_int (by rw [decide_eq_true hab]; exact h)
theorem g_ltF {a b : Int} {t u : Tok} (hab : ¬ a < b) (h : Q (.bool false) s) : wpAny (model prog w) A (compareOp .Lt (.int a t) (.int b u)) Q E s := lt_int (by rw [decide_eq_false hab]; exact h)
theorem g_geT {a b : Int} {t u : Tok} (hab : a ≥ b) (h : Q (.bool true) s) : wpAny (model prog w) A (compareOp .GtE (.int a t) (.int b u)) Q E s := ge_int (by rw [decide_eq_true hab]; exact h)
theorem g_seq {x y : Str} {t u : Tok} {b : Bool} (hb : (x == y) = b) (h : Q (.bool b) s) : wpAny (model prog w) A (compareOp .Eq (.str x t) (.str y u)) Q E s := PyProof.Rows.eq_str (by rw [hb]; exact h)
theorem g_sne {x y : Str} {t u : Tok} {b : Bool} (hb : (x == y) = b) (h : Q (.bool !b) s) : wpAny (model prog w) A (compareOp .NotEq (.str x t) (.str y u)) Q E s := PyProof.Rows.ne_str (by show Q (.bool !(x == y)) s; rw [hb]; exact h)
theorem g_sitemC {value slice : PySem.Expr} {x y : Str} {t u : Tok} {i : Int} (he : Txt.item x i = y) (h0 : 0 ≤ i) (h1 : i < (x.length : Int)) (hz : x.length ≤ 1000) (h : Q (.str y s.toks) { s with toks := s.toks + 1 })
    (hs : subscripted slice false (.str x t) (.int i u) = operate [.str x t, .int i u] (getItem (.str x t) (.int i u)) := by with_unfolding_all rfl)
    (ht : ∀ r, letTemporaryGo value (.str x t) r = pure () := by intro _; with_unfolding_all rfl) : wpAny (model prog w) A (subscriptTail value slice (.str x t) (.int i u)) Q E s :=
  g_sitem h0 h1 hz (by rw [he]; exact h) hs ht
end
section
variable {prog : Program} {w : World} {A : Around} {E : Value → Shared → Prop} {s : Shared} {D : Addr} {vs : List Value} {n : Nat} {k : Int} {u : Tok} {x : Value}
theorem g_subneg {value slice : PySem.Expr} {Q : Value → Shared → Prop} (ho : s.heap.get? D = some (listOf vs.toArray n)) (h0 : 0 < vs.length) (hx : vs.getD (vs.length - 1) .none = x) (hz : vs.length ≤ 1000) (h : Q x s)
    (hs : subscripted slice false (.ref D) (.int (-1) u) = operate [.ref D, .int (-1) u] (getItem (.ref D) (.int (-1) u)) := by with_unfolding_all rfl) (hg : ∀ r, letTemporaryGo value (.ref D) r = pure () := by intro _; with_unfolding_all rfl) :
    wpAny (model prog w) A (subscriptTail value slice (.ref D) (.int (-1) u)) Q E s := by
  have hl : s.heap.IsList D vs.toArray := PySem.IsL.isList (n := n) ho
  have hsz : vs.toArray.size = vs.length := by simp
  have e : ((-1 : Int) + (vs.length : Int)).toNat = vs.length - 1 := by omega
  have hlt : vs.length - 1 < vs.length := by omega
  have hx' : vs.toArray[((-1 : Int) + (vs.toArray.size : Int)).toNat]? = some x := by
    rw [hsz, e, ← hx]
    simp [List.getD, List.getElem?_eq_getElem hlt]
  exact subscriptTail_builtin hl.typeIs slot_list_getitem.lookup (wpAny_getItem_list_neg (x := x) (k := -1) hl (by decide) (by rw [hsz]; omega) (by decide) hx' h) hs hg
end
def PatOk (pat : Str) (n : Nat) : Prop := pat.length = n + 1 ∧ (∀ i, i < n → Txt.item pat (i : Int) = ⟨#[46]⟩ ∨ Txt.item pat (i : Int) = ⟨#[91]⟩) ∧ Txt.item pat (n : Int) = ⟨#[42]⟩
def trItems (pat : Str) (n : Nat) : List (Option Str) := (List.range n).map (fun (i : Nat) => some (bs ++ Txt.item pat (i : Int))) ++ [none]
theorem PatOk.at {pat : Str} {n : Nat} (h : PatOk pat n) {i : Nat} (hi : i ≤ n) : ∃ y, Txt.item pat (i : Int) = y ∧ (y == Str.ofString "!") = false ∧ (y == Str.ofString "]") = false := by
  by_cases hn : i = n
  · subst hn
    exact ⟨_, h.2.2, by decide +kernel, by decide +kernel⟩
  · rcases h.2.1 i (by omega) with e | e
    · exact ⟨_, e, by decide +kernel, by decide +kernel⟩
    · exact ⟨_, e, by decide +kernel, by decide +kernel⟩
theorem trItems_some {pat : Str} {n i : Nat} (h : i < n) : (trItems pat n).getD i none = some (bs ++ Txt.item pat (i : Int)) := by
  unfold trItems
  simp [List.getD, List.getElem?_append, h]
theorem trItems_none {pat : Str} {n : Nat} : (trItems pat n).getD n none = none := by
  unfold trItems
  simp [List.getD, List.getElem?_append]
theorem trItems_length {pat : Str} {n : Nat} : (trItems pat n).length = n + 1 := by simp [trItems]
def RJ (pat q : Str) (n : Nat) (t1 t2 : Tok) (D B : Addr) (k : Nat) (m : Str → Option Value) (nx : List (Addr × Obj)) : Prop :=
  ∃ i t tn ws e, nx = [(D, listOf (List.toArray ws) e), (B, boundObj D)] ∧ Has m [(Str.ofString "pat", .str pat t1), (Str.ofString "STAR", .none), (Str.ofString "QUESTION_MARK", .str q t2), (Str.ofString "res", .ref D), (Str.ofString "add", .ref B), (Str.ofString "i", .int (i : Nat) t), (Str.ofString "n", .int (pat.length : Nat) tn)] ∧
    i + k = n + 1 ∧ ws.length = i ∧ ∀ j, j < i → IsO (ws.getD j .none) ((trItems pat n).getD j none)
theorem RJ_step {pat : Str} {n i : Nat} {ws : List Value} {v : Value} (hl : ws.length = i) (h : ∀ j, j < i → IsO (ws.getD j .none) ((trItems pat n).getD j none)) (hv : IsO v ((trItems pat n).getD i none)) :
    ∀ j, j < i + 1 → IsO ((ws ++ [v]).getD j .none) ((trItems pat n).getD j none) := by
  intro j hj
  by_cases hji : j < i
  · have : (ws ++ [v]).getD j .none = ws.getD j .none := by simp [List.getD, List.getElem?_append, hl, hji]
    rw [this]; exact h j hji
  · have : j = i := by omega
    subst this
    have : (ws ++ [v]).getD j .none = v := by simp [List.getD, ← hl]
    rw [this]; exact hv
local macro_rules | `(tactic| walk_at "mine 10") => `(tactic| (k_here; (with_reducible show wpAny _ _ (call (Value.builtin "len") [Value.str _ _]) _ _ _); k_dflt (refine' g_slen ?z ?_; (case z => omega); k_whole)))
section
local macro_rules
  | `(tactic| walk_at "call builtin:len") => `(tactic| walk_at "mine 10")
  | `(tactic| walk_at "compareOp Lt") => `(tactic| (first | (refine g_ltT (by omega) ?_) | (refine g_ltF (by omega) ?_)))
  | `(tactic| walk_at "compareOp GtE") => `(tactic| (refine g_geT (by omega) ?_))
  | `(tactic| walk_at "compareOp Eq str str") => `(tactic| (first | (refine g_seq (b := false) (by first | assumption | decide +kernel) ?_) | (refine g_seq (b := true) (by decide +kernel) ?_)))
  | `(tactic| walk_at "compareOp NotEq str str") => `(tactic| (first | (refine g_sne (b := false) (by first | assumption | decide +kernel) ?_) | (refine g_sne (b := true) (by decide +kernel) ?_)))
  | `(tactic| walk_at "subscriptTail Name Name str int") => `(tactic| (k_here; (with_reducible show wpAny _ _ (subscriptTail _ _ (Value.str _ _) (Value.int _ _)) _ _ _); k_dflt (refine' g_sitemC ?he ?k1 ?k2 ?k3 ?_ ?k7 ?k8; (case he => assumption); (case k1 => omega); (case k2 => omega); (case k3 => omega); (case k7 => with_unfolding_all rfl); (case k8 => (intro _; with_unfolding_all rfl)); k_whole)))
  | `(tactic| walk_at "exec While") => `(tactic| refine Halt.mk ?_)
  | `(tactic| walk_at "newList") => `(tactic| refine Halt.mk ?_)
  | `(tactic| walk_at "getAttr ref") => `(tactic| refine Halt.mk ?_)
  | `(tactic| walk_at "assign Tuple") => `(tactic| refine Halt.mk ?_)
  | `(tactic| walk_at "callWith ref") => `(tactic| refine Halt.mk ?_)
  | `(tactic| walk_at "call ref cons nil") => `(tactic| refine Halt.mk ?_)

theorem translate_spec {prog : Program} {w : World} {A : Around} {s : Shared} {h₀ : Heap} {mean : ExcName → Option Value} {mg mb : Str → Option Value} {Q : Value → Shared → Prop} {E : Value → Shared → Prop}
  (pat q : Str) (n : Nat) (t1 t2 : Tok) (hA : Ok A 6) (G : Gd w mean mg mb s.heap) (hpat : PatOk pat n) (hz : n ≤ 18)
  (hret : ∀ D ws e h' tk', StayBut [] s.heap h' → s.heap.get? D = none → h'.get? D = some (listOf (List.toArray ws) e) → ws.length = (trItems pat n).length → (∀ j, j < (trItems pat n).length → IsO (ws.getD j .none) ((trItems pat n).getD j none)) → Q (.ref D) { s with heap := h', toks := tk' }) :
  wpAny (model prog w) A (call (.ref 82) [.str pat t1, .none, .str q t2]) Q E s := by
  have hn := hpat.1
  refine wpAny_call ?_
  refine' enter (binds := [(Str.ofString "pat", .str pat t1), (Str.ofString "STAR", .none), (Str.ofString "QUESTION_MARK", .str q t2)]) (as := []) hA.room G (fun _ _ e => e) ?kN ?k6 ?k7 ?k9 ?kB ?_ ?c2 ?c3 ?c4 ?c5
  case kN => intro p hp; exact nomatch hp
  case k6 => k_is
  case k7 => k_is
  case k9 => exact BindsTo.of_eq rfl
  case kB => exact locs rfl
  case c2 => exact rfl
  case c3 => exact rfl
  case c4 => exact rfl
  case c5 => decide
  intro g L h₁ G' hs _ F N
  obtain ⟨X, T⟩ := G'
  k_steps
  refine Halt.of (g_newList F N (by simp) ?_)
  intro D h' F' N' l1
  clear l1
  k_steps
  rename Fr _ _ _ _ => F'
  rename News _ _ _ _ => N'
  refine Halt.of (g_boundAttr (vs := []) F' N' (.head _) ?_)
  intro B h' tk' F' N' l1
  have hDB : @Ne Nat D B := Nat.ne_of_lt (l1 _ (.head _))
  clear l1
  k_steps
  rename Fr _ _ _ _ => F'
  rename News _ _ _ _ => N'
  refine' unpackItemsN_ F' N' ?tup ?hh ?len ?_
  case tup => exact N'.isTup (.head _)
  case hh => exact hA.hh
  case len => rfl
  intro h₂ F₂ N₂
  clear F' N'
  have F₂ : Fr g L h₂ _ := F₂
  k_steps
  refine Halt.of ?_
  rename Fr _ _ _ _ => F'
  rename News _ _ _ _ => N'
  refine wpAny_mono (While_inv2 (Q := fun f s' => Halt (f = .next ∧ ∃ ws e t tn u h' tk', s' = { s with heap := h', toks := tk' } ∧ Fr g L h' (lm [(Str.ofString "i", .int (pat.length : Nat) t), (Str.ofString "n", .int (pat.length : Nat) tn), (Str.ofString "res", .ref D)] u) ∧ News g L h' [(D, listOf (List.toArray ws) e)] ∧ ws.length = n + 1 ∧ ∀ j, j < n + 1 → IsO (ws.getD j .none) ((trItems pat n).getD j none)))
    (RJ pat q n t1 t2 D B) F' (news_sub (news' := [(D, listOf (List.toArray []) 0), (B, boundObj D)]) N' (by intro q hq; simp at hq ⊢; rcases hq with h | h <;> simp [h])) (n₀ := n + 1) ?start ?turn PassesOwn.never) ?after (fun _ _ x => x.elim)
  case start =>
    exact ⟨0, _, _, [], 0, rfl, ⟨rfl, rfl, rfl, rfl, rfl, rfl, rfl, trivial⟩, by omega, rfl, fun j hj => absurd hj (Nat.not_lt_zero _)⟩
  case turn =>
    clear F' N'
    rintro k m₁ nx h₂ tk₂ F₂ N₂ ⟨i, t, tn, ws, e, rfl, hm, hik, hl, hI⟩
    obtain ⟨u, rfl⟩ := hm.lm
    by_cases hk : k = 0
    · k_steps
      have hin : i = n + 1 := by omega
      subst hin
      obtain ⟨u', F2⟩ := fr_lm F₂ (ps := [(Str.ofString "i", .int (pat.length : Nat) t), (Str.ofString "n", .int (pat.length : Nat) tn), (Str.ofString "res", .ref D)]) ⟨by rw [hn]; rfl, rfl, rfl, trivial⟩
      exact Halt.of ⟨rfl, ws, e, t, tn, u', h₂, tk₂, rfl, F2, news_sub N₂ (by intro q hq; simp at hq ⊢; simp [hq]), hl, hI⟩
    · have hi : i ≤ n := by omega
      by_cases hin : i = n
      · subst hin
        have hc := hpat.2.2
        k_steps
        · refine Halt.of (callWith_B (D := D) ?_)
          k_steps
          rename Fr _ _ _ _ => F'
          rename News _ _ _ _ => N'
          refine Halt.of ⟨(N' (B, boundObj D) (.tail _ (.head _))).1, ?_⟩
          refine g_boundCall (vs := ws) (n := e) (N' (B, boundObj D) (.tail _ (.head _))).1 F' N' (Upd.head fun p hp => by rw [List.mem_singleton.mp hp]; exact hDB.symm) (by omega) ?_
          clear F' N'
          intro h₃ F₃ N₃
          k_steps
          exact ⟨_, _, _, _, k - 1, rfl, F₃, N₃, by omega, i + 1, _, _, ws ++ [_], e + 1, rfl, ⟨rfl, rfl, rfl, rfl, rfl, rfl, rfl, trivial⟩, by omega, by simp [hl], RJ_step hl hI (by rw [trItems_none]; exact rfl)⟩
        · have hne : ws ≠ [] := by
            intro h
            subst h
            rename List.isEmpty _ = false => hx
            cases hx
          have hws : 0 < ws.length := List.length_pos_iff.mpr hne
          rename Fr _ _ _ _ => F'
          rename News _ _ _ _ => N'
          have hlast := hI (ws.length - 1) (by omega)
          rw [trItems_some (by omega)] at hlast
          obtain ⟨tv, hv⟩ : IsS _ _ := hlast
          refine' g_subneg (N' (D, listOf (List.toArray ws) e) (.head _)).1 hws hv (by omega) ?_ ?k7 ?k8
          case k7 => with_unfolding_all rfl
          case k8 => intro _; with_unfolding_all rfl
          k_steps
          refine Halt.of (callWith_B (D := D) ?_)
          k_steps
          rename Fr _ _ _ _ => F'
          rename News _ _ _ _ => N'
          refine Halt.of ⟨(N' (B, boundObj D) (.tail _ (.head _))).1, ?_⟩
          refine g_boundCall (vs := ws) (n := e) (N' (B, boundObj D) (.tail _ (.head _))).1 F' N' (Upd.head fun p hp => by rw [List.mem_singleton.mp hp]; exact hDB.symm) (by omega) ?_
          clear F' N'
          intro h₃ F₃ N₃
          k_steps
          exact ⟨_, _, _, _, k - 1, rfl, F₃, N₃, by omega, i + 1, _, _, ws ++ [_], e + 1, rfl, ⟨rfl, rfl, rfl, rfl, rfl, rfl, rfl, trivial⟩, by omega, by simp [hl], RJ_step hl hI (by rw [trItems_none]; exact rfl)⟩
      · rcases hpat.2.1 i (by omega) with hc | hc
        · k_steps
          refine Halt.of (callWith_B (D := D) ?_)
          k_steps
          refine Halt.of ?_
          refine' callWith_K ?k1 ?k2 ?_
          case k1 => exact X
          case k2 => k_is
          k_steps
          rename Fr _ _ _ _ => F'
          rename News _ _ _ _ => N'
          refine Halt.of ?_
          refine escape_spec (h₀ := g) _ (hA.deeper.le (by decide)) (Gd.keeps ⟨X, T⟩ F'.keep) ?_
          intro t5 h5 tk5 hs5
          have F5 := fr_keep F' hs5
          have N5 := news_keep N' hs5
          clear F' N' hs5
          k_steps
          refine Halt.of ⟨(N5 (B, boundObj D) (.tail _ (.head _))).1, ?_⟩
          refine g_boundCall (vs := ws) (n := e) (N5 (B, boundObj D) (.tail _ (.head _))).1 F5 N5 (Upd.head fun p hp => by rw [List.mem_singleton.mp hp]; exact hDB.symm) (by omega) ?_
          clear F5 N5
          intro h₃ F₃ N₃
          k_steps
          exact ⟨_, _, _, _, k - 1, rfl, F₃, N₃, by omega, i + 1, _, _, ws ++ [_], e + 1, rfl, ⟨rfl, rfl, rfl, rfl, rfl, rfl, rfl, trivial⟩, by omega, by simp [hl], RJ_step hl hI (by rw [trItems_some (by omega), hc]; exact ⟨_, by rw [show (Str.ofString "\\." : Str) = bs ++ ⟨#[46]⟩ from by decide +kernel]⟩)⟩
        · obtain ⟨y, hy, hy1, hy2⟩ := hpat.at (i := i + 1) (by omega)
          have hy : Txt.item pat ((i : Int) + 1) = y := hy
          k_steps
          refine Halt.of ?_
          rename Fr _ _ _ _ => F'
          rename News _ _ _ _ => N'
          clear hy hy1 hy2
          refine wpAny_mono (While_inv2 (Q := fun f s' => Halt (f = .next ∧ ∃ ti tj tn u h' tk', s' = { s with heap := h', toks := tk' } ∧ Fr g L h' (lm [(Str.ofString "pat", .str pat t1), (Str.ofString "STAR", .none), (Str.ofString "QUESTION_MARK", .str q t2), (Str.ofString "res", .ref D), (Str.ofString "add", .ref B), (Str.ofString "i", .int ((i + 1 : Nat) : Int) ti), (Str.ofString "n", .int (pat.length : Nat) tn), (Str.ofString "j", .int (pat.length : Nat) tj)] u) ∧ News g L h' [(D, listOf (List.toArray ws) e), (B, boundObj D)]))
            (fun kk m nx => nx = [(D, listOf (List.toArray ws) e), (B, boundObj D)] ∧ ∃ j ti tj tn, Has m [(Str.ofString "pat", .str pat t1), (Str.ofString "STAR", .none), (Str.ofString "QUESTION_MARK", .str q t2), (Str.ofString "res", .ref D), (Str.ofString "add", .ref B), (Str.ofString "i", .int ((i + 1 : Nat) : Int) ti), (Str.ofString "n", .int (pat.length : Nat) tn), (Str.ofString "j", .int (j : Nat) tj)] ∧ j + kk = n + 1)
            F' N' (n₀ := n - i) ?start2 ?turn2 PassesOwn.never) ?after2 (fun _ _ x => x.elim)
          case start2 =>
            exact ⟨rfl, i + 1, _, _, _, ⟨rfl, rfl, rfl, rfl, rfl, rfl, rfl, rfl, trivial⟩, by omega⟩
          case turn2 =>
            clear F' N'
            rintro kk m₂ nx h₃ tk₃ F₃ N₃ ⟨rfl, j, ti, tj, tn3, hm3, hjk⟩
            obtain ⟨u3, rfl⟩ := hm3.lm
            by_cases hk0 : kk = 0
            · k_steps
              have hjn : j = pat.length := by omega
              subst hjn
              exact Halt.of ⟨rfl, ti, tj, tn3, u3, h₃, _, rfl, F₃, N₃⟩
            · obtain ⟨y, hy, hy1, hy2⟩ := hpat.at (i := j) (by omega)
              k_steps
              rename Fr _ _ _ _ => F'
              rename News _ _ _ _ => N'
              exact ⟨_, _, _, _, kk - 1, rfl, F', N', by omega, rfl, j + 1, _, _, _, ⟨rfl, rfl, rfl, rfl, rfl, rfl, rfl, rfl, trivial⟩, by omega⟩
          case after2 =>
            clear F' N'
            rintro f s' ⟨rfl, ti, tj, tn3, u3, h', tk', rfl, F₃, N₃⟩
            dsimp only
            k_steps
            refine Halt.of (callWith_B (D := D) ?_)
            k_steps
            refine Halt.of ⟨(N₃ (B, boundObj D) (.tail _ (.head _))).1, ?_⟩
            refine g_boundCall (vs := ws) (n := e) (N₃ (B, boundObj D) (.tail _ (.head _))).1 F₃ N₃ (Upd.head fun p hp => by rw [List.mem_singleton.mp hp]; exact hDB.symm) (by omega) ?_
            clear F₃ N₃
            intro h₄ F₄ N₄
            k_steps
            exact ⟨_, _, _, _, k - 1, rfl, F₄, N₄, by omega, i + 1, _, _, ws ++ [_], e + 1, rfl, ⟨rfl, rfl, rfl, rfl, rfl, rfl, rfl, trivial⟩, by omega, by simp [hl], RJ_step hl hI (by rw [trItems_some (by omega), hc]; exact ⟨_, by rw [show (Str.ofString "\\[" : Str) = bs ++ ⟨#[91]⟩ from by decide +kernel]⟩)⟩
  case after =>
    clear F' N'
    rintro f s' ⟨rfl, ws, e, t, tn, u, h', tk', rfl, F₂, N₂, hl, hI⟩
    dsimp only
    k_steps
    have z := N₂ _ (.head _)
    refine hret D ws e _ _ (fun b o eb nb => F₂.keep _ _ (hs _ _ eb nb)) ?_ z.1 (by rw [trItems_length]; exact hl) (by rw [trItems_length]; exact hI)
    cases hD : s.heap.get? D with
    | none => rfl
    | some o =>
      have := hs _ _ hD (by simp)
      rw [z.2.2] at this; cases this
end
example : True := by
  w_top off
  trivial
section
variable {h₀ h h' : Heap} {L D : Addr} {m m' : Str → Option Value} {news : List (Addr × Obj)} {o : Obj}
theorem fr_A (F : Fr h₀ L h m) (hn : h'.Ns L m') (hs : StayBut [L] h h') : Fr h₀ L h' m' :=
  ⟨hn, fun b o e => hs _ _ (F.keep b o e) (by rw [List.mem_singleton]; rintro rfl; exact Nat.lt_irrefl _ (Nat.lt_of_lt_of_le (Heap.lt_size e) F.above)), F.above⟩
theorem news_newA (F : Fr h₀ L h m) (N : News h₀ L h news) (hs : StayBut [L] h h') (hD : h.get? D = none) (ho : h'.get? D = some o) : News h₀ L h' ((D, o) :: news) := by
  intro p hp
  rcases List.mem_cons.mp hp with rfl | hp
  · refine ⟨ho, ?_, ?_⟩
    · rintro rfl
      obtain ⟨oL, _, _, e, _⟩ := F.ns
      rw [hD] at e; cases e
    · cases q : h₀.get? D with
      | none => rfl
      | some ob => have := F.keep _ _ q; rw [hD] at this; cases this
  · exact ⟨hs _ _ (N p hp).1 (by rw [List.mem_singleton]; exact (N p hp).2.1), (N p hp).2⟩
end
section
variable {prog : Program} {w : World} {A : Around} {E : Value → Shared → Prop} {s : Shared} {a b : Addr} {vs us : List Value} {ns ms : List Int} {n n' : Nat} {Q : Value → Shared → Prop}
theorem g_neSame (ho : s.heap.get? a = some (listOf vs.toArray n)) (hi : Ints vs ns) (ho' : s.heap.get? b = some (listOf us.toArray n')) (hi' : Ints us ms) (hu : A.units + 64 < cLine) (e : ns = ms) (h : Q (.bool false) s) : wpAny (model prog w) A (compareOp .NotEq (.ref a) (.ref b)) Q E s :=
  g_neL ho hi ho' hi' hu (by rw [decide_eq_true e]; exact h)
end
theorem g_ieqT {prog : Program} {w : World} {A : Around} {E : Value → Shared → Prop} {s : Shared} {a b : Int} {t u : Tok} {Q : Value → Shared → Prop} (e : a = b) (h : Q (.bool true) s) : wpAny (model prog w) A (compareOp .Eq (.int a t) (.int b u)) Q E s := by
  subst e
  exact eq_int (by simpa using h)
theorem take_len {α : Type} (l : List α) (m : Nat) : l.take (l.take m).length = l.take m := by
  rw [List.length_take]
  by_cases h : m ≤ l.length
  · rw [Nat.min_eq_left h]
  · rw [Nat.min_eq_right (by omega), List.take_of_length_le (by omega), List.take_of_length_le (by omega)]
/-- the places that the pattern of a place's name takes -/
def brIdx (n place : Nat) : List Nat := (List.range n).filter fun (k : Nat) => takes (trItems (nameOf place ++ Str.ofString "*") (nameOf place).length) (nameOf ((k : Int)).toNat)
def branch (pile : List Int) (place : Nat) : List Int := (brIdx pile.length place).map fun k => pile.getD k 0
def told (pile : List Int) (place : Nat) : List Int := (isort (branch pile place)).take ((branch pile place).length / 2 + 1)
theorem g_subV {prog : Program} {w : World} {A : Around} {E : Value → Shared → Prop} {s : Shared} {D : Addr} {vs : List Value} {n : Nat} {k : Int} {u : Tok} {x : Value} {value slice : PySem.Expr} {Q : Value → Shared → Prop} (ho : s.heap.get? D = some (listOf vs.toArray n)) (hx : vs.getD k.toNat .none = x) (h0 : 0 ≤ k) (h1 : k < (vs.length : Int)) (hz : vs.length ≤ 1000) (h : Q x s)
    (hs : subscripted slice false (.ref D) (.int k u) = operate [.ref D, .int k u] (getItem (.ref D) (.int k u)) := by with_unfolding_all rfl) (hg : ∀ r, letTemporaryGo value (.ref D) r = pure () := by intro _; with_unfolding_all rfl) :
    wpAny (model prog w) A (subscriptTail value slice (.ref D) (.int k u)) Q E s := g_sub ho h0 h1 hz (by rw [hx]; exact h) hs hg
local macro_rules | `(tactic| walk_at "mine 11") => `(tactic| (k_here; (with_reducible show wpAny _ _ (subscriptTail _ _ (Value.ref _) (Value.int _ _)) _ _ _); k_dflt (refine' g_subV ?k1 ?hx ?k4 ?k5 ?k6 ?_ ?k7 ?k8; (case k1 => walk_at "mine at"); (case hx => assumption); (case k4 => omega); (case k5 => omega); (case k6 => omega); (case k7 => with_unfolding_all rfl); (case k8 => (intro _; with_unfolding_all rfl)); k_whole)))
section
local macro_rules
  | `(tactic| walk_at "call builtin:len") => `(tactic| (first | (walk_at "mine 10") | (walk_at "mine 3")))
  | `(tactic| walk_at "subscriptTail Name Name ref int") => `(tactic| walk_at "mine 11")
  | `(tactic| walk_at "eval Name") => `(tactic| walk_at "mine 8")
  | `(tactic| walk_at "compareOp Eq int int") => `(tactic| refine Halt.mk ?_)
  | `(tactic| walk_at "call builtin:sorted") => `(tactic| walk_at "mine 7")
  | `(tactic| walk_at "binaryOp FloorDiv int int") => `(tactic| (refine g_halfm (by omega) ?_))
  | `(tactic| walk_at "subscriptTail Name BinOp ref int") => `(tactic| walk_at "mine 11")
  | `(tactic| walk_at "subscriptTail Name Slice ref ref") => `(tactic| walk_at "mine 6")
  | `(tactic| walk_at "newList") => `(tactic| refine Halt.mk ?_)
  | `(tactic| walk_at "exec Assign Name ListComp") => `(tactic| refine Halt.mk ?_)
  | `(tactic| walk_at "eval ListComp") => `(tactic| refine Halt.mk ?_)
  | `(tactic| walk_at "exec Assign cons ListComp") => `(tactic| refine Halt.mk ?_)
  | `(tactic| walk_at "call ref cons") => `(tactic| refine Halt.mk ?_)
  | `(tactic| walk_at "compareOp NotEq ref ref") => `(tactic| refine Halt.mk ?_)
  | `(tactic| walk_at "subscriptTail Name UnaryOp ref int") => `(tactic| refine Halt.mk ?_)

theorem right_spec {prog : Program} {w : World} {A : Around} {s : Shared} {h₀ : Heap} {mean : ExcName → Option Value} {mg mb : Str → Option Value} {Q : Value → Shared → Prop} {E : Value → Shared → Prop}
  (pa na : Addr) (pv nv : List Value) (pile : List Int) (n1 n2 : Nat) (place : Nat) (t1 : Tok) (hA : Ok A 12) (G : Gd w mean mg mb s.heap)
  (hp : s.heap.get? pa = some (listOf pv.toArray n1)) (hnm : s.heap.get? na = some (listOf nv.toArray n2)) (hi : Ints pv pile) (hz : pile.length ≤ 9) (hpl : place < pile.length)
  (hnl : nv.length = pile.length) (hnv : ∀ i, i < pile.length → IsS (nv.getD i .none) (nameOf i))
  (hpat : PatOk (nameOf place ++ Str.ofString "*") (nameOf place).length) (hnz9 : ∀ i, i < pile.length → (nameOf i).length ≤ 18)
  (hpre : ∀ k, k < pile.length → takes (trItems (nameOf place ++ Str.ofString "*") (nameOf place).length) (nameOf ((k : Int)).toNat) = (Txt.slice (nameOf ((k : Int)).toNat) none (some ((nameOf place).length : Int)) == nameOf place))
  (hwalk : walkGo pile ((branch pile place).length / 2 + 1) [(pile.getD place 0, place)] [] = some (told pile place)) (hne : 0 < (branch pile place).length)
  (hlow : medLow (branch pile place) = (told pile place).getD (((branch pile place).length - 1) / 2) 0) (hhigh : medHigh (branch pile place) = (told pile place).getD ((told pile place).length - 1) 0)
  (hret : ∀ h' tk', StayBut [] s.heap h' → Q (.bool true) { s with heap := h', toks := tk' }) :
  wpAny (model prog w) A (call (.ref 148) [.ref pa, .ref na, .int place t1]) Q E s := by
  refine wpAny_call ?_
  refine' enterC (binds := [(Str.ofString "pile", .ref pa), (Str.ofString "names", .ref na), (Str.ofString "place", .int place t1)]) hA.room G ?k6 ?k7 ?k9 ?kB ?kD ?_ ?c2 ?c3 ?c4
  case k6 => k_is
  case k7 => k_is
  case k9 => exact rfl
  case kB => exact rfl
  case kD => decide +kernel
  case c2 => exact rfl
  case c3 => exact rfl
  case c4 => exact rfl
  intro g L h₁ tk0 cells G' hs F N Y
  obtain ⟨X, T⟩ := G'
  obtain ⟨o1, o2, o3, o4, rfl, d1, d2, d3, d4⟩ := Y.four
  dsimp only at *
  have hp' : g.get? pa = some (listOf pv.toArray n1) := hs _ _ hp (by simp)
  have hn' : g.get? na = some (listOf nv.toArray n2) := hs _ _ hnm (by simp)
  have hil := hi.length
  obtain ⟨th, hv⟩ := hnv place hpl
  have hv' : nv.getD (place : Int).toNat .none = .str (nameOf place) th := hv
  have hnz : (nameOf place).length ≤ 18 := hnz9 place hpl
  have hA1 : ∀ env, Ok (A.deeper env) 11 := fun env => hA.deeper
  k_steps
  refine Halt.of ?_
  rename Fr _ _ _ _ => F'
  rename News _ _ _ _ => N'
  rename Obj.data _ = Data.cell (some (Value.str (nameOf place) th)) => eh
  refine translate_spec (h₀ := g) _ _ _ _ _ ((hA1 _).le (by decide)) (Gd.keeps ⟨X, T⟩ F'.keep) hpat hnz ?_
  intro D ws e h₂ tk₂ hs₂ hD hDo hwl hws
  have F₂ := fr_keep F' hs₂
  have N₂ := news_new F' N' hs₂ hD hDo
  have hoff := new_off N' hD
  clear F' N' hs₂ hDo
  have q1 : @Ne Nat (L + 1 + 1 + 1 + 1) D := hoff (L + 1 + 1 + 1 + 1, o1) (by simp)
  have q2 : @Ne Nat (L + 1 + 1 + 1) D := hoff (L + 1 + 1 + 1, _) (.tail _ (.head _))
  have q3 : @Ne Nat (L + 1 + 1) D := hoff (L + 1 + 1, o3) (by simp)
  have q4 : @Ne Nat (L + 1) D := hoff (L + 1, o4) (by simp)
  clear hoff
  k_steps
  refine Halt.of ?_
  rename Fr _ _ _ _ => F'
  rename News _ _ _ _ => N'
  rename Obj.data _ = Data.cell (some (Value.ref D)) => ei
  obtain ⟨u0, F0⟩ := fr_lm F' (ps := [(Str.ofString "place", .int (place : Nat) t1)]) ⟨rfl, trivial⟩
  clear F'
  refine' comp_rangeA (m := lm [(Str.ofString "place", .int (place : Nat) t1)] u0) (cl := [(Str.ofString "names", L + 1 + 1), (Str.ofString "items", L + 1 + 1 + 1 + 1)]) (fun v => (fun i : Int => takes (trItems (nameOf place ++ Str.ofString "*") (nameOf place).length) (nameOf i.toNat)) (keyI v)) (PairI id) ?hsw ?hh ?clos ?cell rfl ?names rfl rfl ?hp ?_
  case hsw => with_unfolding_all rfl
  case hh => exact hA.hh
  case clos => with_unfolding_all rfl
  case cell => decide
  case names => decide
  case hp => rfl
  k_steps
  rename IsRange _ _ _ _ _ _ _ _ => R
  rename Fr _ _ _ _ => F₂
  rename News _ _ _ _ => N₂
  refine Halt.of ⟨_, pile.length, _, _, _, rfl, (by rw [← hil]; exact R), by omega, F₂.ns, ?turn, ?done⟩
  case turn =>
    intro C g' j v s₃ m₃ E' hP F₃ hm₃ hg
    obtain ⟨hjn, tj, rfl⟩ := hP
    obtain ⟨u₃, rfl⟩ := Has.lm (ps := [(Str.ofString "k", .int (j : Nat) tj)]) ⟨hm₃, trivial⟩
    have X' := X.keeps fun b o e => hg b o (F₂.keep b o e)
    have T' := T.keeps fun b o e => hg b o (F₂.keep b o e)
    have ci : g'.get? (L + 1 + 1 + 1 + 1) = some _ := hg _ _ (N₂ (L + 1 + 1 + 1 + 1, _) (.tail _ (.head _))).1
    have cn : g'.get? (L + 1 + 1) = some o3 := hg _ _ (N₂ (L + 1 + 1, o3) (.tail _ (.tail _ (.tail _ (.head _))))).1
    have cD : g'.get? D = some (listOf ws.toArray e) := hg _ _ (N₂ (D, listOf ws.toArray e) (.head _)).1
    have cN : g'.get? na = some (listOf nv.toArray n2) := hg _ _ (F₂.keep _ _ hn')
    clear F₂ N₂ R
    obtain ⟨tk', hvk⟩ := hnv j hjn
    have hvk' : nv.getD (j : Int).toNat .none = .str (nameOf j) tk' := hvk
    refine ⟨compOk_one ?_, fun hp => ?_⟩
    · k_steps
      refine Halt.of ?_
      refine takes_spec (h₀ := g) D ws _ e (nameOf j) tk' ((hA1 _).le (by decide)) (Gd.keeps ⟨X', T'⟩ F₃.keep) (F₃.keep _ _ cD) hwl (fun i hi => hws i (by rw [hwl] at *; exact hi)) (by rw [trItems_length]; omega) (by have := hnz9 j hjn; omega) ?_
      intro h4 tk4 hs4
      have F4 := fr_keep F₃ hs4
      clear F₃ hs4
      k_steps
      exact Halt.of ⟨by simp [keyI], _, _, rfl, F4⟩
    · k_steps
      exact Halt.of ⟨⟨_, _, _, rfl, rfl⟩, _, _, rfl, F₃⟩
  case done =>
    intro Dt h3 tk3 ys vs k3 hDt hns3 hs3 ho3 hvl hPv hFv
    have F3 := fr_A F₂ hns3 hs3
    have N3 := news_newA F₂ N₂ hs3 hDt ho3
    have hoff := new_off N₂ hDt
    have hr1 := (Nats.range hvl hPv).turned (P := fun i : Int => takes (trItems (nameOf place ++ Str.ofString "*") (nameOf place).length) (nameOf i.toNat)) (f := id) (f' := id) hFv (fun k => rfl)
    rw [List.map_id] at hr1
    clear F₂ N₂ hns3 hs3 ho3 R
    have r1 : @Ne Nat (L + 1 + 1 + 1 + 1) Dt := hoff (L + 1 + 1 + 1 + 1, _) (.tail _ (.head _))
    have r2 : @Ne Nat (L + 1 + 1 + 1) Dt := hoff (L + 1 + 1 + 1, _) (.tail _ (.tail _ (.head _)))
    have r3 : @Ne Nat (L + 1 + 1) Dt := hoff (L + 1 + 1, o3) (.tail _ (.tail _ (.tail _ (.head _))))
    have r4 : @Ne Nat (L + 1) Dt := hoff (L + 1, o4) (.tail _ (.tail _ (.tail _ (.tail _ (.head _)))))
    have r5 : @Ne Nat D Dt := hoff (D, listOf ws.toArray e) (.head _)
    clear hoff
    k_steps
    refine Halt.of ?_
    refine' comp_range (cl := [(Str.ofString "names", L + 1 + 1), (Str.ofString "head", L + 1 + 1 + 1)]) (fun v => (fun i : Int => Txt.slice (nameOf i.toNat) none (some ((nameOf place).length : Int)) == nameOf place) (keyI v)) (PairI id) ?hh ?clos ?cell rfl ?names rfl ?_
    case hh => exact hA.hh
    case clos => with_unfolding_all rfl
    case cell => decide
    case names => decide
    k_steps
    rename IsRange _ _ _ _ _ _ _ _ => R
    rename Fr _ _ _ _ => F₂
    rename News _ _ _ _ => N₂
    refine Halt.of ⟨_, pile.length, _, _, _, rfl, (by rw [← hil]; exact R), by omega, ?turn2, ?done2⟩
    case turn2 =>
      intro C g' j v s₃ m₃ E' hP F₃ hm₃ hg
      obtain ⟨hjn, tj, rfl⟩ := hP
      obtain ⟨u₃, rfl⟩ := Has.lm (ps := [(Str.ofString "k", .int (j : Nat) tj)]) ⟨hm₃, trivial⟩
      have X' := X.keeps fun b o e => hg b o (F₂.keep b o e)
      have T' := T.keeps fun b o e => hg b o (F₂.keep b o e)
      have ch : g'.get? (L + 1 + 1 + 1) = some _ := hg _ _ (N₂ (L + 1 + 1 + 1, _) (.tail _ (.tail _ (.tail _ (.head _))))).1
      have cn : g'.get? (L + 1 + 1) = some o3 := hg _ _ (N₂ (L + 1 + 1, o3) (.tail _ (.tail _ (.tail _ (.tail _ (.head _)))))).1
      have cN : g'.get? na = some (listOf nv.toArray n2) := hg _ _ (F₂.keep _ _ hn')
      clear F₂ N₂ R
      obtain ⟨tk', hvk⟩ := hnv j hjn
      have hvk' : nv.getD (j : Int).toNat .none = .str (nameOf j) tk' := hvk
      have hzj := hnz9 j hjn
      refine ⟨compOk_one ?_, fun hp => ?_⟩
      · k_steps
        rename Fr _ _ _ _ => Fz
        exact Halt.of ⟨rfl, _, _, rfl, Fz⟩
      · k_steps
        exact Halt.of ⟨⟨_, _, _, rfl, rfl⟩, _, _, rfl, F₃⟩
    case done2 =>
      intro Dc h4 tk4 zs us k4 hDc hs4 ho4 hul hPu hFu
      have F4 := fr_keep F₂ hs4
      have N4 := news_new F₂ N₂ hs4 hDc ho4
      have hoff := new_off N₂ hDc
      have hr2 := (Nats.range hul hPu).turned (P := fun i : Int => Txt.slice (nameOf i.toNat) none (some ((nameOf place).length : Int)) == nameOf place) (f := id) (f' := id) hFu (fun k => rfl)
      rw [List.map_id] at hr2
      clear F₂ N₂ hs4 R
      have s1 : @Ne Nat (L + 1) Dc := hoff (L + 1, o4) (.tail _ (.tail _ (.tail _ (.tail _ (.tail _ (.head _))))))
      have s2 : @Ne Nat Dt Dc := hoff (Dt, listOf ys.toArray k3) (.head _)
      clear hoff
      refine g_neSame (N4 (Dt, listOf ys.toArray k3) (.tail _ (.head _))).1 hr1 (N4 (Dc, listOf zs.toArray k4) (.head _)).1 hr2 ?_ ?_ ?_
      · have := hA.un
        show A.units + 3 + 64 < 9900
        omega
      · congr 1
        refine List.filter_congr fun k hk => ?_
        exact hpre k (List.mem_range.mp hk)
      k_steps
      refine Halt.of ?_
      rename Fr _ _ _ _ => F'
      rename News _ _ _ _ => N5
      obtain ⟨u1, F1⟩ := fr_lm F' (ps := [(Str.ofString "place", .int (place : Nat) t1), (Str.ofString "taken", .ref Dt)]) ⟨rfl, rfl, trivial⟩
      clear F'
      have hr1 : Nats ys (brIdx pile.length place) := hr1
      have hbd : branch pile place = (brIdx pile.length place).map fun k => pile.getD k 0 := rfl
      have htk0 : brIdx pile.length place = (List.range pile.length).filter fun (k : Nat) => takes (trItems (nameOf place ++ Str.ofString "*") (nameOf place).length) (nameOf ((k : Int)).toNat) := rfl
      generalize htk : brIdx pile.length place = tkn at hr1 hbd htk0
      have htl : tkn.length ≤ pile.length := by rw [htk0]; exact Nat.le_trans (List.length_filter_le _ _) (by simp)
      have htm : ∀ k ∈ tkn, k < pile.length := fun k hk => by rw [htk0] at hk; exact List.mem_range.mp (List.mem_filter.mp hk).1
      have hyl : ys.length = tkn.length := by have := hr1.length; rw [List.length_map] at this; exact this
      refine' comp_listA (m := lm [(Str.ofString "place", .int (place : Nat) t1), (Str.ofString "taken", .ref Dt)] u1) (cl := [(Str.ofString "pile", L + 1)]) (fun v => (fun _ : Int => true) (keyI v)) (PairI fun i => pile.getD i.toNat 0) ?hsw ?hh ?clos ?cell rfl ?names rfl rfl ?hp ?_
      case hsw => with_unfolding_all rfl
      case hh => exact hA.hh
      case clos => with_unfolding_all rfl
      case cell => decide
      case names => decide
      case hp => rfl
      k_steps
      rename Fr _ _ _ _ => F₂
      rename News _ _ _ _ => N₂
      refine Halt.of ⟨Dt, ys, k3, rfl, (N₂ (Dt, listOf ys.toArray k3) (.tail _ (.head _))).1, by omega, F₂.ns, ?turn3, ?done3⟩
      case turn3 =>
        intro C g' j v s₃ m₃ E' hP F₃ hm₃ hg
        obtain ⟨kk, tj, rfl, hkm⟩ := hr1.mem (List.mem_of_getElem? hP)
        obtain ⟨u₃, rfl⟩ := Has.lm (ps := [(Str.ofString "k", .int (kk : Nat) tj)]) ⟨hm₃, trivial⟩
        have X' := X.keeps fun b o e => hg b o (F₂.keep b o e)
        have T' := T.keeps fun b o e => hg b o (F₂.keep b o e)
        have cp : g'.get? (L + 1) = some o4 := hg _ _ (N₂ (L + 1, o4) (.tail _ (.tail _ (.tail _ (.tail _ (.tail _ (.tail _ (.head _)))))))).1
        have cP : g'.get? pa = some (listOf pv.toArray n1) := hg _ _ (F₂.keep _ _ hp')
        clear F₂ N₂
        have hkl := htm kk hkm
        obtain ⟨tv, hvk⟩ := hi.getD hkl
        have hvk' : pv.getD (kk : Int).toNat .none = .int (pile.getD kk 0) tv := hvk
        refine ⟨compOk_nil (Halt.of ⟨rfl, _, _, rfl, F₃⟩), fun hp => ?_⟩
        k_steps
        exact Halt.of ⟨⟨_, _, _, rfl, rfl⟩, _, _, rfl, F₃⟩
      case done3 =>
        intro Db h5 tk5 xs us5 k5 hDb hns5 hs5 ho5 hwl5 hPv5 hFv5
        have F5 := fr_A F₂ hns5 hs5
        have N6 := news_newA F₂ N₂ hs5 hDb ho5
        have hus5 := same_list hwl5 hPv5
        subst hus5
        have hb0 := (Ints.filter (P := fun _ => true) hr1).paired hFv5
        have hb : Ints xs (tkn.map fun k => pile.getD k 0) := by
          have e1 : ((tkn.map Int.ofNat).filter fun _ => true) = tkn.map Int.ofNat := by simp
          rw [e1, List.map_map] at hb0
          exact hb0
        have hxl := hb.length
        rw [List.length_map] at hxl
        clear F₂ N₂ hns5 hs5 ho5 hb0
        k_steps
        refine Halt.of ?_
        rename Fr _ _ _ _ => F'
        rename News _ _ _ _ => N'
        rw [← hbd] at hb
        have hbl : (branch pile place).length = xs.length := hb.length.symm
        rw [hbl] at hwalk hne hlow
        have htd : told pile place = (isort (branch pile place)).take (xs.length / 2 + 1) := by unfold told; rw [hbl]
        have htl2 : (told pile place).length = min (xs.length / 2 + 1) xs.length := by rw [htd, List.length_take, isort_length, hbl]
        refine walk_spec (h₀ := g) pa pv pile n1 place xs.length _ _ ((hA1 _).le (by decide)) (Gd.keeps ⟨X, T⟩ F'.keep) (F'.keep _ _ hp') hi (by omega) hpl (by omega) (told pile place) hwalk ?_
        intro Dw vs6 e6 h6 tk6 hs6 hDw hoo hi6
        have F6 := fr_keep F' hs6
        have N7 := news_new F' N' hs6 hDw hoo
        have hl6 := hi6.length
        clear F' N' hs6 hDw hoo
        k_steps
        refine Halt.of ?_
        rename Fr _ _ _ _ => F'
        rename News _ _ _ _ => N'
        rename Ints _ (isort _) => hW
        have g7 := (News.get N' (a := Dw) (o := listOf vs6.toArray e6) (by k_mem))
        refine g_neSame g7 hi6 (N' _ (.head _)).1 (hW.take _) ?_ ?_ ?_
        · have := hA.un
          show A.units + 3 + 64 < 9900
          omega
        · rw [hl6, htd, take_len]
        have hlo : ((xs.length - 1) / 2) < (told pile place).length := by omega
        have hhi0 : ((told pile place).length - 1) < (told pile place).length := by omega
        obtain ⟨tl, hvl⟩ := hi6.getD hlo
        have hvl' : vs6.getD ((((xs.length - 1) / 2 : Nat)) : Int).toNat .none = .int ((told pile place).getD ((xs.length - 1) / 2) 0) tl := hvl
        obtain ⟨tu, hvu⟩ := hi6.getD hhi0
        rw [← hl6] at hvu
        k_steps
        refine Halt.of ?_
        rename Fr _ _ _ _ => F'
        rename News _ _ _ _ => N'
        refine' medlow_spec (h₀ := g) Db xs (branch pile place) k5 ((hA1 _).le (by decide)) (Gd.keeps ⟨X, T⟩ F'.keep) ?hm hb ?hl1 ?hl2 ?_
        case hm => exact News.get N' (by k_mem)
        case hl1 => omega
        case hl2 => omega
        intro h8 t8 tk8 hs8
        have F8 := fr_keep F' hs8
        have N8 := news_keep N' hs8
        clear F' N' hs8
        k_steps
        refine Halt.of (g_ieqT hlow ?_)
        k_steps
        refine Halt.of ?_
        refine' medhigh_spec (h₀ := g) Db xs (branch pile place) k5 ((hA1 _).le (by decide)) (Gd.keeps ⟨X, T⟩ F8.keep) ?hm hb ?hl1 ?hl2 ?_
        case hm => exact News.get N8 (by k_mem)
        case hl1 => omega
        case hl2 => omega
        intro h9 t9 tk9 hs9
        have F9 := fr_keep F8 hs9
        have N9 := news_keep N8 hs9
        clear F8 N8 hs9
        k_steps
        have g9 := (News.get N9 (a := Dw) (o := listOf vs6.toArray e6) (by k_mem))
        refine Halt.of ?_
        refine' g_subneg g9 ?j1 hvu ?j2 ?_ ?k7 ?k8
        case j1 => omega
        case j2 => omega
        case k7 => with_unfolding_all rfl
        case k8 => intro _; with_unfolding_all rfl
        k_steps
        rw [← hl6] at hhigh
        refine Halt.of (g_ieqT hhigh ?_)
        k_steps
        exact hret _ _ (fun b o eb nb => F9.keep _ _ (hs _ _ eb nb))
end
section
variable {α : Type} {d : α} {lt : α → α → Bool}
/-- a strict weak order -/
structure Tot (lt : α → α → Bool) : Prop where
  asym : ∀ {x y}, lt x y = true → lt y x = false
  tr : ∀ {x y z}, lt y x = false → lt z y = false → lt z x = false
theorem Tot.irr (T : Tot lt) (x : α) : lt x x = false := by
  cases h : lt x x with
  | false => rfl
  | true => have := T.asym h; rw [h] at this; exact this
theorem getD_set {l : List α} {p i : Nat} {v : α} : (l.set p v).getD i d = if i = p ∧ p < l.length then v else l.getD i d := by
  simp only [List.getD_eq_getElem?_getD, List.getElem?_set]
  by_cases h : p = i
  · subst h
    by_cases h2 : p < l.length
    · simp [h2]
    · simp [h2]
  · have : ¬ i = p := fun e => h e.symm
    simp [h, this]
theorem getD_self {l : List α} {p : Nat} {v : α} (h : p < l.length) : (l.set p v).getD p d = v := by
  rw [getD_set, if_pos ⟨rfl, h⟩]
theorem getD_other {l : List α} {p i : Nat} {v : α} (h : i ≠ p) : (l.set p v).getD i d = l.getD i d := by
  rw [getD_set, if_neg (fun q => h q.1)]
theorem getD_elem {l : List α} {i : Nat} (h : i < l.length) : l.getD i d = l[i] := by simp [List.getD, List.getElem?_eq_getElem h]
theorem hole_perm {l : List α} {p q : Nat} {x : α} (hp : p < l.length) (hq : q < l.length) : ((l.set p (l.getD q d)).set q x).Perm (l.set p x) := by
  by_cases h : p = q
  · subst h; rw [List.set_set]
  · have h1 := List.set_set_perm (as := l.set p x) (i := p) (j := q) (by simpa using hp) (by simpa using hq)
    have e1 : (l.set p x)[q]'(by simpa using hq) = l.getD q d := by rw [getD_elem hq, List.getElem_set]; simp [h]
    have e2 : (l.set p x)[p]'(by simpa using hp) = x := by simp
    rw [e1, e2, List.set_set] at h1
    exact h1

/-- q lies at p or below it -/
inductive Desc (p : Nat) : Nat → Prop
  | refl : Desc p p
  | left {q : Nat} : Desc p q → Desc p (2 * q + 1)
  | right {q : Nat} : Desc p q → Desc p (2 * q + 2)
theorem Desc.le {p q : Nat} (h : Desc p q) : p ≤ q := by
  induction h with
  | refl => exact Nat.le_refl _
  | left _ ih => omega
  | right _ ih => omega
theorem Desc.up {p q : Nat} (h : Desc p q) (hl : p < q) : Desc p ((q - 1) / 2) := by
  cases h with
  | refl => omega
  | @left r h => rw [show (2 * r + 1 - 1) / 2 = r by omega]; exact h
  | @right r h => rw [show (2 * r + 2 - 1) / 2 = r by omega]; exact h

/-- the order holds at every place whose upper place is k or more -/
def HpFrom (d : α) (lt : α → α → Bool) (k : Nat) (l : List α) : Prop := ∀ i, 0 < i → i < l.length → k ≤ (i - 1) / 2 → lt (l.getD i d) (l.getD ((i - 1) / 2) d) = false

/-- as sift up goes: a hole at p -/
def HoleD (d : α) (lt : α → α → Bool) (x : α) (sp p : Nat) (l : List α) : Prop :=
  (∀ i, 0 < i → i < l.length → sp ≤ (i - 1) / 2 → i ≠ p → (i - 1) / 2 ≠ p → lt (l.getD i d) (l.getD ((i - 1) / 2) d) = false) ∧
  (∀ i, 0 < i → i < l.length → (i - 1) / 2 = p → lt (l.getD i d) x = false ∧ (sp < p → lt (l.getD i d) (l.getD ((p - 1) / 2) d) = false))
theorem HoleD.close (_ : Tot lt) {x : α} {sp p : Nat} {l : List α} (H : HoleD d lt x sp p l) (hp : p < l.length) (hx : sp < p → lt x (l.getD ((p - 1) / 2) d) = false) (hd : Desc sp p) : HpFrom d lt sp (l.set p x) := by
  intro i h0 hi hk
  rw [List.length_set] at hi
  by_cases h1 : i = p
  · subst h1
    have hne : (i - 1) / 2 ≠ i := by omega
    rw [getD_self hp, getD_other hne]
    exact hx (by omega)
  · rw [getD_other h1]
    by_cases h2 : (i - 1) / 2 = p
    · rw [h2, getD_self hp]
      exact (H.2 i h0 hi h2).1
    · rw [getD_other h2]
      exact H.1 i h0 hi hk h1 h2
theorem sdGo_heap (T : Tot lt) {x : α} {sp : Nat} : ∀ (f : Nat) (l : List α) (p : Nat), p ≤ f → p < l.length → Desc sp p → HoleD d lt x sp p l →
    HpFrom d lt sp ((sdGo d lt x sp f l p).1.set (sdGo d lt x sp f l p).2 x) ∧ ((sdGo d lt x sp f l p).1.set (sdGo d lt x sp f l p).2 x).Perm (l.set p x)
  | 0, l, p, hf, hp, hd, H => ⟨H.close T hp (fun h => by omega) hd, List.Perm.refl _⟩
  | f + 1, l, p, hf, hp, hd, H => by
    unfold sdGo
    by_cases hsp : sp < p
    · rw [if_pos hsp]
      by_cases hx : lt x (l.getD ((p - 1) / 2) d) = true
      · rw [if_pos hx]
        have hq : (p - 1) / 2 < l.length := by omega
        have hqp : (p - 1) / 2 ≠ p := by omega
        have hqs : sp ≤ (p - 1) / 2 := (hd.up hsp).le
        have ih := sdGo_heap T (x := x) f (l.set p (l.getD ((p - 1) / 2) d)) ((p - 1) / 2) (by omega) (by simpa using hq) (hd.up hsp) ?_
        · exact ⟨ih.1, ih.2.trans (hole_perm hp hq)⟩
        · refine ⟨?_, ?_⟩
          · intro i h0 hi hk h1 h2
            rw [List.length_set] at hi
            by_cases h3 : i = p
            · exact absurd (by rw [h3]) h2
            · rw [getD_other h3]
              by_cases h4 : (i - 1) / 2 = p
              · rw [h4, getD_self hp]
                exact (H.2 i h0 hi h4).2 hsp
              · rw [getD_other h4]
                exact H.1 i h0 hi hk h3 h4
          · intro i h0 hi hpar
            rw [List.length_set] at hi
            have hup : sp < (p - 1) / 2 → lt (l.getD ((p - 1) / 2) d) (l.getD (((p - 1) / 2 - 1) / 2) d) = false := fun hlt => by
              refine H.1 ((p - 1) / 2) (by omega) hq ?_ hqp (by omega)
              exact ((hd.up hsp).up hlt).le
            have hne : ((p - 1) / 2 - 1) / 2 ≠ p := by omega
            rw [getD_other hne]
            by_cases h3 : i = p
            · subst h3
              rw [getD_self hp]
              exact ⟨T.asym hx, hup⟩
            · rw [getD_other h3]
              have h5 := H.1 i h0 hi (by omega) h3 (by omega)
              rw [hpar] at h5
              exact ⟨T.tr (T.asym hx) h5, fun hlt => T.tr (hup hlt) h5⟩
      · rw [if_neg hx]
        refine ⟨H.close T hp (fun _ => ?_) hd, List.Perm.refl _⟩
        exact Bool.eq_false_iff.mpr hx
    · rw [if_neg hsp]
      exact ⟨H.close T hp (fun h => absurd h hsp) hd, List.Perm.refl _⟩
theorem set_getD {l : List α} {p : Nat} : l.set p (l.getD p d) = l := by
  by_cases h : p < l.length
  · rw [getD_elem h]; simp
  · rw [List.set_eq_of_length_le (by omega)]
theorem sdown_heap (T : Tot lt) {l : List α} {sp p : Nat} (hp : p < l.length) (hd : Desc sp p) (H : HoleD d lt (l.getD p d) sp p l) : HpFrom d lt sp (sdown d lt l sp p) ∧ (sdown d lt l sp p).Perm l := by
  have := sdGo_heap T p l p (Nat.le_refl _) hp hd H
  rw [set_getD] at this
  exact this
theorem Desc.zero : ∀ p, Desc 0 p := by
  intro p
  induction p using Nat.strongRecOn with
  | ind p ih =>
    by_cases h0 : p = 0
    · subst h0; exact .refl
    · by_cases h : p % 2 = 1
      · have := Desc.left (ih ((p - 1) / 2) (by omega))
        rwa [show 2 * ((p - 1) / 2) + 1 = p by omega] at this
      · have := Desc.right (ih ((p - 2) / 2) (by omega))
        rwa [show 2 * ((p - 2) / 2) + 2 = p by omega] at this
theorem getD_app {l : List α} {x : α} {i : Nat} (h : i < l.length) : (l ++ [x]).getD i d = l.getD i d := by
  simp [List.getD, List.getElem?_append, h]
theorem push_heap (T : Tot lt) {l : List α} {x : α} (H : HpFrom d lt 0 l) : HpFrom d lt 0 (sdown d lt (l ++ [x]) 0 l.length) ∧ (sdown d lt (l ++ [x]) 0 l.length).Perm (l ++ [x]) := by
  refine sdown_heap T (by simp) (Desc.zero _) ⟨?_, ?_⟩
  · intro i h0 hi hk h1 h2
    rw [List.length_append, List.length_singleton] at hi
    rw [getD_app (by omega), getD_app (by omega)]
    exact H i h0 (by omega) hk
  · intro i h0 hi hpar
    rw [List.length_append, List.length_singleton] at hi
    omega

/-- as the hole goes down -/
def HoleU (d : α) (lt : α → α → Bool) (sp p : Nat) (l : List α) : Prop :=
  (∀ i, 0 < i → i < l.length → sp ≤ (i - 1) / 2 → i ≠ p → (i - 1) / 2 ≠ p → lt (l.getD i d) (l.getD ((i - 1) / 2) d) = false) ∧
  (∀ i, 0 < i → i < l.length → (i - 1) / 2 = p → sp < p → lt (l.getD i d) (l.getD ((p - 1) / 2) d) = false)
theorem child_par {l : List α} {p : Nat} : (child d lt l (2 * p + 1) - 1) / 2 = p := by unfold child; split <;> omega
theorem child_desc {l : List α} {sp p : Nat} (h : Desc sp p) : Desc sp (child d lt l (2 * p + 1)) := by
  unfold child
  split
  · exact h.right
  · exact h.left
theorem child_min (T : Tot lt) {l : List α} {p i : Nat} (h0 : 0 < i) (hi : i < l.length) (hpar : (i - 1) / 2 = p) : lt (l.getD i d) (l.getD (child d lt l (2 * p + 1)) d) = false := by
  have hc : i = 2 * p + 1 ∨ i = 2 * p + 2 := by omega
  unfold child
  rcases hc with rfl | rfl
  · split
    · rename_i h; exact h.2
    · exact T.irr _
  · split
    · exact T.irr _
    · rename_i h
      have h2 : ¬ lt (l.getD (2 * p + 1) d) (l.getD (2 * p + 1 + 1) d) = false := fun q => h ⟨hi, q⟩
      have h3 : lt (l.getD (2 * p + 1) d) (l.getD (2 * p + 1 + 1) d) = true := by simpa using h2
      exact T.asym h3
theorem suGo_heap (T : Tot lt) {sp : Nat} {x : α} : ∀ (f : Nat) (l : List α) (p : Nat), l.length ≤ p + f → p < l.length → Desc sp p → HoleU d lt sp p l →
    HoleD d lt x sp (suGo d lt f l p).2 (suGo d lt f l p).1 ∧ Desc sp (suGo d lt f l p).2 ∧ (suGo d lt f l p).2 < l.length ∧ (suGo d lt f l p).1.length = l.length ∧ ((suGo d lt f l p).1.set (suGo d lt f l p).2 x).Perm (l.set p x)
  | 0, l, p, hf, hp, hd, H => by omega
  | f + 1, l, p, hf, hp, hd, H => by
    unfold suGo
    by_cases hc : 2 * p + 1 < l.length
    · rw [if_pos hc]
      have hcl := child_lt (d := d) (lt := lt) hc
      have hcg := child_ge (d := d) (lt := lt) (l := l) (c := 2 * p + 1)
      have hcp := child_par (d := d) (lt := lt) (l := l) (p := p)
      have hcm := fun i h0 hi hpar => child_min (d := d) T (l := l) (p := p) (i := i) h0 hi hpar
      have hcd := child_desc (d := d) (lt := lt) (l := l) hd
      generalize child d lt l (2 * p + 1) = c at hcl hcg hcp hcm hcd
      have ih := suGo_heap T (x := x) f (l.set p (l.getD c d)) c (by rw [List.length_set]; omega) (by simpa using hcl) hcd ?_
      · rw [List.length_set] at ih
        exact ⟨ih.1, ih.2.1, ih.2.2.1, ih.2.2.2.1, ih.2.2.2.2.trans (hole_perm hp hcl)⟩
      · refine ⟨?_, ?_⟩
        · intro i h0 hi hk h1 h2
          rw [List.length_set] at hi
          by_cases h3 : i = p
          · subst h3
            rw [getD_self hp, getD_other (by omega)]
            exact H.2 c (by omega) hcl hcp (by omega)
          · rw [getD_other h3]
            by_cases h4 : (i - 1) / 2 = p
            · rw [h4, getD_self hp]
              exact hcm i h0 hi h4
            · rw [getD_other h4]
              exact H.1 i h0 hi hk h3 h4
        · intro i h0 hi hpar hlt
          rw [List.length_set] at hi
          rw [getD_other (by omega), hcp, getD_self hp]
          have := H.1 i h0 hi (by have := hd.le; omega) (by omega) (by omega)
          rw [hpar] at this
          exact this
    · rw [if_neg hc]
      refine ⟨⟨H.1, fun i h0 hi hpar => ?_⟩, hd, hp, rfl, List.Perm.refl _⟩
      dsimp only at hi hpar
      omega
theorem sup_heap (T : Tot lt) {l : List α} {p : Nat} (hp : p < l.length) (H : HpFrom d lt (p + 1) l) : HpFrom d lt p (sup d lt l p) ∧ (sup d lt l p).Perm l := by
  obtain ⟨h1, h2, h3, h4, h5⟩ := suGo_heap (d := d) T (sp := p) (x := l.getD p d) l.length l p (by omega) hp .refl ⟨fun i h0 hi hk h1 h2 => H i h0 hi (by omega), fun i h0 hi hpar hlt => absurd hlt (Nat.lt_irrefl _)⟩
  unfold sup
  rw [set_getD] at h5
  generalize suGo d lt l.length l p = r at h1 h2 h3 h4 h5
  have hr : r.2 < r.1.length := by omega
  have := sdown_heap (d := d) T (l := r.1.set r.2 (l.getD p d)) (sp := p) (p := r.2) (by simpa using hr) h2 ?_
  · exact ⟨this.1, this.2.trans h5⟩
  · rw [getD_self hr]
    refine ⟨?_, ?_⟩
    · intro i h0 hi hk hn1 hn2
      rw [List.length_set] at hi
      rw [getD_other hn1, getD_other hn2]
      exact h1.1 i h0 hi hk hn1 hn2
    · intro i h0 hi hpar
      rw [List.length_set] at hi
      rw [getD_other (by omega)]
      refine ⟨(h1.2 i h0 hi hpar).1, fun hlt => ?_⟩
      rw [getD_other (by omega)]
      exact (h1.2 i h0 hi hpar).2 hlt
theorem hpf_heap (T : Tot lt) : ∀ (k : Nat) (l : List α), k ≤ l.length → HpFrom d lt k l → HpFrom d lt 0 (hpf d lt k l) ∧ (hpf d lt k l).Perm l
  | 0, l, _, H => ⟨H, List.Perm.refl _⟩
  | k + 1, l, hk, H => by
    have h1 := sup_heap T (p := k) (by omega) H
    have h2 := hpf_heap T k (sup d lt l k) (by rw [h1.2.length_eq]; omega) h1.1
    exact ⟨h2.1, h2.2.trans h1.2⟩
theorem hp_half {l : List α} : HpFrom d lt (l.length / 2) l := fun i h0 hi hk => by omega
end
theorem tot_i : Tot iLt := ⟨fun {x y} h => by simp [iLt] at *; omega, fun {x y z} h1 h2 => by simp [iLt] at *; omega⟩
theorem tot_p : Tot pLt := ⟨fun {x y} h => by simp [pLt] at *; omega, fun {x y z} h1 h2 => by simp [pLt] at *; omega⟩
theorem heapedGo_heap : ∀ (r l : List Int), HpFrom 0 iLt 0 l → HpFrom 0 iLt 0 (heapedGo r l) ∧ (heapedGo r l).Perm (l ++ r)
  | [], l, H => ⟨H, by simp [heapedGo]⟩
  | x :: r, l, H => by
    have h1 := push_heap (x := x) tot_i H
    have h2 := heapedGo_heap r _ h1.1
    refine ⟨h2.1, h2.2.trans ?_⟩
    have := h1.2.append_right r
    simpa using this
theorem heaped_heap (ns : List Int) : HpFrom 0 iLt 0 (heaped ns) ∧ (heaped ns).Perm ns := by
  unfold heaped
  have h1 := hpf_heap (d := 0) tot_i ((ns.take (ns.length / 2)).length / 2) (ns.take (ns.length / 2)) (by omega) hp_half
  have h2 := heapedGo_heap (ns.drop (ns.length / 2)) _ h1.1
  refine ⟨h2.1, h2.2.trans ?_⟩
  have := h1.2.append_right (ns.drop (ns.length / 2))
  rwa [List.take_append_drop] at this
theorem iLt_le {a b : Int} (h : iLt a b = false) : b ≤ a := by
  have := of_decide_eq_false h
  omega
/-- the places of a branch -/
def subF : Nat → Nat → Nat → List Nat
  | 0, _, _ => []
  | f + 1, n, i => if i < n then i :: (subF f n (2 * i + 1) ++ subF f n (2 * i + 2)) else []
def sub (n i : Nat) : List Nat := subF n n i
theorem subF_more {n : Nat} : ∀ (f i : Nat), n ≤ i + f → subF (f + 1) n i = subF f n i
  | 0, i, h => by unfold subF; rw [if_neg (by omega)]
  | f + 1, i, h => by
    unfold subF
    by_cases hi : i < n
    · rw [if_pos hi, if_pos hi, subF_more f (2 * i + 1) (by omega), subF_more f (2 * i + 2) (by omega)]
    · rw [if_neg hi, if_neg hi]
theorem sub_eq {n i : Nat} (h : i < n) : sub n i = i :: (sub n (2 * i + 1) ++ sub n (2 * i + 2)) := by
  unfold sub
  rw [← subF_more n i (by omega)]
  conv => lhs; unfold subF
  rw [if_pos h]
theorem sub_out {n i : Nat} (h : ¬ i < n) : sub n i = [] := by
  unfold sub
  rw [← subF_more n i (by omega)]
  unfold subF
  rw [if_neg h]
def vals (pile : List Int) (i : Nat) : List Int := (sub pile.length i).map fun k => pile.getD k 0
theorem vals_eq {pile : List Int} {i : Nat} (h : i < pile.length) : vals pile i = pile.getD i 0 :: (vals pile (2 * i + 1) ++ vals pile (2 * i + 2)) := by
  unfold vals
  rw [sub_eq h]
  simp
theorem vals_out {pile : List Int} {i : Nat} (h : ¬ i < pile.length) : vals pile i = [] := by unfold vals; rw [sub_out h]; rfl
theorem subF_low {pile : List Int} (H : HpFrom 0 iLt 0 pile) : ∀ (f i k : Nat), i < pile.length → k ∈ subF f pile.length i → pile.getD i 0 ≤ pile.getD k 0
  | 0, _, _, _, hk => nomatch hk
  | f + 1, i, k, hi, hk => by
    unfold subF at hk
    rw [if_pos hi] at hk
    have go : ∀ c, (c - 1) / 2 = i → 0 < c → k ∈ subF f pile.length c → pile.getD i 0 ≤ pile.getD k 0 := fun c hc h0 hk => by
      by_cases hcl : c < pile.length
      · have h1 := H c h0 hcl (Nat.zero_le _)
        rw [hc] at h1
        exact Int.le_trans (iLt_le h1) (subF_low H f c k hcl hk)
      · cases f with
        | zero => exact nomatch hk
        | succ f => unfold subF at hk; rw [if_neg hcl] at hk; exact nomatch hk
    rcases List.mem_cons.mp hk with rfl | hk
    · exact Int.le_refl _
    · rcases List.mem_append.mp hk with hk | hk
      · exact go _ (by omega) (by omega) hk
      · exact go _ (by omega) (by omega) hk
theorem vals_low {pile : List Int} (H : HpFrom 0 iLt 0 pile) {i : Nat} (hi : i < pile.length) {v : Int} (hv : v ∈ vals pile i) : pile.getD i 0 ≤ v := by
  obtain ⟨k, hk, rfl⟩ := List.mem_map.mp hv
  exact subF_low H _ i k hi hk
theorem hp_min {l : List (Int × Nat)} (H : HpFrom (0, 0) pLt 0 l) : ∀ i, i < l.length → pLt (l.getD i (0, 0)) (l.getD 0 (0, 0)) = false := by
  intro i
  induction i using Nat.strongRecOn with
  | ind i ih =>
    intro hi
    by_cases h0 : i = 0
    · subst h0; exact tot_p.irr _
    · have h1 := H i (by omega) hi (Nat.zero_le _)
      have h2 := ih ((i - 1) / 2) (by omega) (by omega)
      exact tot_p.tr h2 h1
theorem wPop_heap {fr : List (Int × Nat)} (H : HpFrom (0, 0) pLt 0 fr) (h : 0 < fr.length) : HpFrom (0, 0) pLt 0 (wPop fr) ∧ (fr.getD 0 (0, 0) :: wPop fr).Perm fr := by
  unfold wPop
  split
  · rename_i h1
    refine ⟨fun i _ hi _ => absurd hi (Nat.not_lt_zero _), ?_⟩
    obtain ⟨q, rfl⟩ := List.length_eq_one_iff.mp h1
    exact List.Perm.refl _
  · rename_i h1
    have hdl : fr.dropLast.length = fr.length - 1 := by simp
    have hg : ∀ i, i < fr.length - 1 → fr.dropLast.getD i (0, 0) = fr.getD i (0, 0) := fun i hi => by
      rw [getD_elem (by omega), getD_elem (by omega), List.getElem_dropLast]
    have hs := sup_heap (d := (0, 0)) tot_p (l := fr.dropLast.set 0 (fr.getD (fr.length - 1) (0, 0))) (p := 0) (by simp; omega) ?_
    · refine ⟨hs.1, (hs.2.cons _).trans ?_⟩
      obtain ⟨q, r, rfl⟩ : ∃ q r, fr = q :: r := by
        cases fr with
        | nil => exact absurd h (Nat.lt_irrefl _)
        | cons q r => exact ⟨q, r, rfl⟩
      have hr : r ≠ [] := by rintro rfl; exact h1 rfl
      have hl : (q :: r).getD ((q :: r).length - 1) (0, 0) = r.getLast hr := by
        rw [getD_elem (by simp), List.getLast_eq_getElem]
        have : 0 < r.length := List.length_pos_iff.mpr hr
        simp only [List.length_cons, Nat.add_sub_cancel]
        rw [List.getElem_cons]
        simp only [show ¬ r.length = 0 by omega, dif_neg, not_false_eq_true]
      rw [hl, List.dropLast_cons_of_ne_nil hr, List.set_cons_zero]
      show (q :: r.getLast hr :: r.dropLast).Perm (q :: r)
      refine List.Perm.cons _ ?_
      conv => rhs; rw [← List.dropLast_concat_getLast hr]
      exact (List.perm_append_singleton _ _).symm
    · intro i h0 hi hk
      rw [List.length_set, hdl] at hi
      rw [getD_other (by omega), getD_other (by omega), hg _ hi, hg _ (by omega)]
      exact H i h0 (by omega) (Nat.zero_le _)
theorem wPush_heap {pile : List Int} {b : Nat} {fr : List (Int × Nat)} (H : HpFrom (0, 0) pLt 0 fr) :
    HpFrom (0, 0) pLt 0 (wPush pile b fr) ∧ ((wPush pile b fr).flatMap fun q => vals pile q.2).Perm ((fr.flatMap fun q => vals pile q.2) ++ vals pile b) ∧ ∀ q ∈ wPush pile b fr, q ∈ fr ∨ (b < pile.length ∧ q = (pile.getD b 0, b)) := by
  unfold wPush
  split
  · rename_i hb
    have hp := push_heap (d := (0, 0)) (x := (pile.getD b 0, b)) tot_p H
    refine ⟨hp.1, ?_, fun q hq => ?_⟩
    · have := hp.2.flatMap_right (fun q : Int × Nat => vals pile q.2)
      simpa using this
    · rcases List.mem_append.mp (hp.2.mem_iff.mp hq) with h | h
      · exact .inl h
      · exact .inr ⟨hb, List.mem_singleton.mp h⟩
  · rename_i hb
    rw [vals_out hb, List.append_nil]
    exact ⟨H, List.Perm.refl _, fun q hq => .inl hq⟩
theorem sorted_snoc {l : List Int} {x : Int} (h : l.Pairwise (· ≤ ·)) (hx : ∀ t ∈ l, t ≤ x) : (l ++ [x]).Pairwise (· ≤ ·) := by
  rw [List.pairwise_append]
  exact ⟨h, by simp, fun a ha b hb => by rw [List.mem_singleton.mp hb]; exact hx a ha⟩
theorem walk_tells {pile : List Int} (H : HpFrom 0 iLt 0 pile) {br : List Int} : ∀ (k : Nat) (fr : List (Int × Nat)) (told : List Int), HpFrom (0, 0) pLt 0 fr →
    (∀ q ∈ fr, q.2 < pile.length ∧ q.1 = pile.getD q.2 0) → told.Pairwise (· ≤ ·) → (∀ t ∈ told, ∀ q ∈ fr, t ≤ q.1) →
    (told ++ fr.flatMap fun q => vals pile q.2).Perm br → told.length + k ≤ br.length → walkGo pile k fr told = some ((isort br).take (told.length + k))
  | 0, fr, told, hf, hq, hs, hle, hp, hk => by
    unfold walkGo
    have h1 : told ++ isort (fr.flatMap fun q => vals pile q.2) = isort br := by
      refine isort_unique (((isort_perm _).append_left told).trans hp) ?_
      rw [List.pairwise_append]
      refine ⟨hs, isort_sorted _, fun a ha b hb => ?_⟩
      have hb' := (isort_perm _).mem_iff.mp hb
      obtain ⟨q, hqm, hv⟩ := List.mem_flatMap.mp hb'
      have h2 := hle a ha q hqm
      have h3 := vals_low H (hq q hqm).1 hv
      rw [(hq q hqm).2] at h2
      omega
    rw [← h1, Nat.add_zero, List.take_left' rfl]
  | k + 1, fr, told, hf, hq, hs, hle, hp, hk => by
    have hne : 0 < fr.length := by
      refine Nat.pos_of_ne_zero fun h => ?_
      have : fr = [] := List.length_eq_zero_iff.mp h
      subst this
      have := hp.length_eq
      simp at this
      omega
    unfold walkGo
    rw [if_neg (by omega)]
    have hpop := wPop_heap hf hne
    have hm : fr.getD 0 (0, 0) ∈ fr := by rw [getD_elem hne]; exact List.getElem_mem _
    have hmin : ∀ q ∈ fr, (fr.getD 0 (0, 0)).1 ≤ q.1 := fun q hq => by
      obtain ⟨i, hi, rfl⟩ := List.getElem_of_mem hq
      have := hp_min hf i hi
      rw [getD_elem (d := (0, 0)) hi] at this
      generalize fr.getD 0 (0, 0) = z at this
      simp [pLt] at this
      omega
    generalize fr.getD 0 (0, 0) = z at hpop hm hmin
    have hz := hq z hm
    have h1 := wPush_heap (pile := pile) (b := 2 * z.2 + 1) hpop.1
    have h2 := wPush_heap (pile := pile) (b := 2 * z.2 + 2) h1.1
    have hin : ∀ q ∈ wPush pile (2 * z.2 + 2) (wPush pile (2 * z.2 + 1) (wPop fr)), q ∈ fr ∨ ∃ b, b < pile.length ∧ (b - 1) / 2 = z.2 ∧ 0 < b ∧ q = (pile.getD b 0, b) := fun q hq => by
      rcases h2.2.2 q hq with h | ⟨h, e⟩
      · rcases h1.2.2 q h with h | ⟨h, e⟩
        · exact .inl (hpop.2.mem_iff.mp (.tail _ h))
        · exact .inr ⟨_, h, by omega, by omega, e⟩
      · exact .inr ⟨_, h, by omega, by omega, e⟩
    have ih := walk_tells H (br := br) k (wPush pile (2 * z.2 + 2) (wPush pile (2 * z.2 + 1) (wPop fr))) (told ++ [z.1]) h2.1 ?_ ?_ ?_ ?_ ?_
    · rw [ih, List.length_append, List.length_singleton, Nat.add_assoc, Nat.add_comm 1 k]
    · intro q hq'
      rcases hin q hq' with h | ⟨b, hb, _, _, rfl⟩
      · exact hq q h
      · exact ⟨hb, rfl⟩
    · exact sorted_snoc hs fun t ht => hle t ht z hm
    · intro t ht q hq'
      have htz : t ≤ z.1 := by
        rcases List.mem_append.mp ht with h | h
        · exact hle t h z hm
        · rw [List.mem_singleton.mp h]; exact Int.le_refl _
      have hzq : z.1 ≤ q.1 := by
        rcases hin q hq' with h | ⟨b, hb, hpar, h0, rfl⟩
        · exact hmin q h
        · have := H b h0 hb (Nat.zero_le _)
          rw [hpar] at this
          rw [hz.2]
          exact iLt_le this
      exact Int.le_trans htz hzq
    · refine List.Perm.trans ?_ hp
      rw [List.append_assoc]
      refine List.Perm.append_left _ ?_
      have e1 := hpop.2.flatMap_right (fun q : Int × Nat => vals pile q.2)
      refine List.Perm.trans ?_ e1
      rw [List.flatMap_cons, vals_eq hz.1, ← hz.2]
      show (z.1 :: _).Perm (z.1 :: _)
      refine List.Perm.cons _ ?_
      refine h2.2.1.trans ?_
      refine (h1.2.1.append_right _).trans ?_
      rw [List.append_assoc]
      exact List.perm_append_comm
    · rw [List.length_append, List.length_singleton]; omega
theorem walk_from {pile : List Int} (H : HpFrom 0 iLt 0 pile) {place : Nat} (hpl : place < pile.length) {br : List Int} (hbr : (vals pile place).Perm br) {k : Nat} (hk : k ≤ br.length) :
    walkGo pile k [(pile.getD place 0, place)] [] = some ((isort br).take k) := by
  have := walk_tells H (br := br) k [(pile.getD place 0, place)] [] (fun i h0 hi _ => by simp at hi; omega) (fun q hq => by rw [List.mem_singleton.mp hq]; exact ⟨hpl, rfl⟩) .nil (fun t ht => nomatch ht) (by simpa using hbr) (by simpa using hk)
  simpa using this
def onlyB (place k : Nat) : Bool := (sub 9 place).contains k
theorem name_facts : ∀ place < 9, (nameOf place).length ≤ 18 := by decide +kernel
theorem takes_facts : ∀ place < 9, ∀ k < 9, takes (trItems (nameOf place ++ Str.ofString "*") (nameOf place).length) (nameOf k) = onlyB place k := by decide +kernel
theorem prefix_facts : ∀ place < 9, ∀ k < 9, (Txt.slice (nameOf k) none (some ((nameOf place).length : Int)) == nameOf place) = onlyB place k := by decide +kernel
theorem sub_facts : ∀ n < 10, ∀ place < n, (sub n place).isPerm ((List.range n).filter fun k => onlyB place k) = true := by decide +kernel
def patB (place : Nat) : Bool := (nameOf place ++ Str.ofString "*").length == (nameOf place).length + 1 &&
  ((List.range (nameOf place).length).all fun i => Txt.item (nameOf place ++ Str.ofString "*") (i : Int) == ⟨#[46]⟩ || Txt.item (nameOf place ++ Str.ofString "*") (i : Int) == ⟨#[91]⟩) &&
  Txt.item (nameOf place ++ Str.ofString "*") ((nameOf place).length : Int) == ⟨#[42]⟩
theorem pat_facts : ∀ place < 9, patB place = true := by decide +kernel
theorem pat_ok {place : Nat} (h : place < 9) : PatOk (nameOf place ++ Str.ofString "*") (nameOf place).length := by
  have := pat_facts place h
  unfold patB at this
  rw [Bool.and_eq_true, Bool.and_eq_true, List.all_eq_true] at this
  obtain ⟨⟨h1, h2⟩, h3⟩ := this
  refine ⟨eq_of_beq h1, fun i hi => ?_, eq_of_beq h3⟩
  have := h2 i (List.mem_range.mpr hi)
  rw [Bool.or_eq_true] at this
  exact this.imp eq_of_beq eq_of_beq
theorem brIdx_eq {n place : Nat} (hn : n ≤ 9) (hp : place < n) : brIdx n place = (List.range n).filter fun k => onlyB place k := by
  unfold brIdx
  refine List.filter_congr fun k hk => ?_
  rw [Int.toNat_natCast]
  exact takes_facts place (by omega) k (by have := List.mem_range.mp hk; omega)
theorem vals_branch {pile : List Int} {place : Nat} (hn : pile.length ≤ 9) (hp : place < pile.length) : (vals pile place).Perm (branch pile place) := by
  unfold vals branch
  rw [brIdx_eq hn hp]
  exact (List.isPerm_iff.mp (sub_facts pile.length (by omega) place hp)).map _
theorem branch_pos {pile : List Int} {place : Nat} (hn : pile.length ≤ 9) (hp : place < pile.length) : 0 < (branch pile place).length := by
  rw [← (vals_branch hn hp).length_eq, vals_eq hp]
  simp
theorem told_walk {pile : List Int} (H : HpFrom 0 iLt 0 pile) {place : Nat} (hn : pile.length ≤ 9) (hp : place < pile.length) : walkGo pile ((branch pile place).length / 2 + 1) [(pile.getD place 0, place)] [] = some (told pile place) := by
  have := branch_pos hn hp
  exact walk_from H hp (vals_branch hn hp) (by omega)
theorem getD_take {l : List Int} {m i : Nat} (h : i < m) : (l.take m).getD i 0 = l.getD i 0 := by
  simp [List.getD, List.getElem?_take, h]
theorem told_low {pile : List Int} {place : Nat} (hn : pile.length ≤ 9) (hp : place < pile.length) : medLow (branch pile place) = (told pile place).getD (((branch pile place).length - 1) / 2) 0 := by
  have := branch_pos hn hp
  unfold medLow told
  rw [getD_take (by omega)]
  split
  · rw [show (branch pile place).length / 2 = ((branch pile place).length - 1) / 2 by omega]
  · rw [show (branch pile place).length / 2 - 1 = ((branch pile place).length - 1) / 2 by omega]
theorem told_high {pile : List Int} {place : Nat} (hn : pile.length ≤ 9) (hp : place < pile.length) : medHigh (branch pile place) = (told pile place).getD ((told pile place).length - 1) 0 := by
  have := branch_pos hn hp
  have hl : (told pile place).length = (branch pile place).length / 2 + 1 := by unfold told; rw [List.length_take, isort_length]; omega
  rw [hl]
  unfold medHigh told
  rw [getD_take (by omega), Nat.add_sub_cancel]
theorem pre_facts {n place : Nat} (hn : n ≤ 9) (hp : place < n) : ∀ k, k < n → takes (trItems (nameOf place ++ Str.ofString "*") (nameOf place).length) (nameOf ((k : Int)).toNat) = (Txt.slice (nameOf ((k : Int)).toNat) none (some ((nameOf place).length : Int)) == nameOf place) := by
  intro k hk
  rw [Int.toNat_natCast, takes_facts place (by omega) k (by omega), prefix_facts place (by omega) k (by omega)]
example : True := by
  w_top off
  trivial
theorem pick_five {vs : List Value} : kms_pick vs.toArray.toList none (some 5) = vs.take 5 := by
  unfold kms_pick kms_lo kms_hi
  simp only [List.drop_zero, Nat.sub_zero]
  rw [if_neg (by decide)]
  show vs.take (min 5 vs.length) = vs.take 5
  by_cases h : 5 ≤ vs.length
  · rw [Nat.min_eq_left h]
  · rw [Nat.min_eq_right (by omega), List.take_of_length_le (by omega), List.take_of_length_le (by omega)]
/-- the numbers dealt -/
def dealt (ns : List Int) : List Int := [5, 2, 7, 2] ++ (ns.take 5).map (fun x => x.fmod 9)
theorem dealt_length (ns : List Int) : 4 ≤ (dealt ns).length ∧ (dealt ns).length ≤ 9 := by
  unfold dealt
  simp
  omega
theorem g_addL {prog : Program} {w : World} {A : Around} {E : Value → Shared → Prop} {s : Shared} {h₀ : Heap} {L a b : Addr} {m : Str → Option Value} {news : List (Addr × Obj)} {vs us : List Value} {n k : Nat} {Q : Value → Shared → Prop} (F : Fr h₀ L s.heap m) (N : News h₀ L s.heap news)
    (ha : s.heap.get? a = some (listOf vs.toArray n)) (hb : s.heap.get? b = some (listOf us.toArray k)) (hz : vs.length + us.length ≤ 1000) (h : ∀ D h', Fr h₀ L h' m → News h₀ L h' ((D, listOf (vs ++ us).toArray 0) :: news) → (∀ p ∈ news, p.1 < D) → Q (.ref D) { s with heap := h' }) :
    wpAny (model prog w) A (binaryOp .Add (.ref a) (.ref b)) Q E s :=
  kmk_add_lit F N (PySem.IsL.isList (n := n) ha) (PySem.IsL.isList (n := k) hb) (zs := vs ++ us) rfl h (by rw [sizeLine_eq]; show vs.length + us.length ≤ _; omega)
theorem g_mod9 {prog : Program} {w : World} {A : Around} {E : Value → Shared → Prop} {s : Shared} {Q : Value → Shared → Prop} {i : Int} {t u : Tok} (h : Q (.int (i.fmod 9) s.toks) { s with toks := s.toks + 1 }) :
    wpAny (model prog w) A (binaryOp .Mod (.int i t) (.int 9 u)) Q E s := mod_int (by decide) h
/-- a place's name, place by place -/
def PairN (v y : Value) : Prop := ∃ (j : Nat) (t t' : Tok), v = .int (j : Int) t ∧ y = .str (nameOf j) t'
theorem paired_get {F : Value → Value → Prop} {us ys : List Value} (h : Paired F us ys) : ys.length = us.length ∧ ∀ (i : Nat) (v : Value), us[i]? = some v → ∃ y : Value, ys[i]? = some y ∧ F v y := by
  induction h with
  | nil => exact ⟨rfl, fun i v e => by simp at e⟩
  | cons hf r ih =>
    refine ⟨by simp [ih.1], fun i v e => ?_⟩
    cases i with
    | zero => simp at e ⊢; rw [← e]; exact hf
    | succ i => simp at e ⊢; exact ih.2 i v e
theorem names_of {n : Nat} {us ys : List Value} (hl : us.length = n) (hP : ∀ j v, us[j]? = some v → NumAt n j v) (hF : Paired PairN (us.filter fun _ => true) ys) : ys.length = n ∧ ∀ i, i < n → IsS (ys.getD i .none) (nameOf i) := by
  rw [show (us.filter fun _ => true) = us by simp] at hF
  obtain ⟨h1, h2⟩ := paired_get hF
  refine ⟨h1.trans hl, fun i hi => ?_⟩
  have hu : us[i]? = some us[i] := List.getElem?_eq_getElem (by omega)
  obtain ⟨y, hy, j, t, t', e1, rfl⟩ := h2 i _ hu
  obtain ⟨_, t2, e2⟩ := hP i _ hu
  rw [e1] at e2
  injection e2 with e3 _
  have : j = i := by omega
  subst this
  exact ⟨t', by rw [List.getD_eq_getElem?_getD, hy]; rfl⟩
theorem g_eqSame {prog : Program} {w : World} {A : Around} {E : Value → Shared → Prop} {s : Shared} {a b : Addr} {vs us : List Value} {ns ms : List Int} {n n' : Nat} {Q : Value → Shared → Prop} (ho : s.heap.get? a = some (listOf vs.toArray n)) (hi : Ints vs ns) (ho' : s.heap.get? b = some (listOf us.toArray n')) (hi' : Ints us ms) (hu : A.units + 64 < cLine) (e : ns = ms) (h : Q (.bool true) s) : wpAny (model prog w) A (compareOp .Eq (.ref a) (.ref b)) Q E s :=
  g_eqL ho hi ho' hi' hu (by rw [decide_eq_true e]; exact h)
theorem isort_perm_eq {a b : List Int} (h : a.Perm b) : isort a = isort b := isort_unique ((isort_perm a).trans h) (isort_sorted a)
section
local macro_rules
  | `(tactic| walk_at "call builtin:len") => `(tactic| walk_at "mine 3")
  | `(tactic| walk_at "eval Name") => `(tactic| walk_at "mine 8")
  | `(tactic| walk_at "compareOp Eq ref ref") => `(tactic| refine Halt.mk ?_)
  | `(tactic| walk_at "call builtin:sorted") => `(tactic| walk_at "mine 7")
  | `(tactic| walk_at "binaryOp Mod int int") => `(tactic| (refine g_mod9 ?_))
  | `(tactic| walk_at "binaryOp Add ref ref") => `(tactic| refine Halt.mk ?_)
  | `(tactic| walk_at "subscriptTail Name Slice ref ref") => `(tactic| (k_here; (with_reducible show wpAny _ _ (subscriptTail _ (PySem.Expr.Slice _ _ none _) (Value.ref _) (Value.ref _)) _ _ _); k_dflt (refine' kms_slice_lit ?F ?N ?l ?p ?q ?e ?_ ?s ?t ?z; (case F => k_asm); (case N => k_asm); (case l => kmk_list); (case p => kmk_part); (case q => kmk_part); (case e => exact pick_five); (case s => with_unfolding_all rfl); (case t => kmk_pure); (case z => exact g_size (by omega))); intro D' h' F' N' l1; (try k_lt l1); (try k_sweep)))
  | `(tactic| walk_at "newList") => `(tactic| refine Halt.mk ?_)
  | `(tactic| walk_at "exec Assign Name ListComp") => `(tactic| refine Halt.mk ?_)
  | `(tactic| walk_at "eval ListComp") => `(tactic| refine Halt.mk ?_)
  | `(tactic| walk_at "exec Assign cons ListComp") => `(tactic| refine Halt.mk ?_)
  | `(tactic| walk_at "call ref cons") => `(tactic| refine Halt.mk ?_)
  | `(tactic| walk_at "call ref cons nil") => `(tactic| refine Halt.mk ?_)
local macro_rules | `(tactic| walk_at "mine 0") => `(tactic| skip)

theorem law_spec {prog : Program} {w : World} {A : Around} {s : Shared} {h₀ : Heap} {mean : ExcName → Option Value} {mg mb : Str → Option Value} {Q : Value → Shared → Prop} {E : Value → Shared → Prop}
  (ra : Addr) (rv : List Value) (ns : List Int) (hA : Ok A 14) (G : Gd w mean mg mb s.heap)
  (hr : s.heap.IsList ra rv.toArray) (hi : Ints rv ns) (hz : ns.length < 64)
  (hret : ∀ h' tk', StayBut [] s.heap h' → Q (.bool true) { s with heap := h', toks := tk' }) :
  wpAny (model prog w) A (call (.ref 153) [.ref ra]) Q E s := by
  refine wpAny_call ?_
  refine' enterC (binds := [(Str.ofString "script", .ref ra)]) hA.room G ?k6 ?k7 ?k9 ?kB ?kD ?_ ?c2 ?c3 ?c4
  case k6 => k_is
  case k7 => k_is
  case k9 => exact rfl
  case kB => exact rfl
  case kD => decide +kernel
  case c2 => exact rfl
  case c3 => exact rfl
  case c4 => exact rfl
  intro g L h₁ tk0 cells G' hs F N Y
  obtain ⟨X, T⟩ := G'
  obtain ⟨o1, o2, rfl, d1, d2⟩ := Y.two
  dsimp only at *
  have hr' : g.IsList ra rv.toArray := hr.at fun o e => hs _ _ e (by simp)
  have hil := hi.length
  have hA1 : ∀ env, Ok (A.deeper env) 13 := fun env => hA.deeper
  k_steps
  refine Halt.of (g_newList F N (by simp) ?_)
  intro D0 h' F' N' l1
  have e1 : @Ne Nat (L + 1) D0 := Nat.ne_of_lt (l1 (L + 1, o2) (.tail _ (.head _)))
  have e2 : @Ne Nat (L + 1 + 1) D0 := Nat.ne_of_lt (l1 (L + 1 + 1, o1) (.head _))
  clear l1
  k_steps
  refine Halt.of ?_
  refine' comp_list (cl := []) (fun v => (fun _ : Int => true) (keyI v)) (PairI fun i => i.fmod 9) ?hh ?clos ?cell rfl ?names rfl ?_
  case hh => exact hA.hh
  case clos => with_unfolding_all rfl
  case cell => decide
  case names => decide
  k_steps
  rename Fr _ _ _ _ => F₂
  rename News _ _ _ _ => N₂
  have hi5 : Ints (rv.take 5) (ns.take 5) := hi.take 5
  have hl5 : (rv.take 5).length ≤ 5 := by rw [List.length_take]; omega
  refine Halt.of ⟨_, rv.take 5, 0, rfl, (N₂ _ (.head _)).1, by omega, ?turn, ?done⟩
  case turn =>
    intro C g' j v s₃ m₃ E' hP F₃ hm₃ hg
    obtain ⟨ii, tj, rfl⟩ := hi5.1 v (List.mem_of_getElem? hP)
    obtain ⟨u₃, rfl⟩ := Has.lm (ps := [(Str.ofString "x", .int ii tj)]) ⟨hm₃, trivial⟩
    have X' := X.keeps fun b o e => hg b o (F₂.keep b o e)
    have T' := T.keeps fun b o e => hg b o (F₂.keep b o e)
    clear F₂ N₂
    refine ⟨compOk_nil (Halt.of ⟨rfl, _, _, rfl, F₃⟩), fun hp => ?_⟩
    k_steps
    exact Halt.of ⟨⟨_, _, _, rfl, rfl⟩, _, _, rfl, F₃⟩
  case done =>
    intro D1 h2 tk2 ys us k2 hD1 hs2 ho2 hul hPu hFu
    have F3 := fr_keep F₂ hs2
    have N3 := news_new F₂ N₂ hs2 hD1 ho2
    have hus := same_list hul hPu
    subst hus
    have hy : Ints ys ((ns.take 5).map fun i => i.fmod 9) := by
      have hy0 := (Ints.filter (P := fun _ => true) hi5).paired hFu
      have e : (ns.take 5).filter (fun _ => true) = ns.take 5 := by simp
      rw [e] at hy0
      exact hy0
    have hyl := hy.length
    rw [List.length_map, List.length_take] at hyl
    have hyl5 : ys.length ≤ 5 := by omega
    clear hs2 ho2 hPu hFu hul
    have N3 := news_sub (news' := [(D1, listOf (List.toArray ys) k2), (D0, _), (L + 1 + 1, o1), (L + 1, o2)]) N3 (fun q hq => by
      rcases List.mem_cons.mp hq with rfl | hq
      · exact .head _
      · exact .tail _ (.tail _ hq))
    clear F₂ N₂
    k_steps
    refine Halt.of (g_addL F3 N3 (N3 (D0, _) (.tail _ (.head _))).1 (N3 _ (.head _)).1 (by simp; omega) ?_)
    intro D2 h' F' N' l1
    have e3 : @Ne Nat (L + 1) D2 := Nat.ne_of_lt (l1 (L + 1, o2) (.tail _ (.tail _ (.tail _ (.head _)))))
    have e4 : @Ne Nat (L + 1 + 1) D2 := Nat.ne_of_lt (l1 (L + 1 + 1, o1) (.tail _ (.tail _ (.head _))))
    have hrow : Ints ([.int 5 tk0, .int 2 (tk0 + 1), .int 7 (tk0 + 1 + 1), .int 2 (tk0 + 1 + 1 + 1)] ++ ys) (dealt ns) :=
      Ints.append ⟨fun v hv => by simp at hv; rcases hv with rfl | rfl | rfl | rfl <;> exact ⟨_, _, rfl⟩, rfl⟩ hy
    generalize [Value.int 5 tk0, .int 2 (tk0 + 1), .int 7 (tk0 + 1 + 1), .int 2 (tk0 + 1 + 1 + 1)] ++ ys = row at N' hrow
    have hrl := hrow.length
    have hdl := dealt_length ns
    have N' := news_sub (news' := [(D2, listOf (List.toArray row) 0), (L + 1 + 1, o1), (L + 1, o2)]) N' (fun q hq => by
      rcases List.mem_cons.mp hq with rfl | hq
      · exact .head _
      · exact .tail _ (.tail _ (.tail _ hq)))
    clear l1 F3 N3 e1 e2 hy hyl hyl5 hi5 hl5
    k_steps
    refine Halt.of ?_
    rename Fr _ _ _ _ => F'
    rename News _ _ _ _ => N'
    refine heaped_spec (h₀ := g) D2 row (dealt ns) 0 ((hA1 _).le (by decide)) (Gd.keeps ⟨X, T⟩ F'.keep) (N' (D2, listOf (List.toArray row) 0) (.head _)).1 hrow (by omega) ?_
    intro P ws k h3 tk3 hs3 hP hPo hws
    have F4 := fr_keep F' hs3
    have N4 := news_new F' N' hs3 hP hPo
    have hoff := new_off N' hP
    have e5 : @Ne Nat (L + 1) P := hoff (L + 1, o2) (.tail _ (.tail _ (.head _)))
    have e6 : @Ne Nat (L + 1 + 1) P := hoff (L + 1 + 1, o1) (.tail _ (.head _))
    have e7 : @Ne Nat D2 P := hoff (D2, listOf (List.toArray row) 0) (.head _)
    clear hoff F' N' hs3 hP hPo
    have hpl := heaped_heap (dealt ns)
    generalize heaped (dealt ns) = pile at hws hpl
    have hpn : pile.length = (dealt ns).length := hpl.2.length_eq
    have hwl := hws.length
    k_steps
    refine Halt.of ?_
    rename Fr _ _ _ _ => F'
    rename News _ _ _ _ => N'
    rename Obj.data _ = Data.cell (some (Value.ref P)) => ep
    rename Obj => op
    refine wpAny_Assign_Name ?_ (by with_unfolding_all rfl)
    refine' comp_range (cl := []) (fun _ => true) PairN ?hh ?clos ?cell rfl ?names rfl ?_
    case hh => exact hA.hh
    case clos => with_unfolding_all rfl
    case cell => decide
    case names => decide
    k_steps
    rename IsRange _ _ _ _ _ _ _ _ => R
    rename Fr _ _ _ _ => F₂
    rename News _ _ _ _ => N₂
    refine Halt.of ⟨_, pile.length, _, _, _, rfl, (by rw [← hwl]; exact R), by omega, ?turn2, ?done2⟩
    case turn2 =>
      intro C g' j v s₃ m₃ E' hP F₃ hm₃ hg
      obtain ⟨hjn, tj, rfl⟩ := hP
      obtain ⟨u₃, rfl⟩ := Has.lm (ps := [(Str.ofString "place", .int (j : Nat) tj)]) ⟨hm₃, trivial⟩
      have X' := X.keeps fun b o e => hg b o (F₂.keep b o e)
      have T' := T.keeps fun b o e => hg b o (F₂.keep b o e)
      clear F₂ N₂ R
      refine ⟨compOk_nil (Halt.of ⟨rfl, _, _, rfl, F₃⟩), fun hp => ?_⟩
      k_steps
      refine Halt.of ?_
      refine name_spec (h₀ := g') j tj ((hA1 _).le (by decide)) (Gd.keeps ⟨X', T'⟩ F₃.keep) (by omega) ?_
      intro t5 h5 tk5 hs5
      have F5 := fr_keep F₃ hs5
      clear F₃ hs5
      k_steps
      exact Halt.of ⟨⟨_, _, _, rfl, rfl⟩, _, _, rfl, F5⟩
    case done2 =>
      intro NA h4 tk4 nv us4 k4 hNA hs4 ho4 hul4 hPu4 hFu4
      have F5 := fr_keep F₂ hs4
      have N5 := news_new F₂ N₂ hs4 hNA ho4
      have hoff := new_off N₂ hNA
      obtain ⟨hnl, hnv⟩ := names_of hul4 hPu4 hFu4
      have f1 : @Ne Nat (L + 1) NA := hoff (L + 1, op) (.tail _ (.tail _ (.tail _ (.head _))))
      have f2 : @Ne Nat (L + 1 + 1) NA := hoff (L + 1 + 1, o1) (.tail _ (.tail _ (.head _)))
      have f3 : @Ne Nat D2 NA := hoff (D2, listOf (List.toArray row) 0) (.tail _ (.head _))
      have f4 : @Ne Nat P NA := hoff (P, listOf (List.toArray ws) k) (.head _)
      clear F₂ N₂ R hoff hs4 hNA ho4 hul4 hPu4 hFu4
      k_steps
      refine Halt.of ?_
      rename Fr _ _ _ _ => F'
      rename News _ _ _ _ => N'
      rename Obj.data _ = Data.cell (some (Value.ref NA)) => en
      rename Obj => on
      obtain ⟨u0, F0⟩ := fr_lm F' (ps := [(Str.ofString "row", .ref D2)]) ⟨rfl, trivial⟩
      clear F'
      refine' comp_rangeA (m := lm [(Str.ofString "row", .ref D2)] u0) (cl := [(Str.ofString "pile", L + 1), (Str.ofString "names", L + 1 + 1)]) (fun _ => false) (PairI id) ?hsw ?hh ?clos ?cell rfl ?names rfl rfl ?hp ?_
      case hsw => with_unfolding_all rfl
      case hh => exact hA.hh
      case clos => with_unfolding_all rfl
      case cell => decide
      case names => decide
      case hp => rfl
      k_steps
      rename IsRange _ _ _ _ _ _ _ _ => R
      rename Fr _ _ _ _ => F₂
      rename News _ _ _ _ => N₂
      refine Halt.of ⟨_, pile.length, _, _, _, rfl, (by rw [← hwl]; exact R), by omega, F₂.ns, ?turn3, ?done3⟩
      case turn3 =>
        intro C g' j v s₃ m₃ E' hP F₃ hm₃ hg
        obtain ⟨hjn, tj, rfl⟩ := hP
        obtain ⟨u₃, rfl⟩ := Has.lm (ps := [(Str.ofString "place", .int (j : Nat) tj)]) ⟨hm₃, trivial⟩
        have X' := X.keeps fun b o e => hg b o (F₂.keep b o e)
        have T' := T.keeps fun b o e => hg b o (F₂.keep b o e)
        have cp : g'.get? (L + 1) = some op := hg _ _ (N₂ (L + 1, op) (.tail _ (.tail _ (.tail _ (.tail _ (.head _)))))).1
        have cn : g'.get? (L + 1 + 1) = some on := hg _ _ (N₂ (L + 1 + 1, on) (.tail _ (.tail _ (.tail _ (.head _))))).1
        have cP : g'.get? P = some (listOf (List.toArray ws) k) := hg _ _ (N₂ (P, listOf (List.toArray ws) k) (.tail _ (.head _))).1
        have cN : g'.get? NA = some (listOf (List.toArray nv) k4) := hg _ _ (N₂ (NA, listOf (List.toArray nv) k4) (.head _)).1
        clear F₂ N₂ R
        refine ⟨compOk_one ?_, fun hp => Bool.noConfusion (show false = true from hp)⟩
        k_steps
        refine Halt.of ?_
        have hp9 : pile.length ≤ 9 := by omega
        refine right_spec (h₀ := g') P NA ws nv pile k k4 j tj ((hA1 _).le (by decide)) (Gd.keeps ⟨X', T'⟩ F₃.keep) (F₃.keep _ _ cP) (F₃.keep _ _ cN) hws hp9 hjn hnl hnv (pat_ok (by omega)) (fun i hi => name_facts i (by omega)) (pre_facts hp9 hjn) (told_walk hpl.1 hp9 hjn) (branch_pos hp9 hjn) (told_low hp9 hjn) (told_high hp9 hjn) ?_
        intro h6 tk6 hs6
        have F6 := fr_keep F₃ hs6
        clear F₃ hs6
        k_steps
        exact Halt.of ⟨rfl, _, _, rfl, F6⟩
      case done3 =>
        intro Dt h5 tk5 zs us5 k5 hDt hns5 hs5 ho5 hul5 hPu5 hFu5
        have hz0 : zs = [] := by
          rw [show (us5.filter fun _ => false) = [] by simp] at hFu5
          cases hFu5
          rfl
        subst hz0
        have F5' := fr_A F₂ hns5 hs5
        have N5' := news_newA F₂ N₂ hs5 hDt ho5
        have hoff := new_off N₂ hDt
        have g1 : @Ne Nat (L + 1) Dt := hoff (L + 1, op) (.tail _ (.tail _ (.tail _ (.tail _ (.head _)))))
        have g2 : @Ne Nat P Dt := hoff (P, listOf (List.toArray ws) k) (.tail _ (.head _))
        have g3 : @Ne Nat D2 Dt := hoff (D2, listOf (List.toArray row) 0) (.tail _ (.tail _ (.head _)))
        have hwl9 : ws.length < 64 := by omega
        have hrl9 : row.length < 64 := by omega
        clear F₂ N₂ R hoff hns5 hs5 hDt ho5 hul5 hPu5 hFu5
        k_steps
        refine Halt.of (g_newList F5' N5' (by simp) ?_)
        intro E0 h' F' N' l1
        have i1 : @Ne Nat (L + 1) E0 := Nat.ne_of_lt (l1 (L + 1, op) (.tail _ (.tail _ (.tail _ (.tail _ (.tail _ (.head _)))))))
        have i2 : @Ne Nat P E0 := Nat.ne_of_lt (l1 (P, listOf (List.toArray ws) k) (.tail _ (.tail _ (.head _))))
        have i3 : @Ne Nat D2 E0 := Nat.ne_of_lt (l1 (D2, listOf (List.toArray row) 0) (.tail _ (.tail _ (.tail _ (.head _)))))
        have i4 : @Ne Nat Dt E0 := Nat.ne_of_lt (l1 (Dt, listOf (List.toArray []) k5) (.head _))
        clear l1 F5' N5'
        k_steps
        have hun : (A.deeper (envOfC (Str.ofString "x") default 0 0 .none)).units + 64 < cLine := by
          have := hA.un
          show A.units + 3 + 64 < 9900
          omega
        refine Halt.of (g_eqSame (N' (Dt, listOf (List.toArray []) k5) (.tail _ (.head _))).1 Ints.nil (N' (E0, listOf (List.toArray []) 0) (.head _)).1 Ints.nil hun rfl ?_)
        k_steps
        refine Halt.of ?_
        rename Fr _ _ _ _ => F'
        rename News _ _ _ _ => N'
        rename Ints _ (isort (dealt ns)) => hW2
        rename Ints _ (isort pile) => hW1
        refine g_eqSame (N' _ (.tail _ (.head _))).1 hW1 (N' _ (.head _)).1 hW2 hun (isort_perm_eq hpl.2) ?_
        exact hret _ _ (fun b o eb nb => F'.keep _ _ (hs _ _ eb nb))
end
theorem caller_ok : Ok callerA 14 := ⟨rfl, by decide +kernel, by decide +kernel⟩
theorem ends {c : ClaimW} {cl : Str → Option Addr} {mean : ExcName → Option Value} {args : List WData} {s₁ : Shared} {h' : Heap} {tk' : Nat} (hs : StayBut [] s₁.heap h') (hg : s₁.gens = #[]) (hr : ∀ cls, c.raises args cls = false) (hp : c.post args (.bool true) args = true) :
    GoodWG c cl mean args s₁ (.ok (.ret (.bool true))) { s₁ with heap := h', toks := tk' } :=
  ⟨.inl ⟨_, _, [], rfl, hr, ReadsW.bool true, hp, fun _ => ⟨List.nodup_nil, fun _ hm => nomatch hm⟩⟩, .of_keep (fun b o e => hs b o e (by simp)), rfl, .of_eq hg⟩
end Mine
open Mine
theorem PySem.Challenge.cw_rx0044_01_holds : PySem.Challenge.rw_rx0044_01.Holds := by
  refine hd ?_
  k_fill
  intro w s₀ s₁ mg mb G Y fa o pm cd doc dV kV ho hdt hcd hD hmg hg args vals as hpre hlay hrd hwl hlo
  have X := km_in_of Y
  refine Ground.open G ?_
  intro T B D TE TW
  wrow_args hpre hlay hrd hwl hlo
  rename Heap.IsList _ _ _ => hl
  rename IntsAre _ _ => hI
  have hfa : fa = 153 := by
    have h1 := mg_of (n := Str.ofString "law") (v := .ref 153) X T.g (by k_is)
    rw [show mg (Str.ofString "law") = some (.ref fa) from hmg] at h1
    injection h1 with h1
    injection h1
  subst hfa
  refine law_spec (h₀ := s₁.heap) _ _ _ caller_ok ⟨X, T⟩ hl (Ints.of hI) (by omega) ?_
  intro h' tk' hs
  exact ends hs hg (fun _ => rfl) (by wrow_post)

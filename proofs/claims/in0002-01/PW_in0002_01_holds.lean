import PyProof.Rows.All
import Wide.All
import OpenK.AllK
import Wide.FinOn
import PySem.Challenge.RW_in0002_01
open PySem PySem.W PyProof.Rows
set_option Elab.async false
set_option compiler.extract_closed false
set_option genSizeOf false
set_option genInjectivity false
section
set_option maxRecDepth 100000
set_option maxHeartbeats 8000000
open_top hd for PySem.Challenge.rw_in0002_01
end
namespace Mine
theorem sp0 {a : Sort _} {b : a → Prop} (h : ∃ x, b x) : ∃ x, b x := h
theorem sp1 {v0 v1 v2 v3 v4 v5 v6 v7 v8 v9 v10} (h : wpAny v0 v1 (execs (Stmt.While v2 v3 v4 v5 :: v6) v7) v8 v9 v10) : wpAny v0 v1 (execs (Stmt.While v2 v3 v4 v5 :: v6) v7) v8 v9 v10 := h
theorem sp2 {v0 v1 v2 v3 v4 v5 v6 v7 v8 v9 v10 v11} (h : wpAny v0 v1 (execs (Stmt.Try v2 v3 v4 v5 v6 :: v7) v8) v9 v10 v11) : wpAny v0 v1 (execs (Stmt.Try v2 v3 v4 v5 v6 :: v7) v8) v9 v10 v11 := h
theorem sp3 {v0 v1 v2 v3 v4 v5} (h : wpAny v0 v1 (call (Value.type "zip") v2) v3 v4 v5) : wpAny v0 v1 (call (Value.type "zip") v2) v3 v4 v5 := h
theorem sp4 {v0 v1 v2 v3 v4 v5 v6 v7 v8 v9} (h : wpAny v0 v1 (eval (Expr.ListComp v2 v3 v4 v5) v6) v7 v8 v9) : wpAny v0 v1 (eval (Expr.ListComp v2 v3 v4 v5) v6) v7 v8 v9 := h
theorem sp5 {v0 v1 v2 v3 v4 v5 v6 v7 v8 v9 v10 v11} (h : wpAny v0 v1 (execs (Stmt.For v2 v3 v4 v5 v6 :: v7) v8) v9 v10 v11) : wpAny v0 v1 (execs (Stmt.For v2 v3 v4 v5 v6 :: v7) v8) v9 v10 v11 := h
theorem sp6 {v0 v1 v2 v3 v4 v5 v6 v7 v8 v9 v10 v11 v12} (h : wpAny v0 v1 (execs (Stmt.Assign v2 (Expr.ListComp v3 v4 v5 v6) v7 :: v8) v9) v10 v11 v12) : wpAny v0 v1 (execs (Stmt.Assign v2 (Expr.ListComp v3 v4 v5 v6) v7 :: v8) v9) v10 v11 v12 := h
theorem sp7 {α : Type} {v0 v1 v2} {v3 : Sem α} {v4 v5 v6} (h : _root_.PySem.wpAt v0 v1 v2 v3 v4 v5 v6) : _root_.PySem.wpAt v0 v1 v2 v3 v4 v5 v6 := h
theorem sp8 {v0 v1 v2 v3 v4 v5 v6} (h : wpAny v0 v1 (call (Value.type v2) v3) v4 v5 v6) : wpAny v0 v1 (call (Value.type v2) v3) v4 v5 v6 := h
theorem sp9 {v0 v1 v2 v3 v4 v5 v6 v7 v8 v9 v10} (h : wpAny v0 v1 (eval (Expr.Name v2 v3) (compEnvC v4 v5 v6 v7)) v8 v9 v10) : wpAny v0 v1 (eval (Expr.Name v2 v3) (compEnvC v4 v5 v6 v7)) v8 v9 v10 := h
theorem sp10 {v0 v1 v2 v3 v4 v5 v6} (h : wpAny v0 v1 (call (Value.ref v2) v3) v4 v5 v6) : wpAny v0 v1 (call (Value.ref v2) v3) v4 v5 v6 := h
theorem sp11 {v0 v1 v2 v3 v4 v5} (h : wpAny v0 v1 (call (Value.builtin "list.extend") v2) v3 v4 v5) : wpAny v0 v1 (call (Value.builtin "list.extend") v2) v3 v4 v5 := h
theorem sp12 {v0 v1 v2 v3 v4 v5} (h : wpAny v0 v1 (call (Value.builtin "list.clear") v2) v3 v4 v5) : wpAny v0 v1 (call (Value.builtin "list.clear") v2) v3 v4 v5 := h
theorem sp13 {v0 v1 v2 v3 v4 v5 v6 v7} (h : wpAny v0 v1 (binaryOp v2 (Value.ref v3) (Value.ref v4)) v5 v6 v7) : wpAny v0 v1 (binaryOp v2 (Value.ref v3) (Value.ref v4)) v5 v6 v7 := h
theorem sp14 {v0 v1 v2 v3 v4 v5 v6 v7 v8} (h : wpAny v0 v1 (subscriptTail v2 v3 v4 v5) v6 v7 v8) : wpAny v0 v1 (subscriptTail v2 v3 v4 v5) v6 v7 v8 := h
theorem sp15 {v0 v1 v2 v3 v4 v5} (h : wpAny v0 v1 (call (Value.builtin "list.append") v2) v3 v4 v5) : wpAny v0 v1 (call (Value.builtin "list.append") v2) v3 v4 v5 := h
theorem sp16 {v0 v1 v2 v3 v4 v5} (h : wpAny v0 v1 (call (Value.builtin "len") v2) v3 v4 v5) : wpAny v0 v1 (call (Value.builtin "len") v2) v3 v4 v5 := h
theorem sp17 {v0 v1 v2 v3 v4 v5 v6 v7} (h : wpAny v0 v1 (compareOp v2 (Value.ref v3) (Value.ref v4)) v5 v6 v7) : wpAny v0 v1 (compareOp v2 (Value.ref v3) (Value.ref v4)) v5 v6 v7 := h
theorem sp18 {v0 v1 v2 v3 v4 v5 v6 v7 v8} (h : wpAny v0 v1 (compareOp CmpOp.NotEq (Value.int v2 v3) (Value.int v4 v5)) v6 v7 v8) : wpAny v0 v1 (compareOp CmpOp.NotEq (Value.int v2 v3) (Value.int v4 v5)) v6 v7 v8 := h
end Mine
local macro_rules | `(tactic| walk_at "MY b0") => `(tactic| (first | (k_unfold; (try dsimp only)) | (k_end; wrow_close) | walk1 | (dsimp only; walk1) | (leave1; try dsimp only)))
local macro_rules | `(tactic| walk_at "MY steps") => `(tactic| repeat' ((fail_if_success (with_reducible (first | refine Mine.sp0 ?_ | refine Mine.sp3 ?_ | refine Mine.sp4 ?_ | refine Mine.sp1 ?_ | refine Mine.sp5 ?_ | refine Mine.sp6 ?_))); (walk_at "MY b0")))
section
open PySem PySem.W PySem.Calls PyProof.Rows
set_option maxRecDepth 100000
namespace Mine

noncomputable abbrev PG : Program := PySem.Challenge.rw_in0002_01.row.prog

structure Top0 (w : World) (p : Program) (loose : List PySem.Str) (mg mb : PySem.Str → Option Value) (b : Heap) : Prop where
  X : (hd.heap_39 w.params).In b
  T : TopRead p loose mg mb b
theorem Top0.keeps {w p loose mg mb} {b h : Heap} (t : Top0 w p loose mg mb b) (k : b.StaysIn h) : Top0 w p loose mg mb h :=
  ⟨t.X.keeps k, t.T.keeps k⟩

theorem call_hide {prog : Program} {w : World} {A : Around} {s : Shared} {R : Result → Shared → Prop} {p loose mg mb} {b : Heap}
    {name qual : PySem.Str} {params : Arguments} {body : List Stmt} {scope : Scope} {dV kV doc pm cdv ct oc : Value} {an od : Option Addr} {osl : Array (Option Value)} {f : Addr} {args : Args} {binds : List (PySem.Str × Value)}
    (μ : List (Addr × Obj)) (T : Top0 w p loose mg mb b) (hb : b.StaysIn s.heap) (hμ : ∀ q ∈ μ, s.heap.get? q.1 = some q.2 ∧ b.get? q.1 = none)
    (hroom : A.depth < recursionLimit)
    (ho : (hd.heap_39 w.params).lookup f = some ⟨oc, od, .func (fnOf name qual params body scope dV kV doc pm an cdv ct), osl⟩) (hcd : codeIn (hd.heap_39 w.params) cdv qual = true)
    (hbind : BindsTo s (fnOf name qual params body scope dV kV doc pm an cdv ct) args binds) (hloc : ∀ y ∈ binds, scope.names.lookup y.1 = some .local)
    (hcell : ∀ x ∈ scope.names, x.2 ≠ .cell)
    (hco : scope.isCoroutine = false) (hgen : scope.isGenerator = false) (hk : scope.kind = .function)
    (h : ∀ g L h₁, g = hideAll s.heap (μ.map (·.1)) → L = s.heap.objs.size → Top0 w p loose mg mb g → Fr g L h₁ (fun y => binds.reverse.lookup y) → News g L h₁ μ →
      wpAny (model prog w) (A.deeper (envOf qual scope L f cdv)) (execs body (envOf qual scope L f cdv))
        (fun fl s' => R (.ok (.ret (match fl with | .ret v => v | _ => .none))) s')
        (fun e s' => wpAny (model prog w) (A.deeper (envOf qual scope L f cdv)) (leaving (envOf qual scope L f cdv) e) (fun _ s'' => R (.error e) s'') (fun e' s'' => R (.error e') s'') s')
        { s with heap := h₁, toks := s.toks + binds.length }) :
    codeAny (model prog w) A (.call (.ref f) args) R s := by
  have st : b.StaysIn (hideAll s.heap (μ.map (·.1))) := fun c o e => hideAll_get _ (hb c o e) fun hm => by
    obtain ⟨q, hq, rfl⟩ := List.mem_map.mp hm
    rw [(hμ q hq).2] at e; cases e
  have X := T.X.keeps hb
  refine codeAny_call_def (fd := fnOf name qual params body scope dV kV doc pm an cdv ct) (body := body) (binds := binds) hroom (X _ _ ho) rfl (T.T.nolimit.keeps hb) (codeRec_of X hcd) rfl hbind hcell hloc (fun h₁ hns hk₁ => ?_) hco hgen hk
  refine h _ _ h₁ rfl rfl (T.keeps st) ⟨hns, fun c o e => hk₁ c o (of_hideAll _ e), Nat.le_of_eq (hideAll_size _ _)⟩ ?_
  intro q hq
  exact ⟨hk₁ _ _ (hμ q hq).1, Nat.ne_of_lt (Heap.lt_size (hμ q hq).1), hideAll_none _ (List.mem_map_of_mem hq)⟩


noncomputable def Keep (μ : List Addr) (h h' : Heap) : Prop := ∀ c o, c ∉ μ → h.get? c = some o → h'.get? c = some o
theorem keep_of {h h' g : Heap} {L : Addr} {m : PySem.Str → Option Value} {as : List Addr} (hg : g = hideAll h as) (F : Fr g L h' m) {c : Addr} {o : Obj} (hc : c ∉ as) (e : h.get? c = some o) : h'.get? c = some o :=
  F.keep _ _ (hg ▸ hideAll_get _ e hc)
theorem new_of {h h' g : Heap} {L : Addr} {news : List (Addr × Obj)} {as : List Addr} (hg : g = hideAll h as) (N : News g L h' news) {a : Addr} {o : Obj} (hm : (a, o) ∈ news) (hc : a ∉ as) : h.get? a = none := by
  cases q : h.get? a with
  | none => rfl
  | some o' =>
    have := (N _ hm).2.2
    rw [hg, hideAll_get _ q hc] at this; cases this

/-- a heap cut before place n: a base for a frame that stands at n -/
noncomputable def cutTo (h : Heap) (n : Nat) : Heap := { h with objs := h.objs.extract 0 n }
theorem cut_get {h : Heap} {n : Nat} {c : Addr} {o : Obj} : (cutTo h n).get? c = some o ↔ h.get? c = some o ∧ @LT.lt Nat _ c n := by
  unfold cutTo Heap.get?
  simp only [Array.getElem?_extract, Nat.sub_zero, Nat.zero_add]
  by_cases hc : @LT.lt Nat _ c n
  · by_cases hs : @LT.lt Nat _ c h.objs.size
    · have : @LT.lt Nat _ c (min n h.objs.size) := by omega
      simp only [this, if_true, hc, and_true]
    · have h1 : ¬ @LT.lt Nat _ c (min n h.objs.size) := by omega
      have h2 : h.objs[c]? = none := by simp; omega
      simp only [h1, if_false, h2]
      simp
  · have h1 : ¬ @LT.lt Nat _ c (min n h.objs.size) := by omega
    simp only [h1, if_false, hc, and_false, iff_false]
    simp
theorem cut_size (h : Heap) (n : Nat) : (cutTo h n).objs.size ≤ n := by
  unfold cutTo
  simp [Array.size_extract]
  omega
/-- a base anew: what stood before the frame, but for what is changed -/
noncomputable def rb (h : Heap) (L : Nat) (μ : List Addr) : Heap := hideAll (cutTo h L) μ
theorem rb_of {h : Heap} {L : Nat} {μ : List Addr} {c : Addr} {o : Obj} (e : (rb h L μ).get? c = some o) : h.get? c = some o ∧ @LT.lt Nat _ c L := cut_get.mp (of_hideAll _ e)
theorem rb_get {h : Heap} {L : Nat} {μ : List Addr} {c : Addr} {o : Obj} (e : h.get? c = some o) (hl : @LT.lt Nat _ c L) (hc : c ∉ μ) : (rb h L μ).get? c = some o := hideAll_get _ (cut_get.mpr ⟨e, hl⟩) hc
theorem rb_none {h : Heap} {L : Nat} {μ : List Addr} {c : Addr} (hc : c ∈ μ ∨ @LE.le Nat _ L c ∨ h.get? c = none) : (rb h L μ).get? c = none := by
  rcases hc with hc | hc | hc
  · exact hideAll_none _ hc
  · cases q : (rb h L μ).get? c with
    | none => rfl
    | some o => exact absurd (rb_of q).2 (Nat.not_lt.mpr hc)
  · cases q : (rb h L μ).get? c with
    | none => rfl
    | some o => have := (rb_of q).1; rw [hc] at this; cases this
theorem rb_fr {h : Heap} {L : Addr} {μ : List Addr} {m : PySem.Str → Option Value} (hns : h.Ns L m) : Fr (rb h L μ) L h m := ⟨hns, fun c o e => (rb_of e).1, by unfold rb; rw [hideAll_size]; exact cut_size _ _⟩
theorem rb_top {w p loose mg mb} {b h : Heap} {L : Addr} {μ : List Addr} (T : Top0 w p loose mg mb b) (hb : b.StaysIn h) (hs : @LE.le Nat _ b.objs.size L) (hμ : ∀ c ∈ μ, b.get? c = none) : Top0 w p loose mg mb (rb h L μ) :=
  T.keeps fun c o e => rb_get (hb c o e) (Nat.lt_of_lt_of_le (Heap.lt_size e) hs) fun q => by rw [hμ c q] at e; cases e
theorem rb_top' {w p loose mg mb} {b h : Heap} {L : Addr} {μ : List Addr} (T : Top0 w p loose mg mb b) (hb : b.StaysIn h) (hs : ∀ c o, b.get? c = some o → @LT.lt Nat _ c L) (hμ : ∀ c ∈ μ, b.get? c = none) : Top0 w p loose mg mb (rb h L μ) :=
  T.keeps fun c o e => rb_get (hb c o e) (hs _ _ e) fun q => by rw [hμ c q] at e; cases e
theorem rb_keep {h h' : Heap} {L : Addr} {μ : List Addr} {m : PySem.Str → Option Value} (F : Fr (rb h L μ) L h' m) {c : Addr} {o : Obj} (e : h.get? c = some o) (hl : @LT.lt Nat _ c L) (hc : c ∉ μ) : h'.get? c = some o := F.keep _ _ (rb_get e hl hc)

theorem item_last {prog : Program} {w : World} {A : Around} {E : Value → Shared → Prop} {s : Shared} {g : Heap} {L a : Addr} {news : List (Addr × Obj)} {its : Array Value} {v : Value} {n : Nat} {x : PySem.Str} {px p1 p2 : Pos} {u : Tok} {k : Nat} {Q : Value → Shared → Prop}
    (N : News g L s.heap news) (hm : (a, PySem.W.listOf (its.push v) n) ∈ news) (h : Q v s) :
    wpAny (model prog w) A (subscriptTail (.Name x px) (.UnaryOp .USub (.Constant (.int 1) k p1) p2) (.ref a) (.int (-1) u)) Q E s :=
  tail_any (N.isList hm).typeIs slot_list_getitem.lookup (wpAny_getItem_list_neg (N.isList hm) (by decide) (by rw [Array.size_push]; omega) (by decide) (by
    rw [Array.size_push]
    have : ((-1 : Int) + ((its.size + 1 : Nat) : Int)).toNat = its.size := by omega
    rw [this]; simp) h) (by with_unfolding_all rfl)

end Mine
end
section
open PySem PySem.W PySem.Calls PyProof.Rows
set_option maxRecDepth 100000
set_option maxHeartbeats 4000000
namespace Mine
theorem fill1 : PySem.Challenge.rw_in0002_01 = PySem.Challenge.rw_in0002_01 ∧ hd.heap_39 = hd.heap_39 := by
  k_fill
  exact ⟨rfl, rfl⟩
theorem noted_call : ∀ {w : World} {A : Around} {s : Shared} {R : Result → Shared → Prop} {p loose mg mb} {b : Heap} {a : Addr} {its : Array Value} {n : Nat}
    (T : Top0 w p loose mg mb b) (hb : b.StaysIn s.heap) (ha : s.heap.get? a = some (PySem.W.listOf its n)) (hab : b.get? a = none) (hsz : its.size < 1000000) (hroom : A.depth + 3 < recursionLimit)
    (hh : A.handled = none)
    (h : ∀ h' tk l, s.heap.get? l = none → Keep [a] s.heap h' → h'.get? a = some (PySem.W.listOf (its.push (.ref l)) (n + 1)) → h'.get? l = some (PySem.W.listOf #[] 0) →
      R (.ok (.ret (.ref l))) { s with heap := h', toks := tk }),
    codeAny (model PG w) A (.call (.ref 76) ⟨[.ref a], []⟩) R s := by
  intro w A s R p loose mg mb b a its n T hb ha hab hsz hroom hh h
  refine' call_hide [(a, PySem.W.listOf its n)] T hb ?hμ ?hroom ?ho ?hcd ?hbind ?hloc ?hcell ?hco ?hgen ?hk ?_
  case ho => k_is
  case hcd => k_is
  case hbind => exact BindsTo.of_eq rfl
  case hloc => exact locs rfl
  case hcell => decide
  case hμ => intro q hq; rcases List.mem_singleton.mp hq with rfl; exact ⟨ha, hab⟩
  case hroom => omega
  case hco => rfl
  case hgen => rfl
  case hk => rfl
  intro g L h₁ hg hL T' F N
  have X' := T'.X
  have TT := T'.T
  k_steps
  refine item_last (by assumption) (by k_mem) ?_
  (rename News _ _ _ _ => N2); (rename Fr _ _ _ _ => F2); (rename _ < _ => l1)
  exact h _ _ _ (new_of hg N2 (.head _) (by simpa using Nat.ne_of_gt l1)) (fun c o hc e => keep_of hg F2 hc e) (N2 _ (.tail _ (.head _))).1 (N2 _ (.head _)).1
end Mine
end
section
open PySem PySem.W PySem.Calls PyProof.Rows PySem.SeqAt
set_option maxRecDepth 100000
set_option maxHeartbeats 4000000
namespace Mine

noncomputable def IsThing (h : Heap) (a : Addr) (n : Int) : Prop :=
  (a == sysModules) = false ∧ ∃ x t t', (x = 0 ∨ x = 1) ∧ ∀ (prog : Program) (w : World), h.DictOf (intKind prog w) a [(x, .int n t), (1 - x, .int n t')]
theorem IsThing.keep {h h' : Heap} {a : Addr} {n : Int} (T : IsThing h a n) (k : ∀ o, h.get? a = some o → h'.get? a = some o) : IsThing h' a n := by
  obtain ⟨h1, x, t, t', hx, hd⟩ := T
  exact ⟨h1, x, t, t', hx, fun p w => let ⟨o, es, ep, ho, r⟩ := hd p w; ⟨o, es, ep, k o ho, r⟩⟩
theorem pairs_int {p p' : Program} {w w' : World} {es : List DictEntry} {kvs : List (Int × Value)} (h : Pairs (intKind p w) es kvs) : Pairs (intKind p' w') es kvs := by
  induction h with
  | nil => exact .nil
  | cons a b _ ih => exact .cons a b ih
theorem dictOf_int {p p' : Program} {w w' : World} {h : Heap} {a : Addr} {kvs : List (Int × Value)} (hd : h.DictOf (intKind p w) a kvs) : h.DictOf (intKind p' w') a kvs := by
  obtain ⟨o, es, ep, h1, h2, h3, h4, h5, h6⟩ := hd
  exact ⟨o, es, ep, h1, h2, h3, h4, pairs_int h5, h6⟩
theorem IsThing.of {prog : Program} {w : World} {h : Heap} {a : Addr} {n x : Int} {t t' : Tok} (h1 : (a == sysModules) = false) (hx : x = 0 ∨ x = 1) (hd : h.DictOf (intKind prog w) a [(x, .int n t), (1 - x, .int n t')]) : IsThing h a n :=
  ⟨h1, x, t, t', hx, fun _ _ => dictOf_int hd⟩
/-- an object that a thing's address holds is a dict's -/
theorem IsThing.obj {h : Heap} {a : Addr} {n : Int} (T : IsThing h a n) : ∃ o, h.get? a = some o ∧ o.cls = .type "dict" := by
  obtain ⟨_, x, t, t', _, hd⟩ := T
  obtain ⟨o, es, ep, ho, hx, _⟩ := hd PG ⟨fun _ _ => 0, { strHash := fun _ => 0, shareClass := fun _ => 0, mergeTok := id, idOf := fun _ => 0, idOfShared := fun _ _ => 0, followText := fun _ => false, idOfImm := fun _ => 0 }⟩
  exact ⟨o, ho, hx.1⟩

theorem thing_eq {A : Around} {s : Shared} {a b : Addr} {n m : Int} (ha : IsThing s.heap a n) (hb : IsThing s.heap b m) (hu : A.units + 100 < cLine) : EqAt A s (.ref a) (.ref b) (decide (n = m)) := by
  by_cases hab : a = b
  · subst hab
    have : n = m := by
      obtain ⟨_, x, t, t', _, hd⟩ := ha
      obtain ⟨_, y, u, u', _, he⟩ := hb
      have w0 : World := ⟨fun _ _ => 0, { strHash := fun _ => 0, shareClass := fun _ => 0, mergeTok := id, idOf := fun _ => 0, idOfShared := fun _ _ => 0, followText := fun _ => false, idOfImm := fun _ => 0 }⟩
      obtain ⟨o, es, ep, ho, _, hdd, _, hp, _⟩ := hd PG w0
      obtain ⟨o', es', ep', ho', _, hdd', _, hp', _⟩ := he PG w0
      rw [ho] at ho'; cases ho'
      rw [hdd] at hdd'; cases hdd'
      revert hp hp'
      generalize es.toList = l
      intro hp hp'
      cases hp with
      | cons _ e1 _ => cases hp' with
        | cons _ e2 _ => rw [e1] at e2; injection e2
    subst this
    simpa using EqAt.same (A := A) (s := s) (.ref a)
  · refine EqAt.of_refs hab ?_
    obtain ⟨ha1, x, t, t', hx, hd⟩ := ha
    obtain ⟨hb1, y, u, u', hy, he⟩ := hb
    intro prog w E Q hq
    have hits : KeqHits A.in1 s [(y, Value.int m u), (1 - y, .int m u')] [(x, Value.int n t), (1 - x, .int n t')] (decide (n = m)) := by
      have e2 : ∀ t u : Tok, EqAt A.in1 s (.int n t) (.int m u) (decide (n = m)) := fun t u => by
        have := EqAt.int_int (A := A.in1) (s := s) n t m u
        rwa [show (n == m) = decide (n = m) from rfl] at this
      have e3 : decide (n = m) = (decide (n = m) && (decide (n = m) && true)) := by simp
      rcases hx with rfl | rfl <;> rcases hy with rfl | rfl <;> rw [e3]
      · exact .hit (y := .int m u) (by rfl) (e2 _ _) (.hit (y := .int m u') (by rfl) (e2 _ _) .nil)
      · exact .hit (y := .int m u') (by rfl) (e2 _ _) (.hit (y := .int m u) (by rfl) (e2 _ _) .nil)
      · exact .hit (y := .int m u') (by rfl) (e2 _ _) (.hit (y := .int m u) (by rfl) (e2 _ _) .nil)
      · exact .hit (y := .int m u) (by rfl) (e2 _ _) (.hit (y := .int m u') (by rfl) (e2 _ _) .nil)
    have z := keq_eq (prog := prog) (w := w) (A := A) (E := E) (s := s) (knd := intKind prog w) (Q := Q) (r := decide (n = m)) ha1 hb1 (hd prog w) (he prog w) (by omega) (fun _ => hits) (by simpa using hq)
    exact z

end Mine
namespace Mine
open PySem.MeetsSeq PySem.MeetsSeq2 PySem.MeetsSeq3 PySem.SeqRoads2 PySem.AutoSeq1
theorem IsThing.inj {h : Heap} {a : Addr} {n m : Int} (ha : IsThing h a n) (hb : IsThing h a m) : n = m := by
  obtain ⟨_, x, t, t', _, hd⟩ := ha
  obtain ⟨_, y, u, u', _, he⟩ := hb
  have w0 : World := ⟨fun _ _ => 0, { strHash := fun _ => 0, shareClass := fun _ => 0, mergeTok := id, idOf := fun _ => 0, idOfShared := fun _ _ => 0, followText := fun _ => false, idOfImm := fun _ => 0 }⟩
  obtain ⟨o, es, ep, ho, _, hdd, _, hp, _⟩ := hd PG w0
  obtain ⟨o', es', ep', ho', _, hdd', _, hp', _⟩ := he PG w0
  rw [ho] at ho'; cases ho'
  rw [hdd] at hdd'; cases hdd'
  revert hp hp'
  generalize es.toList = l
  intro hp hp'
  cases hp with
  | cons _ e1 _ => cases hp' with
    | cons _ e2 _ => rw [e1] at e2; injection e2

theorem remove_loopA (l : Addr) (items : Array Value) (n : Nat) (x : Value) (e : Value → Bool) (hs1 : items.size ≤ sizeLine) (k : Nat) :
    ∀ i : Nat, items.size - i = k → Meets (Builtin.«list.remove.loop» ⟨[.ref l, x, rawInt i], []⟩)
      (fun A R s => s.heap.get? l = some { cls := .type "list", dict := none, data := .seq items n, slots := #[] } ∧ (∀ y, y ∈ items → EqAt A.in1 s y x (e y)) ∧
        ((∀ j, (items.toList.drop i).findIdx? e = some j → R (.ok (.ret .none)) { s with heap := s.heap.update l (Obj.mapSeq fun xs => xs.eraseIdxIfInBounds (i + j)) }) ∧
         ((items.toList.drop i).findIdx? e = none → raisesNew "ValueError" A R s))) := by
  induction k with
  | zero =>
    intro i hk prog w A R s h
    obtain ⟨hp, g, d, tk, os⟩ := s; obtain ⟨hl, _, h⟩ := h
    wp_walk using wpAny_loadPart' hl
    have hi : items[((i : Nat) : Int).toNat]? = none := by simp; omega
    have hd : items.toList.drop i = [] := by simp; omega
    have h2 := h.2 (by rw [hd]; rfl)
    rw [hi]
    wp_walk
    exact_raiseError plainExc_ValueError h2.1 h2.2
  | succ k ih =>
    intro i hk prog w A R s h
    obtain ⟨hp, g, d, tk, os⟩ := s; obtain ⟨hl, he, h⟩ := h
    have hlt : i < items.size := by omega
    wp_walk using wpAny_loadPart' hl
    have hi : items[((i : Nat) : Int).toNat]? = some items[i] := by simp [hlt]
    have hd : items.toList.drop i = items[i] :: items.toList.drop (i + 1) := by simp [List.drop_eq_getElem_cons, hlt]
    have hc : ((i : Int) + 1) = ((i + 1 : Nat) : Int) := by push_cast; rfl
    rw [hd] at h
    rw [hi]
    refine wpAny_bind (he _ (Array.getElem_mem hlt) prog w _ _ ?_)
    cases hb : e items[i] with
    | true =>
      have h1 := h.1 0 (by rw [List.findIdx?_cons, hb]; rfl)
      have hz' : (items.eraseIdxIfInBounds i).size ≤ sizeLine + 1 := Nat.le_trans (size_erased items _) (Nat.le_succ_of_le hs1)
      wp_walk using (wpAny_updateSeq hl rfl (hz := hs1) (_hz' := hz')), wpAny_loadPart' hl
      simpa using h1
    | false =>
      wp_walk
      rw [hc]
      refine ⟨plainId_quiet plain_remove_loop _, codeAny_builtin entry_remove_loop (by
        rw [Around.under_plainId plain_remove_loop _]
        refine ih (i + 1) (by omega) prog w A R _ ⟨hl, he, fun j hj => ?_, fun hn => h.2 ?_⟩
        · have := h.1 (j + 1) (by rw [List.findIdx?_cons, hb, hj]; rfl)
          rw [show i + 1 + j = i + (j + 1) by omega]
          exact this
        · rw [List.findIdx?_cons, hb, hn]; rfl)⟩

theorem list_removeA (l : Addr) (items : Array Value) (n : Nat) (x : Value) (e : Value → Bool) (hs1 : items.size ≤ sizeLine) :
    Meets (Builtin.«list.remove» ⟨[.ref l, x], []⟩)
      (fun A R s => s.heap.get? l = some { cls := .type "list", dict := none, data := .seq items n, slots := #[] } ∧ (∀ y, y ∈ items → EqAt A.in1 s y x (e y)) ∧
        ((∀ j, items.toList.findIdx? e = some j → R (.ok (.ret .none)) { s with heap := s.heap.update l (Obj.mapSeq fun xs => xs.eraseIdxIfInBounds j) }) ∧
         (items.toList.findIdx? e = none → raisesNew "ValueError" A R s))) := by
  intro prog w A R s h
  obtain ⟨hp, g, d, tk, os⟩ := s; obtain ⟨hl, he, h⟩ := h
  wp_walk using wpAny_loadPart' hl
  exact ⟨plainId_quiet plain_remove_loop _, codeAny_builtin entry_remove_loop (by
    rw [Around.under_plainId plain_remove_loop _]
    have := remove_loopA l items n x e hs1 _ 0 rfl prog w A R ⟨hp, g, d, tk, os⟩ ⟨hl, he, by simpa using h⟩
    exact this)⟩

/-- a list's items, by the things' places -/
noncomputable def refs (ths : List (Addr × Int)) : List Value := ths.map fun p => .ref p.1
noncomputable def Things (h : Heap) (ths : List (Addr × Int)) : Prop := ∀ p ∈ ths, IsThing h p.1 p.2
open Classical in
noncomputable def isNum (h : Heap) (n : Int) (v : Value) : Bool := decide (∃ a, v = .ref a ∧ IsThing h a n)
open Classical in
theorem isNum_ref {h : Heap} {a : Addr} {m n : Int} (ha : IsThing h a m) : isNum h n (.ref a) = decide (m = n) := by
  unfold isNum
  by_cases hmn : m = n
  · subst hmn
    rw [decide_eq_true (⟨a, rfl, ha⟩ : ∃ b, Value.ref a = .ref b ∧ IsThing h b m)]; simp
  · rw [decide_eq_false hmn]
    refine decide_eq_false fun ⟨b, hb, hc⟩ => hmn ?_
    cases hb
    exact ha.inj hc
theorem isNum_refs {h : Heap} {n : Int} : ∀ {ths : List (Addr × Int)}, Things h ths → (refs ths).countP (isNum h n) = ths.countP (fun p => decide (p.2 = n)) ∧ (refs ths).findIdx? (isNum h n) = ths.findIdx? (fun p => decide (p.2 = n))
  | [], _ => ⟨rfl, rfl⟩
  | p :: r, H => by
    have ih := isNum_refs (n := n) (ths := r) fun q hq => H q (.tail _ hq)
    have e : isNum h n (.ref p.1) = decide (p.2 = n) := isNum_ref (H p (.head _))
    unfold refs at ih ⊢
    rw [List.map_cons, List.countP_cons, List.countP_cons, List.findIdx?_cons, List.findIdx?_cons, e, ih.1, ih.2]
    exact ⟨rfl, rfl⟩
theorem things_eq {A : Around} {s : Shared} {ths : List (Addr × Int)} {a : Addr} {n : Int} (H : Things s.heap ths) (ha : IsThing s.heap a n) (hu : A.units + 100 < cLine) :
    ∀ y, y ∈ (refs ths).toArray → EqAt A s y (.ref a) (isNum s.heap n y) := by
  intro y hy
  have hy' : y ∈ refs ths := by simpa using hy
  obtain ⟨p, hp, rfl⟩ := List.mem_map.mp hy'
  rw [isNum_ref (H p hp)]
  exact thing_eq (H p hp) ha hu

theorem count_things {prog : Program} {w : World} {A : Around} {E : Value → Shared → Prop} {s : Shared} {l a : Addr} {ths : List (Addr × Int)} {n : Int} {k : Nat} {Q : Value → Shared → Prop}
    (hl : s.heap.get? l = some (PySem.W.listOf (refs ths).toArray k)) (H : Things s.heap ths) (ha : IsThing s.heap a n) (hu : A.units + 110 < cLine)
    (h : Q (.int (ths.countP (fun p => decide (p.2 = n)) : Nat) s.toks) { s with toks := s.toks + 1 }) : wpAny (model prog w) A (call (.builtin "list.count") [.ref l, .ref a]) Q E s := by
  refine call_meets PySem.F.slot_list_count ⟨_, hl, rfl⟩ PySem.F.entry_list_count (PySem.F.args_list_count_2 _ _) (list_countAt l (refs ths).toArray k none #[] (.ref a) (isNum s.heap n)) ⟨hl, things_eq H ha (by simp; omega), ?_⟩
  rw [show (refs ths).toArray.toList = refs ths from rfl, (isNum_refs H).1]
  exact h
end Mine

namespace Mine
theorem mapSeq_listOf (f : Array Value → Array Value) (its : Array Value) (k : Nat) : Obj.mapSeq f (PySem.W.listOf its k) = PySem.W.listOf (f its) (match Obj.mapSeq f (PySem.W.listOf its k) with | ⟨_, _, .seq _ n, _⟩ => n | _ => 0) := rfl
theorem map_eraseIdx_mine {α β : Type} (f : α → β) : ∀ (l : List α) (j : Nat), (l.map f).eraseIdx j = (l.eraseIdx j).map f
  | [], _ => rfl
  | _ :: _, 0 => rfl
  | a :: r, j + 1 => by rw [List.map_cons, List.eraseIdx_cons_succ, List.eraseIdx_cons_succ, List.map_cons, map_eraseIdx_mine f r j]
theorem eraseIdxIf (ths : List (Addr × Int)) (j : Nat) : (refs ths).toArray.eraseIdxIfInBounds j = (refs (ths.eraseIdx j)).toArray := by
  unfold Array.eraseIdxIfInBounds
  split
  · rename_i hj
    simp only [refs, List.eraseIdx_toArray]
    rw [map_eraseIdx_mine]
  · rename_i hj
    have : ths.length ≤ j := by simpa [refs] using hj
    rw [List.eraseIdx_of_length_le this]
theorem remove_things {prog : Program} {w : World} {A : Around} {E : Value → Shared → Prop} {s : Shared} {l a : Addr} {ths : List (Addr × Int)} {n : Int} {k : Nat} {Q : Value → Shared → Prop}
    (hl : s.heap.get? l = some (PySem.W.listOf (refs ths).toArray k)) (H : Things s.heap ths) (ha : IsThing s.heap a n) (hu : A.units + 110 < cLine) (hsz : ths.length ≤ sizeLine) (hh : A.handled = none)
    (h1 : ∀ j h' k', ths.findIdx? (fun p => decide (p.2 = n)) = some j → Heap.SameBut l s.heap h' → h'.get? l = some (PySem.W.listOf (refs (ths.eraseIdx j)).toArray k') → Q .none { s with heap := h' })
    (h0 : ths.findIdx? (fun p => decide (p.2 = n)) = none → ∀ h' tk e, Heap.NewExc s.heap h' e "ValueError" → E (.ref e) { s with heap := h', toks := tk }) :
    wpAny (model prog w) A (call (.builtin "list.remove") [.ref l, .ref a]) Q E s := by
  refine call_meets PySem.F.slot_list_remove ⟨_, hl, rfl⟩ PySem.F.entry_list_remove (PySem.F.args_list_remove_2 _ _) (list_removeA l (refs ths).toArray k (.ref a) (isNum s.heap n) (by simpa [refs] using hsz)) ⟨hl, things_eq H ha (by simp; omega), fun j hj => ?_, fun hn => ⟨hh, fun h' tk e hx => ?_⟩⟩
  · have hj' : (refs ths).findIdx? (isNum s.heap n) = some j := hj
    rw [(isNum_refs H).2] at hj'
    have z := Heap.get?_update_self (Obj.mapSeq fun xs => xs.eraseIdxIfInBounds j) hl (by rfl)
    rw [mapSeq_listOf, eraseIdxIf] at z
    exact h1 j _ _ hj' (Heap.SameBut.update ..) z
  · have hn' : (refs ths).findIdx? (isNum s.heap n) = none := hn
    rw [(isNum_refs H).2] at hn'
    exact h0 hn' h' tk e hx
end Mine
end
section
open PySem PySem.W PySem.Calls PyProof.Rows PySem.SeqAt
set_option linter.unusedVariables false
set_option maxRecDepth 100000
set_option maxHeartbeats 4000000
namespace Mine

/-- the frames' places -/
noncomputable def frs (outer : List Env) : List Addr := outer.filterMap (·.frame)
noncomputable def Slots (fr : List Addr) (h h' : Heap) : Prop := ∀ c ∈ fr, ∀ o, h.get? c = some o → ∃ sl, h'.get? c = some { o with slots := sl }
structure Stack (A : Around) (outer : List Env) (h : Heap) : Prop where
  frames : A.frames = some outer
  kinds : ∀ env ∈ outer, env.scope.kind ≠ .module
  there : ∀ env ∈ outer, ∃ L o, env.frame = some L ∧ h.get? L = some o ∧ ∀ vs, o.data ≠ .fields vs

theorem Stack.fun {A : Around} {base h : Heap} : ∀ {outer : List Env}, (∀ env ∈ outer, env.scope.kind ≠ .module) → (∀ env ∈ outer, ∃ L o, env.frame = some L ∧ h.get? L = some o ∧ ∀ vs, o.data ≠ .fields vs) → (∀ c ∈ frs outer, base.get? c = none) → h.FunFrames base outer
  | [], _, _, _ => trivial
  | env :: r, hk, ht, hb => by
    obtain ⟨L, o, hf, ho, hd⟩ := ht env (.head _)
    have hm : L ∈ frs (env :: r) := List.mem_filterMap.mpr ⟨env, .head _, hf⟩
    refine ⟨hk env (.head _), ⟨L, o, hf, hb L hm, ho, hd⟩, Stack.fun (A := A) (fun e he => hk e (.tail _ he)) (fun e he => ht e (.tail _ he)) fun c hc => hb c ?_⟩
    obtain ⟨e, he, hec⟩ := List.mem_filterMap.mp hc
    exact List.mem_filterMap.mpr ⟨e, .tail _ he, hec⟩

theorem caught_new {w : World} {A₀ : Around} {E : Value → Shared → Prop} {s' : Shared} {p loose mg mb} {b h base : Heap} {outer : List Env} {L e a : Addr} {name : PySem.Str} {scope : Scope} {cd : Value}
    {b₀ : Stmt} {suite : List Stmt} {pos np : Pos} {rest : List ExceptHandler} {Q : Flow → Shared → Prop} {m : PySem.Str → Option Value}
    (hbase : base = hideAll h (frs (envOf name scope L a cd :: outer)))
    (T : Top0 w p loose mg mb b) (hb : b.StaysIn base)
    (hfr : A₀.frames = some outer) (FF : h.FunFrames base (envOf name scope L a cd :: outer)) (hns : h.Ns L m) (hx : Heap.NewExc h s'.heap e "ValueError")
    (k : ∀ h' E', base.StaysIn h' → h.UpToSlots h' → wpAny (model PG w) ((A₀.deeper (envOf name scope L a cd)).mark (some (.ref e))) (execs (b₀ :: suite) (envOf name scope L a cd)) Q E' { s' with heap := h' })
    (hk : scope.kind = .function) (hkv : (envOf name scope L a cd).kindOf "ValueError" = some .globalImplicit) :
    wpAny (model PG w) (A₀.deeper (envOf name scope L a cd)) (noteFrame (.ref e) (envOf name scope L a cd))
      (fun _ s₂ => wpAny (model PG w) (A₀.deeper (envOf name scope L a cd)) (setFlight (.ref e) none) (fun _ s₃ =>
        wpAny (model PG w) (A₀.deeper (envOf name scope L a cd)) (handleBy (.ref e) (envOf name scope L a cd) (.ExceptHandler (some (.Name "ValueError" np)) none (b₀ :: suite) pos :: rest)) Q E s₃) E s₂) E s' := by
  have hA : (A₀.deeper (envOf name scope L a cd)).frames = some (envOf name scope L a cd :: outer) := Around.frames_deeper hfr
  have hbh : base.StaysIn h := fun c o e => of_hideAll _ (hbase ▸ e)
  have hen : base.get? e = none := by
    cases q : base.get? e with
    | none => rfl
    | some o => have := hbh _ _ q; rw [hx.new] at this; cases this
  obtain ⟨oe, t, he, hcls, hdt⟩ := hx.there
  have FF' : s'.heap.FunFrames base (envOf name scope L a cd :: outer) := FF.of_keeps fun c o ec _ => ⟨o, hx.keeps c o ec, rfl⟩
  have note : ∀ Q' : Unit → Shared → Prop, (∀ h', Heap.HeldW base (envOf name scope L a cd :: outer) e oe.cls t L h' → s'.heap.UpToSlots h' → Q' () { s' with heap := h' }) → wpAny (model PG w) (A₀.deeper (envOf name scope L a cd)) (noteFrame (.ref e) (envOf name scope L a cd)) Q' E s' := by
    intro Q' hQ
    unfold noteFrame
    have hf : (envOf name scope L a cd).frame = some L := rfl
    simp only [hf]
    refine wpAny_bind (wpAny_field he hdt (x := .none) (by rfl) ?_)
    rw [if_neg (by decide)]
    refine wpAny_entryW hA FF' rfl he (fun c o ec => hx.keeps c o (hbh c o ec)) hen hdt (by simp) (a0 := t) (by rfl) fun h' hN => ?_
    obtain ⟨k1, k2, k3, k4⟩ := hN
    exact hQ h' ⟨k1, hen, k2, k3⟩ k4
  refine note _ fun h₄ hheld₄ hsm₄ => ?_
  refine wpAny_landsW hheld₄ fun h₅ hheld hsm₅' => ?_
  have hsm₅ : h.UpToSlots h₅ := ((Heap.UpToSlots.of_keeps hx.keeps).trans hsm₄).trans hsm₅'
  have T₅ := T.T.keeps fun c o ec => hheld.1 c o (hb c o ec)
  obtain ⟨ob, hob, hobc⟩ := hheld.there
  rw [hcls] at hobc
  have hmiss : mg "ValueError" = none := mg_none_of T.X T.T.g (by k_is)
  refine wpAny_handleBy_builtin (X := "ValueError") (T := "ValueError") (b := true) PySem.F.isExc_ValueError PySem.F.notTuple_ValueError (by rw [isSubtype_type]; kernel_rfl) ?_
  refine Calls.Name_function_global hk hkv (Calls.loadGlobal_builtin T₅.g hmiss T₅.b ((T₅.builtins _ (by decide)).trans PyProof.Rows.Boot.«ValueError») ⟨rfl, ⟨ob, hob, hobc⟩, ?_⟩) (by decide)
  rw [hcls] at hheld
  refine lands_againW hheld fun h₆ hfl₆ hsm₆ => ?_
  exact k h₆ _ hfl₆.1 (hsm₅.trans hsm₆)

local macro_rules | `(tactic| walk_at "MY steps") => `(tactic| repeat' ((fail_if_success (with_reducible (first | refine Mine.sp0 ?_ | refine Mine.sp1 ?_ | refine Mine.sp2 ?_))); (walk_at "MY b0")))
/-- what the function does: items from the end; the first like it goes, or it is missing -/
noncomputable def diff : List (Addr × Int) → List (Addr × Int) → List (Addr × Int) → List (Addr × Int) × List (Addr × Int)
  | [], ys, ms => (ms, ys)
  | x :: r, ys, ms => match ys.findIdx? (fun p => decide (p.2 = x.2)) with
    | some j => diff r (ys.eraseIdx j) ms
    | none => diff r ys (ms ++ [x])

structure Steps (μ fr : List Addr) (h h' : Heap) : Prop where
  keep : ∀ c o, c ∉ μ → c ∉ fr → h.get? c = some o → h'.get? c = some o
  slots : Slots fr h h'
theorem Slots.refl (fr : List Addr) (h : Heap) : Slots fr h h := fun c _ o e => ⟨o.slots, e⟩
theorem Slots.trans {fr : List Addr} {h h' h'' : Heap} (a : Slots fr h h') (b : Slots fr h' h'') : Slots fr h h'' := fun c hc o e =>
  let ⟨_, e1⟩ := a c hc o e
  let ⟨sl, e2⟩ := b c hc _ e1
  ⟨sl, e2⟩
theorem Steps.trans {μ fr : List Addr} {h h' h'' : Heap} (a : Steps μ fr h h') (b : Steps μ fr h' h'') : Steps μ fr h h'' :=
  ⟨fun c o h1 h2 e => b.keep c o h1 h2 (a.keep c o h1 h2 e), a.slots.trans b.slots⟩

noncomputable def UMap (u : Option Value) (mm x y : Addr) : PySem.Str → Option Value := fun z => if z = PySem.Str.ofString "item" then u else if z = PySem.Str.ofString "missing" then some (.ref mm) else if z = PySem.Str.ofString "expected" then some (.ref x) else if z = PySem.Str.ofString "actual" then some (.ref y) else none
noncomputable def UInv (s : Shared) (L x y mm : Addr) (fr : List Addr) (xs0 ys0 : List (Addr × Int)) (n : Nat) (s' : Shared) : Prop :=
  ∃ h tk xs ys ms kx ky km u, s' = { s with heap := h, toks := tk } ∧ n = xs.length ∧ diff xs.reverse ys ms = diff xs0.reverse ys0 [] ∧ h.Ns L (UMap u mm x y) ∧
    h.get? x = some (PySem.W.listOf (refs xs).toArray kx) ∧ h.get? y = some (PySem.W.listOf (refs ys).toArray ky) ∧ h.get? mm = some (PySem.W.listOf (refs ms).toArray km) ∧
    Steps [x, y] fr s.heap h ∧ (∀ p ∈ xs, p ∈ xs0) ∧ (∀ p ∈ ys, p ∈ ys0) ∧ xs.length + ms.length ≤ xs0.length ∧ ys.length ≤ ys0.length
theorem Heap.Ns.same {h : Heap} {L : Addr} {m m' : PySem.Str → Option Value} (n : h.Ns L m) (e : ∀ z, m z = m' z) : h.Ns L m' := by
  have : m = m' := funext e
  exact this ▸ n

theorem refs_snoc (l : List (Addr × Int)) (z : Addr × Int) : refs (l ++ [z]) = refs l ++ [.ref z.1] := by simp [refs]
theorem frs_cons {env : Env} {L c : Addr} {outer : List Env} (hf : env.frame = some L) (hc : c ∈ frs (env :: outer)) : c = L ∨ c ∈ frs outer := by
  obtain ⟨e', he, hf'⟩ := List.mem_filterMap.mp hc
  rcases List.mem_cons.mp he with rfl | he
  · rw [hf] at hf'; exact .inl (Option.some.inj hf').symm
  · exact .inr (List.mem_filterMap.mpr ⟨e', he, hf'⟩)
theorem UMap_start {mm x y : Addr} (z : PySem.Str) : (if z = PySem.Str.ofString "missing" then some (Value.ref mm) else List.lookup z [(PySem.Str.ofString "actual", Value.ref y), (PySem.Str.ofString "expected", Value.ref x)]) = UMap none mm x y z := by
  unfold UMap
  by_cases h1 : z = PySem.Str.ofString "item"
  · subst h1; rfl
  by_cases h2 : z = PySem.Str.ofString "missing"
  · subst h2; rfl
  by_cases h3 : z = PySem.Str.ofString "expected"
  · subst h3; rfl
  by_cases h4 : z = PySem.Str.ofString "actual"
  · subst h4; rfl
  simp [List.lookup_cons, h1, h2, h3, h4, beq_eq_false_iff_ne.mpr h3, beq_eq_false_iff_ne.mpr h4]
theorem UMap_item {u : Option Value} {mm x y : Addr} {v : Value} (z : PySem.Str) : (if z = PySem.Str.ofString "item" then some v else UMap u mm x y z) = UMap (some v) mm x y z := by
  unfold UMap
  by_cases h1 : z = PySem.Str.ofString "item"
  · rw [if_pos h1, if_pos h1]
  · rw [if_neg h1, if_neg h1, if_neg h1]
theorem uld_call : ∀ {w : World} {A : Around} {s : Shared} {R : Result → Shared → Prop} {p loose mg mb} {b : Heap} {x y : Addr} {xs ys : List (Addr × Int)} {kx ky : Nat} {outer : List Env}
    (T : Top0 w p loose mg mb b) (hb : b.StaysIn s.heap) (S : Stack A outer s.heap) (hbf : ∀ c ∈ frs outer, b.get? c = none)
    (hx : s.heap.get? x = some (PySem.W.listOf (refs xs).toArray kx)) (hbx : b.get? x = none) (hxf : x ∉ frs outer)
    (hy : s.heap.get? y = some (PySem.W.listOf (refs ys).toArray ky)) (hby : b.get? y = none) (hyf : y ∉ frs outer)
    (hxy : x ≠ y) (Hx : Things s.heap xs) (Hy : Things s.heap ys) (hxl : xs.length < 1000000) (hyl : ys.length < 1000000) (hroom : A.depth + 3 < recursionLimit) (hu : A.units + 200 < cLine)
    (htf : ∀ p ∈ xs ++ ys, p.1 ∉ frs outer)
    (hh : A.handled = none)
    (h : ∀ h' tk t m k1 k2 k3 k4, Steps [x, y] (frs outer) s.heap h' → s.heap.get? m = none → s.heap.get? t = none → m ≠ t →
      h'.get? x = some (PySem.W.listOf #[] k1) → h'.get? y = some (PySem.W.listOf (refs (diff xs.reverse ys []).2).toArray k2) → h'.get? m = some (PySem.W.listOf (refs (diff xs.reverse ys []).1).toArray k3) →
      h'.get? t = some { cls := .type "tuple", data := .seq #[.ref m, .ref y] k4 } →
      R (.ok (.ret (.ref t))) { s with heap := h', toks := tk }),
    codeAny (model PG w) A (.call (.ref 69) ⟨[.ref x, .ref y], []⟩) R s := by
  intro w A s R p loose mg mb b x y xs ys kx ky outer T hb S hbf hx hbx hxf hy hby hyf hxy Hx Hy hxl hyl hroom hu htf hh h
  refine' call_hide [(x, PySem.W.listOf (refs xs).toArray kx), (y, PySem.W.listOf (refs ys).toArray ky)] T hb ?hμ ?hroom ?ho ?hcd ?hbind ?hloc ?hcell ?hco ?hgen ?hk ?_
  case ho => k_is
  case hcd => k_is
  case hbind => exact BindsTo.of_eq rfl
  case hloc => exact locs rfl
  case hcell => decide
  case hμ => intro q hq; rcases List.mem_cons.mp hq with rfl | hq; exact ⟨hx, hbx⟩; rcases List.mem_singleton.mp hq with rfl; exact ⟨hy, hby⟩
  case hroom => omega
  case hco => rfl
  case hgen => rfl
  case hk => rfl
  intro g L h₁ hg hL T' F N
  have X' := T'.X
  have TT := T'.T
  walk_at "MY steps"
  (rename News _ _ _ _ => N1); (rename Fr _ _ _ _ => F1)
  rename_i mm hA l1 hB
  have hmm : s.heap.get? mm = none := new_of hg N1 (.head _) (by simpa using ⟨Nat.ne_of_gt l1.1, Nat.ne_of_gt l1.2⟩)
  have hmx : mm ≠ x := Nat.ne_of_gt l1.1
  have hmy : mm ≠ y := Nat.ne_of_gt l1.2
  have hLn : s.heap.get? L = none := by rw [hL]; exact Heap.get?_none_of_le (Nat.le_refl _)
  have hmL : mm ≠ L := (N1 _ (.head _)).2.1
  have hxL : x ≠ L := fun q => by rw [q, hLn] at hx; cases hx
  have hyL : y ≠ L := fun q => by rw [q, hLn] at hy; cases hy
  refine wpAny_execs_cons (wpAny_While (codeAny_whileLoop (fun n s' => UInv s L x y mm (frs outer) xs ys n s') ?turn xs.length ?init))
  case init =>
    refine ⟨_, _, xs, ys, [], _, _, _, none, rfl, rfl, rfl, Heap.Ns.same F1.ns ?_, (N1 _ (.tail _ (.head _))).1, (N1 _ (.tail _ (.tail _ (.head _)))).1, (N1 _ (.head _)).1, ?_, fun _ h => h, fun _ h => h, by simp, Nat.le_refl _⟩
    · intro z
      change (if z = PySem.Str.ofString "missing" then some (Value.ref mm) else List.lookup z [(PySem.Str.ofString "actual", Value.ref y), (PySem.Str.ofString "expected", Value.ref x)]) = UMap none mm x y z
      exact UMap_start z
    · refine ⟨fun c o hc _ e => keep_of hg F1 (by simpa using hc) e, ?_⟩
      intro c hc o e
      exact ⟨o.slots, keep_of hg F1 (by simp; exact ⟨fun q => hxf (q ▸ hc), fun q => hyf (q ▸ hc)⟩) e⟩
  case turn =>
    rintro n s' ⟨h2, tk, xs', ys', ms, k1, k2, k3, u, rfl, rfl, hdiff, hns, hx2, hy2, hm2, St, sx, sy, l2, l3⟩
    have hcL : ∀ c o, s.heap.get? c = some o → @LT.lt Nat _ c L := fun c o e => by rw [hL]; exact Heap.lt_size e
    have bm : b.get? mm = none := by
      cases q : b.get? mm with
      | none => rfl
      | some o => have := hb _ _ q; rw [hmm] at this; cases this
    have hb2 : b.StaysIn h2 := fun c o e => St.keep c o (fun q => by
      rcases List.mem_cons.mp q with rfl | q
      · rw [hbx] at e; cases e
      · rw [List.mem_singleton.mp q, hby] at e; cases e) (fun q => by rw [hbf c q] at e; cases e) (hb c o e)
    have F2 : Fr (rb h2 L [x, y, mm]) L h2 (UMap u mm x y) := rb_fr hns
    have N2 : News (rb h2 L [x, y, mm]) L h2 [(mm, PySem.W.listOf (refs ms).toArray k3), (x, PySem.W.listOf (refs xs').toArray k1), (y, PySem.W.listOf (refs ys').toArray k2)] := by
      intro q hq
      rcases List.mem_cons.mp hq with rfl | hq
      · exact ⟨hm2, hmL, rb_none (.inl (by simp))⟩
      rcases List.mem_cons.mp hq with rfl | hq
      · exact ⟨hx2, hxL, rb_none (.inl (by simp))⟩
      rcases List.mem_singleton.mp hq with rfl
      exact ⟨hy2, hyL, rb_none (.inl (by simp))⟩
    have T2 : Top0 w p loose mg mb (rb h2 L [x, y, mm]) := rb_top' T hb2 (fun c o e => hcL c o (hb c o e)) (fun c hc => by
      rcases List.mem_cons.mp hc with rfl | hc
      · exact hbx
      rcases List.mem_cons.mp hc with rfl | hc
      · exact hby
      rw [List.mem_singleton.mp hc]; exact bm)
    have seg : ∀ h' m', Fr (rb h2 L [x, y, mm]) L h' m' → Steps [x, y] (frs outer) s.heap h' := fun h' m' F' => by
      refine ⟨fun c o h1 h2' e => rb_keep F' (St.keep c o h1 h2' e) (hcL c o e) (fun q => ?_), fun c hc o e => ?_⟩
      · rcases List.mem_cons.mp q with rfl | q
        · exact h1 (by simp)
        rcases List.mem_cons.mp q with rfl | q
        · exact h1 (by simp)
        rw [List.mem_singleton.mp q, hmm] at e; cases e
      · obtain ⟨sl, e2⟩ := St.slots c hc o e
        refine ⟨sl, rb_keep F' e2 (hcL c o e) (fun q => ?_)⟩
        rcases List.mem_cons.mp q with rfl | q
        · exact hxf hc
        rcases List.mem_cons.mp q with rfl | q
        · exact hyf hc
        rw [List.mem_singleton.mp q, hmm] at e; cases e
    have X2 := T2.X
    have TT2 := T2.T
    clear F1 N1 X' TT T'
    generalize hgBe : rb h2 L [x, y, mm] = gB at *
    walk_at "MY steps"
    refine wpAny_truthy_list (N2.isList (.tail _ (.head _))) (by simp [refs]; omega) ?_
    rcases List.eq_nil_or_concat xs' with rfl | ⟨xs'', z, hz⟩
    · refine PySem.W.ite_neg (by simp [refs]) ?_
      refine wpAny_execs_nil ?_
      walk_at "MY steps"
      (rename News _ _ _ _ => N3); (rename Fr _ _ _ _ => F3)
      rename_i D hC l3'
      have hd : diff xs.reverse ys [] = (ms, ys') := by rw [← hdiff]; rfl
      rw [hd] at h
      have St3 := seg _ _ F3
      have hDn : s.heap.get? D = none := by
        cases q : s.heap.get? D with
        | none => rfl
        | some o => 
          have q2 := (N3 _ (.head _)).2.2
          have hDx : D ≠ x := Nat.ne_of_gt l3'.2.1
          have hDy : D ≠ y := Nat.ne_of_gt l3'.2.2
          have hDm : D ≠ mm := Nat.ne_of_gt l3'.1
          rw [← hgBe] at q2
          have hh2 : ∃ o', h2.get? D = some o' := by
            by_cases hf : D ∈ frs outer
            · obtain ⟨sl, e2⟩ := St.slots D hf o q; exact ⟨_, e2⟩
            · exact ⟨o, St.keep D o (by simp [hDx, hDy]) hf q⟩
          obtain ⟨o', ho'⟩ := hh2
          rw [rb_get ho' (hcL D o q) (by simp [hDx, hDy, hDm])] at q2; cases q2
      exact h _ _ _ _ _ _ _ _ St3 hmm hDn (Nat.ne_of_lt l3'.1) (N3 _ (.tail _ (.tail _ (.head _)))).1 (N3 _ (.tail _ (.tail _ (.tail _ (.head _))))).1 (N3 _ (.tail _ (.head _))).1 (N3 _ (.head _)).1
    · rw [List.concat_eq_append] at hz
      subst hz
      refine PySem.W.ite_pos (by simp [refs]) ?_
      walk_at "MY steps"
      refine kl_pop F2 N2 (p := refs xs'') (y := .ref z.1) (by show kl_last (refs (xs'' ++ [z])) = _; rw [refs_snoc]; exact kpa_last _ _) (.tail hmx (.head (by intro q hq; rcases List.mem_singleton.mp hq with rfl; exact Ne.symm hxy))) (by
        have := sizeLine_eq
        simp [refs] at l2 ⊢; omega) ?_
      intro h3 F3 N3
      walk_at "MY steps"
      dsimp only
      refine wpAny_execs_cons (wpAny_Try_except ?_)
      walk_at "MY steps"
      (rename News _ _ _ _ => N5); (rename Fr _ _ _ _ => F5)
      have S5 := seg _ _ F5
      have th : ∀ q, q ∈ xs ++ ys → ∀ h', Steps [x, y] (frs outer) s.heap h' → IsThing h' q.1 q.2 := fun q hq h' St' => by
        have hI : IsThing s.heap q.1 q.2 := by
          rcases List.mem_append.mp hq with hq | hq
          · exact Hx q hq
          · exact Hy q hq
        obtain ⟨oq, hoq, hcq⟩ := hI.obj
        refine hI.keep fun o e => St'.keep _ _ (fun q2 => ?_) (htf q hq) e
        rcases List.mem_cons.mp q2 with q2 | q2
        · rw [q2, hx] at hoq; cases hoq; exact absurd hcq (by simp)
        · rw [List.mem_singleton.mp q2, hy] at hoq; cases hoq; exact absurd hcq (by simp)
      have hzx : z ∈ xs := sx z (by simp)
      refine remove_things (ths := ys') (n := z.2) (N5 _ (.tail _ (.tail _ (.head _)))).1 (fun q hq => th q (List.mem_append_right _ (sy q hq)) _ S5) (th z (List.mem_append_left _ hzx) _ S5) (by simp; omega) (by have := sizeLine_eq; omega) hh ?_ ?_
      · intro j h6 k6 hj hs6 hy6
        have F6 := F5.change hs6 (N5 _ (.tail _ (.tail _ (.head _)))).2.1 (N5 _ (.tail _ (.tail _ (.head _)))).2.2
        walk_at "MY steps"
        refine ⟨xs''.length, by simp, h6, _, xs'', ys'.eraseIdx j, ms, _, _, _, some (.ref z.1), rfl, rfl, ?_, Heap.Ns.same F6.ns ?_, (hs6.2 x hxy).trans (N5 _ (.tail _ (.head _))).1, hy6, (hs6.2 mm hmy).trans (N5 _ (.head _)).1, seg _ _ F6, fun q hq => sx q (by simp [hq]), fun q hq => sy q (List.mem_of_mem_eraseIdx hq), by simp at l2; omega, by have := List.length_eraseIdx_le ys' j; omega⟩
        · rw [← hdiff, List.reverse_append]
          show _ = diff (z :: xs''.reverse) ys' ms
          rw [diff, hj]
        · exact UMap_item
      · intro hn h6 tk6 e hx6
        dsimp only
        have hb5 : b.StaysIn _ := fun c o e => S5.keep c o (fun q => by
          rcases List.mem_cons.mp q with rfl | q
          · rw [hbx] at e; cases e
          · rw [List.mem_singleton.mp q, hby] at e; cases e) (fun q => by rw [hbf c q] at e; cases e) (hb c o e)
        have hbL : b.get? L = none := by
          cases q : b.get? L with
          | none => rfl
          | some o => have := hb _ _ q; rw [hLn] at this; cases this
        refine caught_new (outer := outer) rfl T ?_ S.frames ?_ F5.ns hx6 ?_ rfl rfl
        · intro c o e
          refine hideAll_get _ (hb5 c o e) fun hc => ?_
          rcases frs_cons rfl hc with rfl | hc
          · rw [hbL] at e; cases e
          · rw [hbf c hc] at e; cases e
        · refine Stack.fun (A := A) ?_ ?_ (fun c hc => hideAll_none _ hc)
          · intro env he
            rcases List.mem_cons.mp he with rfl | he
            · intro q; cases q
            · exact S.kinds env he
          · intro env he
            rcases List.mem_cons.mp he with rfl | he
            · obtain ⟨oL, es, ep, hoL, hdL, _⟩ := F5.ns
              exact ⟨L, oL, rfl, hoL, fun vs q => by rw [hdL] at q; cases q⟩
            · obtain ⟨L', o, hf, ho, hd⟩ := S.there env he
              obtain ⟨sl, e2⟩ := S5.slots L' (List.mem_filterMap.mpr ⟨env, he, hf⟩) o ho
              exact ⟨L', _, hf, e2, hd⟩
        · intro h7 E7 hs7 hu7
          have nf : ∀ (c : Addr) (o : Obj), c ≠ L → c ∉ frs outer → _ → h7.get? c = some o := fun c o h1 h2 e => hs7 c o (hideAll_get _ e fun q => by
            rcases frs_cons rfl q with q | q
            · exact h1 q
            · exact h2 q)
          have hfo : ∀ c, c ∈ frs outer → ∃ o, s.heap.get? c = some o ∧ ∀ vs, o.data ≠ .fields vs := fun c hc => by
            obtain ⟨env, he, hf⟩ := List.mem_filterMap.mp hc
            obtain ⟨L', o, hf', ho, hd⟩ := S.there env he
            rw [hf] at hf'; cases hf'
            exact ⟨o, ho, hd⟩
          have hmf : mm ∉ frs outer := fun q => by
            obtain ⟨o, ho, _⟩ := hfo mm q
            rw [hmm] at ho; cases ho
          have hb7 : b.StaysIn h7 := fun c o e => nf c o (fun q => by rw [q, hbL] at e; cases e) (fun q => by rw [hbf c q] at e; cases e) (hb5 c o e)
          have F7 : Fr (rb h7 L [x, y, mm]) L h7 _ := rb_fr (hu7.ns F5.ns)
          have N7 : News (rb h7 L [x, y, mm]) L h7 [(mm, PySem.W.listOf (refs ms).toArray k3), (x, PySem.W.listOf (refs xs'').toArray (k1 + 1)), (y, PySem.W.listOf (refs ys').toArray k2)] := by
            intro q hq
            rcases List.mem_cons.mp hq with rfl | hq
            · exact ⟨nf _ _ hmL hmf (N5 _ (.head _)).1, hmL, rb_none (.inl (by simp))⟩
            rcases List.mem_cons.mp hq with rfl | hq
            · exact ⟨nf _ _ hxL hxf (N5 _ (.tail _ (.head _))).1, hxL, rb_none (.inl (by simp))⟩
            rcases List.mem_singleton.mp hq with rfl
            exact ⟨nf _ _ hyL hyf (N5 _ (.tail _ (.tail _ (.head _)))).1, hyL, rb_none (.inl (by simp))⟩
          have T7 : Top0 w p loose mg mb (rb h7 L [x, y, mm]) := rb_top' T hb7 (fun c o e => hcL c o (hb c o e)) (fun c hc => by
            rcases List.mem_cons.mp hc with rfl | hc
            · exact hbx
            rcases List.mem_cons.mp hc with rfl | hc
            · exact hby
            rw [List.mem_singleton.mp hc]; exact bm)
          have X7 := T7.X
          have TT7 := T7.T
          clear X2 TT2 T2 N5
          have hns5 := F5.ns
          clear F5
          generalize hg7 : rb h7 L [x, y, mm] = g7 at *
          walk_at "MY steps"
          refine append_K F7 N7 (.head (by intro q hq; rcases List.mem_cons.mp hq with rfl | hq; exact Ne.symm hmx; rcases List.mem_singleton.mp hq with rfl; exact Ne.symm hmy)) ?_ (by have := sizeLine_eq; simp [refs] at l2 ⊢; omega)
          intro h8 F8 N8
          walk_at "MY steps"
          have seg8 : ∀ c o, @LT.lt Nat _ c L → c ∉ [x, y, mm] → h7.get? c = some o → h8.get? c = some o := fun c o h1 h2 e => F8.keep _ _ (hg7 ▸ rb_get e h1 h2)
          refine ⟨xs''.length, by simp, h8, _, xs'', ys', ms ++ [z], _, _, k3 + 1, some (.ref z.1), rfl, rfl, ?_, Heap.Ns.same F8.ns UMap_item, (N8 _ (.tail _ (.head _))).1, (N8 _ (.tail _ (.tail _ (.head _)))).1, ?_, ?_, fun q hq => sx q (by simp [hq]), sy, by simp at l2 ⊢; omega, l3⟩
          · rw [← hdiff, List.reverse_append]
            show _ = diff (z :: xs''.reverse) ys' ms
            rw [diff, hn]
          · have := (N8 _ (.head _)).1
            rw [refs_snoc]
            simpa using this
          · refine ⟨fun c o h1 h2 e => seg8 c o (hcL c o e) (fun q => ?_) (nf c o (fun q => by rw [q, hLn] at e; cases e) h2 (S5.keep c o h1 h2 e)), fun c hc o e => ?_⟩
            · rcases List.mem_cons.mp q with rfl | q
              · exact h1 (by simp)
              rcases List.mem_cons.mp q with rfl | q
              · exact h1 (by simp)
              rw [List.mem_singleton.mp q, hmm] at e; cases e
            · obtain ⟨sl, e5⟩ := S5.slots c hc o e
              obtain ⟨o', ho', hd'⟩ := hfo c hc
              rw [e] at ho'; cases ho'
              obtain ⟨sl7, e7⟩ := hu7 c _ e5 hd'
              refine ⟨sl7, seg8 c _ (hcL c o e) (fun q => ?_) e7⟩
              rcases List.mem_cons.mp q with rfl | q
              · exact hxf hc
              rcases List.mem_cons.mp q with rfl | q
              · exact hyf hc
              rw [List.mem_singleton.mp q] at hc; exact hmf hc
end Mine
end
section
open PySem PySem.W PySem.Calls PyProof.Rows PySem.SeqAt
set_option linter.unusedVariables false
set_option maxRecDepth 100000
set_option maxHeartbeats 4000000
namespace Mine
theorem call_hide' {prog : Program} {w : World} {A : Around} {s : Shared} {R : Result → Shared → Prop} {p loose mg mb} {b : Heap}
    {name qual : PySem.Str} {params : Arguments} {body : List Stmt} {scope : Scope} {dV kV doc pm cdv ct oc : Value} {an od : Option Addr} {osl : Array (Option Value)} {f : Addr} {args : Args} {binds : List (PySem.Str × Value)}
    (μ : List (Addr × Obj)) (T : Top0 w p loose mg mb b) (hb : b.StaysIn s.heap) (hμ : ∀ q ∈ μ, s.heap.get? q.1 = some q.2 ∧ b.get? q.1 = none)
    (hroom : A.depth < recursionLimit)
    (ho : (hd.heap_39 w.params).lookup f = some ⟨oc, od, .func (fnOf name qual params body scope dV kV doc pm an cdv ct), osl⟩) (hcd : codeIn (hd.heap_39 w.params) cdv qual = true)
    (hbind : BindsTo s (fnOf name qual params body scope dV kV doc pm an cdv ct) args binds) (hloc : ∀ y ∈ binds, scope.names.lookup y.1 = some .local)
    (hcell : ∀ x ∈ scope.names, x.2 ≠ .cell)
    (hco : scope.isCoroutine = false) (hgen : scope.isGenerator = false) (hk : scope.kind = .function)
    (h : ∀ g L h₁ tk, g = hideAll s.heap (μ.map (·.1)) → L = s.heap.objs.size → Top0 w p loose mg mb g → Fr g L h₁ (fun y => binds.reverse.lookup y) → News g L h₁ μ →
      wpAny (model prog w) (A.deeper (envOf qual scope L f cdv)) (execs body (envOf qual scope L f cdv))
        (fun fl s' => R (.ok (.ret (match fl with | .ret v => v | _ => .none))) s')
        (fun e s' => wpAny (model prog w) (A.deeper (envOf qual scope L f cdv)) (leaving (envOf qual scope L f cdv) e) (fun _ s'' => R (.error e) s'') (fun e' s'' => R (.error e') s'') s')
        { s with heap := h₁, toks := tk }) :
    codeAny (model prog w) A (.call (.ref f) args) R s :=
  call_hide μ T hb hμ hroom ho hcd hbind hloc hcell hco hgen hk fun g L h₁ a b c d e => h g L h₁ _ a b c d e
theorem cname {M : Model} {A : Around} {E : Value → Shared → Prop} {s : Shared} {env : Env} {x : PySem.Str} {px : Pos} {m : PySem.Str → Option Value} {v : Value} {Q : Value → Shared → Prop} (hk : env.scope.kind = .function)
    (hl : env.kindOf x = some .local) (hn : s.heap.Ns env.locals m) (hv : m x = some v) (h : Q v s) (hb : (x == ("__debug__" : PySem.Str)) = false := by decide) : wpAny M A (eval (.Name x px) env) Q E s :=
  wpAny_Name (wpAny_loadName_local hk hl hn hv h) hb
theorem ccell {M : Model} {A : Around} {E : Value → Shared → Prop} {s : Shared} {env : Env} {x : PySem.Str} {px : Pos} {c : Addr} {v : Value} {Q : Value → Shared → Prop} (hk : env.scope.kind = .function)
    (hl : env.kindOf x = some .cell) (hc : env.cells.lookup x = some c) (hv : s.heap.IsCell c (some v)) (h : Q v s) (hb : (x == ("__debug__" : PySem.Str)) = false := by decide) : wpAny M A (eval (.Name x px) env) Q E s :=
  wpAny_Name (wpAny_loadName_cell hk hl hc hv h) hb
section
variable {prog : Program} {w : World} {M : Model} {A : Around} {E : Value → Shared → Prop} {s : Shared} {env : Env}
/-- what the tests of a comprehension give: there is none, or one -/
noncomputable def testW (M : Model) (A : Around) (env : Env) (Q : Bool → Shared → Prop) (E : Value → Shared → Prop) (s : Shared) : List Expr → Prop
  | [] => Q true s
  | [c] => wpAny M A (isTrue c env (eval c env)) Q E s
  | _ => False
theorem testW_one {c : Expr} {Q : Bool → Shared → Prop} (h : wpAny M A (isTrue c env (eval c env)) Q E s) : testW M A env Q E s [c] := h
theorem testW_mono {Q Q' : Bool → Shared → Prop} (k : ∀ b s, Q b s → Q' b s) : ∀ {ifs : List Expr}, testW M A env Q E s ifs → testW M A env Q' E s ifs
  | [], h => k _ _ h
  | [_], h => wpAny_mono h k fun _ _ e => e
  | _ :: _ :: _, h => h.elim
/-- a turn of a comprehension's loop, and the rule of the loop -/
noncomputable def TurnR (prog : Program) (w : World) (A : Around) (elt target : Expr) (ifs : List Expr) (it acc : Value) (env : Env) (R : Result → Shared → Prop) (B : Shared → Prop) (s : Shared) : Prop :=
  let N : Value → Shared → Prop := notedBy (model prog w) A env fun e s' => R (.error e) s'
  wpAny (model prog w) A (pyNext it) (fun r s₁ => match r with
    | none => R (.ok .next) s₁
    | some v => wpAny (model prog w) A (letOwnedTupleGo target it v) (fun _ s₂ => wpAny (model prog w) A (assign target env v) (fun _ s₃ => testW (model prog w) A env
        (fun ok s₄ => if ok = true then wpAny (model prog w) A (eval elt env) (fun x s₅ => wpAny (model prog w) A (call (.builtin "list.append") [acc, x]) (fun _ s₆ => B s₆) N s₅) N s₄ else B s₄) N s₃ ifs) N s₂) N s₁) N s
noncomputable def LoopR (prog : Program) (w : World) (A : Around) (elt target iter : Expr) (ifs : List Expr) (scope : Scope) (pos : Pos) : Prop :=
  ∀ {R : Result → Shared → Prop} {it acc : Value} {env : Env} (I : Nat → Shared → Prop), (∀ n s, I n s → TurnR prog w A elt target ifs it acc env R (fun s' => ∃ m, m < n ∧ I m s') s) →
    ∀ n s, I n s → codeAny (model prog w) A (.compLoop (.ListComp elt [⟨target, iter, ifs, 0⟩] scope pos) 0 it acc env) R s
theorem loop_one {elt target iter c : Expr} {scope : Scope} {pos : Pos} : LoopR prog w A elt target iter [c] scope pos := fun I turn n _ h => kct_loop I turn n h
theorem loop_pair {elt iter : Expr} {elts : List Expr} {k : Nat} {tp : Pos} {scope : Scope} {pos : Pos} : LoopR prog w A elt (.Tuple elts k tp) iter [] scope pos :=
  fun I turn n _ h => LCp.codeAny_compLoop_pair I turn n h
end

/-- all stays but at C, which stays a namespace -/
noncomputable def KeepsC (C : Addr) (s s' : Shared) : Prop := ∃ h' tk, s' = { s with heap := h', toks := tk } ∧ (∀ b o, b ≠ C → s.heap.get? b = some o → h'.get? b = some o) ∧ ∃ m, h'.Ns C m

theorem comp_core {prog : Program} {w : World} {A : Around} {E : Value → Shared → Prop} {env : Env} {elt target iter : Expr} {ifs : List Expr} {scope : Scope} {pos : Pos} {cl : List (PySem.Str × Addr)} {RR : Value → Addr → Result → Shared → Prop}
    {s₂ : Shared} {I : Addr} {fp wr : List Addr} {n : Nat} {P Md : Nat → Value → Heap → Prop} {St : Nat → Heap → Prop} {p : Nat → Bool} {F : Nat → Value}
    (hcell : ∀ y ∈ scope.names, y.2 ≠ .cell) (hkind : scope.kind = .function) (LR : LoopR prog w A elt target iter ifs scope pos)
    (W : KTurns prog w A target I fp wr n P Md St) (hself : ∀ i (s : Shared) (Q : Value → Shared → Prop) (E : Value → Shared → Prop), St i s.heap → Q (.ref I) s → wpAny (model prog w) A (pyIter (.ref I)) Q E s)
    (hsz : n ≤ sizeLine) (hst : St 0 s₂.heap) (hfp : ∀ b ∈ fp, @LT.lt Nat _ b s₂.heap.objs.size)
    (hturn : ∀ (C : Addr) i v (s₃ : Shared) m₃ E', @LE.le Nat _ s₂.heap.objs.size C → i < n → P i v s₃.heap → s₃.heap.Ns C m₃ → (∀ b o, b ∉ wr → s₂.heap.get? b = some o → s₃.heap.get? b = some o) → (∃ h tk, s₃ = { s₂ with heap := h, toks := tk }) →
        wpAny (model prog w) A (assign target (compEnvC scope cl C env) v) (fun _ s₄ => testW (model prog w) A (compEnvC scope cl C env) (fun ok s₅ => ok = p i ∧
          if ok = true then wpAny (model prog w) A (eval elt (compEnvC scope cl C env)) (fun y s₆ => y = F i ∧ KeepsC C s₃ s₆) E' s₅ else KeepsC C s₃ s₅) E' s₄ ifs) E' s₃)
    (hRR : ∀ D C h' tk k m', s₂.heap.get? D = none → s₂.heap.get? C = none → D ≠ C → h'.Ns C m' → h'.get? D = some (PySem.W.listOf (((List.range n).filter p).map F).toArray k) → (∀ b o, b ∉ wr → s₂.heap.get? b = some o → h'.get? b = some o) → RR (.ref D) C (.ok .next) { s₂ with heap := h', toks := tk }) :
    wpAny (model prog w) A (newList []) (fun acc s₃ => wpAny (model prog w) A (newFunctionEnv scope env.globals cl [] env.qual none .none (some env)) (fun cenv s₄ =>
      codeAny (model prog w) A (.compStart (.ListComp elt [⟨target, iter, ifs, 0⟩] scope pos) 0 (.ref I) acc { cenv with scope := relabel scope env }) (RR acc cenv.locals) s₄) E s₃) E s₂ := by
  refine wpAny_newObj_type (wpAny_newFunctionEnv hcell (by intro y hy; simp at hy) (fun h₁ hns₁ hsb₁ => ?_) hkind)
  dsimp only at hns₁ hsb₁ ⊢
  generalize hH2 : s₂.heap.push { cls := .type "list", dict := none, data := .seq ([] : List Value).toArray } = H2 at hns₁ hsb₁ ⊢
  have hC : H2.objs.size = s₂.heap.objs.size + 1 := by rw [← hH2, Heap.size_push]
  have hDC : s₂.heap.objs.size ≠ H2.objs.size := by rw [hC]; exact Nat.ne_of_lt (Nat.lt_succ_self _)
  have hCle : @LE.le Nat _ s₂.heap.objs.size H2.objs.size := by rw [hC]; exact Nat.le_succ _
  have below : ∀ b : Addr, @LT.lt Nat _ b s₂.heap.objs.size → b ≠ H2.objs.size ∧ b ≠ s₂.heap.objs.size := fun b hb => ⟨by rw [hC]; exact Nat.ne_of_lt (Nat.lt_succ_of_lt hb), Nat.ne_of_lt hb⟩
  have hDf : s₂.heap.objs.size ∉ fp := fun hm => Nat.lt_irrefl _ (hfp _ hm)
  have hCf : H2.objs.size ∉ fp := fun hm => by have := hfp _ hm; rw [hC] at this; exact Nat.lt_irrefl _ (Nat.lt_of_succ_lt this)
  have hDw : s₂.heap.objs.size ∉ wr := fun hm => hDf (W.sub _ hm)
  have hCw : H2.objs.size ∉ wr := fun hm => hCf (W.sub _ hm)
  have old : ∀ b o, s₂.heap.get? b = some o → h₁.get? b = some o := fun b o e => hsb₁.extBut b o (below b (Heap.lt_size e)).1 (Heap.get?_push_of_some _ (hH2 ▸ Heap.get?_push_of_some _ e))
  have hacc : h₁.get? s₂.heap.objs.size = some (PySem.W.listOf #[] 0) := hsb₁.extBut _ _ hDC (Heap.get?_push_of_some _ (hH2 ▸ Heap.get?_push_size _ rfl))
  have hst₁ : St 0 h₁ := W.frame _ _ _ hst fun b _ o e => old b o e
  have fresh : ∀ a : Addr, @LE.le Nat _ s₂.heap.objs.size a → s₂.heap.get? a = none := fun a ha => by
    cases e : s₂.heap.get? a with
    | none => rfl
    | some o' => exact absurd (Heap.lt_size e) (Nat.not_lt.mpr ha)
  have loop : ∀ s₃ : Shared, s₃ = { s₂ with heap := h₁, toks := s₂.toks + ([] : List (PySem.Str × Value)).length } →
      codeAny (model prog w) A (.compLoop (.ListComp elt [⟨target, iter, ifs, 0⟩] scope pos) 0 (.ref I) (.ref s₂.heap.objs.size) (compEnvC scope cl H2.objs.size env))
        (RR (.ref s₂.heap.objs.size) H2.objs.size) s₃ := by
    rintro s₃ rfl
    refine LR
      (fun k s' => ∃ h' tk i m' kk, s' = { s₂ with heap := h', toks := tk } ∧ i ≤ n ∧ k = n + 1 - i ∧ St i h' ∧ h'.Ns H2.objs.size m' ∧ h'.get? s₂.heap.objs.size = some (PySem.W.listOf (((List.range i).filter p).map F).toArray kk) ∧
        (∀ b o, b ∉ wr → s₂.heap.get? b = some o → h'.get? b = some o)) ?_ (n + 1) _ ⟨h₁, _, 0, _, 0, rfl, Nat.zero_le _, rfl, hst₁, hns₁, hacc, fun b o _ e => old b o e⟩
    rintro k s' ⟨h', tk, i, m', kk, rfl, hi, rfl, hst', hn', hacc', hk'⟩
    by_cases hlt : i < n
    · refine W.item i _ _ _ hlt hst' fun v h₂ tk₂ hMd hk₂ => ?_
      refine W.go i v _ _ _ hMd fun h₃ hP hst₃ hk₃ => ?_
      have hacc₃ := hk₃ _ _ hDw (hk₂ _ _ hDw hacc')
      have hn₃ := (hn'.at' fun o e => hk₂ _ o hCw e).at' fun o e => hk₃ _ o hCw e
      have hk3 : ∀ b o, b ∉ wr → s₂.heap.get? b = some o → h₃.get? b = some o := fun b o hb e => hk₃ b o hb (hk₂ b o hb (hk' b o hb e))
      have fin : ∀ s₆, KeepsC H2.objs.size { s₂ with heap := h₃, toks := tk₂ } s₆ → ∃ h6 tk6 m6, s₆ = { s₂ with heap := h6, toks := tk6 } ∧ h6.Ns H2.objs.size m6 ∧ h6.get? s₂.heap.objs.size = some (PySem.W.listOf (((List.range i).filter p).map F).toArray kk) ∧ St (i + 1) h6 ∧ (∀ b o, b ∉ wr → s₂.heap.get? b = some o → h6.get? b = some o) := by
        rintro s₆ ⟨h6, tk6, rfl, hk6, m6, hn6⟩
        exact ⟨h6, tk6, m6, rfl, hn6, hk6 _ _ hDC hacc₃, W.frame _ _ _ hst₃ fun b hb o e => hk6 b o (fun q => hCf (q ▸ hb)) e, fun b o hb e => hk6 b o (below b (Heap.lt_size e)).1 (hk3 b o hb e)⟩
      refine wpAny_mono (hturn H2.objs.size i v _ _ _ hCle hlt hP hn₃ hk3 ⟨_, _, rfl⟩) (fun _ s₄ h₄ => testW_mono (fun ok s₅ h₅ => ?_) h₄) fun _ _ e => e
      obtain ⟨hok, h₅⟩ := h₅
      cases ok with
      | false =>
        simp only [Bool.false_eq_true, if_false] at h₅ ⊢
        obtain ⟨h6, tk6, m6, rfl, hn6, hD6, hs6, hk6⟩ := fin _ h₅
        exact ⟨n + 1 - (i + 1), by omega, h6, tk6, i + 1, m6, kk, rfl, hlt, rfl, hs6, hn6, by rw [List.range_succ, List.filter_append]; simpa [← hok] using hD6, hk6⟩
      | true =>
        simp only [if_true] at h₅ ⊢
        refine wpAny_mono h₅ (fun y s₆ h₆ => ?_) fun _ _ e => e
        obtain ⟨rfl, h₆⟩ := h₆
        obtain ⟨h6, tk6, m6, rfl, hn6, hD6, hs6, hk6⟩ := fin _ h₆
        have hsz' : (((List.range i).filter p).map F).toArray.size ≤ sizeLine := by
          have e2 : ((List.range i).filter p).length ≤ (List.range i).length := List.length_filter_le _ _
          simp only [List.size_toArray, List.length_map, List.length_range] at e2 ⊢
          omega
        refine wpAny_list_append_plain (hsz := hsz') ⟨_, hD6⟩ fun h7 hl7 hs7 => ?_
        obtain ⟨kk', hl7⟩ := hl7
        refine ⟨n + 1 - (i + 1), by omega, h7, tk6, i + 1, m6, kk', rfl, hlt, rfl, W.frame _ _ _ hs6 fun b hb o e => hs7.extBut b o (fun q => hDf (q ▸ hb)) e, hn6.sameBut hs7 (Ne.symm hDC), ?_, fun b o hb e => hs7.extBut b o (below b (Heap.lt_size e)).2 (hk6 b o hb e)⟩
        rw [hl7, List.range_succ, List.filter_append]
        simp [← hok, PySem.W.listOf]
    · obtain rfl : i = n := Nat.le_antisymm hi (Nat.not_lt.mp hlt)
      refine W.done _ _ _ hst' fun h₂ tk₂ hk₂ => ?_
      exact hRR _ _ h₂ tk₂ kk m' (fresh _ (Nat.le_refl _)) (fresh _ hCle) hDC (hn'.at' fun o e => hk₂ _ o hCw e) (hk₂ _ _ hDw hacc') fun b o hb e => hk₂ b o hb (hk' b o hb e)
  exact codeAny_compStart_list (loop _ rfl) (hself 0 _ _ _ hst₁ (loop _ rfl))

theorem comp_any {prog : Program} {w : World} {A : Around} {E : Value → Shared → Prop} {s : Shared} {env : Env} {elt target iter : Expr} {ifs : List Expr} {scope : Scope} {pos : Pos} {cl : List (PySem.Str × Addr)} {Q : Value → Shared → Prop}
    (hclos : closureFor scope env = pure cl) (hcell : ∀ y ∈ scope.names, y.2 ≠ .cell) (hkind : scope.kind = .function)
    (hnames : ∀ y ∈ scope.names, y.2 = .local → scope.names.lookup y.1 = some .local) (LR : LoopR prog w A elt target iter ifs scope pos)
    (h : wpAny (model prog w) A (eval iter env) (fun xv s₁ => wpAny (model prog w) A (pyIter xv) (fun it s₂ => ∃ (I : Addr) (fp wr : List Addr) (n : Nat) (P Md : Nat → Value → Heap → Prop) (St : Nat → Heap → Prop) (p : Nat → Bool) (F : Nat → Value),
      it = .ref I ∧ KTurns prog w A target I fp wr n P Md St ∧ (∀ i (s : Shared) (Q : Value → Shared → Prop) (E : Value → Shared → Prop), St i s.heap → Q (.ref I) s → wpAny (model prog w) A (pyIter (.ref I)) Q E s) ∧
      n ≤ sizeLine ∧ St 0 s₂.heap ∧ (∀ b ∈ fp, @LT.lt Nat _ b s₂.heap.objs.size) ∧
      (∀ (C : Addr) i v (s₃ : Shared) m₃ E', @LE.le Nat _ s₂.heap.objs.size C → i < n → P i v s₃.heap → s₃.heap.Ns C m₃ → (∀ b o, b ∉ wr → s₂.heap.get? b = some o → s₃.heap.get? b = some o) → (∃ h tk, s₃ = { s₂ with heap := h, toks := tk }) →
        wpAny (model prog w) A (assign target (compEnvC scope cl C env) v) (fun _ s₄ => testW (model prog w) A (compEnvC scope cl C env) (fun ok s₅ => ok = p i ∧
          if ok = true then wpAny (model prog w) A (eval elt (compEnvC scope cl C env)) (fun y s₆ => y = F i ∧ KeepsC C s₃ s₆) E' s₅ else KeepsC C s₃ s₅) E' s₄ ifs) E' s₃) ∧
      (∀ D h' tk k, s₂.heap.get? D = none → h'.get? D = some (PySem.W.listOf (((List.range n).filter p).map F).toArray k) → (∀ b o, b ∉ wr → s₂.heap.get? b = some o → h'.get? b = some o) → Q (.ref D) { s₂ with heap := h', toks := tk })) E s₁) E s)
    (hs : ∀ x, foldedSetIterable iter env x = pure x := by intro _; rfl) :
    wpAny (model prog w) A (eval (.ListComp elt [⟨target, iter, ifs, 0⟩] scope pos) env) Q E s := by
  rw [eval_ListComp]
  refine wpAny_comprehension_free (use := none) rfl hs hclos hkind hnames (wpAny_mono h (fun xv s₁ h₁ => wpAny_mono h₁ (fun it s₂ h₂ => ?_) fun _ _ e => e) fun _ _ e => e)
  obtain ⟨I, fp, wr, n, P, Md, St, p, F, rfl, W, hself, hsz, hst, hfp, hturn, hQ⟩ := h₂
  refine comp_core (RR := fun acc C => compPost (model prog w) A E none Q acc C) hcell hkind LR W hself hsz hst hfp hturn ?_
  intro D C h' tk k m' hD hC hDC hn hl hk
  exact ⟨m', hn, fun h'' hs'' => hQ D h'' tk k hD (hs''.extBut _ _ hDC hl) fun b o hb e => hs''.extBut b o (by rintro rfl; rw [hC] at e; cases e) (hk b o hb e)⟩

theorem comp_assign {prog : Program} {w : World} {A : Around} {E : Value → Shared → Prop} {s : Shared} {env : Env} {elt target iter : Expr} {ifs : List Expr} {scope : Scope} {pos : Pos} {cl : List (PySem.Str × Addr)} {y : PySem.Str} {py spos : Pos} {Q : Flow → Shared → Prop}
    (hsw : swapsWith (.ListComp elt [⟨target, iter, ifs, 0⟩] scope pos) (some (.Name y py)) spos.line env = pure true)
    (hy : env.kindOf y = some .local) (hp : (env.scope.kind == .class || (env.scope.kind == .module && env.locals != env.globals)) = false)
    (hclos : closureFor scope env = pure cl) (hcell : ∀ y ∈ scope.names, y.2 ≠ .cell) (hkind : scope.kind = .function)
    (hnames : ∀ y ∈ scope.names, y.2 = .local → scope.names.lookup y.1 = some .local) (LR : LoopR prog w A elt target iter ifs scope pos)
    (h : wpAny (model prog w) A (eval iter env) (fun xv s₁ => wpAny (model prog w) A (pyIter xv) (fun it s₂ => ∃ (I : Addr) (fp wr : List Addr) (n : Nat) (P Md : Nat → Value → Heap → Prop) (St : Nat → Heap → Prop) (p : Nat → Bool) (F : Nat → Value) (m : PySem.Str → Option Value),
      env.locals ∉ wr ∧ s₂.heap.Ns env.locals m ∧
      it = .ref I ∧ KTurns prog w A target I fp wr n P Md St ∧ (∀ i (s : Shared) (Q : Value → Shared → Prop) (E : Value → Shared → Prop), St i s.heap → Q (.ref I) s → wpAny (model prog w) A (pyIter (.ref I)) Q E s) ∧
      n ≤ sizeLine ∧ St 0 s₂.heap ∧ (∀ b ∈ fp, @LT.lt Nat _ b s₂.heap.objs.size) ∧
      (∀ (C : Addr) i v (s₃ : Shared) m₃ E', @LE.le Nat _ s₂.heap.objs.size C → i < n → P i v s₃.heap → s₃.heap.Ns C m₃ → (∀ b o, b ∉ wr → s₂.heap.get? b = some o → s₃.heap.get? b = some o) → (∃ h tk, s₃ = { s₂ with heap := h, toks := tk }) →
        wpAny (model prog w) A (assign target (compEnvC scope cl C env) v) (fun _ s₄ => testW (model prog w) A (compEnvC scope cl C env) (fun ok s₅ => ok = p i ∧
          if ok = true then wpAny (model prog w) A (eval elt (compEnvC scope cl C env)) (fun y s₆ => y = F i ∧ KeepsC C s₃ s₆) E' s₅ else KeepsC C s₃ s₅) E' s₄ ifs) E' s₃) ∧
      (∀ D h' tk k, s₂.heap.get? D = none → h'.get? D = some (PySem.W.listOf (((List.range n).filter p).map F).toArray k) → (∀ b o, b ≠ env.locals → b ∉ wr → s₂.heap.get? b = some o → h'.get? b = some o) → h'.Ns env.locals (fun z => if z = y then some (.ref D) else m z) → Q .next { s₂ with heap := h', toks := tk })) E s₁) E s)
    (hs : ∀ x, foldedSetIterable iter env x = pure x := by intro _; rfl) :
    wpAny (model prog w) A (exec (.Assign [.Name y py] (.ListComp elt [⟨target, iter, ifs, 0⟩] scope pos) spos) env) Q E s := by
  rw [exec_Assign_Name_used _ _ _ _ hsw]
  refine wpAny_bind (wpAny_standAt (wpAny_bind ?_))
  show wpAny _ A (do let _ ← comprehension (.ListComp elt [⟨target, iter, ifs, 0⟩] scope pos) scope env _ (newList []) false (eval iter env) (some (assign (.Name y py) env))) _ _ s
  refine wpAny_bind (wpAny_mono (wpAny_comprehension_free (use := some (assign (.Name y py) env)) (Q := fun _ s' => Q .next s') rfl hs hclos hkind hnames
    (wpAny_mono h (fun xv s₁ h₁ => wpAny_mono h₁ (fun it s₂ h₂ => ?_) fun _ _ e => e) fun _ _ e => e)) (fun _ s' hq => wpAny_pure (wpAny_pure hq)) fun _ _ e => e)
  obtain ⟨I, fp, wr, n, P, Md, St, p, F, m, hLw, hns, rfl, W, hself, hsz, hst, hfp, hturn, hQ⟩ := h₂
  refine comp_core (RR := fun acc C => compPost (model prog w) A E (some (assign (.Name y py) env)) (fun _ s' => Q .next s') acc C) hcell hkind LR W hself hsz hst hfp hturn ?_
  intro D C h' tk k m' hD hC hDC hnC hl hk
  have hLC : env.locals ≠ C := by rintro rfl; obtain ⟨o, _, _, ho, _⟩ := hns; rw [hC] at ho; cases ho
  have hLD : env.locals ≠ D := by rintro rfl; obtain ⟨o, _, _, ho, _⟩ := hns; rw [hD] at ho; cases ho
  show wpAny _ A (assign (.Name y py) env (.ref D)) _ _ _
  refine wpAny_assign_Name (wpAny_storeName_local hy (hns.at' fun o e => hk _ o hLw e) (fun h₂ hn₂ hs₂ => ?_) hp)
  refine ⟨m', hnC.sameBut hs₂ (Ne.symm hLC), fun h₃ hs₃ => ?_⟩
  exact hQ D h₃ _ k hD (hs₃.extBut _ _ hDC (hs₂.extBut _ _ (Ne.symm hLD) hl)) (fun b o hbL hb e => hs₃.extBut b o (by rintro rfl; rw [hC] at e; cases e) (hs₂.extBut b o hbL (hk b o hb e))) (hn₂.sameBut hs₃ hLC)
end Mine
end
section
open PySem PySem.W PySem.Calls PyProof.Rows PySem.SeqAt
set_option linter.unusedVariables false
set_option maxRecDepth 100000
set_option maxHeartbeats 1000000
namespace Mine
theorem same_call : ∀ {w : World} {A : Around} {s : Shared} {R : Result → Shared → Prop} {p loose mg mb} {b : Heap} {x y : Addr} {xs : List (Addr × Int)} {kx ky : Nat}
    (T : Top0 w p loose mg mb b) (hb : b.StaysIn s.heap)
    (hx : s.heap.get? x = some (PySem.W.listOf (refs xs).toArray kx)) 
    (hy : s.heap.get? y = some (PySem.W.listOf (refs xs).toArray ky)) 
    (hxl : xs.length < 1000000) (hroom : A.depth + 3 < recursionLimit) (hu : A.units + 200 < cLine)
    (hh : A.handled = none)
    (h : ∀ h' tk, Keep [] s.heap h' → R (.ok (.ret (.bool true))) { s with heap := h', toks := tk }),
    codeAny (model PG w) A (.call (.ref 81) ⟨[.ref x, .ref y], []⟩) R s := by
  intro w A s R p loose mg mb b x y xs kx ky T hb hx hy hxl hroom hu hh h
  refine' call_hide' [] T hb ?hμ ?hroom ?ho ?hcd ?hbind ?hloc ?hcell ?hco ?hgen ?hk ?_
  case ho => k_is
  case hcd => k_is
  case hbind => exact BindsTo.of_eq rfl
  case hloc => exact locs rfl
  case hcell => decide
  case hμ => intro q hq; cases hq
  case hroom => omega
  case hco => rfl
  case hgen => rfl
  case hk => rfl
  intro g L h₁ tk0 hg hL T' F N
  have X' := T'.X
  have TT := T'.T
  have hgx : g.IsList x (refs xs).toArray := ⟨_, by rw [hg]; exact hx, rfl, _, rfl⟩
  have hgy : g.IsList y (refs xs).toArray := ⟨_, by rw [hg]; exact hy, rfl, _, rfl⟩
  walk_at "MY steps"
  refine call_type_obj (h := h₁) (oe := PySem.W.listOf (refs xs).toArray kx) (F.keep _ _ (by rw [hg]; exact hx)) (by rfl) ?_
  have hsz : ((refs xs).toArray.size : Int) < 2 ^ 63 := by simp [refs]; omega
  walk_at "MY steps"
  rotate_left
  · exfalso; rename_i hne; exact hne (by simp)
  refine comp_any (by with_unfolding_all rfl) (by decide) (by rfl) (by decide) loop_one ?_
  walk_at "MY steps"
  have hgx1 : h₁.IsList x (refs xs).toArray := hgx.at fun o e => F.keep _ _ e
  have hgy1 : h₁.IsList y (refs xs).toArray := hgy.at fun o e => F.keep _ _ e
  refine call_zip_2 hgx1 hgy1 ?_
  intro h2 hz hp1 hp2 hi1 hi2 hs2 hk2
  refine wpAny_pyIter_zip hz ?_
  have hxl1 : @LT.lt Nat _ x h₁.objs.size := by obtain ⟨o, e, _⟩ := hgx1; exact Heap.lt_size e
  have hyl1 : @LT.lt Nat _ y h₁.objs.size := by obtain ⟨o, e, _⟩ := hgy1; exact Heap.lt_size e
  have W := fun A' hA' => WalksT.zip2 (prog := PG) (w := w) (A := A') hA' (h₁.objs.size + 4) (h₁.objs.size + 2) (h₁.objs.size + 3) h₁.objs.size (h₁.objs.size + 1) x y ⟨by simp, by simp, by simp, by simp, by simp, by simp, by simp, by simp, by simp, by simp, Nat.ne_of_lt (by omega), Nat.ne_of_lt (by omega), Nat.ne_of_lt (by omega), Nat.ne_of_lt (by omega), Nat.ne_of_lt (by omega), Nat.ne_of_lt (by omega), Nat.ne_of_lt (by omega), Nat.ne_of_lt (by omega)⟩ (refs xs).toArray (refs xs).toArray
  refine ⟨_, _, _, _, _, _, _, fun _ => false, fun _ => .none, rfl, KTurns.ofWalksU (W (A.deeper _) hh).toU, (W (A.deeper _) hh).self, ?n, ⟨hz, hp1, ⟨_, _, hp2⟩, hi1, hi2, hgx1.at fun o e => hk2 _ _ e, hgy1.at fun o e => hk2 _ _ e⟩, ?fp, ?turn, ?fin⟩
  case n => have := sizeLine_eq; simp [refs]; omega
  case fp =>
    intro b hb
    simp only [List.mem_cons, List.not_mem_nil, or_false] at hb
    dsimp only at hs2 hb ⊢
    rw [hs2]
    rcases hb with rfl | rfl | rfl | rfl | rfl | rfl | rfl
    · omega
    · omega
    · omega
    · omega
    · omega
    · omega
    · omega
  case turn =>
    rintro C i v s₃ m₃ E' hC hi ⟨T, vals, rfl, ⟨a, b', ha, hb', rfl⟩, hT⟩ hns hk ⟨h3, tk3, rfl⟩
    rw [ha] at hb'
    cases hb'
    refine assign_Tuple_tuple hh hT rfl rfl fun h5 he => ?_
    have he' : ∀ b o, h3.get? b = some o → h5.get? b = some o := fun b o e => he b o (Nat.ne_of_lt (Heap.lt_size e)) e
    refine assignInOrder_cons (wpAny_assign_Name (wpAny_storeName_local (lookup_relabel_local (by rfl)) (hns.at' fun o e => he' _ o e) (fun h6 hn6 hs6 => ?_) (by rfl)))
    refine assignInOrder_cons (wpAny_assign_Name (wpAny_storeName_local (lookup_relabel_local (by rfl)) hn6 (fun h7 hn7 hs7 => ?_) (by rfl)))
    refine assignInOrder_nil ?_
    refine testW_one ?_
    have ha2 : ∃ q, a = .ref q := by
      simp only [refs, List.getElem?_toArray, List.getElem?_map, Option.map_eq_some_iff] at ha
      obtain ⟨q, _, e⟩ := ha
      exact ⟨_, e.symm⟩
    obtain ⟨q, rfl⟩ := ha2
    refine wpAny_isTrue_Compare1 (cname (by rfl) (by rfl) hn7 (by rfl) (cname (by rfl) (by rfl) hn7 (by rfl) (wpAny_isNot_ref_self (wpAny_truthy_bool ?_))))
    refine ⟨rfl, ?_⟩
    simp only [Bool.false_eq_true, if_false]
    exact ⟨h7, _, rfl, fun b o hb e => hs7.extBut b o hb (hs6.extBut b o hb (he' b o e)), _, hn7⟩
  case fin =>
    intro D h' tk k hD hl hk
    have old : ∀ c o, h₁.get? c = some o → h'.get? c = some o := fun c o e => hk c o (fun hc => by
      have hc1 := Heap.lt_size e
      simp only [List.mem_cons, List.not_mem_nil, or_false] at hc
      try dsimp only at hc
      rcases hc with hc | hc | hc | hc <;> rw [hc] at hc1 <;> revert hc1 <;> exact Nat.not_lt.mpr (by omega)) (hk2 c o e)
    have FD := F.keeps old
    have ND : News g L h' [(D, PySem.W.listOf (((List.range (min (refs xs).toArray.size (refs xs).toArray.size)).filter fun _ => false).map fun _ => Value.none).toArray k)] := by
      have hDL : D ≠ L := by
        rintro rfl
        obtain ⟨o, _, _, e, _⟩ := F.ns
        have := hk2 _ _ e
        rw [hD] at this; cases this
      intro q hq
      rcases List.mem_singleton.mp hq with rfl
      refine ⟨hl, hDL, ?_⟩
      cases e : g.get? D with
      | none => rfl
      | some o => have := hk2 _ _ (F.keep _ _ e); rw [hD] at this; cases this
    walk_at "MY steps"
    (rename News _ _ _ _ => N8); (rename Fr _ _ _ _ => F8)
    refine eq_listAt (items := (((List.range (min (refs xs).toArray.size (refs xs).toArray.size)).filter fun _ => false).map fun _ => Value.none).toArray) (items2 := #[]) (e := fun _ => true) (N8.isList (.tail _ (.head _))) (N8.isList (.head _)) (by simp) (by simp only [units_deeper]; omega) (by intro j h1 h2; simp at h2) ?_
    rw [show ∀ l : List Nat, (l.all fun _ => true) = true from fun l => by simp]
    exact h _ _ (fun c o _ e => keep_of hg F8 (by simp) e)
end Mine
end
section
open PySem PySem.W PySem.Calls PyProof.Rows PySem.SeqAt
set_option linter.unusedVariables false
set_option maxRecDepth 100000
set_option maxHeartbeats 1000000
namespace Mine
structure Ent where
  T : Addr
  k : Int
  t : Tok
  n : Nat
  l : Addr
noncomputable def Ents (h : Heap) (es : List Ent) : Prop := ∀ e ∈ es, h.get? e.T = some { cls := .type "tuple", data := .seq #[.int e.k e.t, .ref e.l] e.n }
noncomputable def tups (es : List Ent) : List Value := es.map fun e => .ref e.T
noncomputable def PMap (u1 u2 : Option Value) (kp rn : Addr) (cold : Bool) (kind : Value) : PySem.Str → Option Value := fun z => if z = PySem.Str.ofString "things" then u2 else if z = PySem.Str.ofString "known" then u1 else if z = PySem.Str.ofString "kind" then some kind else if z = PySem.Str.ofString "runs" then some (.ref rn) else if z = PySem.Str.ofString "cold" then some (.bool cold) else if z = PySem.Str.ofString "kept" then some (.ref kp) else none
theorem PMap_start {kp rn : Addr} {cold : Bool} {kind : Value} (z : PySem.Str) : List.lookup z [(PySem.Str.ofString "kind", kind), (PySem.Str.ofString "runs", Value.ref rn), (PySem.Str.ofString "cold", Value.bool cold), (PySem.Str.ofString "kept", Value.ref kp)] = PMap none none kp rn cold kind z := by
  unfold PMap
  by_cases h1 : z = PySem.Str.ofString "things"
  · subst h1; rfl
  by_cases h2 : z = PySem.Str.ofString "known"
  · subst h2; rfl
  by_cases h3 : z = PySem.Str.ofString "kind"
  · subst h3; rfl
  by_cases h4 : z = PySem.Str.ofString "runs"
  · subst h4; rfl
  by_cases h5 : z = PySem.Str.ofString "cold"
  · subst h5; rfl
  by_cases h6 : z = PySem.Str.ofString "kept"
  · subst h6; rfl
  simp [List.lookup_cons, h1, h2, h3, h4, h5, h6, beq_eq_false_iff_ne.mpr h3, beq_eq_false_iff_ne.mpr h4, beq_eq_false_iff_ne.mpr h5, beq_eq_false_iff_ne.mpr h6]
theorem PMap_turn {u1 u2 : Option Value} {kp rn : Addr} {cold : Bool} {kind a b : Value} (z : PySem.Str) : (if z = PySem.Str.ofString "things" then some b else if z = PySem.Str.ofString "known" then some a else PMap u1 u2 kp rn cold kind z) = PMap (some a) (some b) kp rn cold kind z := by
  unfold PMap
  by_cases h1 : z = PySem.Str.ofString "things"
  · rw [if_pos h1, if_pos h1]
  by_cases h2 : z = PySem.Str.ofString "known"
  · simp only [if_neg h1, if_pos h2]
  simp only [if_neg h1, if_neg h2]
noncomputable def PInv (s : Shared) (h₁ : Heap) (I L kp rn : Addr) (cold : Bool) (kind : Int) (tk : Tok) (es : List Ent) (n : Nat) (s' : Shared) : Prop :=
  ∃ h tk' i u1 u2, s' = { s with heap := h, toks := tk' } ∧ n = es.length + 1 - i ∧ i ≤ es.length ∧ h.IsListIter I kp i ∧ h.Ns L (PMap u1 u2 kp rn cold (.int kind tk)) ∧
    (∀ c o, c ≠ L → h₁.get? c = some o → h.get? c = some o) ∧ (∀ j, j < i → ∀ e, es[j]? = some e → (e.k == kind) = false)
theorem rb_new {s h h' : Heap} {L a : Addr} {o : Obj} {μ : List Addr} {news : List (Addr × Obj)} (N : News (rb h L μ) L h' news) (hm : (a, o) ∈ news) (ha : a ∉ μ) (k : ∀ c o, s.get? c = some o → h.get? c = some o ∧ @LT.lt Nat _ c L) : s.get? a = none := by
  cases q : s.get? a with
  | none => rfl
  | some o' =>
    have := (N _ hm).2.2
    rw [rb_get (k _ _ q).1 (k _ _ q).2 ha] at this; cases this
theorem rb_keeps {s h h' : Heap} {L : Addr} {μ : List Addr} {m : PySem.Str → Option Value} (F : Fr (rb h L μ) L h' m) (k : ∀ c o, s.get? c = some o → h.get? c = some o ∧ @LT.lt Nat _ c L) : Keep μ s h' :=
  fun c o hc e => rb_keep F (k _ _ e).1 (k _ _ e).2 hc
theorem plain_call : ∀ {w : World} {A : Around} {s : Shared} {R : Result → Shared → Prop} {p loose mg mb} {b : Heap} {kp rn : Addr} {es : List Ent} {rs : List Value} {kk kr : Nat} {cold : Bool} {kind : Int} {tk : Tok}
    (T : Top0 w p loose mg mb b) (hb : b.StaysIn s.heap)
    (hk : s.heap.get? kp = some (PySem.W.listOf (tups es).toArray kk)) (hbk : b.get? kp = none)
    (hr : s.heap.get? rn = some (PySem.W.listOf rs.toArray kr)) (hbr : b.get? rn = none) (hkr : kp ≠ rn)
    (He : Ents s.heap es) (hel : es.length < 1000) (hrl : rs.length < 1000) (hroom : A.depth + 3 < recursionLimit) (hu : A.units + 200 < cLine)
    (hh : A.handled = none)
    (hyes : ∀ e h' tk', es.find? (fun e => e.k == kind) = some e → Keep [] s.heap h' → R (.ok (.ret (.ref e.l))) { s with heap := h', toks := tk' })
    (hnew : ∀ l h' tk' T nT, es.find? (fun e => e.k == kind) = none → Keep [kp, rn] s.heap h' → s.heap.get? l = none → h'.get? l = some (PySem.W.listOf #[] 0) → h'.get? rn = some (PySem.W.listOf (rs ++ [Value.int kind tk]).toArray (kr + 1)) →
      (if cold = true then h'.get? kp = some (PySem.W.listOf (tups es).toArray kk) else (h'.get? T = some { cls := .type "tuple", data := .seq #[.int kind tk, .ref l] nT } ∧ s.heap.get? T = none ∧ T ≠ l ∧ h'.get? kp = some (PySem.W.listOf (tups es ++ [Value.ref T]).toArray (kk + 1)))) →
      R (.ok (.ret (.ref l))) { s with heap := h', toks := tk' }),
    codeAny (model PG w) A (.call (.ref 88) ⟨[.ref kp, .bool cold, .ref rn, .int kind tk], []⟩) R s := by
  intro w A s R p loose mg mb b kp rn es rs kk kr cold kind tk T hb hk hbk hr hbr hkr He hel hrl hroom hu hh hyes hnew
  refine' call_hide' [(kp, PySem.W.listOf (tups es).toArray kk), (rn, PySem.W.listOf rs.toArray kr)] T hb ?hμ ?hroom ?ho ?hcd ?hbind ?hloc ?hcell ?hco ?hgen ?hk ?_
  case ho => k_is
  case hcd => k_is
  case hbind => exact BindsTo.of_eq rfl
  case hloc => exact locs rfl
  case hcell => decide
  case hμ => intro q hq; rcases List.mem_cons.mp hq with rfl | hq; exact ⟨hk, hbk⟩; rcases List.mem_singleton.mp hq with rfl; exact ⟨hr, hbr⟩
  case hroom => omega
  case hco => rfl
  case hgen => rfl
  case hk => rfl
  intro g L h₁ tk0 hg hL T' F N
  have X' := T'.X
  have TT := T'.T
  walk_at "MY steps"
  refine wpAny_execs_cons (wpAny_For ?_)
  walk_at "MY steps"
  have hlk1 := N.isList (.head _)
  have hcL : ∀ c o, s.heap.get? c = some o → @LT.lt Nat _ c L := fun c o e => by rw [hL]; exact Heap.lt_size e
  have k1 : ∀ c o, s.heap.get? c = some o → h₁.get? c = some o := fun c o e => by
    by_cases hc : c ∈ [kp, rn]
    · rcases List.mem_cons.mp hc with rfl | hc
      · rw [hk] at e; cases e; exact (N _ (.head _)).1
      · rw [List.mem_singleton.mp hc] at e ⊢; rw [hr] at e; cases e; exact (N _ (.tail _ (.head _))).1
    · exact keep_of hg F hc e
  have hLI : L ≠ h₁.objs.size := Nat.ne_of_lt F.ns.lt
  refine wpAny_pyIter_list hlk1 ?_
  refine codeAny_forLoop_any (PInv s h₁ h₁.objs.size L kp rn cold kind tk es) ?turn (es.length + 1) ?init
  case init =>
    refine ⟨_, tk0, 0, none, none, rfl, by omega, by omega, ⟨_, Heap.get?_push_size _ rfl, rfl, rfl⟩, ?_, fun c o _ e => Heap.get?_push_of_some _ e, fun j hj => absurd hj (by omega)⟩
    have hns := F.ns
    refine (Heap.Ns.same (m' := PMap none none kp rn cold (.int kind tk)) hns fun z => ?_).at' fun o e => Heap.get?_push_of_some _ e
    exact PMap_start z
  case turn =>
    rintro n s' ⟨h2, tk2, i, u1, u2, rfl, rfl, hi, hit, hns, kp2, hno⟩
    have neL : ∀ c o, s.heap.get? c = some o → c ≠ L := fun c o e => Nat.ne_of_lt (hcL c o e)
    have hl2 : h2.IsList kp (tups es).toArray := ⟨_, kp2 _ _ (neL _ _ hk) (k1 _ _ hk), rfl, _, rfl⟩
    have rebase : ∀ (h3 : Heap) m, h3.Ns L m → (∀ c o, c ≠ L → h₁.get? c = some o → h3.get? c = some o) → 
        Fr (rb h3 L [kp, rn]) L h3 m ∧ News (rb h3 L [kp, rn]) L h3 [(kp, PySem.W.listOf (tups es).toArray kk), (rn, PySem.W.listOf rs.toArray kr)] ∧ Top0 w p loose mg mb (rb h3 L [kp, rn]) := fun h3 m hn3 hk3 => by
      have q : ∀ c o, s.heap.get? c = some o → h3.get? c = some o := fun c o e => hk3 _ _ (neL _ _ e) (k1 _ _ e)
      refine ⟨rb_fr hn3, ?_, rb_top' T (fun c o e => q c o (hb c o e)) (fun c o e => hcL c o (hb c o e)) ?_⟩
      · intro z hz
        rcases List.mem_cons.mp hz with rfl | hz
        · exact ⟨q _ _ hk, neL _ _ hk, rb_none (.inl (by simp))⟩
        rcases List.mem_singleton.mp hz with rfl
        exact ⟨q _ _ hr, neL _ _ hr, rb_none (.inl (by simp))⟩
      · intro c hc
        rcases List.mem_cons.mp hc with rfl | hc
        · exact hbk
        rw [List.mem_singleton.mp hc]; exact hbr
    by_cases hlt : i < es.length
    · obtain ⟨e, he⟩ : ∃ e, es[i]? = some e := ⟨es[i], by simp [hlt]⟩
      have hem : e ∈ es := List.mem_of_getElem? he
      refine wpAny_pyNext_list_item hit hl2 (x := .ref e.T) (by simp [tups, he]) fun h3 hit3 hs3 => ?_
      refine wpAny_letOwnedTupleGo_listiter hit3 ?_
      have k3 : ∀ c o, c ≠ L → h₁.get? c = some o → h3.get? c = some o := fun c o hc e => hs3.extBut _ _ (Nat.ne_of_lt (Heap.lt_size e)) (kp2 c o hc e)
      have hT3 : h3.get? e.T = some _ := k3 _ _ (neL _ _ (He e hem)) (k1 _ _ (He e hem))
      refine assign_Tuple_tuple hh (items := #[.int e.k e.t, .ref e.l]) ⟨_, hT3, rfl, _, rfl⟩ rfl rfl fun h4 he4 => ?_
      have he4' : ∀ b o, h3.get? b = some o → h4.get? b = some o := fun b o e => he4 b o (Nat.ne_of_lt (Heap.lt_size e)) e
      refine assignInOrder_cons (wpAny_assign_Name (wpAny_storeName_local (by rfl) ((hns.at' fun o e => hs3.extBut _ _ hLI e).at' fun o e => he4' _ o e) (fun h5 hn5 hs5 => ?_) (by rfl)))
      refine assignInOrder_cons (wpAny_assign_Name (wpAny_storeName_local (by rfl) hn5 (fun h6 hn6 hs6 => ?_) (by rfl)))
      refine assignInOrder_nil ?_
      have k6 : ∀ c o, c ≠ L → h3.get? c = some o → h6.get? c = some o := fun c o hc e => hs6.extBut c o hc (hs5.extBut c o hc (he4' c o e))
      have hn7 := Heap.Ns.same hn6 (m' := PMap (some (.int e.k e.t)) (some (.ref e.l)) kp rn cold (.int kind tk)) PMap_turn
      have k61 : ∀ c o, c ≠ L → h₁.get? c = some o → h6.get? c = some o := fun c o hc e => k6 c o hc (k3 c o hc e)
      obtain ⟨F7, N7, T7⟩ := rebase h6 _ hn7 k61
      have X7 := T7.X
      have TT7 := T7.T
      clear F N T' X' TT
      generalize hgB : rb h6 L [kp, rn] = gB at *
      walk_at "MY steps"
      · rename_i hek
        dsimp only
        refine hyes e _ _ ?_ ?_
        · refine List.find?_eq_some_iff_getElem.mpr ⟨by simpa using hek, i, hlt, (List.getElem?_eq_some_iff.mp he).2, fun j hj => ?_⟩
          have := hno j hj (es[j]) (by simp [Nat.lt_trans hj hlt])
          simp [this]
        · exact fun c o _ e => (k61 _ _ (neL _ _ e) (k1 _ _ e))
      · rename_i hek
        dsimp only
        refine ⟨es.length + 1 - (i + 1), by omega, h6, _, i + 1, _, _, rfl, rfl, by omega, ?_, hn7, k61, fun j hj e' he' => ?_⟩
        · obtain ⟨oI, e1, e2, e3⟩ := hit3
          exact ⟨oI, k6 _ _ (Ne.symm hLI) e1, e2, e3⟩
        · rcases Nat.lt_or_eq_of_le (Nat.le_of_lt_succ hj) with hj | rfl
          · exact hno j hj e' he'
          · rw [he] at he'; cases he'; simpa using hek
    · have hie : i = es.length := by omega
      have hnone : es.find? (fun e => e.k == kind) = none := by
        refine List.find?_eq_none.mpr fun e he => ?_
        obtain ⟨j, hj, hje⟩ := List.mem_iff_getElem.mp he
        have := hno j (by omega) e (by simp [hj, hje])
        simp [this]
      refine wpAny_pyNext_list_end hh hit hl2 (by simp [tups, hie]) fun h3 he3 => ?_
      refine wpAny_execs_nil ?_
      have k3 : ∀ c o, c ≠ L → h₁.get? c = some o → h3.get? c = some o := fun c o hc e => he3 _ _ (Nat.ne_of_lt (Heap.lt_size e)) (kp2 c o hc e)
      obtain ⟨F7, N7, T7⟩ := rebase h3 _ (hns.at' fun o e => he3 _ _ hLI e) k3
      have X7 := T7.X
      have TT7 := T7.T
      clear F N T' X' TT
      generalize hgB : rb h3 L [kp, rn] = gB at *
      walk_at "MY steps"
      · (rename News _ _ _ _ => N8); (rename Fr _ _ _ _ => F8)
        dsimp only
        rename_i l' _ l1' _ _ _ hcold
        subst hgB
        have ks : ∀ c o, s.heap.get? c = some o → h3.get? c = some o ∧ @LT.lt Nat _ c L := fun c o e => ⟨k3 _ _ (neL _ _ e) (k1 _ _ e), hcL _ _ e⟩
        refine hnew l' _ _ 0 0 hnone (rb_keeps F8 ks) (rb_new N8 (.head _) (by simpa using ⟨Nat.ne_of_gt l1'.1, Nat.ne_of_gt l1'.2⟩) ks) (N8 _ (.head _)).1 ?_ ?_
        · have := (N8 _ (.tail _ (.tail _ (.head _)))).1
          simpa using this
        · rw [if_pos hcold]
          exact (N8 _ (.tail _ (.head _))).1
      · (rename News _ _ _ _ => N8); (rename Fr _ _ _ _ => F8)
        rename_i l' _ l1' _ _ _ hcold D' _ l2'
        subst hgB
        have ks : ∀ c o, s.heap.get? c = some o → h3.get? c = some o ∧ @LT.lt Nat _ c L := fun c o e => ⟨k3 _ _ (neL _ _ e) (k1 _ _ e), hcL _ _ e⟩
        refine append_K F8 N8 (.tail (Nat.ne_of_gt l2'.2.1) (.tail (Nat.ne_of_gt l1'.1) (.head (by intro q hq; rcases List.mem_singleton.mp hq with rfl; exact Ne.symm hkr)))) ?_ (by have := sizeLine_eq; simp [tups]; omega)
        intro h9 F9 N9
        walk_at "MY steps"
        dsimp only
        refine hnew l' _ _ D' 0 hnone (rb_keeps F9 ks) (rb_new N9 (.tail _ (.head _)) (by simpa using ⟨Nat.ne_of_gt l1'.1, Nat.ne_of_gt l1'.2⟩) ks) (N9 _ (.tail _ (.head _))).1 ?_ ?_
        · have := (N9 _ (.tail _ (.tail _ (.tail _ (.head _))))).1
          simpa using this
        · rw [if_neg (by simp [hcold])]
          refine ⟨(N9 _ (.head _)).1, rb_new N9 (.head _) (by simpa using ⟨Nat.ne_of_gt l2'.2.1, Nat.ne_of_gt l2'.2.2⟩) ks, Nat.ne_of_gt l2'.1, ?_⟩
          have := (N9 _ (.tail _ (.tail _ (.head _)))).1
          simpa using this
end Mine
end
section
open PySem.W.X PySem.W.XRun
local macro_rules | `(tactic| x_close) => `(tactic| (first | (rename Mem _ _ _ _ => D; rename (∀ (_ : Heap) (_ : Nat) (_ _ : Addr), _) => hQ; exact hQ _ _ _ _ (D.nw _ (.head _)).2 (D.nw _ (.tail _ (.head _))).2 ((List.pairwise_cons.mp D.ord).1 _ (.head _)) (fun c o e => D.keep c o e (by simp [away])) (D.nw _ (.head _)).1 (D.nw _ (.tail _ (.head _))).1) | (rename (∀ (_ : Heap) (_ : Nat) (_ : Tok) (_ : Int), _) => hQ; exact hQ _ _ _ _ (by simp) (fun c o e => e)) | (rename (∀ (_ : Heap) (_ : Nat), _) => hQ; exact hQ _ _ (fun c o e => e)) | (rename Mem _ _ _ _ => D; rename (∀ (_ : Heap) (_ : Nat), _) => hQ; exact hQ _ _ (fun c o e => D.keep c o e (by simp [away]))) | (rename Mem _ _ _ _ => D; rename (∀ (_ : Heap) (_ : Nat) (_ : Addr), _) => hQ; exact hQ _ _ _ (fun c o e => D.keep c o e (by simp [away])) (D.nw _ (.head _)).2 (D.nw _ (.head _)).1)))
section
open PySem PySem.W PySem.Calls PyProof.Rows
set_option maxRecDepth 100000
set_option maxHeartbeats 0
set_option linter.unusedVariables false
namespace Mine
open PySem.W.X PySem.W.XRun
theorem book_new : ∀ {w : World} {A : Around} {s : Shared} {Q : Value → Shared → Prop} {E : Value → Shared → Prop} {f : Addr} {fd : FuncData} 
    (KX : (hd.heap_39 w.params).In s.heap) (hf : s.heap.get? f = some { cls := .type "function", data := .func fd })
    (hroom : A.depth + 3 < recursionLimit) (hu : A.units + 100 < cLine)
    (hh : A.handled = none)
    (hQ : ∀ h' tk bk d, s.heap.get? bk = none → s.heap.get? d = none → @GT.gt Nat _ bk d → (∀ c o, s.heap.get? c = some o → h'.get? c = some o) →
      h'.get? bk = some ⟨.ref 58, some d, .dict #[] 0, #[some (.ref f)]⟩ → h'.get? d = some { cls := .type "dict", data := .dict #[] 0 } → Q (.ref bk) { s with heap := h', toks := tk }),
    wpAny (model PG w) A (call (.ref 58) [.ref f]) Q E s := by
  intro w A s Q E f fd KX hf hroom hu hh hQ
  x_run
end Mine
end
section
open PySem PySem.W PySem.Calls PyProof.Rows
set_option maxRecDepth 100000
set_option maxHeartbeats 0
set_option linter.unusedVariables false
namespace Mine
open PySem.W.X PySem.W.XRun
theorem getattr_cold : ∀ {w : World} {A : Around} {s : Shared} {Q : Value → Shared → Prop} {E : Value → Shared → Prop} {bk d f m : Addr} {es : Array DictEntry} {ep ep' : Nat} {tk : Tok}
    (KX : (hd.heap_39 w.params).In s.heap)
    (hbk : s.heap.get? bk = some ⟨.ref 58, some d, .dict es ep, #[some (.ref f)]⟩)
    (hd : s.heap.get? d = some { cls := .type "dict", data := .dict #[] ep' })
    (hroom : A.depth + 4 < recursionLimit) (hu : A.units + 100 < cLine)
    (hh : A.handled = none) (hQ : ∀ h' tk, (∀ c o, s.heap.get? c = some o → h'.get? c = some o) → Q (.ref m) { s with heap := h', toks := tk }),
    wpAny (model PG w) A (call (.builtin "getattr") [.ref bk, .str "_frozen" tk, .ref m]) Q E s := by
  intro w A s Q E bk d f m es ep ep' tk KX hbk hd hroom hu hh hQ
  obtain ⟨ha, dp, fr, gd, un⟩ := A
  dsimp only at hroom hu hh
  subst hh
  x_run
theorem super_new : ∀ {w : World} {A : Around} {s : Shared} {Q : Value → Shared → Prop} {E : Value → Shared → Prop} {bk d f : Addr} {es : Array DictEntry} {ep : Nat}
    (KX : (hd.heap_39 w.params).In s.heap)
    (hbk : s.heap.get? bk = some ⟨.ref 58, some d, .dict es ep, #[some (.ref f)]⟩)
    (hroom : A.depth + 4 < recursionLimit) (hu : A.units + 100 < cLine)
    (hh : A.handled = none)
    (hQ : ∀ h' tk so, (∀ c o, s.heap.get? c = some o → h'.get? c = some o) → s.heap.get? so = none → h'.get? so = some { cls := .type "super", dict := none, data := .fields #[.ref 58, .ref bk, .ref 58], slots := #[] } → Q (.ref so) { s with heap := h', toks := tk }),
    wpAny (model PG w) A (call (.type "super") [.ref 58, .ref bk]) Q E s := by
  intro w A s Q E bk d f es ep KX hbk hroom hu hh hQ
  x_run
theorem md_get : ∀ {w : World} {A : Around} {s : Shared} {Q : Value → Shared → Prop} {E : Value → Shared → Prop} {bk d f : Addr} {es : Array DictEntry} {ep : Nat}
    (KX : (hd.heap_39 w.params).In s.heap)
    (hbk : s.heap.get? bk = some ⟨.ref 58, some d, .dict es ep, #[some (.ref f)]⟩)
    (hroom : A.depth + 4 < recursionLimit) (hu : A.units + 100 < cLine)
    (hh : A.handled = none)
    (hQ : ∀ h' tk so, (∀ c o, s.heap.get? c = some o → h'.get? c = some o) → s.heap.get? so = none → h'.get? so = some { cls := .type "builtin_function_or_method", data := .fields #[.builtin "collections.defaultdict.__missing__", .ref bk] } → Q (.ref so) { s with heap := h', toks := tk }),
    wpAny (model PG w) A (call (.builtin "method_descriptor.__get__") [.builtin "collections.defaultdict.__missing__", .ref bk, .ref 58]) Q E s := by
  intro w A s Q E bk d f es ep KX hbk hroom hu hh hQ
  obtain ⟨ha, dp, fr, gd, un⟩ := A
  dsimp only at hroom hu hh
  subst hh
  x_run
theorem getattr_hot : ∀ {w : World} {A : Around} {s : Shared} {Q : Value → Shared → Prop} {E : Value → Shared → Prop} {bk d f m lam : Addr} {es : Array DictEntry} {ep ep' : Nat} {tk tk2 : Tok}
    (KX : (hd.heap_39 w.params).In s.heap)
    (hbk : s.heap.get? bk = some ⟨.ref 58, some d, .dict es ep, #[some (.ref f)]⟩)
    (hd : s.heap.get? d = some { cls := .type "dict", data := .dict #[⟨PyData.keyHash w.params "_frozen", .str "_frozen" tk2, .ref lam⟩] ep' })
    (hroom : A.depth + 4 < recursionLimit) (hu : A.units + 100 < cLine)
    (hh : A.handled = none) (hQ : ∀ h' tk, (∀ c o, s.heap.get? c = some o → h'.get? c = some o) → Q (.ref lam) { s with heap := h', toks := tk }),
    wpAny (model PG w) A (call (.builtin "getattr") [.ref bk, .str "_frozen" tk, .ref m]) Q E s := by
  intro w A s Q E bk d f m lam es ep ep' tk tk2 KX hbk hd hroom hu hh hQ
  obtain ⟨ha, dp, fr, gd, un⟩ := A
  dsimp only at hroom hu hh
  subst hh
  x_run
end Mine
end
section
open PySem PySem.W PySem.Calls PyProof.Rows
set_option maxRecDepth 100000
set_option maxHeartbeats 0
set_option linter.unusedVariables false
namespace Mine
open PySem.W.X PySem.W.XRun
theorem df_get : ∀ {w : World} {A : Around} {s : Shared} {Q : Value → Shared → Prop} {E : Value → Shared → Prop} {bk d f : Addr} {es : Array DictEntry} {ep : Nat} {tk : Tok}
    (KX : (hd.heap_39 w.params).In s.heap)
    (hbk : s.heap.get? bk = some ⟨.ref 58, some d, .dict es ep, #[some (.ref f)]⟩)
    (hroom : A.depth + 4 < recursionLimit) (hu : A.units + 100 < cLine)
    (hh : A.handled = none) (hQ : ∀ h' tk, (∀ c o, s.heap.get? c = some o → h'.get? c = some o) → Q (.ref f) { s with heap := h', toks := tk }),
    wpAny (model PG w) A (call (.builtin "collections.defaultdict.__getattribute__") [.ref bk, .str "default_factory" tk]) Q E s := by
  intro w A s Q E bk d f es ep tk KX hbk hroom hu hh hQ
  obtain ⟨ha, dp, fr, gd, un⟩ := A
  dsimp only at hroom hu hh
  subst hh
  x_run
end Mine
end
section
open PySem PySem.W PySem.Calls PyProof.Rows
set_option maxRecDepth 100000
set_option maxHeartbeats 2000000
set_option linter.unusedVariables false
namespace Mine
open PySem.W.X PySem.W.XRun
theorem bk_iter0 : ∀ {w : World} {A : Around} {s : Shared} {Q : Value → Shared → Prop} {E : Value → Shared → Prop} {bk d f : Addr} {es : Array DictEntry} {ep : Nat}
    (KX : (hd.heap_39 w.params).In s.heap)
    (hbk : s.heap.get? bk = some ⟨.ref 58, some d, .dict es ep, #[some (.ref f)]⟩) (hne : ¬ bk = sysModules) (hes : es.size < 1000)
    (hroom : A.depth + 4 < recursionLimit) (hu : A.units + 100 < cLine)
    (hh : A.handled = none)
    (hQ : ∀ h' tk it, (∀ c o, s.heap.get? c = some o → h'.get? c = some o) → s.heap.get? it = none → h'.get? it = some { cls := .type "dict_keyiterator", data := .fields #[.ref bk, .int 0 0, .int es.size 0, .int ep 0] } → Q (.ref it) { s with heap := h', toks := tk }),
    wpAny (model PG w) A (call (.builtin "dict.__iter__") [.ref bk]) Q E s := by
  intro w A s Q E bk d f es ep KX hbk hne hes hroom hu hh hQ
  obtain ⟨ha, dp, fr, gd, un⟩ := A
  dsimp only at hroom hu hh
  subst hh
  x_run
theorem bk_len : ∀ {w : World} {A : Around} {s : Shared} {Q : Value → Shared → Prop} {E : Value → Shared → Prop} {bk d f : Addr} {es : Array DictEntry} {ep : Nat}
    (KX : (hd.heap_39 w.params).In s.heap)
    (hbk : s.heap.get? bk = some ⟨.ref 58, some d, .dict es ep, #[some (.ref f)]⟩) (hne : ¬ bk = sysModules) (hes : es.size < 1000)
    (hroom : A.depth + 4 < recursionLimit) (hu : A.units + 100 < cLine)
    (hh : A.handled = none)
    (hQ : ∀ (h' : Heap) (tk : Nat) (tk2 : Tok) (n : Int), n = es.size → (∀ c o, s.heap.get? c = some o → h'.get? c = some o) → Q (.int n tk2) { s with heap := h', toks := tk }),
    wpAny (model PG w) A (call (.builtin "len") [.ref bk]) Q E s := by
  intro w A s Q E bk d f es ep KX hbk hne hes hroom hu hh hQ
  obtain ⟨ha, dp, fr, gd, un⟩ := A
  dsimp only at hroom hu hh
  subst hh
  x_run
end Mine
end
end
section
open PySem PySem.W PySem.Calls PyProof.Rows PySem.SeqAt
set_option linter.unusedVariables false
set_option maxRecDepth 100000
set_option maxHeartbeats 400000
namespace Mine
structure BEnt where
  k : Int
  t : Tok
  l : Addr
noncomputable def bents (es : List BEnt) : Array DictEntry := (es.map fun e => (⟨hashInt e.k, .int e.k e.t, .ref e.l⟩ : DictEntry)).toArray
noncomputable def bookObj (d f : Addr) (es : List BEnt) (ep : Nat) : Obj := ⟨.ref 58, some d, .dict (bents es) ep, #[some (.ref f)]⟩
theorem bents_keys (es : List BEnt) : IntKeys (bents es) := by
  intro e he
  simp only [bents, List.mem_toArray, List.mem_map] at he
  obtain ⟨b, _, rfl⟩ := he
  exact ⟨b.k, b.t, rfl, rfl⟩
theorem findIdx_map_mine {α β : Type} (g : α → β) (p : β → Bool) : ∀ l : List α, (l.map g).findIdx? p = l.findIdx? (fun x => p (g x))
  | [] => rfl
  | x :: l => by simp only [List.map_cons, List.findIdx?_cons, findIdx_map_mine g p l]
theorem bents_idx (es : List BEnt) (k : Int) : ((bents es).findIdx? fun e => Value.isInt k e.key) = es.findIdx? fun e => e.k == k := by
  unfold bents
  rw [List.findIdx?_toArray, findIdx_map_mine]
  congr 1
theorem book_inst {h : Heap} {bk d f : Addr} {es : List BEnt} {ep : Nat} {od : Obj} (hb : h.get? bk = some (bookObj d f es ep)) (hd : h.get? d = some od) : InstAt h bk (bookObj d f es ep) 58 (some od) :=
  ⟨hb, rfl, rfl, hd⟩
theorem book_isDict {w : World} {h : Heap} {bk d f : Addr} {es : List BEnt} {ep : Nat} {od : Obj} (X : (hd.heap_39 w.params).In h) (hb : h.get? bk = some (bookObj d f es ep)) (hd' : h.get? d = some od) :
    Looks (model PG w) h (isInstance (.ref bk) (.type "dict")) true :=
  ((book_inst hb hd').type (M := model PG w)).andThen (looks_subIn X (by k_is))
theorem sd_call {w : World} {A : Around} {E : Value → Shared → Prop} {s : Shared} {R : Result → Shared → Prop} {bk d f : Addr} {es : List BEnt} {ep : Nat} {od : Obj} {k : Int} {t : Tok} {l : Addr}
    (X : (hd.heap_39 w.params).In s.heap) (hb : s.heap.get? bk = some (bookObj d f es ep)) (hd' : s.heap.get? d = some od) (hne : bk ≠ sysModules) (hes : es.length < 1000)
    (hno : es.find? (fun e => e.k == k) = none)
    (hQ : ∀ h' tk, (∀ c o, c ≠ bk → s.heap.get? c = some o → h'.get? c = some o) → h'.get? bk = some (bookObj d f (es ++ [⟨k, t, l⟩]) (ep + 1)) → R (.ok (.ret (.ref l))) { s with heap := h', toks := tk }) :
    codeAny (model PG w) A (.builtin "dict.setdefault" ⟨[.ref bk, .int k t, .ref l], []⟩) R s := by
  refine codeAny_builtin F.entry_dict_setdefault ?_
  unfold Builtin.«dict.setdefault»
  refine wpAny_bind ?_
  unfold Builtin.Dict.keyAndDefault
  have hidx : (es.findIdx? fun e => e.k == k) = none := by
    rw [List.findIdx?_eq_none_iff]
    intro x hx
    have := List.find?_eq_none.mp hno x hx
    simpa using this
  have I := book_inst hb hd'
  refine wpAny_bind ?_
  · unfold Builtin.Dict.notOrdered
    rw [if_pos (by decide)]
    refine wpAny_bind (I.type.here ?_)
    rw [if_pos (by decide)]
    refine wpAny_bind ((I.type.andThen (looks_subIn X (base := .type "collections.OrderedDict") (r := false) (by k_is))).here ?_)
    rw [if_neg (by decide)]
    refine wpAny_pure ?_
    show wpAny _ _ (pure (bk, Value.int k t, some (Value.ref l))) _ _ s
    refine wpAny_pure ?_
    show wpAny _ _ (if (bk == sysModules) = true then _ else (dictSetDefault bk (.int k t) (.ref l) >>= _)) _ _ s
    rw [if_neg (by simpa using hne)]
    refine wpAny_bind ?_
    unfold dictSetDefault
    try with_reducible refine wpAny_holding ?_
    refine wpAny_bind (wpAny_pyHash_int ?_)
    refine wpAny_bind (wpAny_dictFind_int (s := { s with toks := s.toks + 1 }) hb rfl (bents_keys es) ?_)
    rw [bents_idx, hidx]
    have hsz : (bents es).size ≤ sizeLine := by have := sizeLine_eq; simp [bents]; omega
    refine wpAny_bind (wpAny_rule (wpAny_bind (wpAny_updateDictKeys (f := fun es => es.push ⟨hashInt k, .int k t, .ref l⟩) (hz := hsz) (hf := by simp) (s := { s with toks := s.toks + 1 }) hb rfl (wpAny_pure (wpAny_pure (hQ _ _ (fun c o hc e => ((Heap.SameBut.update ..).2 c hc).trans e) ?_))))))
    have e1 : Obj.mapDictKeys (fun es => es.push ⟨hashInt k, .int k t, .ref l⟩) (bookObj d f es ep) = bookObj d f (es ++ [⟨k, t, l⟩]) (ep + 1) := by
      simp [Obj.mapDictKeys, bookObj, bents]
    rw [Heap.get?_update_self _ hb (by rw [e1]; rfl), e1]
theorem book_call {w : World} {A : Around} {E : Value → Shared → Prop} {s : Shared} {Q : Value → Shared → Prop} {bk d f : Addr} {es : List BEnt} {ep : Nat} {od : Obj} {k : Int} {t : Tok}
    (X : (hd.heap_39 w.params).In s.heap) (hb : s.heap.get? bk = some (bookObj d f es ep)) (hd' : s.heap.get? d = some od)
    (hQ : wpAny (model PG w) A (call (.builtin "dict.__getitem__") [.ref bk, .int k t]) Q E s) :
    wpAny (model PG w) A (getItem (.ref bk) (.int k t)) Q E s := by
  have I := book_inst hb hd'
  unfold getItem sequenceKey
  refine wpAny_holding (wpAny_bind (wpAny_bind (I.type.here ?_)))
  refine wpAny_bind ((anyM_none X (C := 58) (show noSeq (hd.heap_39 w.params) 58 = true by k_is)).here ?_)
  rw [if_pos (show (!false) = true from rfl)]
  refine wpAny_pure (wpAny_bind ?_)
  unfold callSpecial?
  refine wpAny_bind (wpAny_bind (I.type.here ((looks_findIn X (r := some (.builtin "dict.__getitem__")) (by k_is)).here ?_)))
  refine wpAny_holding (wpAny_bind (wpAny_of_eq (slot_dict_getitem.bind _) (wpAny_bind (wpAny_mono hQ (fun v s' hv => wpAny_pure (wpAny_pure hv)) fun _ _ e => e))))
theorem kind_gi : builtinKind "dict.__getitem__" = some .method := by decide +kernel
theorem split_gi : splitId "dict.__getitem__" = some ("dict", "__getitem__") := by first | decide +kernel | kernel_rfl
theorem book_body {w : World} {A : Around} {E : Value → Shared → Prop} {s : Shared} {Q : Value → Shared → Prop} {bk d f : Addr} {es : List BEnt} {ep : Nat} {od : Obj} {k : Int} {t : Tok}
    (X : (hd.heap_39 w.params).In s.heap) (hb : s.heap.get? bk = some (bookObj d f es ep)) (hd' : s.heap.get? d = some od)
    (hit : ∀ e tk, es.find? (fun e => e.k == k) = some e → Q (.ref e.l) { s with toks := tk })
    (miss : ∀ tk, es.find? (fun e => e.k == k) = none → wpAny (model PG w) A.in1 (call (.ref 48) [.ref bk, .int k t]) Q E { s with toks := tk }) :
    wpAny (model PG w) A (call (.builtin "dict.__getitem__") [.ref bk, .int k t]) Q E s := by
  have I := book_inst hb hd'
  refine wpAny_call (codeAny_call_builtin slot_dict_getitem.plain entry_dict_getitem ?_)
  have hq := book_isDict X hb hd'
  have ha := args_dict_getitem (.ref bk) (.int k t)
  generalize hid : "dict.__getitem__" = i at ha ⊢
  refine PySem.W.kfo_check (hid ▸ kind_gi) (hid ▸ split_gi) hq ha ?_
  unfold Builtin.«dict.__getitem__»
  show wpAny _ _ (dictGet bk (.int k t) >>= _) _ _ s
  refine wpAny_bind ?_
  unfold dictGet
  try with_reducible refine wpAny_holding ?_
  refine wpAny_bind (wpAny_pyHash_int (wpAny_bind (wpAny_dictFind_int (s := { s with toks := s.toks + 1 }) hb rfl (bents_keys es) ?_)))
  rw [bents_idx]
  cases hi : es.findIdx? (fun e => e.k == k) with
  | some i =>
    refine wpAny_bind (wpAny_dictEntries (s := { s with toks := s.toks + 1 }) hb rfl (wpAny_pure ?_))
    obtain ⟨hlt, hp, hno⟩ := List.findIdx?_eq_some_iff_getElem.mp hi
    have hf : es.find? (fun e => e.k == k) = some es[i] := List.find?_eq_some_iff_getElem.mpr ⟨hp, i, hlt, rfl, fun j hj => by simpa using hno j hj⟩
    have hg : (bents es)[i]? = some ⟨hashInt es[i].k, .int es[i].k es[i].t, .ref es[i].l⟩ := by simp [bents, hlt]
    rw [hg]
    exact wpAny_pure (hit _ _ hf)
  | none =>
    refine wpAny_pure ?_
    have hf : es.find? (fun e => e.k == k) = none := by
      refine List.find?_eq_none.mpr fun x hx => ?_
      have := List.findIdx?_eq_none_iff.mp hi x hx
      simp [this]
    dsimp only
    refine wpAny_bind (wpAny_missed_int ?_)
    dsimp only
    refine wpAny_bind (I.type _ _ _ _ (fun b o e => e) ?_)
    rw [if_pos (by decide)]
    refine wpAny_bind ?_
    unfold callSpecial?
    refine wpAny_bind (wpAny_bind (I.type _ _ _ _ (fun b o e => e) (looks_findIn X (r := some (.ref 48)) (by k_is) _ _ _ _ (fun b o e => e) ?_)))
    refine wpAny_holding (wpAny_bind (bind_fn X _ (show typeIn (hd.heap_39 w.params) (.ref 48) = some (.type "function") by k_is) _ _ _ _ (fun b o e => e) (wpAny_bind (wpAny_mono (miss _ hf) (fun v s' hv => wpAny_pure ?_) fun _ _ e => e))))
    exact wpAny_bind (wpAny_rule (wpAny_pure hv))
theorem book_tail {w : World} {A : Around} {E : Value → Shared → Prop} {s : Shared} {Q : Value → Shared → Prop} {bk d f : Addr} {es : List BEnt} {ep : Nat} {od : Obj} {k : Int} {t : Tok} {value slice : Expr}
    (X : (hd.heap_39 w.params).In s.heap) (hb : s.heap.get? bk = some (bookObj d f es ep)) (hd' : s.heap.get? d = some od)
    (hit : ∀ e tk, es.find? (fun e => e.k == k) = some e → Q (.ref e.l) { s with toks := tk })
    (miss : ∀ tk, es.find? (fun e => e.k == k) = none → wpAny (model PG w) A.in1 (call (.ref 48) [.ref bk, .int k t]) Q E { s with toks := tk })
    (hs : subscripted slice false (.ref bk) (.int k t) = operate [.ref bk, .int k t] (getItem (.ref bk) (.int k t)) := by with_unfolding_all rfl) :
    wpAny (model PG w) A (subscriptTail value slice (.ref bk) (.int k t)) Q E s := by
  have I := book_inst hb hd'
  unfold subscriptTail
  refine wpAny_bind ?_
  rw [getitemInPython_of_ne (by simp)]
  refine wpAny_bind (wpAny_bind (I.type _ _ _ _ (fun b o e => e) (looks_findIn X (r := some (.builtin "dict.__getitem__")) (by k_is) _ _ _ _ (fun b o e => e) ?_)))
  have fin : wpAny (model PG w) A (subscripted slice false (.ref bk) (.int k t)) (fun r s₃ => wpAny (model PG w) A (letTemporaryGo value (.ref bk) r >>= fun _ => pure r) Q E s₃) E s := by
    rw [hs]
    exact wpAny_operating (wpAny_mono (book_call X hb hd' (book_body X hb hd' hit miss)) (fun r s₃ h₃ => wpAny_bind (wpAny_letTemporaryGo (wpAny_pure h₃))) fun _ _ x => x)
  first
    | exact wpAny_pure (wpAny_bind fin)
    | exact wpAny_bind (wpAny_pure (wpAny_bind fin))
    | exact wpAny_bind fin
end Mine
end
section
open PySem PySem.W PySem.Calls PyProof.Rows PySem.SeqAt
set_option linter.unusedVariables false
set_option maxRecDepth 100000
set_option maxHeartbeats 400000
namespace Mine
noncomputable def Fac (w : World) (A : Around) (h0 : Heap) (f : Addr) (pos : List Value) (nt : Addr) (its : Array Value) (k : Nat) : Prop :=
  ∀ (A' : Around) (s' : Shared) (R' : Result → Shared → Prop), (∀ c o, h0.get? c = some o → s'.heap.get? c = some o) → A'.depth ≤ A.depth + 5 → A'.units ≤ A.units + 40 → A'.handled = none →
    (∀ h' tk l, Keep [nt] s'.heap h' → s'.heap.get? l = none → h'.get? l = some (PySem.W.listOf #[] 0) → h'.get? nt = some (PySem.W.listOf (its.push (.ref l)) (k + 1)) → R' (.ok (.ret (.ref l))) { s' with heap := h', toks := tk }) →
    codeAny (model PG w) A' (.call (.ref f) ⟨pos, []⟩) R' s'
theorem isType_bk {w : World} {A : Around} {E : Value → Shared → Prop} {s : Shared} {bk d f : Addr} {es : List BEnt} {ep : Nat} {Q : Bool → Shared → Prop} (hb : s.heap.get? bk = some (bookObj d f es ep)) (hq : Q false s) :
    wpAny (model PG w) A (isType (.ref bk)) Q E s := by
  obtain ⟨h, g, dr, t, os⟩ := s
  exact ks_wpAny_isType_inst hb (by intro c q; cases q) hq
theorem wpAny_callBorrowed {M : Model} {A : Around} {E : Value → Shared → Prop} {s : Shared} {f : Value} {pos : List Value} {Q : Value → Shared → Prop}
    (hc : codeAny M A (.call f ⟨pos, []⟩) (fun r s' => match r with | .ok (.ret v) => Q v s' | .ok _ => False | .error e => E e s') s) :
    wpAny M A (callBorrowed f pos) Q E s := fun Γ p hΓ => by
  unfold callBorrowed
  rw [Sem.wp_call]
  have h := hc _ p rfl (hΓ.enter (.call f ⟨pos, []⟩) none p (by intro x; cases x))
  refine cast ?_ h
  congr 1
  funext r s'
  cases r with
  | error e => rfl
  | ok f => cases f <;> rfl
theorem dd_check (a b : Value) : (match Manifest.signature? "collections.defaultdict.__missing__" with | some sig => Bind.checkArgs "collections.defaultdict.__missing__" { sig with full := "FreezableDefaultDict.__missing__" } ⟨[a, b], []⟩ | none => pure ()) = pure () := by kernel_rfl
theorem dd_var : Manifest.varargsMethods.contains "collections.defaultdict.__missing__" = false := by decide +kernel
theorem dd_name : (Bind.lastOf "collections.defaultdict.__missing__" : String) = "__missing__" := by decide +kernel
theorem dd_kind : builtinKind "collections.defaultdict.__missing__" = some .method := by decide +kernel
theorem dd_sig : (Manifest.signature? "collections.defaultdict.__missing__").isSome = true := by decide +kernel
theorem dd_call {w : World} {A : Around} {E : Value → Shared → Prop} {s : Shared} {Q : Value → Shared → Prop} {bk d f m nt : Addr} {es : List BEnt} {ep : Nat} {od : Obj} {k : Int} {t : Tok} {fd : FuncData} {its : Array Value} {kn : Nat} {A₀ : Around} {h0 : Heap} {p loose mg mb} {b : Heap}
    (T : Top0 w p loose mg mb b) (hbs : b.StaysIn s.heap) (hbn : b.get? nt = none) (hb : s.heap.get? bk = some (bookObj d f es ep)) (hd' : s.heap.get? d = some od) (hf : s.heap.get? f = some { cls := .type "function", data := .func fd })
    (hm : s.heap.get? m = some { cls := .type "builtin_function_or_method", data := .fields #[.builtin "collections.defaultdict.__missing__", .ref bk] }) (hne : bk ≠ sysModules) (hes : es.length < 1000)
    (hfac : Fac w A₀ h0 f [] nt its kn) (h0s : ∀ c o, h0.get? c = some o → s.heap.get? c = some o) (hdp : A.depth ≤ A₀.depth + 1) (hun : A.units ≤ A₀.units + 10) (hh : A.handled = none)
    (hno : es.find? (fun e => e.k == k) = none) (hnb : nt ≠ bk) (hnt : nt ≠ d)
    (hQ : ∀ h' tk l, Keep [nt, bk] s.heap h' → s.heap.get? l = none → h'.get? l = some (PySem.W.listOf #[] 0) → h'.get? nt = some (PySem.W.listOf (its.push (.ref l)) (kn + 1)) → h'.get? bk = some (bookObj d f (es ++ [⟨k, t, l⟩]) (ep + 1)) → Q (.ref l) { s with heap := h', toks := tk }) :
    wpAny (model PG w) A (call (.ref m) [.int k t]) Q E s := by
  have I := book_inst hb hd'
  have X : (_root_.hd.heap_39 w.params).In s.heap := T.X.keeps hbs
  refine wpAny_call (codeAny_of_tree ?_)
  show wpAny _ _ (callAny (.ref m) ⟨[.int k t], []⟩) _ _ _
  simp only [callAny]
  refine wpAny_bind (wpAny_load hm ?_)
  dsimp only
  rw [if_pos (by decide)]
  change wpAny _ _ (if (Value.type "builtin_function_or_method" != Value.type "method") = true then (checkBoundCall "collections.defaultdict.__missing__" ⟨[.ref bk, .int k t], []⟩ >>= fun _ => again (.builtin "collections.defaultdict.__missing__" ⟨[.ref bk, .int k t], []⟩)) else _) _ _ _
  rw [if_pos (by decide)]
  refine wpAny_bind ?_
  have chk : ∀ (A : Around) (E' : Value → Shared → Prop) (Q' : Unit → Shared → Prop), Q' () s → wpAny (model PG w) A (checkBoundCall "collections.defaultdict.__missing__" ⟨[.ref bk, .int k t], []⟩) Q' E' s := by
    intro A E' Q' q
    have hc := dd_check (.ref bk) (.int k t)
    have hk := dd_kind
    have hv := dd_var
    have hn := dd_name
    generalize hid : "collections.defaultdict.__missing__" = i at hc hk hv hn ⊢
    unfold checkBoundCall
    cases hsig : Manifest.signature? i with
    | none => exact wpAny_pure q
    | some sig =>
      rw [hsig] at hc
      simp only [hk]
      rw [if_neg (by decide)]
      refine wpAny_bind ((I.type.andThen (looks_subIn X (base := .type "module") (r := false) (by k_is))).here ?_)
      rw [hv, if_neg (by decide)]
      refine wpAny_bind (isType_bk hb ?_)
      rw [if_neg (by decide)]
      refine wpAny_bind (I.type.here ?_)
      obtain ⟨cd, hcd, hcq⟩ : ∃ cd, clsIn (_root_.hd.heap_39 w.params) 58 = some cd ∧ cd.qualname = PySem.Str.ofString "FreezableDefaultDict" := ⟨_, by k_is, rfl⟩
      refine wpAny_bind (looks_clsIn X hcd _ _ _ _ (fun b o e => e) ?_)
      refine wpAny_bind (looks_typeIn X (v := .ref 58) (t := .type "type") (by k_is) _ _ _ _ (fun b o e => e) ?_)
      rw [if_pos (by decide)]
      rw [hcq, hn]
      have e : (toString (PySem.Str.toString (PySem.Str.ofString "FreezableDefaultDict")) ++ toString "." ++ toString "__missing__" : String) = "FreezableDefaultDict.__missing__" := by decide +kernel
      rw [e, show Bind.checkArgs i { sig with full := "FreezableDefaultDict.__missing__" } ⟨[.ref bk, .int k t], []⟩ = pure () from hc]
      exact wpAny_pure q
  refine chk _ _ _ (wpAny_pure ⟨Code.quiet_builtin _ (by decide +kernel), ?_⟩)
  refine codeAny_builtin (b := Builtin.«collections.defaultdict.__missing__») (entryFor_of_tree (by kernel_rfl)) ?_
  unfold Builtin.«collections.defaultdict.__missing__»
  refine wpAny_bind (wpAny_of_eq (a := (.ref bk, .int k t)) (by first | rfl | kernel_rfl) ?_)
  unfold Builtin.Collections_defaultdict.factory? slotAt
  refine wpAny_bind (wpAny_bind (wpAny_bind (wpAny_loadPart hb (wpAny_pure (wpAny_pure ?_)))))
  change wpAny _ _ (callOutOfASlot (.ref f) >>= fun value => again (.builtin "dict.setdefault" ⟨[.ref bk, .int k t, value], []⟩)) _ _ _
  refine wpAny_bind ?_
  unfold callOutOfASlot borrowsExactly
  refine wpAny_bind (wpAny_bind (wpAny_load hf (wpAny_pure ?_)))
  rw [if_pos rfl]
  refine wpAny_callBorrowed (hfac _ _ _ h0s ?_ ?_ hh ?_)
  · show A.depth + Code.weight _ ≤ _
    have : Code.weight (Code.builtin "collections.defaultdict.__missing__" { pos := [Value.ref bk, Value.int k t] }) = 0 := rfl
    omega
  · show A.units + Code.cUnits _ ≤ _
    have : Code.cUnits (Code.builtin "collections.defaultdict.__missing__" { pos := [Value.ref bk, Value.int k t] }) ≤ 1 := Nat.le_of_eq (by kernel_rfl)
    omega
  intro h' tk l hk hl0 hl hn
  refine wpAny_pure ⟨Code.quiet_builtin _ (by decide +kernel), ?_⟩
  have X2 : (_root_.hd.heap_39 w.params).In h' := T.X.keeps fun c o e => hk c o (fun q => by rw [List.mem_singleton.mp q, hbn] at e; cases e) (hbs c o e)
  have hb2 : h'.get? bk = some (bookObj d f es ep) := hk _ _ (by simpa using Ne.symm hnb) hb
  have hd2 : h'.get? d = some od := hk _ _ (by simpa using Ne.symm hnt) hd'
  refine sd_call (E := E) X2 hb2 hd2 hne hes hno ?_
  intro h2 tk2 hk2 hb3
  have hlb : l ≠ bk := fun q => by rw [q, hb] at hl0; cases hl0
  exact hQ _ _ _ (fun c o hc e => hk2 _ _ (fun q => hc (by simp [q])) (hk _ _ (fun q => hc (by simpa using .inl (List.mem_singleton.mp q))) e)) hl0 (hk2 _ _ hlb hl) (hk2 _ _ hnb hn) hb3
end Mine
end
section
open PySem PySem.W PySem.Calls PyProof.Rows PySem.SeqAt
set_option linter.unusedVariables false
set_option maxRecDepth 100000
set_option maxHeartbeats 400000
namespace Mine
theorem super_ga_builtin {prog : Program} {w : World} {A : Around} {E : Value → Shared → Prop} {h : Heap} {g : Array GenState} {d : Drawn} {t : Nat} {os : OsState} {so D x C : Addr} {fid gid : String} {l₀ l : List Value} {K : Frag} {name : PySem.Str} {tk : Tok} {Q : Fin → Shared → Prop}
    (hso : h.get? so = some { cls := .type "super", dict := none, data := .fields #[.ref D, .ref x, .ref C], slots := #[] }) (hno : Looks (model prog w) h (opaqueClassAbove (.ref C)) none)
    (hC : Looks (model prog w) h (mroOf (.ref C)) l₀) (hl : (l₀.dropWhile (· != .ref D)).drop 1 = l) (X : K.In h)
    (hf : alongIn K name l = some (some (.builtin fid))) (hT : typeOf (.builtin fid) = pure (.type "method_descriptor")) (hlk : typeLookup (.type "method_descriptor") "__get__" = pure (some (.builtin gid))) (hxC : x ≠ C) (hn : (name == ("__class__" : PySem.Str)) = false)
    (hq : wpAny (model prog w) A (call (.builtin gid) [.builtin fid, .ref x, .ref C]) (fun v s' => Q (.done (.ret v)) s') E ⟨h, g, d, t, os⟩) :
    wpAny (model prog w) A (Builtin.«super.__getattribute__» ⟨[.ref so, .str name tk], []⟩) Q E ⟨h, g, d, t, os⟩ := by
  have hne : (Value.ref x == Value.ref C) = false := by simp [hxC]
  have hdt : ({ cls := .type "super", dict := none, data := .fields #[.ref D, .ref x, .ref C], slots := #[] } : Obj).data = .fields #[.ref D, .ref x, .ref C] := rfl
  have f0 : (#[.ref D, .ref x, .ref C] : Array Value)[0]? = some (.ref D) := rfl
  have f1 : (#[.ref D, .ref x, .ref C] : Array Value)[1]? = some (.ref x) := rfl
  have f2 : (#[.ref D, .ref x, .ref C] : Array Value)[2]? = some (.ref C) := rfl
  unfold Builtin.«super.__getattribute__»
  repeat (first
    | (with_reducible refine wpAny_field hso hdt f0 ?_) | (with_reducible refine wpAny_field hso hdt f1 ?_) | (with_reducible refine wpAny_field hso hdt f2 ?_)
    | (with_reducible refine ks_wpAny_notOpaque hno ?_)
    | (with_reducible refine Looks.at hC ?_; rw [hl])
    | (refine ks_forIn_along X (fun _ _ => rfl) rfl ?_ hf)
    | (with_reducible refine wpAny_mono hq (fun v s' hv => ?_) fun _ _ e => e)
    | (rw [hT])
    | (rw [hlk])
    | (simp only [hn, hne, Bool.or_false, Bool.false_eq_true, if_false])
    | wp_step
    | dsimp only)
  exact hv
theorem super_ga : ∀ {w : World} {A : Around} {E : Value → Shared → Prop} {s : Shared} {so bk : Addr} {Q : Value → Shared → Prop}
    (X : (hd.heap_39 w.params).In s.heap) 
    (hso : s.heap.get? so = some { cls := .type "super", dict := none, data := .fields #[.ref 58, .ref bk, .ref 58], slots := #[] }) (hx : bk ≠ 58)
    (hq : ∀ tk, wpAny (model PG w) A.in1 (call (.builtin "method_descriptor.__get__") [.builtin "collections.defaultdict.__missing__", .ref bk, .ref 58]) (fun v s' => ∃ m, v = .ref m ∧ Q v s') (fun _ _ => False) { s with toks := tk }),
    wpAny (model PG w) A (getAttr (.ref so) "__missing__" true) Q E s := by
  intro w A E s so bk Q X hso hx hq
  obtain ⟨h, g, d, t, os⟩ := s
  have hlk := F.ks_slot_super_ga.lookup
  have hT : ∀ t', (⟨h, g, d, t', os⟩ : Shared).TypeIs (.ref so) "super" := fun _ => ⟨_, hso, rfl⟩
  have hC : Looks (model PG w) h (mroOf (.ref 58)) [.ref 58, .type "collections.defaultdict", .type "dict", .type "object"] := by
    obtain ⟨cd, hcd, hcm⟩ : ∃ cd, clsIn (hd.heap_39 w.params) 58 = some cd ∧ cd.mro = [.ref 58, .type "collections.defaultdict", .type "dict", .type "object"] := ⟨_, by k_is, rfl⟩
    rw [← hcm]
    exact fun A Q E s k q => wpAny_bind ((looks_clsIn X hcd) A _ E s k (wpAny_pure q))
  have hno : Looks (model PG w) h (opaqueClassAbove (.ref 58)) none := looks_opaque X (by k_is)
  unfold getAttr getAttrBy
  refine wpAny_bind (wpAny_mkText (wpAny_holding (wpAny_bind (wpAny_typeOf (hT _) (wpAny_bind (wpAny_of_eq hlk ?_))))))
  show wpAny _ _ (getAttrByItsOwn (.ref so) (.str "__missing__" t) (.type "super") (.builtin "super.__getattribute__") true true) _ _ _
  unfold getAttrByItsOwn hookBefore callGetattribute boundAndCalled
  refine wpAny_bind (wpAny_of_eq (show (if onTheHeap (.type "super") then typeLookup (.type "super") "__getattr__" else pure none) = pure none from rfl) ?_)
  refine wpAny_bind (wpAny_attempt (wpAny_holding ?_))
  show wpAny _ _ (bindSpecial (.builtin "super.__getattribute__") (.ref so) >>= _) _ _ _
  refine wpAny_bind (wpAny_of_eq (F.ks_slot_super_ga.bind _) ?_)
  refine wpAny_mono (Q := fun v s' => ∃ m, v = .ref m ∧ Q v s') (E := fun _ _ => False)
    (wpAny_call_entry F.ks_slot_super_ga (hT _) F.ks_entry_super_ga (super_ga_builtin hso hno hC rfl X (gid := "method_descriptor.__get__") (fid := "collections.defaultdict.__missing__") ?_ (by show builtinType _ = _; rw [builtinType_eq_fast]; kernel_rfl) (by rw [typeLookup_type, builtinLookup_eq_fast]; kernel_rfl) hx (by decide) (wpAny_mono (hq _) (fun v s' hv => ⟨_, rfl, hv⟩) fun _ _ e => e)) (F.ks_gaArgs_super _ _)) (fun v s' hv => ?_) fun _ _ z => z.elim
  · have e : fastBuiltinOwn "collections.defaultdict" "__missing__" = some (.builtin "collections.defaultdict.__missing__") := by kernel_rfl
    show alongIn _ _ [.type "collections.defaultdict", .type "dict", .type "object"] = _
    simp only [alongIn, ownIn, e]
  · obtain ⟨m, rfl, hv⟩ := hv
    exact wpAny_pure hv
end Mine
end
section
open PySem PySem.W PySem.Calls PyProof.Rows PySem.SeqAt
set_option linter.unusedVariables false
set_option maxRecDepth 100000
set_option maxHeartbeats 1000000
namespace Mine
local macro_rules | `(tactic| walk_at "MY steps") => `(tactic| repeat' ((fail_if_success (with_reducible (first | refine Mine.sp0 ?_ | refine Mine.sp7 ?_ | refine Mine.sp3 ?_ | refine Mine.sp4 ?_ | refine Mine.sp1 ?_ | refine Mine.sp5 ?_ | refine Mine.sp6 ?_))); (walk_at "MY b0")))
section
variable {M : Model} {A : Around} {E : Value → Shared → Prop} {s : Shared} {c : Code} {env : Env} {pos : Pos}
theorem no_star {α : Type} {a b : Sem α} {Q : α → Shared → Prop} (h : wpAny M A b Q E s) : wpAny M A (if false = true then a else b) Q E s := by simpa using h
theorem at_no_star {α : Type} {a b : Sem α} {Q : α → Shared → Prop} (h : _root_.PySem.wpAt M A c b Q E s) : _root_.PySem.wpAt M A c (if false = true then a else b) Q E s := by simpa using h
theorem at_spliced_nil {Q : List Value → Shared → Prop} (h : Q [] s) : _root_.PySem.wpAt M A c (spliced []) Q E s := _root_.PySem.wpAt_of_wpAny (wpAny_pure h)
theorem at_spliced_cons {x : Sem Value} {rest : List (Bool × Sem Value)} {Q : List Value → Shared → Prop}
    (h : _root_.PySem.wpAt M A c x (fun v s₁ => _root_.PySem.wpAt M A c (spliced rest) (fun vs s₂ => Q (v :: vs) s₂) E s₁) E s) : _root_.PySem.wpAt M A c (spliced ((false, x) :: rest)) Q E s := by
  rw [spliced]
  refine _root_.PySem.wpAt_bind (_root_.PySem.wpAt_mono h (fun v s₁ h₁ => ?_) fun _ _ x => x)
  simp only [Bool.false_eq_true, if_false]
  exact _root_.PySem.wpAt_bind (_root_.PySem.wpAt_of_wpAny (wpAny_pure (_root_.PySem.wpAt_bind (ks_wpAt_holding (_root_.PySem.wpAt_mono h₁ (fun vs s₂ h₂ => _root_.PySem.wpAt_of_wpAny (wpAny_pure h₂)) fun _ _ x => x)))))
theorem at_evalArgs {f : Value} {x : Sem Value} {rest : List (Bool × Sem Value)} {Q : Args → Shared → Prop}
    (h : _root_.PySem.wpAt M A c (spliced ((false, x) :: rest)) (fun vs s' => Q ⟨vs, []⟩ s') E s) : _root_.PySem.wpAt M A c (evalArgs f true ((false, x) :: rest) []) Q E s := by
  unfold evalArgs
  show _root_.PySem.wpAt M A c (spliced ((false, x) :: rest) >>= _) Q E s
  refine _root_.PySem.wpAt_bind (_root_.PySem.wpAt_mono h (fun vs s' h' => ?_) fun _ _ x => x)
  refine ks_wpAt_holding ?_
  exact _root_.PySem.wpAt_bind (_root_.PySem.wpAt_of_wpAny (wpAny_pure (_root_.PySem.wpAt_bind (_root_.PySem.wpAt_of_wpAny (wpAny_pure (_root_.PySem.wpAt_of_wpAny (wpAny_pure h')))))))
theorem at_callWith_builtin {id : String} {first : List Value} {args : List (Bool × Sem Value)} {Q : Value → Shared → Prop} (hplain : args.any (·.1) = false)
    (h : _root_.PySem.wpAt M A c (evalArgs (.builtin id) true args []) (fun a s₁ => wpAny M A (call (.builtin id) (first ++ a.pos) a.kw) Q E s₁) E s) :
    _root_.PySem.wpAt M A c (callWith pos (.builtin id) first args []) Q E s := by
  unfold callWith
  refine _root_.PySem.wpAt_bind (ks_wpAt_holding (_root_.PySem.wpAt_mono h (fun a s₁ h₁ => _root_.PySem.wpAt_of_wpAny (wpAny_bind (wpAny_standAt ?_))) fun _ _ x => x))
  simp only [hplain, List.any_nil, Bool.or_false]
  refine wpAny_bind (wpAny_pure ?_)
  exact wpAny_bind (wpAny_mono h₁ (fun r s₂ hr => wpAny_bind (wpAny_holding (wpAny_point (wpAny_pure hr)))) fun _ _ x => x)
theorem at_Call {func : Expr} {args : List Expr} {Q : Value → Shared → Prop} (he : eval (.Call func args [] pos) env = (do callWith pos (← eval func env) [] (backTo pos (starEach args env)) []))
    (h : _root_.PySem.wpAt M A c (eval func env) (fun f s₁ => _root_.PySem.wpAt M A c (callWith pos f [] (backTo pos (starEach args env)) []) Q E s₁) E s) : _root_.PySem.wpAt M A c (eval (.Call func args [] pos) env) Q E s := by
  rw [he]
  exact _root_.PySem.wpAt_bind h
theorem at_Attribute {value : Expr} {attr : PySem.Str} {Q : Value → Shared → Prop} 
    (h : _root_.PySem.wpAt M A c (attributeBase value attr env (eval value env)) (fun o s₁ => wpAny M A (getAttr o attr true) (fun r s₂ => wpAny M A (letTemporaryGo value o r) (fun _ s₃ => Q r s₃) E s₂) E s₁) E s) :
    _root_.PySem.wpAt M A c (eval (.Attribute value attr pos) env) Q E s := by
  rw [arm_eval_Attribute]
  exact _root_.PySem.wpAt_bind (_root_.PySem.wpAt_mono h (fun o s₁ h₁ => _root_.PySem.wpAt_of_wpAny (wpAny_bind (wpAny_standAt (wpAny_bind (wpAny_holding (wpAny_mono h₁ (fun r s₂ h₂ => wpAny_bind (wpAny_mono h₂ (fun _ s₃ h₃ => wpAny_pure h₃) fun _ _ x => x)) fun _ _ x => x)))))) fun _ _ x => x)
end
theorem call_hideAt {prog : Program} {w : World} {A : Around} {s : Shared} {R : Result → Shared → Prop} {p loose mg mb} {b : Heap}
    {name qual : PySem.Str} {params : Arguments} {body : List Stmt} {scope : Scope} {cl : List (PySem.Str × Addr)} {dV kV doc pm cdv ct oc : Value} {an od : Option Addr} {osl : Array (Option Value)} {f : Addr} {args : Args} {binds : List (PySem.Str × Value)}
    (μ : List (Addr × Obj)) (T : Top0 w p loose mg mb b) (hb : b.StaysIn s.heap) (hμ : ∀ q ∈ μ, s.heap.get? q.1 = some q.2 ∧ b.get? q.1 = none)
    (hroom : A.depth < recursionLimit)
    (ho : (hd.heap_39 w.params).lookup f = some ⟨oc, od, .func (fnX name qual params body scope cl dV kV doc pm an cdv ct), osl⟩) (hcd : codeIn (hd.heap_39 w.params) cdv qual = true)
    (hbind : BindsTo s (fnX name qual params body scope cl dV kV doc pm an cdv ct) args binds) (hloc : ∀ y ∈ binds, scope.names.lookup y.1 = some .local)
    (hcell : ∀ x ∈ scope.names, x.2 ≠ .cell)
    (hco : scope.isCoroutine = false) (hgen : scope.isGenerator = false) (hk : scope.kind = .function)
    (h : ∀ g L h₁ tk, g = hideAll s.heap (μ.map (·.1)) → L = s.heap.objs.size → Top0 w p loose mg mb g → Fr g L h₁ (fun y => binds.reverse.lookup y) → News g L h₁ μ →
      _root_.PySem.wpAt (model prog w) (A.deeper (envX qual scope L f cdv cl)) (.func body (envX qual scope L f cdv cl)) (execs body (envX qual scope L f cdv cl))
        (fun fl s' => R (.ok (.ret (match fl with | .ret v => v | _ => .none))) s')
        (fun e s' => wpAny (model prog w) (A.deeper (envX qual scope L f cdv cl)) (leaving (envX qual scope L f cdv cl) e) (fun _ s'' => R (.error e) s'') (fun e' s'' => R (.error e') s'') s')
        { s with heap := h₁, toks := tk }) :
    codeAny (model prog w) A (.call (.ref f) args) R s := by
  have st : b.StaysIn (hideAll s.heap (μ.map (·.1))) := fun c o e => hideAll_get _ (hb c o e) fun hm => by
    obtain ⟨q, hq, rfl⟩ := List.mem_map.mp hm
    rw [(hμ q hq).2] at e; cases e
  have X := T.X.keeps hb
  refine ks_codeAny_call_defAt (fd := fnX name qual params body scope cl dV kV doc pm an cdv ct) (body := body) (binds := binds) hroom (X _ _ ho) rfl (T.T.nolimit.keeps hb) (codeRec_of X hcd) rfl hbind hcell hloc (fun h₁ hns hk₁ => ?_) hco hgen hk
  refine h _ _ h₁ _ rfl rfl (T.keeps st) ⟨hns, fun c o e => hk₁ c o (of_hideAll _ e), Nat.le_of_eq (hideAll_size _ _)⟩ ?_
  intro q hq
  exact ⟨hk₁ _ _ (hμ q hq).1, Nat.ne_of_lt (Heap.lt_size (hμ q hq).1), hideAll_none _ (List.mem_map_of_mem hq)⟩



theorem callWith_bm {M : Model} {A : Around} {E : Value → Shared → Prop} {s : Shared} {pos : Pos} {m : Addr} {args : List (Bool × Sem Value)} {Q : Value → Shared → Prop} (hplain : args.any (·.1) = false)
    (h : wpAny M A (evalArgs (.ref m) true args []) (fun a s₁ => (∃ o vs, s₁.heap.get? m = some o ∧ o.cls = .type "builtin_function_or_method" ∧ o.data = .fields vs) ∧ wpAny M A (call (.ref m) a.pos a.kw) Q E s₁) E s) :
    wpAny M A (callWith pos (.ref m) [] args []) Q E s := by
  unfold callWith
  refine wpAny_bind (wpAny_holding (wpAny_mono h (fun a s₁ h₁ => wpAny_bind (wpAny_standAt ?_)) fun _ _ x => x))
  simp only [hplain, List.any_nil, Bool.or_false]
  obtain ⟨⟨o, vs, ho, hc, hd⟩, h₁⟩ := h₁
  refine wpAny_bind (m := keeperOf (.ref m)) ?_
  unfold keeperOf
  refine wpAny_bind (wpAny_load ho ?_)
  rw [hd, hc]
  dsimp only
  rw [if_pos (by decide), if_pos (by decide)]
  refine wpAny_pure ?_
  dsimp only
  exact wpAny_bind (wpAny_mono h₁ (fun r s₂ hr => wpAny_bind (wpAny_holding (wpAny_point (wpAny_pure hr)))) fun _ _ x => x)
theorem miss_call : ∀ {w : World} {A : Around} {s : Shared} {R : Result → Shared → Prop} {p loose mg mb} {b : Heap} {bk d f nt : Addr} {fd : FuncData} {es : List BEnt} {ep ep' : Nat} {kind : Int} {tk : Tok} {its : Array Value} {kn : Nat} {fz : Option (Tok × Addr)} {lfd : FuncData}
    (T : Top0 w p loose mg mb b) (hb : b.StaysIn s.heap) (hbn : b.get? nt = none)
    (hbk : s.heap.get? bk = some (bookObj d f es ep))
    (hd : s.heap.get? d = some { cls := .type "dict", data := .dict (match fz with | none => #[] | some x => #[⟨PyData.keyHash w.params "_frozen", .str "_frozen" x.1, .ref x.2⟩]) ep' })
    (hf : s.heap.get? f = some { cls := .type "function", data := .func fd }) (hlf : ∀ x, fz = some x → s.heap.get? x.2 = some { cls := .type "function", data := .func lfd })
    (hne : bk ≠ sysModules) (hes : es.length < 1000) (hno : es.find? (fun e => e.k == kind) = none) (hnb : nt ≠ bk) (hnd : nt ≠ d)
    (hroom : A.depth + 20 < recursionLimit) (hu : A.units + 300 < cLine)
    (hh : A.handled = none)
    (hfac : fz = none → Fac w A s.heap f [] nt its kn) (hlam : ∀ x, fz = some x → Fac w A s.heap x.2 [.int kind tk] nt its kn)
    (hQc : ∀ h' tk' l, fz = none → Keep [nt, bk] s.heap h' → s.heap.get? l = none → h'.get? l = some (PySem.W.listOf #[] 0) → h'.get? nt = some (PySem.W.listOf (its.push (.ref l)) (kn + 1)) → h'.get? bk = some (bookObj d f (es ++ [⟨kind, tk, l⟩]) (ep + 1)) → R (.ok (.ret (.ref l))) { s with heap := h', toks := tk' })
    (hQh : ∀ h' tk' l, fz.isSome = true → Keep [nt] s.heap h' → s.heap.get? l = none → h'.get? l = some (PySem.W.listOf #[] 0) → h'.get? nt = some (PySem.W.listOf (its.push (.ref l)) (kn + 1)) → R (.ok (.ret (.ref l))) { s with heap := h', toks := tk' }),
    codeAny (model PG w) A (.call (.ref 48) ⟨[.ref bk, .int kind tk], []⟩) R s := by
  intro w A s R p loose mg mb b bk d f nt fd es ep ep' kind tk its kn fz lfd T hb hbn hbk hd hf hlf hne hes hno hnb hnd hroom hu hh hfac hlam hQc hQh
  refine' call_hideAt [] T hb ?hμ ?hroom ?ho ?hcd ?hbind ?hloc ?hcell ?hco ?hgen ?hk ?_
  case ho => k_is
  case hcd => k_is
  case hbind => exact BindsTo.of_eq rfl
  case hloc => exact locs rfl
  case hcell => decide
  case hμ => intro q hq; cases hq
  case hroom => omega
  case hco => rfl
  case hgen => rfl
  case hk => rfl
  intro g L h₁ tk0 hg hL T' F N
  have X' := T'.X
  have TT := T'.T
  refine ks_wpAt_execs_cons (ks_wpAt_Return_some (at_Call (by rfl) (at_Call (by rfl) (_root_.PySem.wpAt_of_wpAny ?_))))
  walk_at "MY steps"
  refine at_callWith_builtin (by rfl) ?_
  refine at_evalArgs (at_spliced_cons (_root_.PySem.wpAt_of_wpAny ?_))
  refine no_star ?_
  walk_at "MY steps"
  refine at_spliced_cons (_root_.PySem.wpAt_of_wpAny ?_)
  refine no_star ?_
  walk_at "MY steps"
  refine at_spliced_cons ?_
  refine at_no_star ?_
  refine at_Attribute ?_
  refine ks_wpAt_super_base (by rfl) (by rfl) (by decide) (by rfl) (F.keep _ _ (X' 48 _ (by k_is))) (by rfl) (by rfl) (by rfl) (F.keep _ _ (X' 47 _ (by k_is))) (by rfl) (by rfl) (by rfl) (by rfl) ?_
  refine ks_loadName_global (by rfl) (by rfl) (loadGlobal_builtin (TT.g.keeps F.keep) (mg_none_of X' TT.g (by k_is)) (TT.b.keeps F.keep) ((TT.builtins _ (by decide +kernel)).trans PyProof.Rows.Boot.«super») ⟨rfl, ?_⟩)
  refine wpAny_loadName_free (by rfl) (by rfl) rfl ⟨_, F.keep _ _ (X' 36 _ (by k_is)), rfl⟩ ?_
  refine wpAny_loadName_local (by rfl) (by rfl) F.ns (by rfl) ?_
  have h58 := X' 58 _ (by k_is)
  refine ks_wpAny_isType_cls (F.keep _ _ h58) rfl ⟨rfl, ?_⟩
  have kp : ∀ c o, s.heap.get? c = some o → h₁.get? c = some o := fun c o e => keep_of hg F (by simp) e
  have XK := X'.keeps F.keep
  have hbk1 := kp _ _ hbk
  have hd1 := kp _ _ hd
  refine super_new XK hbk1 (by show A.depth + 1 + 4 < _; omega) (by simp only [units_deeper]; omega) hh ?_
  intro h2 tk2 so k2 hso0 hso
  have XK2 := XK.keeps k2
  refine super_ga XK2 hso ?_ ?_
  · rintro rfl
    rw [F.keep _ _ h58] at hbk1; cases hbk1
  intro tk3
  refine md_get XK2 (k2 _ _ hbk1) (by show A.depth + 1 + 4 < _; omega) ?_ hh ?_
  · show A.units + 3 + 1 + 100 < _; omega
  intro h3 tk3 m k3 hm0 hm
  refine ⟨m, rfl, ?_⟩
  refine wpAny_letTemporaryGo ?_
  refine at_spliced_nil ?_
  change wpAny _ _ (call (.builtin "getattr") [.ref bk, .str "_frozen" _, .ref m]) _ _ _
  have k13 : ∀ c o, h₁.get? c = some o → h3.get? c = some o := fun c o e => k3 _ _ (k2 _ _ e)
  have XK3 := XK.keeps k13
  have hu3 : (A.deeper (envX (PySem.Str.ofString "FreezableDefaultDict.__missing__") { kind := ScopeKind.function, names := [(PySem.Str.ofString "self", NameKind.local), (PySem.Str.ofString "key", NameKind.local), (PySem.Str.ofString "__class__", NameKind.free), (PySem.Str.ofString "getattr", NameKind.globalImplicit), (PySem.Str.ofString "super", NameKind.globalImplicit)], isGenerator := false, isCoroutine := false } L 48 (.ref 47) [(PySem.Str.ofString "__class__", 36)])).units = A.units + 3 := rfl
  have snew : ∀ c, h₁.get? c = none → s.heap.get? c = none := fun c e => by
    cases q : s.heap.get? c with
    | none => rfl
    | some o => rw [kp _ _ q] at e; cases e
  cases fz with
  | none =>
    refine getattr_cold XK3 (k13 _ _ hbk1) (k13 _ _ hd1) (by show A.depth + 1 + 4 < _; omega) (by show A.units + 3 + 100 < _; omega) hh ?_
    intro h4 tk4 k4
    refine _root_.PySem.wpAt_of_wpAny ?_
    refine callWith_bm (by rfl) ?_
    refine Calls.evalArgs_plain (Calls.spliced_cons (no_star ?_))
    have F4 := (F.keeps k13).keeps k4
    have k34 : ∀ c o, s.heap.get? c = some o → h4.get? c = some o := fun c o e => k4 _ _ (k13 _ _ (kp _ _ e))
    walk_at "MY steps"
    · exact ⟨_, _, k4 _ _ hm, rfl, rfl⟩
    · refine dd_call (b := b) T (fun c o e => k34 _ _ (hb c o e)) hbn (k34 _ _ hbk) (k34 _ _ hd) (k34 _ _ hf) (k4 _ _ hm) hne hes (hfac rfl) k34 (Nat.le_refl _) (by show A.units + 3 ≤ _; omega) hh hno hnb hnd ?_
      intro h5 tk5 l kk hl0 hl hn hbk5
      refine hQc _ _ _ rfl (fun c o hc e => kk c o hc (k34 _ _ e)) ?_ hl hn hbk5
      cases q : s.heap.get? l with
      | none => rfl
      | some o => have := k34 _ _ q; rw [hl0] at this; cases this
  | some x =>
    refine getattr_hot (lam := x.2) (tk2 := x.1) XK3 (k13 _ _ hbk1) (k13 _ _ hd1) (by show A.depth + 1 + 4 < _; omega) (by show A.units + 3 + 100 < _; omega) hh ?_
    intro h4 tk4 k4
    have k34 : ∀ c o, s.heap.get? c = some o → h4.get? c = some o := fun c o e => k4 _ _ (k13 _ _ (kp _ _ e))
    refine _root_.PySem.wpAt_of_wpAny ?_
    refine Calls.callWith_function (o := { cls := .type "function", data := .func lfd }) (fd := lfd) ?_
    refine Calls.evalArgs_plain (Calls.spliced_cons (no_star ?_))
    have F4 := (F.keeps k13).keeps k4
    walk_at "MY steps"
    · exact k34 _ _ (hlf _ rfl)
    · trivial
    · refine wpAny_call (hlam _ rfl _ _ _ k34 (by show A.depth + 1 ≤ _; omega) (by show A.units + 3 ≤ _; omega) hh ?_)
      intro h5 tk5 l kk hl0 hl hn
      refine hQh _ _ _ rfl (fun c o hc e => kk c o hc (k34 _ _ e)) ?_ hl hn
      cases q : s.heap.get? l with
      | none => rfl
      | some o => have := k34 _ _ q; rw [hl0] at this; cases this
end Mine
end
section
open PySem PySem.W PySem.Calls PyProof.Rows PySem.SeqAt
set_option linter.unusedVariables false
set_option maxRecDepth 100000
set_option maxHeartbeats 1000000
namespace Mine
theorem call_hideC {prog : Program} {w : World} {A : Around} {s : Shared} {R : Result → Shared → Prop} {p loose mg mb} {b : Heap}
    {name qual : PySem.Str} {params : Arguments} {body : List Stmt} {scope : Scope} {dV kV doc pm cdv ct oc : Value} {an od : Option Addr} {osl : Array (Option Value)} {f : Addr} {args : Args} {binds : List (PySem.Str × Value)}
    (μ : List (Addr × Obj)) (T : Top0 w p loose mg mb b) (hb : b.StaysIn s.heap) (hμ : ∀ q ∈ μ, s.heap.get? q.1 = some q.2 ∧ b.get? q.1 = none)
    (hroom : A.depth < recursionLimit)
    (ho : (hd.heap_39 w.params).lookup f = some ⟨oc, od, .func (fnX name qual params body scope [] dV kV doc pm an cdv ct), osl⟩) (hcd : codeIn (hd.heap_39 w.params) cdv qual = true)
    (hbind : BindsTo s (fnX name qual params body scope [] dV kV doc pm an cdv ct) args binds) (hkind : (binds.all fun y => scope.names.lookup y.1 == some .local || scope.names.lookup y.1 == some .cell) = true)
    (hnd : ((cellsFrom 0 scope.names []).map (·.1)).Nodup)
    (hco : scope.isCoroutine = false) (hgen : scope.isGenerator = false) (hk : scope.kind = .function)
    (h : ∀ g L h₁ tk cells, g = hideAll s.heap (μ.map (·.1)) → L = s.heap.objs.size → Top0 w p loose mg mb g → Fr g L h₁ (bindL (envOfC qual scope L f cdv).kindOf binds fun _ => none) → News g L h₁ (cells ++ μ) →
      CellsAre (bindC (envOfC qual scope L f cdv).kindOf binds fun _ => none) (cellsFrom (L + 1) scope.names []) cells → (∀ c o, s.heap.get? c = some o → h₁.get? c = some o) → (∀ q ∈ cells, s.heap.get? q.1 = none) →
      wpAny (model prog w) (A.deeper (envOfC qual scope L f cdv)) (execs body (envOfC qual scope L f cdv))
        (fun fl s' => R (.ok (.ret (match fl with | .ret v => v | _ => .none))) s')
        (fun e s' => wpAny (model prog w) (A.deeper (envOfC qual scope L f cdv)) (leaving (envOfC qual scope L f cdv) e) (fun _ s'' => R (.error e) s'') (fun e' s'' => R (.error e') s'') s')
        { s with heap := h₁, toks := tk }) :
    codeAny (model prog w) A (.call (.ref f) args) R s := by
  have st : b.StaysIn (hideAll s.heap (μ.map (·.1))) := fun c o e => hideAll_get _ (hb c o e) fun hm => by
    obtain ⟨q, hq, rfl⟩ := List.mem_map.mp hm
    rw [(hμ q hq).2] at e; cases e
  have X := T.X.keeps hb
  refine codeAny_call_function hroom (X _ _ ho) rfl hco hgen rfl (codeRec_of X hcd) (hbind _ _ _ _ ?_)
  refine wpAny_newFunctionEnv_cells hk (kindsX hkind _) fun env' he s' x => ?_
  subst he
  refine ⟨(T.T.nolimit.keeps hb).keeps x.toInCall.keep, codeAny_func ?_⟩
  obtain ⟨h₁, tk, rfl, _⟩ := x.done
  have hk₁ := x.toInCall.keep
  obtain ⟨cells, NC, Y⟩ := Cl.news (h₀ := s.heap) (Nat.le_refl _) fun n c hm => ⟨x.cell n c (lookup_of_mem_nodup (cellsFrom_names scope.names 0 (s.heap.objs.size + 1) [] [] rfl ▸ hnd) hm), x.above n c hm⟩
  refine h _ s.heap.objs.size h₁ tk cells rfl rfl (T.keeps st) ⟨x.toInCall.ns, fun b o e => hk₁ b o (of_hideAll _ e), Nat.le_of_eq (hideAll_size _ _)⟩ (fun p hp => ?_) Y hk₁ (fun q hq => (NC q hq).2.2)
  rcases List.mem_append.mp hp with hp | hp
  · refine ⟨(NC p hp).1, (NC p hp).2.1, ?_⟩
    cases q : (hideAll s.heap (μ.map (·.1))).get? p.1 with
    | none => rfl
    | some o => have := of_hideAll _ q; rw [(NC p hp).2.2] at this; cases this
  · exact ⟨hk₁ _ _ (hμ p hp).1, Nat.ne_of_lt (Heap.lt_size (hμ p hp).1), hideAll_none _ (List.mem_map_of_mem hp)⟩
theorem ne_cls {h : Heap} {a c : Addr} {o o' : Obj} (e : h.get? a = some o) (e' : h.get? c = some o') (hc : o.cls ≠ o'.cls) : a ≠ c := fun q => by
  subst q; rw [e] at e'; cases e'; exact hc rfl
noncomputable def FTab (h : Heap) (ps : Array Value) : Prop := ps = #[] ∨ ∃ c', ps = #[rawInt 9, rawInt 23, .ref c'] ∧ h.CodeRec (.ref c') (PySem.Str.ofString "FreezableDefaultDict.freeze.<locals>.<lambda>")
noncomputable def idict (w : World) (fz : Option (Tok × Addr)) (ep : Nat) : Obj := { cls := .type "dict", data := .dict (match fz with | none => #[] | some x => #[⟨PyData.keyHash w.params "_frozen", .str "_frozen" x.1, .ref x.2⟩]) ep }
noncomputable abbrev LAMQ : PySem.Str := PySem.Str.ofString "FreezableDefaultDict.freeze.<locals>.<lambda>"
noncomputable def lamParts (w : World) : Option (Arguments × Expr × Scope) := ((hd.heap_39 w.params).lookup 55).bind fun o => match o.data with
  | .func fd => (match fd.body with | .stmts (.Assign _ (.Lambda p b s _) _ :: _) => some (p, b, s) | _ => none)
  | _ => none
structure LamAt (w : World) (h : Heap) (lam bk cell c' : Addr) (pbs : Arguments × Expr × Scope) (pm ctv : Value) : Prop where
  parts : lamParts w = some pbs
  obj : h.get? lam = some (kla_obj "<lambda>" LAMQ pbs.1 pbs.2.1 pbs.2.2 [("self", cell)] pm c' ctv)
  cell : ∃ o, h.get? cell = some o ∧ o.data = .cell (some (.ref bk))
  code : h.CodeRec (.ref c') LAMQ
theorem upd_mid {d : Addr} {o o' : Obj} {post : List (Addr × Obj)} (hpost : ∀ q ∈ post, q.1 ≠ d) : ∀ {pre : List (Addr × Obj)}, (∀ q ∈ pre, q.1 ≠ d) → Upd d o o' (pre ++ (d, o) :: post) (pre ++ (d, o') :: post)
  | [], _ => .head hpost
  | q :: r, h => .tail (h q (.head _)) (upd_mid hpost fun z hz => h z (.tail _ hz))
theorem refuse_dd (self : Value) : refuseLoop self "__setattr__" [.ref 58, .type "collections.defaultdict", .type "dict", .type "object"] = pure () := by kernel_rfl
theorem set_frozen : ∀ {w : World} {A : Around} {E : Value → Shared → Prop} {s : Shared} {Q : Unit → Shared → Prop} {g : Heap} {L : Addr} {m : PySem.Str → Option Value} {pre post : List (Addr × Obj)} {bk d f lam : Addr} {es : List BEnt} {ep ep' : Nat} {fz : Option (Tok × Addr)}
    (F : Fr g L s.heap m) (X : (hd.heap_39 w.params).In g) (N : News g L s.heap (pre ++ (d, idict w fz ep') :: post)) (hb : s.heap.get? bk = some (bookObj d f es ep))
    (hpre : ∀ q ∈ pre, q.1 ≠ d) (hpost : ∀ q ∈ post, q.1 ≠ d)
    (h : ∀ h' tk tkf ep2, Fr g L h' m → News g L h' (pre ++ (d, idict w (some (tkf, lam)) ep2) :: post) → Q () { s with heap := h', toks := tk }),
    wpAny (model PG w) A (setAttr (.ref bk) "_frozen" (.ref lam)) Q E s := by
  intro w A E s Q g L m pre post bk d f lam es ep ep' fz F X N hb hpre hpost h
  have hd1 := (N _ (List.mem_append_right _ (.head _))).1
  have XK := X.keeps F.keep
  have I := book_inst hb hd1
  have SF := PySem.F.store_object
  refine set_plain XK I (by k_is) ?_
  obtain ⟨cd, hcd, hcm, hch⟩ : ∃ cd, clsIn (_root_.hd.heap_39 w.params) 58 = some cd ∧ cd.mro = [.ref 58, .type "collections.defaultdict", .type "dict", .type "object"] ∧ cd.hasDict = true := ⟨_, by k_is, rfl, rfl⟩
  have sub : Looks (model PG w) s.heap (isInstance (.ref bk) (.type "object")) true := I.type.andThen (looks_subIn XK (by k_is))
  refine codeAny_call_builtin SF.slot.plain SF.entry ?_
  refine (@check_slot (model PG w) _ _ _ "object.__setattr__" "object" "__setattr__" (.ref bk) [.str "_frozen" s.toks, .ref lam] [] _ SF.kind SF.split sub (SF.args (.ref bk) (.str "_frozen" s.toks) (.ref lam)) ?_)
  rw [osa_eq, refuse_eq]
  have hm : Looks (model PG w) s.heap (mroOf (.ref 58)) [.ref 58, .type "collections.defaultdict", .type "dict", .type "object"] := by
    rw [← hcm]
    exact fun A Q E s k q => wpAny_bind ((looks_clsIn XK hcd) A _ E s k (wpAny_pure q))
  refine wpAny_bind (wpAny_bind (I.type _ _ _ _ (fun b o e => e) (wpAny_bind (hm _ _ _ _ (fun b o e => e) ?_))))
  rw [refuse_dd]
  refine wpAny_pure (wpAny_bind (I.type _ _ _ _ (fun b o e => e) (wpAny_bind (looks_findIn XK (r := none) (by k_is) _ _ _ _ (fun b o e => e) (wpAny_bind (wpAny_pure ?_))))))
  dsimp only
  obtain ⟨ep2, tkf, hput⟩ : ∃ ep2 tkf, Obj.putName "_frozen" (PyData.keyHash w.params "_frozen") (.str "_frozen" (s.toks + 1)) (.ref lam) (idict w fz ep') = idict w (some (tkf, lam)) ep2 := by
    rcases fz with _ | ⟨x1, x2⟩
    · exact ⟨ep' + 1, s.toks + 1, by with_unfolding_all rfl⟩
    · exact ⟨ep', x1, by with_unfolding_all rfl⟩
  obtain ⟨U1, U2⟩ := news_upd (f := Obj.putName "_frozen" (PyData.keyHash w.params "_frozen") (.str "_frozen" (s.toks + 1)) (.ref lam)) F N hpre hpost hput rfl
  have D' := (U2 (d, idict w (some (tkf, lam)) ep2) (by simp)).1
  refine wpAny_bind (wpAny_pure (wpAny_bind (wpAny_bind (wpAny_loadPart hb (wpAny_bind (looks_clsIn XK hcd _ _ _ _ (fun b o e => e) ?_))))))
  rw [hch]
  refine wpAny_pure (a := some d) (wpAny_bind (wpAny_pure (wpAny_bind ?_)))
  unfold nsSet
  refine wpAny_bind (wpAny_bind (wpAny_askSetting (wpAny_pure (wpAny_bind (wpAny_mkText (wpAny_bind (wpAny_loadPart hd1 ?_)))))))
  have c : ∀ es, es = (match fz with | none => #[] | some x => #[(⟨PyData.keyHash w.params "_frozen", .str "_frozen" x.1, .ref x.2⟩ : DictEntry)]) → (!es.any (·.key.isStr "_frozen") && es.any (·.refKey)) = false := by
    intro es he
    rcases fz with _ | ⟨x1, x2⟩
    · subst he; simp
    · subst he
      have e1 : ∀ t2 : Tok, (Value.str "_frozen" t2).isStr "_frozen" = true := fun t2 => by with_unfolding_all rfl
      simp [e1]
  dsimp only [idict]
  rw [aRefKeyMayBeTheName_at, c _ rfl]
  refine wpAny_updatePart hd1 ?_
  refine wpAny_bind (wpAny_lookBehind D' (pastItsLine_dict (by rw [sizeLine_eq]; simp)) ?_)
  exact wpAny_pure (h _ _ _ _ U1 U2)
end Mine
end
section
open PySem PySem.W PySem.Calls PyProof.Rows PySem.SeqAt
set_option linter.unusedVariables false
set_option maxRecDepth 100000
set_option maxHeartbeats 1000000
namespace Mine
theorem freeze_call : ∀ {w : World} {A : Around} {s : Shared} {R : Result → Shared → Prop} {p loose mg mb} {b : Heap} {bk d f : Addr} {es : List BEnt} {ep ep' : Nat} {fz : Option (Tok × Addr)} {mean : ExcName → Option Value} {ps : Array Value}
    (T : Top0 w p loose mg mb b) (TF : Top p loose mean mg mb b) (hb : b.StaysIn s.heap) (htab : s.heap.get? 50 = some (tabObj ps)) (hb50 : b.get? 50 = none) (hps : FTab s.heap ps)
    (hbk : s.heap.get? bk = some (bookObj d f es ep))
    (hd : s.heap.get? d = some (idict w fz ep')) (hbd : b.get? d = none)
    (hroom : A.depth + 20 < recursionLimit) (hu : A.units + 300 < cLine)
    (hh : A.handled = none)
    (hQ : ∀ h' tk ps' lam tkf ep2 cell c' pbs pm ctv, Keep [d, 50] s.heap h' → h'.get? d = some (idict w (some (tkf, lam)) ep2) → h'.get? 50 = some (tabObj ps') → ps' = #[rawInt 9, rawInt 23, .ref c'] → (s.heap.get? c' = none ∨ ps = #[rawInt 9, rawInt 23, .ref c']) → LamAt w h' lam bk cell c' pbs pm ctv → s.heap.get? lam = none → s.heap.get? cell = none → R (.ok (.ret .none)) { s with heap := h', toks := tk }),
    codeAny (model PG w) A (.call (.ref 55) ⟨[.ref bk], []⟩) R s := by
  intro w A s R p loose mg mb b bk d f es ep ep' fz mean ps T TF hb htab hb50 hps hbk hd hbd hroom hu hh hQ
  refine' call_hideC [(d, idict w fz ep'), (50, tabObj ps)] T hb ?hμ ?hroom ?ho ?hcd ?hbind ?hloc ?hcell ?hco ?hgen ?hk ?_
  case ho => k_is
  case hcd => k_is
  case hbind => exact BindsTo.of_eq rfl
  case hloc => rfl
  case hcell => decide
  case hμ => intro q hq; rcases List.mem_cons.mp hq with rfl | hq; exact ⟨hd, hbd⟩; rcases List.mem_singleton.mp hq with rfl; exact ⟨htab, hb50⟩
  case hroom => omega
  case hco => rfl
  case hgen => rfl
  case hk => rfl
  intro g L h₁ tk0 cells hg hL T' F N Y kp cn
  have X' := T'.X
  have TT := T'.T
  have bg : b.StaysIn g := fun c o e => by
    rw [hg]
    refine hideAll_get _ (hb c o e) fun hm => ?_
    rcases List.mem_cons.mp hm with rfl | hm
    · rw [hbd] at e; cases e
    · rw [List.mem_singleton.mp hm, hb50] at e; cases e
  have TF' : Top p loose mean mg mb g := TF.keeps bg
  have C' : CodeHd g 54 50 := ⟨_, _, _, _, _, _, _, _, _, X' 54 _ (by k_is), rfl, rfl, rfl, rfl, rfl, rfl, rfl, rfl, by decide⟩
  k_cells Y
  rename_i o' d1
  have hd50 : d ≠ 50 := ne_cls hd htab (by intro q; cases q)
  have hcn : s.heap.get? (L + 1 : Nat) = none := cn _ (.head _)
  have hc50 : ((L + 1 : Nat) : Addr) ≠ 50 := fun e => by
    rw [e, htab] at hcn; cases hcn
  have hcd : ((L + 1 : Nat) : Addr) ≠ d := fun e => by
    rw [e, hd] at hcn; cases hcn
  have hdL : @LT.lt Nat _ d L := by rw [hL]; exact Heap.lt_size hd
  have hbL : @LT.lt Nat _ bk L := by rw [hL]; exact Heap.lt_size hbk
  have hbd' : bk ≠ d := ne_cls hbk hd (by intro q; cases q)
  have hb50' : bk ≠ 50 := ne_cls hbk htab (by intro q; cases q)
  have hbkg : g.get? bk = some (bookObj d f es ep) := by rw [hg]; exact hideAll_get _ hbk (by simpa using ⟨hbd', hb50'⟩)
  rcases hps with rfl | ⟨c', rfl, hc⟩
  · walk_at "MY steps"
    (rename News _ _ _ _ => N2); (rename Fr _ _ _ _ => F2)
    rename_i lam c' oc vs t2 ctv h2 tk2 d1' d2' l1 l2
    have ldc : d < c' := l1 _ (.tail _ (.head _))
    refine set_frozen (pre := [_, _, _]) (post := [_]) F2 X' N2 (F2.keep _ _ hbkg) ?_ ?_ ?_
    · intro q hq
      simp only [List.mem_cons, List.not_mem_nil, or_false] at hq
      rcases hq with rfl | rfl | rfl
      · exact Nat.ne_of_gt (Nat.lt_trans ldc l2)
      · exact Nat.ne_of_gt ldc
      · exact hcd
    · intro q hq
      rcases List.mem_singleton.mp hq with rfl
      exact Ne.symm hd50
    intro h3 tk3 tkf ep2 F3 N3
    walk_at "MY steps"
    dsimp only
    have l50 : 50 < c' := l1 _ (.tail _ (.tail _ (.head _)))
    have hcode : h3.CodeRec (.ref c') LAMQ := ⟨c', oc, vs, t2, rfl, (N3 _ (.tail _ (.head _))).1, d1', d2'⟩
    have hLam : LamAt w h3 lam bk (L + 1 : Nat) c' (_, _, _) ((mg "__name__").getD .none) ctv := { obj := (N3 _ (.head _)).1, cell := ⟨o', (N3 _ (.tail _ (.tail _ (.head _)))).1, d1⟩, code := hcode, parts := by unfold lamParts; rw [show (_root_.hd.heap_39 w.params).lookup 55 = some _ by k_is]; rfl }
    refine hQ h3 _ _ lam tkf ep2 (L + 1 : Nat) c' _ _ ctv (fun c o hc e => keep_of hg F3 (by simpa using hc) e) (N3 _ (.tail _ (.tail _ (.tail _ (.head _))))).1 (N3 (50, _) (.tail _ (.tail _ (.tail _ (.tail _ (.head _)))))).1 rfl (.inl (new_of hg N3 (.tail _ (.head _)) (by simpa using ⟨Nat.ne_of_gt ldc, Nat.ne_of_gt l50⟩))) hLam ?_ hcn
    exact new_of hg N3 (.head _) (by simpa using ⟨Nat.ne_of_gt (Nat.lt_trans ldc l2), Nat.ne_of_gt (Nat.lt_trans l50 l2)⟩)
  · walk_at "MY steps"
    (rename News _ _ _ _ => N2); (rename Fr _ _ _ _ => F2)
    rename_i lam ctv h2 tk2 l1
    have ldc : d < lam := l1 _ (.tail _ (.head _))
    refine set_frozen (pre := [_, _]) (post := [_]) F2 X' N2 (F2.keep _ _ hbkg) ?_ ?_ ?_
    · intro q hq
      simp only [List.mem_cons, List.not_mem_nil, or_false] at hq
      rcases hq with rfl | rfl
      · exact Nat.ne_of_gt ldc
      · exact hcd
    · intro q hq
      rcases List.mem_singleton.mp hq with rfl
      exact Ne.symm hd50
    intro h3 tk3 tkf ep2 F3 N3
    walk_at "MY steps"
    dsimp only
    have kp3 : ∀ c o, c ∉ [d, 50] → s.heap.get? c = some o → h3.get? c = some o := fun c o hc e => keep_of hg F3 (by simpa using hc) e
    have l50 : 50 < lam := l1 _ (.tail _ (.tail _ (.head _)))
    have hcode : h3.CodeRec (.ref c') LAMQ := by
      obtain ⟨c2, o2, vs, tq, e1, e2, e3, e4⟩ := hc
      refine ⟨c2, o2, vs, tq, e1, kp3 _ _ ?_ e2, e3, e4⟩
      intro hm
      rcases List.mem_cons.mp hm with rfl | hm
      · rw [hd] at e2; cases e2; cases e3
      · rw [List.mem_singleton.mp hm, htab] at e2; cases e2; cases e3
        simp [rawInt] at e4
    have hLam : LamAt w h3 lam bk (L + 1 : Nat) c' (_, _, _) ((mg "__name__").getD .none) ctv := { obj := (N3 _ (.head _)).1, cell := ⟨o', (N3 _ (.tail _ (.head _))).1, d1⟩, code := hcode, parts := by unfold lamParts; rw [show (_root_.hd.heap_39 w.params).lookup 55 = some _ by k_is]; rfl }
    refine hQ h3 _ _ lam tkf ep2 (L + 1 : Nat) c' _ _ ctv kp3 (N3 _ (.tail _ (.tail _ (.head _)))).1 (N3 (50, _) (.tail _ (.tail _ (.tail _ (.head _))))).1 rfl (.inr rfl) hLam ?_ hcn
    exact new_of hg N3 (.head _) (by simpa using ⟨Nat.ne_of_gt ldc, Nat.ne_of_gt l50⟩)
end Mine
end
section
open PySem PySem.W PySem.Calls PyProof.Rows PySem.SeqAt
set_option linter.unusedVariables false
set_option maxRecDepth 100000
set_option maxHeartbeats 400000
namespace Mine
theorem call_hideL {w : World} {A : Around} {s : Shared} {R : Result → Shared → Prop} {p loose mg mb} {b : Heap}
    {name qual : PySem.Str} {params : Arguments} {body : Expr} {scope : Scope} {cl : List (PySem.Str × Addr)} {pm ct : Value} {c' f : Addr} {args : Args} {binds : List (PySem.Str × Value)}
    (μ : List (Addr × Obj)) (T : Top0 w p loose mg mb b) (hb : b.StaysIn s.heap) (hμ : ∀ q ∈ μ, s.heap.get? q.1 = some q.2 ∧ b.get? q.1 = none)
    (hroom : A.depth < recursionLimit) (ho : s.heap.get? f = some (kla_obj name qual params body scope cl pm c' ct)) (hcd : s.heap.CodeRec (.ref c') qual)
    (hbind : bindArgs (kla_fn name qual params body scope cl pm (.ref c') ct) args = pure binds) (hloc : ∀ y ∈ binds, scope.names.lookup y.1 = some .local)
    (hcell : ∀ x ∈ scope.names, x.2 ≠ .cell) (hco : scope.isCoroutine = false) (hgen : scope.isGenerator = false) (hk : scope.kind = .function)
    (h : ∀ g L h₁ tk, g = hideAll s.heap (μ.map (·.1)) → L = s.heap.objs.size → Top0 w p loose mg mb g → Fr g L h₁ (fun y => binds.reverse.lookup y) → News g L h₁ μ →
      wpAny (model PG w) (A.deeper (envX qual scope L f (.ref c') cl)) (eval body (envX qual scope L f (.ref c') cl))
        (fun v s' => R (.ok (.ret v)) s')
        (fun e s' => wpAny (model PG w) (A.deeper (envX qual scope L f (.ref c') cl)) (leaving (envX qual scope L f (.ref c') cl) e) (fun _ s'' => R (.error e) s'') (fun e' s'' => R (.error e') s'') s')
        { s with heap := h₁, toks := tk }) :
    codeAny (model PG w) A (.call (.ref f) args) R s := by
  have st : b.StaysIn (hideAll s.heap (μ.map (·.1))) := fun c o e => hideAll_get _ (hb c o e) fun hm => by
    obtain ⟨q, hq, rfl⟩ := List.mem_map.mp hm
    rw [(hμ q hq).2] at e; cases e
  refine kla_callFunE hroom ho rfl hco hgen rfl hcd ?_
  rw [hbind]
  refine wpAny_pure (wpAny_newFunctionEnv hcell hloc (fun h₁ hns hsb => ⟨((T.T.nolimit).keeps hb).fresh _ hsb, ?_⟩) hk)
  show codeAny _ _ (.expr body (envX qual scope s.heap.objs.size f (.ref c') cl)) _ _
  have hk₁ : ∀ b o, s.heap.get? b = some o → h₁.get? b = some o := fun b o e => hsb.extBut b o (Nat.ne_of_lt (Heap.lt_size e)) (Heap.get?_push_of_some _ e)
  exact kla_codeExpr (h _ s.heap.objs.size h₁ _ rfl rfl (T.keeps st) ⟨hns, fun b o e => hk₁ b o (of_hideAll _ e), Nat.le_of_eq (hideAll_size _ _)⟩
    (fun q hq => ⟨hk₁ _ _ (hμ q hq).1, Nat.ne_of_lt (Heap.lt_size (hμ q hq).1), hideAll_none _ (List.mem_map_of_mem hq)⟩))
theorem bind_ga (v : Value) : bindSpecial (.builtin "collections.defaultdict.__getattribute__") v = pure (.builtin "collections.defaultdict.__getattribute__", [v]) := by
  unfold bindSpecial
  rw [show typeOf (.builtin "collections.defaultdict.__getattribute__") = pure (.type "wrapper_descriptor") by show builtinType _ = _; rw [builtinType_eq_fast]; kernel_rfl]
  rfl
theorem type_df : typeOf (.builtin "collections.defaultdict.default_factory") = pure (.type "member_descriptor") := by show builtinType _ = _; rw [builtinType_eq_fast]; kernel_rfl
theorem canon_ga : (Manifest.canonical "collections.defaultdict.__getattribute__" != "object.__getattribute__") = false := by decide +kernel
theorem df_getAttr : ∀ {w : World} {A : Around} {s : Shared} {Q : Value → Shared → Prop} {E : Value → Shared → Prop} {bk d f : Addr} {es : List BEnt} {ep : Nat} {od : Obj}
    (KX : (hd.heap_39 w.params).In s.heap) (hbk : s.heap.get? bk = some (bookObj d f es ep)) (hd : s.heap.get? d = some od)
    (hroom : A.depth + 4 < recursionLimit) (hu : A.units + 100 < cLine)
    (hh : A.handled = none) (hQ : ∀ h' tk, (∀ c o, s.heap.get? c = some o → h'.get? c = some o) → Q (.ref f) { s with heap := h', toks := tk }),
    wpAny (model PG w) A (getAttr (.ref bk) "default_factory") Q E s := by
  intro w A s Q E bk d f es ep od KX hbk hd hroom hu hh hQ
  have I := book_inst hbk hd
  unfold getAttr getAttrBy
  refine wpAny_bind (wpAny_mkText (wpAny_holding (wpAny_bind (I.type _ _ _ _ (fun b o e => e) (wpAny_bind (looks_findIn KX (r := some (.builtin "collections.defaultdict.__getattribute__")) (by k_is) _ _ _ _ (fun b o e => e) ?_))))))
  change wpAny _ _ (getAttrByItsOwn (.ref bk) (.str "default_factory" s.toks) (.ref 58) (.builtin "collections.defaultdict.__getattribute__") true false) _ _ _
  unfold getAttrByItsOwn hookBefore callGetattribute boundAndCalled
  refine wpAny_bind ?_
  change wpAny _ _ (typeLookup (.ref 58) "__getattr__") _ _ _
  refine looks_findIn KX (r := none) (by k_is) _ _ _ _ (fun b o e => e) ?_
  refine wpAny_bind (wpAny_attempt (wpAny_holding ?_))
  change wpAny _ _ (bindSpecial (.builtin "collections.defaultdict.__getattribute__") (.ref bk) >>= _) _ _ _
  rw [bind_ga]
  refine wpAny_bind (wpAny_pure ?_)
  refine df_get KX hbk hroom hu hh fun h' tk hk => ?_
  exact wpAny_pure (hQ _ _ hk)
theorem df_getMethod : ∀ {w : World} {A : Around} {s : Shared} {Q : Value × List Value → Shared → Prop} {E : Value → Shared → Prop} {bk d f : Addr} {es : List BEnt} {ep : Nat} {od : Obj} {pl : Sem Bool}
    (KX : (hd.heap_39 w.params).In s.heap) (hbk : s.heap.get? bk = some (bookObj d f es ep)) (hd : s.heap.get? d = some od)
    (hroom : A.depth + 4 < recursionLimit) (hu : A.units + 100 < cLine)
    (hh : A.handled = none) (hQ : ∀ h' tk, (∀ c o, s.heap.get? c = some o → h'.get? c = some o) → Q (.ref f, []) { s with heap := h', toks := tk }),
    wpAny (model PG w) A (getMethod (.ref bk) "default_factory" pl) Q E s := by
  intro w A s Q E bk d f es ep od pl KX hbk hd hroom hu hh hQ
  have I := book_inst hbk hd
  unfold getMethod
  refine wpAny_bind (wpAny_bind (I.type _ _ _ _ (fun b o e => e) (looks_findIn KX (r := some (.builtin "collections.defaultdict.__getattribute__")) (by k_is) _ _ _ _ (fun b o e => e) ?_)))
  change wpAny _ _ (if (Manifest.canonical "collections.defaultdict.__getattribute__" != "object.__getattribute__") = true then _ else _) _ _ _
  rw [canon_ga, if_neg (by decide)]
  refine wpAny_bind (wpAny_bind (I.type _ _ _ _ (fun b o e => e) (looks_findIn KX (r := none) (by k_is) _ _ _ _ (fun b o e => e) ?_)))
  rw [if_neg (by decide)]
  refine wpAny_bind (wpAny_bind (I.type _ _ _ _ (fun b o e => e) (looks_findIn KX (r := some (.builtin "collections.defaultdict.default_factory")) (by k_is) _ _ _ _ (fun b o e => e) ?_)))
  dsimp only
  rw [type_df]
  refine wpAny_bind (wpAny_pure ?_)
  rw [if_pos (by decide)]
  exact wpAny_bind (df_getAttr KX hbk hd hroom hu hh fun h' tk hk => wpAny_pure (hQ _ _ hk))
theorem lam_fac : ∀ {w : World} {A A' : Around} {s : Shared} {R : Result → Shared → Prop} {p loose mg mb} {b : Heap} {bk d f lam cell c' nt : Addr} {es : List BEnt} {ep ep' kn : Nat} {fz : Option (Tok × Addr)} {pbs : Arguments × Expr × Scope} {pm ctv : Value} {k : Int} {t : Tok} {its : Array Value} {h0 : Heap} {fd : FuncData}
    (T : Top0 w p loose mg mb b) (hb : b.StaysIn s.heap)
    (hbk : s.heap.get? bk = some (bookObj d f es ep)) (hd : s.heap.get? d = some (idict w fz ep'))
    (hf : s.heap.get? f = some { cls := .type "function", data := .func fd }) (hl : LamAt w s.heap lam bk cell c' pbs pm ctv) (hfac : Fac w A h0 f [] nt its kn) (h0s : ∀ c o, h0.get? c = some o → s.heap.get? c = some o)
    (hroom : A'.depth + 20 < recursionLimit) (hu : A'.units + 300 < cLine) (hdp : A'.depth ≤ A.depth + 2) (hun : A'.units ≤ A.units + 20)
    (hh : A'.handled = none)
    (hQ : ∀ h' tk l, Keep [nt] s.heap h' → s.heap.get? l = none → h'.get? l = some (PySem.W.listOf #[] 0) → h'.get? nt = some (PySem.W.listOf (its.push (.ref l)) (kn + 1)) → R (.ok (.ret (.ref l))) { s with heap := h', toks := tk }),
    codeAny (model PG w) A' (.call (.ref lam) ⟨[.int k t], []⟩) R s := by
  intro w A A' s R p loose mg mb b bk d f lam cell c' nt es ep ep' kn fz pbs pm ctv k t its h0 fd T hb hbk hd hf hl hfac h0s hroom hu hdp hun hh hQ
  obtain ⟨pbs1, pbs2, pbs3⟩ := pbs
  have hp := hl.parts
  have hobj := hl.obj
  unfold lamParts at hp
  rw [show (_root_.hd.heap_39 w.params).lookup 55 = some _ by k_is] at hp
  obtain ⟨q1, q2, q3⟩ : _ = pbs1 ∧ _ = pbs2 ∧ _ = pbs3 := by
    have := Option.some.inj hp
    exact ⟨congrArg Prod.fst this, congrArg (fun x => x.2.1) this, congrArg (fun x => x.2.2) this⟩
  dsimp only at q1 q2 q3
  subst q1 q2 q3
  obtain ⟨oc, hce, hcd⟩ := hl.cell
  dsimp only at hobj
  refine' call_hideL [] T hb ?hμ ?hroom hobj hl.code ?hbind ?hloc ?hcell ?hco ?hgen ?hk ?_
  case hbind => exact rfl
  case hloc => exact locs rfl
  case hcell => decide
  case hμ => intro q hq; cases hq
  case hroom => omega
  case hco => rfl
  case hgen => rfl
  case hk => rfl
  intro g L h₁ tk0 hg hL T' F N
  have X' := T'.X
  have TT := T'.T
  have k0 : ∀ c o, s.heap.get? c = some o → h₁.get? c = some o := fun c o e => keep_of hg F (by simp) e
  refine MethodCall_ ?_
  refine wpAny_Name (wpAny_loadName_free (by rfl) (by rfl) (by rfl) ⟨oc, k0 _ _ hce, hcd⟩ ?_)
  refine df_getMethod (X'.keeps F.keep) (k0 _ _ hbk) (k0 _ _ hd) (by show A'.depth + 1 + 4 < _; omega) (by show A'.units + 3 + 100 < _; omega) hh ?_
  intro h2 tk2 k2
  have k02 : ∀ c o, s.heap.get? c = some o → h2.get? c = some o := fun c o e => k2 _ _ (k0 _ _ e)
  refine Calls.callWith_function (o := { cls := .type "function", data := .func fd }) (fd := fd) ?_
  have ev : ∀ {M : Model} {A : Around} {E : Value → Shared → Prop} {s : Shared} {f : Value} {Q : Args → Shared → Prop}, Q ⟨[], []⟩ s → wpAny M A (evalArgs f true [] []) Q E s := by
    intro M A E s f Q h
    unfold evalArgs
    refine wpAny_bind (wpAny_pure ?_)
    refine wpAny_bind (wpAny_pure ?_)
    refine wpAny_holding ?_
    exact wpAny_bind (wpAny_pure (wpAny_bind (wpAny_pure (wpAny_pure h))))
  refine ev ⟨⟨k02 _ _ hf, rfl⟩, ?_⟩
  refine wpAny_call (hfac _ _ _ (fun c o e => k02 _ _ (h0s _ _ e)) (by show A'.depth + 1 ≤ _; omega) (by show A'.units + 3 ≤ _; omega) hh ?_)
  intro h3 tk3 l kk hl0 hl3 hn3
  refine hQ _ _ _ (fun c o hc e => kk _ _ hc (k02 _ _ e)) ?_ hl3 hn3
  cases q : s.heap.get? l with
  | none => rfl
  | some o => have := k02 _ _ q; rw [hl0] at this; cases this
end Mine
end
section
open PySem PySem.W PySem.Calls PyProof.Rows PySem.SeqAt
set_option linter.unusedVariables false
set_option maxRecDepth 100000
set_option maxHeartbeats 1000000
namespace Mine
inductive Slot where
  | bk | d | nt | kp | rn
structure Ad where
  ad : Bool → Slot → Addr
  f : Bool → Addr
  cd : Addr
structure St where
  es : Bool → List BEnt
  ks : Bool → List Ent
  fz : Bool → Option (Tok × Addr)
  nts : Bool → List Value
  rs : Bool → List Value
  ct : Bool → Slot → Nat
  c : Addr → List (Addr × Int)
  ck : Addr → Nat
  ls : List Addr
  imm : List Addr
  cold : List Value
  kc : Nat
  ps : Array Value
noncomputable def ob (w : World) (a : Ad) (st : St) (i : Bool) : Slot → Obj
  | .bk => bookObj (a.ad i .d) (a.f i) (st.es i) (st.ct i .bk)
  | .d => idict w (st.fz i) (st.ct i .d)
  | .nt => PySem.W.listOf (st.nts i).toArray (st.ct i .nt)
  | .kp => PySem.W.listOf (tups (st.ks i)).toArray (st.ct i .kp)
  | .rn => PySem.W.listOf (st.rs i).toArray (st.ct i .rn)
noncomputable def isMut (a : Ad) (st : St) (x : Addr) : Prop := (∃ i p, x = a.ad i p) ∨ x = a.cd ∨ x = 50 ∨ x ∈ st.ls
noncomputable def FacGen (w : World) (b : Heap) (f nt : Addr) : Prop := ∀ (A : Around) (h : Heap) (its : Array Value) (k : Nat), b.StaysIn h → h.get? nt = some (PySem.W.listOf its k) → its.size < 1000000 → A.depth + 40 < recursionLimit → A.units + 400 < cLine → Fac w A h f [] nt its k
noncomputable def pl (st : St) (i : Bool) : List Addr := (st.es i).map (·.l) ++ (st.ks i).map (·.l)
noncomputable def tupObj (e : Ent) : Obj := { cls := .type "tuple", data := .seq #[.int e.k e.t, .ref e.l] e.n }
structure Inv (w : World) (b : Heap) (fr : List Addr) (a : Ad) (h : Heap) (st : St) : Prop where
  hb : b.StaysIn h
  sl : ∀ i p, h.get? (a.ad i p) = some (ob w a st i p)
  inj : ∀ i j p q, a.ad i p = a.ad j q → i = j ∧ p = q
  cdv : h.get? a.cd = some (PySem.W.listOf st.cold.toArray st.kc)
  cdn : ∀ i p, a.ad i p ≠ a.cd
  tab : h.get? 50 = some (tabObj st.ps)
  ftab : FTab h st.ps
  ls : ∀ x ∈ st.ls, h.get? x = some (PySem.W.listOf (refs (st.c x)).toArray (st.ck x))
  lsn : ∀ x ∈ st.ls, (∀ i p, a.ad i p ≠ x) ∧ a.cd ≠ x
  th : ∀ x ∈ st.ls, ∀ t ∈ st.c x, IsThing h t.1 t.2 ∧ t.1 ∈ st.imm
  ents : ∀ i, ∀ e ∈ st.ks i, h.get? e.T = some (tupObj e) ∧ e.T ∈ st.imm ∧ e.l ∈ st.ls
  esl : ∀ i, ∀ e ∈ st.es i, e.l ∈ st.ls
  lam : ∀ i x, st.fz i = some x → ∃ cell c' pbs pm ctv, LamAt w h x.2 (a.ad i .bk) cell c' pbs pm ctv ∧ x.2 ∈ st.imm ∧ cell ∈ st.imm ∧ c' ∈ st.imm
  code : ∀ x y c', st.ps = #[x, y, .ref c'] → c' ∈ st.imm
  ff : ∀ i, (∃ fd, b.get? (a.f i) = some { cls := .type "function", data := .func fd }) ∧ FacGen w b (a.f i) (a.ad i .nt)
  mb : ∀ x, isMut a st x → b.get? x = none
  mf : ∀ x, isMut a st x → x ∉ fr
  im : ∀ x ∈ st.imm, ¬ isMut a st x ∧ x ∉ fr ∧ ∃ o, h.get? x = some o
  pn : (pl st false ++ pl st true).Nodup
  frb : ∀ x ∈ fr, b.get? x = none
  frh : ∀ x ∈ fr, ∃ o, h.get? x = some o
  nsm : ∀ i, a.ad i .bk ≠ sysModules

variable {w : World} {b : Heap} {fr : List Addr} {a : Ad} {h h' : Heap} {st st' : St}
theorem Inv.ad_ne (I : Inv w b fr a h st) {i j : Bool} {p q : Slot} (hne : ¬ (i = j ∧ p = q)) : a.ad i p ≠ a.ad j q := fun e => hne (I.inj _ _ _ _ e)
/-- a step that changes μ, of which all are mutable, and makes new things; what is told holds after it -/
theorem Inv.step (I : Inv w b fr a h st) {μ : List Addr} (S : Steps μ fr h h') (hμ : ∀ x ∈ μ, isMut a st x)
    (hsl : ∀ i p, (ob w a st' i p = ob w a st i p ∧ a.ad i p ∉ μ) ∨ h'.get? (a.ad i p) = some (ob w a st' i p))
    (hcd : (st'.cold = st.cold ∧ st'.kc = st.kc ∧ a.cd ∉ μ) ∨ h'.get? a.cd = some (PySem.W.listOf st'.cold.toArray st'.kc))
    (htab : (st'.ps = st.ps ∧ 50 ∉ μ) ∨ (h'.get? 50 = some (tabObj st'.ps) ∧ FTab h' st'.ps ∧ ∀ x y c', st'.ps = #[x, y, .ref c'] → c' ∈ st'.imm))
    (hls : ∀ x ∈ st'.ls, (x ∈ st.ls ∨ h.get? x = none) ∧ ((x ∈ st.ls ∧ st'.c x = st.c x ∧ st'.ck x = st.ck x ∧ x ∉ μ) ∨ (h'.get? x = some (PySem.W.listOf (refs (st'.c x)).toArray (st'.ck x)) ∧ ∀ t ∈ st'.c x, IsThing h' t.1 t.2 ∧ t.1 ∈ st'.imm)))
    (hlsk : ∀ x ∈ st.ls, x ∈ st'.ls)
    (himm : ∀ x ∈ st'.imm, x ∈ st.imm ∨ (h.get? x = none ∧ x ∉ st'.ls ∧ ∃ o, h'.get? x = some o)) (himk : ∀ x ∈ st.imm, x ∈ st'.imm)
    (hks : ∀ i, ∀ e ∈ st'.ks i, e ∈ st.ks i ∨ (h'.get? e.T = some (tupObj e) ∧ e.T ∈ st'.imm ∧ e.l ∈ st'.ls))
    (hes : ∀ i, ∀ e ∈ st'.es i, e ∈ st.es i ∨ e.l ∈ st'.ls)
    (hlam : ∀ i x, st'.fz i = some x → st.fz i = some x ∨ ∃ cell c' pbs pm ctv, LamAt w h' x.2 (a.ad i .bk) cell c' pbs pm ctv ∧ x.2 ∈ st'.imm ∧ cell ∈ st'.imm ∧ c' ∈ st'.imm)
    (hpn : (pl st' false ++ pl st' true).Nodup) : Inv w b fr a h' st' := by
  have km : ∀ x o, ¬ isMut a st x → x ∉ fr → h.get? x = some o → h'.get? x = some o := fun x o h1 h2 e => S.keep _ _ (fun q => h1 (hμ _ q)) h2 e
  have kim : ∀ x o, x ∈ st.imm → h.get? x = some o → h'.get? x = some o := fun x o hx e => km _ _ (I.im _ hx).1 (I.im _ hx).2.1 e
  have bn : ∀ x, h.get? x = none → b.get? x = none := fun x e => by
    cases q : b.get? x with
    | none => rfl
    | some o => have := I.hb _ _ q; rw [e] at this; cases this
  have fn : ∀ x, h.get? x = none → x ∉ fr := fun x e q => by
    obtain ⟨o, ho⟩ := I.frh _ q
    rw [e] at ho; cases ho
  have mut' : ∀ x, isMut a st' x → isMut a st x ∨ h.get? x = none := by
    rintro x (hx | hx | hx | hx)
    · exact .inl (.inl hx)
    · exact .inl (.inr (.inl hx))
    · exact .inl (.inr (.inr (.inl hx)))
    · rcases (hls _ hx).1 with q | q
      · exact .inl (.inr (.inr (.inr q)))
      · exact .inr q
  have adn : ∀ i p, a.ad i p ∉ fr := fun i p => I.mf _ (.inl ⟨i, p, rfl⟩)
  have hlm : ∀ {x bk cell c' pbs pm ctv}, LamAt w h x bk cell c' pbs pm ctv → x ∈ st.imm → cell ∈ st.imm → c' ∈ st.imm → LamAt w h' x bk cell c' pbs pm ctv := by
    intro x bk cell c' pbs pm ctv hl h1 h2 h3
    obtain ⟨o, e1, e2⟩ := hl.cell
    obtain ⟨c2, o2, vs, tq, q1, q2, q3, q4⟩ := hl.code
    cases q1
    exact ⟨hl.parts, kim _ _ h1 hl.obj, ⟨o, kim _ _ h2 e1, e2⟩, ⟨_, o2, vs, tq, rfl, kim _ _ h3 q2, q3, q4⟩⟩
  refine ⟨?_, ?_, I.inj, ?_, I.cdn, ?_, ?_, ?_, ?_, ?_, ?_, ?_, ?_, ?_, I.ff, ?_, ?_, ?_, hpn, I.frb, ?_, I.nsm⟩
  · exact fun x o e => km _ _ (fun q => by rw [I.mb _ q] at e; cases e) (fun q => by rw [I.frb _ q] at e; cases e) (I.hb _ _ e)
  · intro i p
    rcases hsl i p with ⟨e1, e2⟩ | e
    · rw [e1]; exact S.keep _ _ e2 (adn i p) (I.sl i p)
    · exact e
  · rcases hcd with ⟨e1, e2, e3⟩ | e
    · rw [e1, e2]; exact S.keep _ _ e3 (I.mf _ (.inr (.inl rfl))) I.cdv
    · exact e
  · rcases htab with ⟨e1, e2⟩ | ⟨e, _⟩
    · rw [e1]; exact S.keep _ _ e2 (I.mf _ (.inr (.inr (.inl rfl)))) I.tab
    · exact e
  · rcases htab with ⟨e1, e2⟩ | ⟨_, e, _⟩
    · rw [e1]
      rcases I.ftab with e | ⟨c', e, hc⟩
      · exact .inl e
      · refine .inr ⟨c', e, ?_⟩
        obtain ⟨c2, o2, vs, tq, q1, q2, q3, q4⟩ := hc
        cases q1
        exact ⟨_, o2, vs, tq, rfl, kim _ _ (I.code _ _ _ e) q2, q3, q4⟩
    · exact e
  · intro x hx
    rcases (hls x hx).2 with ⟨e0, e1, e2, e3⟩ | ⟨e, _⟩
    · rw [e1, e2]; exact S.keep _ _ e3 (I.mf _ (.inr (.inr (.inr e0)))) (I.ls _ e0)
    · exact e
  · intro x hx
    rcases (hls x hx).1 with q | q
    · exact I.lsn _ q
    · refine ⟨fun i p e => ?_, fun e => ?_⟩
      · rw [← e, I.sl i p] at q; cases q
      · rw [← e, I.cdv] at q; cases q
  · intro x hx t ht
    rcases (hls x hx).2 with ⟨e0, e1, e2, e3⟩ | ⟨_, e⟩
    · rw [e1] at ht
      obtain ⟨q1, q2⟩ := I.th _ e0 _ ht
      exact ⟨q1.keep fun o => kim _ _ q2, himk _ q2⟩
    · exact e t ht
  · intro i e he
    rcases hks i e he with q | q
    · obtain ⟨q1, q2, q3⟩ := I.ents i e q
      exact ⟨kim _ _ q2 q1, himk _ q2, hlsk _ q3⟩
    · exact q
  · intro i e he
    rcases hes i e he with q | q
    · exact hlsk _ (I.esl i e q)
    · exact q
  · intro i x hx
    rcases hlam i x hx with q | q
    · obtain ⟨cell, c', pbs, pm, ctv, q0, q1, q2, q3⟩ := I.lam i x q
      exact ⟨cell, c', pbs, pm, ctv, hlm q0 q1 q2 q3, himk _ q1, himk _ q2, himk _ q3⟩
    · exact q
  · rcases htab with ⟨e1, e2⟩ | ⟨_, _, e⟩
    · rw [e1]; exact fun x y c' q => himk _ (I.code x y c' q)
    · exact e
  · intro x hx
    rcases mut' x hx with q | q
    · exact I.mb _ q
    · exact bn _ q
  · intro x hx
    rcases mut' x hx with q | q
    · exact I.mf _ q
    · exact fn _ q
  · intro x hx
    rcases himm x hx with q | ⟨q1, q2, q3⟩
    · obtain ⟨r1, r2, o, r3⟩ := I.im _ q
      refine ⟨fun m => ?_, r2, o, kim _ _ q r3⟩
      rcases mut' x m with z | z
      · exact r1 z
      · rw [r3] at z; cases z
    · refine ⟨?_, fn _ q1, q3⟩
      rintro (⟨i, p, rfl⟩ | rfl | rfl | m)
      · rw [I.sl] at q1; cases q1
      · rw [I.cdv] at q1; cases q1
      · rw [I.tab] at q1; cases q1
      · exact q2 m
  · intro x hx
    obtain ⟨o, ho⟩ := I.frh x hx
    obtain ⟨sl, e⟩ := S.slots x hx o ho
    exact ⟨_, e⟩
end Mine
end
section
open PySem PySem.W PySem.Calls PyProof.Rows PySem.SeqAt
set_option linter.unusedVariables false
set_option maxRecDepth 100000
set_option maxHeartbeats 1000000
namespace Mine
theorem nd_ins {X Y : List Addr} {l : Addr} (h : (X ++ Y).Nodup) (hl : l ∉ X ++ Y) : (X ++ l :: Y).Nodup :=
  (List.perm_middle.nodup_iff).mpr (List.nodup_cons.mpr ⟨hl, h⟩)
noncomputable def updB {α : Type} (f : Bool → α) (i : Bool) (v : α) : Bool → α := fun j => if j = i then v else f j
theorem updB_same {α : Type} {f : Bool → α} {i : Bool} {v : α} : updB f i v i = v := if_pos rfl
theorem updB_other {α : Type} {f : Bool → α} {i j : Bool} {v : α} (h : j ≠ i) : updB f i v j = f j := if_neg h
noncomputable def updC {α : Type} (f : Addr → α) (l : Addr) (v : α) : Addr → α := fun x => if x = l then v else f x
theorem updC_same {α : Type} {f : Addr → α} {i : Addr} {v : α} : updC f i v i = v := if_pos rfl
theorem updC_other {α : Type} {f : Addr → α} {i j : Addr} {v : α} (h : j ≠ i) : updC f i v j = f j := if_neg h
variable {w : World} {b : Heap} {fr : List Addr} {a : Ad} {h h' : Heap} {st st' : St}
theorem Inv.ad50 (I : Inv w b fr a h st) (i : Bool) (p : Slot) : a.ad i p ≠ 50 := ne_cls (I.sl i p) I.tab (by cases p <;> (intro q; cases q))
theorem Inv.cd50 (I : Inv w b fr a h st) : a.cd ≠ 50 := ne_cls I.cdv I.tab (by intro q; cases q)
theorem Inv.ls50 (I : Inv w b fr a h st) {x : Addr} (hx : x ∈ st.ls) : x ≠ 50 := ne_cls (I.ls _ hx) I.tab (by intro q; cases q)
theorem Inv.pl_ls (I : Inv w b fr a h st) {x : Addr} (hx : x ∈ pl st false ++ pl st true) : x ∈ st.ls := by
  have : ∀ i, x ∈ pl st i → x ∈ st.ls := fun i q => by
    rcases List.mem_append.mp q with q | q
    · obtain ⟨e, he, rfl⟩ := List.mem_map.mp q; exact I.esl i e he
    · obtain ⟨e, he, rfl⟩ := List.mem_map.mp q; exact (I.ents i e he).2.2
  rcases List.mem_append.mp hx with q | q
  · exact this _ q
  · exact this _ q
theorem Inv.steps (I : Inv w b fr a h st) {μ : List Addr} (k : Keep μ h h') (hμ : ∀ x ∈ μ, isMut a st x) : Steps μ fr h h' :=
  ⟨fun c o h1 _ e => k c o h1 e, fun c hc o e => ⟨o.slots, k c o (fun q => I.mf _ (hμ _ q) hc) e⟩⟩
theorem Inv.fresh (I : Inv w b fr a h st) {l : Addr} (hl : h.get? l = none) : l ∉ st.ls ∧ (∀ i p, a.ad i p ≠ l) ∧ a.cd ≠ l ∧ l ≠ 50 ∧ l ∉ st.imm ∧ l ∉ fr := by
  refine ⟨fun q => ?_, fun i p q => ?_, fun q => ?_, fun q => ?_, fun q => ?_, fun q => ?_⟩
  · rw [I.ls _ q] at hl; cases hl
  · rw [← q, I.sl] at hl; cases hl
  · rw [← q, I.cdv] at hl; cases hl
  · rw [q, I.tab] at hl; cases hl
  · obtain ⟨_, _, o, e⟩ := I.im _ q; rw [e] at hl; cases hl
  · obtain ⟨o, e⟩ := I.frh _ q; rw [e] at hl; cases hl

noncomputable def missB (st : St) (i : Bool) (kind : Int) (tk : Tok) (l : Addr) : St :=
  { st with nts := updB st.nts i (st.nts i ++ [.ref l]), ls := l :: st.ls, c := updC st.c l [], ck := updC st.ck l 0
            es := if (st.fz i).isNone then updB st.es i (st.es i ++ [⟨kind, tk, l⟩]) else st.es
            ct := updB st.ct i (fun p => match p with | .nt => st.ct i .nt + 1 | .bk => if (st.fz i).isNone then st.ct i .bk + 1 else st.ct i .bk | p => st.ct i p) }
noncomputable def BStep (st : St) (i : Bool) (kind : Int) (tk : Tok) (l : Addr) (st' : St) : Prop :=
  (∃ e, (st.es i).find? (fun e => e.k == kind) = some e ∧ l = e.l ∧ st' = st) ∨ ((st.es i).find? (fun e => e.k == kind) = none ∧ l ∉ st.ls ∧ st' = missB st i kind tk l)
theorem missB_inv (I : Inv w b fr a h st) {i : Bool} {kind : Int} {tk : Tok} {l : Addr} {μ : List Addr} (hl : h.get? l = none) (hl' : h'.get? l = some (PySem.W.listOf #[] 0))
    (hμ : μ = if (st.fz i).isNone then [a.ad i .nt, a.ad i .bk] else [a.ad i .nt]) (k : Keep μ h h')
    (hnt : h'.get? (a.ad i .nt) = some (PySem.W.listOf ((st.nts i).toArray.push (.ref l)) (st.ct i .nt + 1)))
    (hbk : (st.fz i).isNone = true → h'.get? (a.ad i .bk) = some (bookObj (a.ad i .d) (a.f i) (st.es i ++ [⟨kind, tk, l⟩]) (st.ct i .bk + 1))) :
    Inv w b fr a h' (missB st i kind tk l) := by
  obtain ⟨f1, f2, f3, f4, f5, f6⟩ := I.fresh hl
  have hm : ∀ x ∈ μ, x = a.ad i .nt ∨ (x = a.ad i .bk ∧ (st.fz i).isNone = true) := by
    intro x hx
    rw [hμ] at hx
    split at hx
    · rename_i hz
      simp only [List.mem_cons, List.not_mem_nil, or_false] at hx
      rcases hx with hx | hx
      · exact .inl hx
      · exact .inr ⟨hx, hz⟩
    · exact .inl (List.mem_singleton.mp hx)
  have hmm : ∀ x ∈ μ, isMut a st x := fun x hx => by
    rcases hm x hx with q | ⟨q, _⟩
    · exact .inl ⟨_, _, q⟩
    · exact .inl ⟨_, _, q⟩
  refine I.step (I.steps k hmm) hmm ?_ (.inl ⟨rfl, rfl, ?_⟩) (.inl ⟨rfl, ?_⟩) ?_ (fun x hx => .tail _ hx) (fun x hx => .inl hx) (fun x hx => hx) (fun j e he => .inl he) ?_ (fun j x hx => .inl hx) ?_
  · intro j p
    by_cases hj : j = i
    · subst hj
      cases p with
      | bk =>
        cases hz : (st.fz j).isNone with
        | true => 
          right
          have : ob w a (missB st j kind tk l) j .bk = bookObj (a.ad j .d) (a.f j) (st.es j ++ [⟨kind, tk, l⟩]) (st.ct j .bk + 1) := by
            simp [ob, missB, hz, updB]
          rw [this]; exact hbk hz
        | false =>
          left
          refine ⟨by simp [ob, missB, hz, updB], fun q => ?_⟩
          rcases hm _ q with q | ⟨q, z⟩
          · exact nomatch (I.inj _ _ _ _ q).2
          · rw [hz] at z; cases z
      | nt =>
        right
        have : ob w a (missB st j kind tk l) j .nt = PySem.W.listOf ((st.nts j).toArray.push (.ref l)) (st.ct j .nt + 1) := by
          simp [ob, missB, updB]
        rw [this]; exact hnt
      | d => exact .inl ⟨by simp [ob, missB, updB], fun q => by
          rcases hm _ q with q | ⟨q, _⟩ <;> exact nomatch (I.inj _ _ _ _ q).2⟩
      | kp => exact .inl ⟨by simp [ob, missB, updB], fun q => by
          rcases hm _ q with q | ⟨q, _⟩ <;> exact nomatch (I.inj _ _ _ _ q).2⟩
      | rn => exact .inl ⟨by simp [ob, missB, updB], fun q => by
          rcases hm _ q with q | ⟨q, _⟩ <;> exact nomatch (I.inj _ _ _ _ q).2⟩
    · refine .inl ⟨?_, fun q => ?_⟩
      · cases hz : (st.fz i).isNone <;> cases p <;> simp [ob, missB, updB, hj, hz]
      · rcases hm _ q with q | ⟨q, _⟩ <;> exact hj (I.inj _ _ _ _ q).1
  · intro q; rcases hm _ q with q | ⟨q, _⟩ <;> exact I.cdn _ _ q.symm
  · intro q; rcases hm _ q with q | ⟨q, _⟩ <;> exact I.ad50 _ _ q.symm
  · intro x hx
    rcases List.mem_cons.mp hx with rfl | hx
    · refine ⟨.inr hl, .inr ⟨?_, fun t ht => ?_⟩⟩
      · simp only [missB, updC, if_pos, refs]; exact hl'
      · simp [missB, updC] at ht
    · have hxl : x ≠ l := fun q => f1 (q ▸ hx)
      refine ⟨.inl hx, .inl ⟨hx, by simp [missB, updC, hxl], by simp [missB, updC, hxl], fun q => ?_⟩⟩
      rcases hm _ q with q | ⟨q, _⟩ <;> exact (I.lsn _ hx).1 _ _ q.symm
  · intro j e he
    cases hz : (st.fz i).isNone with
    | false => simp only [missB, hz] at he; exact .inl (by simpa using he)
    | true =>
      simp only [missB, hz, if_true] at he
      by_cases hj : j = i
      · subst hj
        simp only [updB, if_true, List.mem_append, List.mem_singleton] at he
        rcases he with he | rfl
        · exact .inl he
        · exact .inr (.head _)
      · simp only [updB, hj, if_false] at he; exact .inl he
  · have hn : l ∉ pl st false ++ pl st true := fun q => f1 (I.pl_ls q)
    cases hz : (st.fz i).isNone with
    | false =>
      have e1 : ∀ j, pl (missB st i kind tk l) j = pl st j := fun j => by simp [pl, missB, hz]
      rw [e1, e1]; exact I.pn
    | true =>
      have pn := I.pn
      cases i with
      | false =>
        have e1 : pl (missB st false kind tk l) false ++ pl (missB st false kind tk l) true = (st.es false).map (·.l) ++ l :: ((st.ks false).map (·.l) ++ pl st true) := by
          simp [pl, missB, hz, updB]
        rw [e1]
        refine nd_ins (by simpa [pl] using pn) (by simpa [pl] using hn)
      | true =>
        have e1 : pl (missB st true kind tk l) false ++ pl (missB st true kind tk l) true = (pl st false ++ (st.es true).map (·.l)) ++ l :: ((st.ks true).map (·.l)) := by
          simp [pl, missB, hz, updB]
        rw [e1]
        refine nd_ins (by simpa [pl] using pn) (by simpa [pl] using hn)
end Mine
end
section
open PySem PySem.W PySem.Calls PyProof.Rows PySem.SeqAt
set_option linter.unusedVariables false
set_option maxRecDepth 100000
set_option maxHeartbeats 1000000
namespace Mine
variable {w : World} {b : Heap} {fr : List Addr} {a : Ad} {h h' : Heap} {st st' : St}
noncomputable def missK (st : St) (i cold : Bool) (kind : Int) (tk : Tok) (l T : Addr) (nT : Nat) : St :=
  { st with rs := updB st.rs i (st.rs i ++ [.int kind tk]), ls := l :: st.ls, c := updC st.c l [], ck := updC st.ck l 0
            ks := if cold then st.ks else updB st.ks i (st.ks i ++ [⟨T, kind, tk, nT, l⟩])
            imm := if cold then st.imm else T :: st.imm
            ct := updB st.ct i (fun p => match p with | .rn => st.ct i .rn + 1 | .kp => if cold then st.ct i .kp else st.ct i .kp + 1 | p => st.ct i p) }
noncomputable def KStep (st : St) (i cold : Bool) (kind : Int) (tk : Tok) (l : Addr) (st' : St) : Prop :=
  (∃ e, (st.ks i).find? (fun e => e.k == kind) = some e ∧ l = e.l ∧ st' = st) ∨ ((st.ks i).find? (fun e => e.k == kind) = none ∧ l ∉ st.ls ∧ ∃ T nT, st' = missK st i cold kind tk l T nT)
theorem missK_inv (I : Inv w b fr a h st) {i cold : Bool} {kind : Int} {tk : Tok} {l T : Addr} {nT : Nat} (hl : h.get? l = none) (hl' : h'.get? l = some (PySem.W.listOf #[] 0))
    (k : Keep [a.ad i .kp, a.ad i .rn] h h')
    (hrn : h'.get? (a.ad i .rn) = some (PySem.W.listOf (st.rs i ++ [Value.int kind tk]).toArray (st.ct i .rn + 1)))
    (hkp : if cold = true then h'.get? (a.ad i .kp) = some (PySem.W.listOf (tups (st.ks i)).toArray (st.ct i .kp)) else (h'.get? T = some { cls := .type "tuple", data := .seq #[.int kind tk, .ref l] nT } ∧ h.get? T = none ∧ T ≠ l ∧ h'.get? (a.ad i .kp) = some (PySem.W.listOf (tups (st.ks i) ++ [Value.ref T]).toArray (st.ct i .kp + 1)))) :
    Inv w b fr a h' (missK st i cold kind tk l T nT) := by
  obtain ⟨f1, f2, f3, f4, f5, f6⟩ := I.fresh hl
  have hm : ∀ x ∈ [a.ad i .kp, a.ad i .rn], x = a.ad i .kp ∨ x = a.ad i .rn := by intro x hx; simpa using hx
  have hmm : ∀ x ∈ [a.ad i .kp, a.ad i .rn], isMut a st x := fun x hx => by
    rcases hm x hx with q | q
    · exact .inl ⟨_, _, q⟩
    · exact .inl ⟨_, _, q⟩
  refine I.step (I.steps k hmm) hmm ?_ (.inl ⟨rfl, rfl, ?_⟩) (.inl ⟨rfl, ?_⟩) ?_ (fun x hx => .tail _ hx) ?_ ?_ ?_ (fun j e he => .inl he) (fun j x hx => .inl hx) ?_
  · intro j p
    by_cases hj : j = i
    · subst hj
      cases p with
      | rn =>
        right
        have : ob w a (missK st j cold kind tk l T nT) j .rn = PySem.W.listOf (st.rs j ++ [Value.int kind tk]).toArray (st.ct j .rn + 1) := by
          simp [ob, missK, updB]
        rw [this]; exact hrn
      | kp =>
        right
        cases cold with
        | true =>
          have : ob w a (missK st j true kind tk l T nT) j .kp = PySem.W.listOf (tups (st.ks j)).toArray (st.ct j .kp) := by simp [ob, missK, updB]
          rw [this]; simpa using hkp
        | false =>
          have : ob w a (missK st j false kind tk l T nT) j .kp = PySem.W.listOf (tups (st.ks j) ++ [Value.ref T]).toArray (st.ct j .kp + 1) := by simp [ob, missK, updB, tups]
          rw [this]
          rw [if_neg (by decide)] at hkp
          exact hkp.2.2.2
      | d => exact .inl ⟨by simp [ob, missK, updB], fun q => by
          rcases hm _ q with q | q <;> exact nomatch (I.inj _ _ _ _ q).2⟩
      | bk => exact .inl ⟨by simp [ob, missK, updB], fun q => by
          rcases hm _ q with q | q <;> exact nomatch (I.inj _ _ _ _ q).2⟩
      | nt => exact .inl ⟨by simp [ob, missK, updB], fun q => by
          rcases hm _ q with q | q <;> exact nomatch (I.inj _ _ _ _ q).2⟩
    · refine .inl ⟨?_, fun q => ?_⟩
      · cases cold <;> cases p <;> simp [ob, missK, updB, hj]
      · rcases hm _ q with q | q <;> exact hj (I.inj _ _ _ _ q).1
  · intro q; rcases hm _ q with q | q <;> exact I.cdn _ _ q.symm
  · intro q; rcases hm _ q with q | q <;> exact I.ad50 _ _ q.symm
  · intro x hx
    rcases List.mem_cons.mp hx with rfl | hx
    · refine ⟨.inr hl, .inr ⟨?_, fun t ht => ?_⟩⟩
      · simp only [missK, updC, if_pos, refs]; exact hl'
      · simp [missK, updC] at ht
    · have hxl : x ≠ l := fun q => f1 (q ▸ hx)
      refine ⟨.inl hx, .inl ⟨hx, by simp [missK, updC, hxl], by simp [missK, updC, hxl], fun q => ?_⟩⟩
      rcases hm _ q with q | q <;> exact (I.lsn _ hx).1 _ _ q.symm
  · intro x hx
    cases cold with
    | true => exact .inl (by simpa [missK] using hx)
    | false =>
      rw [if_neg (by decide)] at hkp
      obtain ⟨t1, t2, t3, t4⟩ := hkp
      simp only [missK, Bool.false_eq_true, if_false, List.mem_cons] at hx
      rcases hx with rfl | hx
      · refine .inr ⟨t2, fun q => ?_, _, t1⟩
        rcases List.mem_cons.mp q with q | q
        · exact t3 q
        · exact (I.fresh t2).1 q
      · exact .inl hx
  · intro x hx
    cases cold with
    | true => simpa [missK] using hx
    | false => simp only [missK, Bool.false_eq_true, if_false, List.mem_cons]; exact .inr hx
  · intro j e he
    cases cold with
    | true => exact .inl (by simpa [missK] using he)
    | false =>
      rw [if_neg (by decide)] at hkp
      obtain ⟨t1, t2, t3, t4⟩ := hkp
      simp only [missK, Bool.false_eq_true, if_false] at he
      by_cases hj : j = i
      · subst hj
        simp only [updB, if_true, List.mem_append, List.mem_singleton] at he
        rcases he with he | rfl
        · exact .inl he
        · exact .inr ⟨t1, by simp [missK], .head _⟩
      · simp only [updB, hj, if_false] at he; exact .inl he
  · have hn : l ∉ pl st false ++ pl st true := fun q => f1 (I.pl_ls q)
    cases cold with
    | true =>
      have e1 : ∀ j, pl (missK st i true kind tk l T nT) j = pl st j := fun j => by simp [pl, missK]
      rw [e1, e1]; exact I.pn
    | false =>
      have pn := I.pn
      cases i with
      | false =>
        have e1 : pl (missK st false false kind tk l T nT) false ++ pl (missK st false false kind tk l T nT) true = pl st false ++ l :: pl st true := by
          simp [pl, missK, updB]
        rw [e1]
        exact nd_ins pn hn
      | true =>
        have e1 : pl (missK st true false kind tk l T nT) false ++ pl (missK st true false kind tk l T nT) true = (pl st false ++ pl st true) ++ l :: [] := by
          simp [pl, missK, updB]
        rw [e1]
        exact nd_ins (by simpa using pn) (by simpa using hn)
/-- the lists' contents anew -/
noncomputable def setC (st : St) (c : Addr → List (Addr × Int)) (ck : Addr → Nat) : St := { st with c := c, ck := ck }
theorem setC_inv (I : Inv w b fr a h st) {μ : List Addr} {c : Addr → List (Addr × Int)} {ck : Addr → Nat} (S : Steps μ fr h h') (hμ : ∀ x ∈ μ, x ∈ st.ls)
    (hls : ∀ x ∈ st.ls, (st.c x = c x ∧ st.ck x = ck x ∧ x ∉ μ) ∨ (h'.get? x = some (PySem.W.listOf (refs (c x)).toArray (ck x)) ∧ ∀ t ∈ c x, t.1 ∈ st.imm ∧ IsThing h t.1 t.2)) :
    Inv w b fr a h' (setC st c ck) := by
  have hmm : ∀ x ∈ μ, isMut a st x := fun x hx => .inr (.inr (.inr (hμ x hx)))
  refine I.step S hmm ?_ (.inl ⟨rfl, rfl, fun q => (I.lsn _ (hμ _ q)).2 rfl⟩) (.inl ⟨rfl, fun q => I.ls50 (hμ _ q) rfl⟩) ?_ (fun x hx => hx) (fun x hx => .inl hx) (fun x hx => hx) (fun j e he => .inl he) (fun j e he => .inl he) (fun j x hx => .inl hx) I.pn
  · exact fun i p => .inl ⟨by cases p <;> rfl, fun q => (I.lsn _ (hμ _ q)).1 i p rfl⟩
  · intro x hx
    refine ⟨.inl hx, ?_⟩
    rcases hls x hx with ⟨e1, e2, e3⟩ | ⟨e1, e2⟩
    · exact .inl ⟨hx, e1.symm, e2.symm, e3⟩
    · refine .inr ⟨e1, fun t ht => ?_⟩
      obtain ⟨q1, q2⟩ := e2 t ht
      refine ⟨q2.keep fun o e => ?_, q1⟩
      exact S.keep _ _ (fun q => (I.im _ q1).1 (hmm _ q)) (I.im _ q1).2.1 e
/-- a new thing -/
noncomputable def addI (st : St) (t : Addr) : St := { st with imm := t :: st.imm }
theorem addI_inv (I : Inv w b fr a h st) {t : Addr} {o : Obj} (ht : h.get? t = none) (ht' : h'.get? t = some o) (k : Keep [] h h') : Inv w b fr a h' (addI st t) := by
  have hmm : ∀ x ∈ ([] : List Addr), isMut a st x := fun x hx => nomatch hx
  refine I.step (I.steps k hmm) hmm (fun i p => .inl ⟨by cases p <;> rfl, fun q => nomatch q⟩) (.inl ⟨rfl, rfl, fun q => nomatch q⟩) (.inl ⟨rfl, fun q => nomatch q⟩) (fun x hx => ⟨.inl hx, .inl ⟨hx, rfl, rfl, fun q => nomatch q⟩⟩) (fun x hx => hx) ?_ (fun x hx => .tail _ hx) (fun j e he => .inl he) (fun j e he => .inl he) (fun j x hx => .inl hx) I.pn
  intro x hx
  rcases List.mem_cons.mp hx with rfl | hx
  · exact .inr ⟨ht, (I.fresh ht).1, _, ht'⟩
  · exact .inl hx
theorem Inv.same (I : Inv w b fr a h st) (k : Keep [] h h') : Inv w b fr a h' st := by
  have hmm : ∀ x ∈ ([] : List Addr), isMut a st x := fun x hx => nomatch hx
  exact I.step (I.steps k hmm) hmm (fun i p => .inl ⟨rfl, fun q => nomatch q⟩) (.inl ⟨rfl, rfl, fun q => nomatch q⟩) (.inl ⟨rfl, fun q => nomatch q⟩) (fun x hx => ⟨.inl hx, .inl ⟨hx, rfl, rfl, fun q => nomatch q⟩⟩) (fun x hx => hx) (fun x hx => .inl hx) (fun x hx => hx) (fun j e he => .inl he) (fun j e he => .inl he) (fun j x hx => .inl hx) I.pn
theorem Inv.sameS (I : Inv w b fr a h st) (S : Steps [] fr h h') : Inv w b fr a h' st := by
  have hmm : ∀ x ∈ ([] : List Addr), isMut a st x := fun x hx => nomatch hx
  exact I.step S hmm (fun i p => .inl ⟨rfl, fun q => nomatch q⟩) (.inl ⟨rfl, rfl, fun q => nomatch q⟩) (.inl ⟨rfl, fun q => nomatch q⟩) (fun x hx => ⟨.inl hx, .inl ⟨hx, rfl, rfl, fun q => nomatch q⟩⟩) (fun x hx => hx) (fun x hx => .inl hx) (fun x hx => hx) (fun j e he => .inl he) (fun j e he => .inl he) (fun j x hx => .inl hx) I.pn
/-- a frame more to stay off -/
theorem Inv.frame (I : Inv w b fr a h st) {L : Addr} {o : Obj} (hL : h.get? L = none) (k : Keep [] h h') (hL' : h'.get? L = some o) : Inv w b (L :: fr) a h' st := by
  have J := I.same k
  obtain ⟨f1, f2, f3, f4, f5, f6⟩ := I.fresh hL
  refine { J with mf := ?_, im := ?_, frb := ?_, frh := ?_ }
  · intro x hx q
    rcases List.mem_cons.mp q with rfl | q
    · rcases hx with ⟨i, p, e⟩ | e | e | e
      · exact f2 i p e.symm
      · exact f3 e.symm
      · exact f4 e
      · exact f1 e
    · exact J.mf _ hx q
  · intro x hx
    obtain ⟨q1, q2, q3⟩ := J.im x hx
    exact ⟨q1, fun q => by
      rcases List.mem_cons.mp q with rfl | q
      · exact f5 hx
      · exact q2 q, q3⟩
  · intro x hx
    rcases List.mem_cons.mp hx with rfl | hx
    · cases q : b.get? x with
      | none => rfl
      | some o => have := I.hb _ _ q; rw [hL] at this; cases this
    · exact I.frb x hx
  · intro x hx
    rcases List.mem_cons.mp hx with rfl | hx
    · exact ⟨_, hL'⟩
    · exact J.frh x hx
/-- a frame less -/
theorem Inv.unframe {fr' : List Addr} (I : Inv w b fr a h st) (hs : ∀ x ∈ fr', x ∈ fr) : Inv w b fr' a h st :=
  { I with mf := fun x hx q => I.mf x hx (hs _ q), im := fun x hx => ⟨(I.im x hx).1, fun q => (I.im x hx).2.1 (hs _ q), (I.im x hx).2.2⟩, frb := fun x hx => I.frb x (hs _ hx), frh := fun x hx => I.frh x (hs _ hx) }
end Mine
end
section
open PySem PySem.W PySem.Calls PyProof.Rows PySem.SeqAt
set_option linter.unusedVariables false
set_option maxRecDepth 100000
set_option maxHeartbeats 1000000
namespace Mine
variable {w : World} {b : Heap} {fr : List Addr} {a : Ad} {h h' : Heap} {st st' : St}
noncomputable def frzS (st : St) (i : Bool) (x : Tok × Addr) (ep2 : Nat) (cell c' : Addr) : St :=
  { st with fz := updB st.fz i (some x), ct := updB st.ct i (fun p => match p with | .d => ep2 | p => st.ct i p), ps := #[rawInt 9, rawInt 23, .ref c'], imm := x.2 :: cell :: c' :: st.imm }
theorem frzS_inv (I : Inv w b fr a h st) {i : Bool} {lam cell c' : Addr} {tkf : Tok} {ep2 : Nat} {pbs : Arguments × Expr × Scope} {pm ctv : Value} (k : Keep [a.ad i .d, 50] h h') (hd : h'.get? (a.ad i .d) = some (idict w (some (tkf, lam)) ep2))
    (h50 : h'.get? 50 = some (tabObj #[rawInt 9, rawInt 23, .ref c'])) (hc : h.get? c' = none ∨ st.ps = #[rawInt 9, rawInt 23, .ref c']) (hl : LamAt w h' lam (a.ad i .bk) cell c' pbs pm ctv) (hlam : h.get? lam = none) (hcell : h.get? cell = none) :
    Inv w b fr a h' (frzS st i (tkf, lam) ep2 cell c') := by
  have hm : ∀ x ∈ [a.ad i .d, 50], x = a.ad i .d ∨ x = 50 := by intro x hx; simpa using hx
  have hmm : ∀ x ∈ [a.ad i .d, 50], isMut a st x := fun x hx => by
    rcases hm x hx with q | q
    · exact .inl ⟨_, _, q⟩
    · exact .inr (.inr (.inl q))
  refine I.step (I.steps k hmm) hmm ?_ (.inl ⟨rfl, rfl, ?_⟩) (.inr ⟨h50, .inr ⟨c', rfl, hl.code⟩, fun x y c2 q => ?_⟩) ?_ (fun x hx => hx) ?_ ?_ (fun j e he => .inl he) (fun j e he => .inl he) ?_ I.pn
  · intro j p
    by_cases hj : j = i
    · subst hj
      cases p with
      | d =>
        right
        have : ob w a (frzS st j (tkf, lam) ep2 cell c') j .d = idict w (some (tkf, lam)) ep2 := by simp [ob, frzS, updB]
        rw [this]; exact hd
      | bk => exact .inl ⟨by simp [ob, frzS, updB], fun q => by
          rcases hm _ q with q | q
          · exact nomatch (I.inj _ _ _ _ q).2
          · exact I.ad50 _ _ q⟩
      | nt => exact .inl ⟨by simp [ob, frzS, updB], fun q => by
          rcases hm _ q with q | q
          · exact nomatch (I.inj _ _ _ _ q).2
          · exact I.ad50 _ _ q⟩
      | kp => exact .inl ⟨by simp [ob, frzS, updB], fun q => by
          rcases hm _ q with q | q
          · exact nomatch (I.inj _ _ _ _ q).2
          · exact I.ad50 _ _ q⟩
      | rn => exact .inl ⟨by simp [ob, frzS, updB], fun q => by
          rcases hm _ q with q | q
          · exact nomatch (I.inj _ _ _ _ q).2
          · exact I.ad50 _ _ q⟩
    · refine .inl ⟨?_, fun q => ?_⟩
      · cases p <;> simp [ob, frzS, updB, hj]
      · rcases hm _ q with q | q
        · exact hj (I.inj _ _ _ _ q).1
        · exact I.ad50 _ _ q
  · intro q; rcases hm _ q with q | q
    · exact I.cdn _ _ q.symm
    · exact I.cd50 q
  · have q2 := congrArg (fun z : Array Value => z[2]?) q
    have q3 : c' = c2 := by simpa [frzS] using q2
    subst q3
    simp [frzS]
  · intro x hx
    refine ⟨.inl hx, .inl ⟨hx, rfl, rfl, fun q => ?_⟩⟩
    rcases hm _ q with q | q
    · exact (I.lsn _ hx).1 _ _ q.symm
    · exact I.ls50 hx q
  · intro x hx
    obtain ⟨oc, e1, _⟩ := hl.cell
    obtain ⟨c2, o2, vs, tq, q1, q2, q3, q4⟩ := hl.code
    cases q1
    simp only [frzS, List.mem_cons] at hx
    rcases hx with rfl | rfl | rfl | hx
    · exact .inr ⟨hlam, (I.fresh hlam).1, _, hl.obj⟩
    · exact .inr ⟨hcell, (I.fresh hcell).1, _, e1⟩
    · rcases hc with hc | hc
      · exact .inr ⟨hc, (I.fresh hc).1, _, q2⟩
      · exact .inl (I.code _ _ _ hc)
    · exact .inl hx
  · intro x hx; simp [frzS, hx]
  · intro j x hx
    by_cases hj : j = i
    · subst hj
      simp only [frzS, updB, if_true, Option.some.injEq] at hx
      subst hx
      exact .inr ⟨cell, c', pbs, pm, ctv, hl, by simp [frzS], by simp [frzS], by simp [frzS]⟩
    · simp only [frzS, updB, hj, if_false] at hx
      exact .inl hx
noncomputable def coldS (st : St) (v : Value) : St := { st with cold := st.cold ++ [v], kc := st.kc + 1 }
theorem coldS_inv (I : Inv w b fr a h st) {v : Value} (k : Keep [a.cd] h h') (hcd : h'.get? a.cd = some (PySem.W.listOf (st.cold ++ [v]).toArray (st.kc + 1))) : Inv w b fr a h' (coldS st v) := by
  have hm : ∀ x ∈ [a.cd], x = a.cd := by intro x hx; simpa using hx
  have hmm : ∀ x ∈ [a.cd], isMut a st x := fun x hx => .inr (.inl (hm x hx))
  refine I.step (I.steps k hmm) hmm (fun i p => .inl ⟨by cases p <;> rfl, fun q => I.cdn _ _ (hm _ q)⟩) (.inr hcd) (.inl ⟨rfl, fun q => I.cd50 (hm _ q).symm⟩) (fun x hx => ⟨.inl hx, .inl ⟨hx, rfl, rfl, fun q => (I.lsn _ hx).2 (hm _ q).symm⟩⟩) (fun x hx => hx) (fun x hx => .inl hx) (fun x hx => hx) (fun j e he => .inl he) (fun j e he => .inl he) (fun j x hx => .inl hx) I.pn
end Mine
end
section
open PySem PySem.W PySem.Calls PyProof.Rows PySem.SeqAt
set_option linter.unusedVariables false
set_option maxRecDepth 100000
set_option maxHeartbeats 1000000
namespace Mine
theorem LamAt.mono {w : World} {h h' : Heap} {lam bk cell c' : Addr} {pbs : Arguments × Expr × Scope} {pm ctv : Value} (hl : LamAt w h lam bk cell c' pbs pm ctv) (k : ∀ c o, h.get? c = some o → h'.get? c = some o) : LamAt w h' lam bk cell c' pbs pm ctv := by
  obtain ⟨o, e1, e2⟩ := hl.cell
  obtain ⟨c2, o2, vs, tq, q1, q2, q3, q4⟩ := hl.code
  exact ⟨hl.parts, k _ _ hl.obj, ⟨o, k _ _ e1, e2⟩, ⟨c2, o2, vs, tq, q1, k _ _ q2, q3, q4⟩⟩
theorem book_getK : ∀ {w : World} {A : Around} {s : Shared} {Q : Value → Shared → Prop} {E : Value → Shared → Prop} {p loose mg mb} {b : Heap} {fr : List Addr} {a : Ad} {st : St} {i : Bool} {kind : Int} {tk : Tok} {value slice : Expr}
    (T : Top0 w p loose mg mb b) (I : Inv w b fr a s.heap st) (hes : (st.es i).length < 1000) (hnts : (st.nts i).length < 1000)
    (hroom : A.depth + 60 < recursionLimit) (hu : A.units + 600 < cLine) (hh : A.handled = none)
    (hQ : ∀ h' tk' l st', BStep st i kind tk l st' → Inv w b fr a h' st' → Slots fr s.heap h' → (∀ x o, ¬ isMut a st x → s.heap.get? x = some o → h'.get? x = some o) → Q (.ref l) { s with heap := h', toks := tk' })
    (hs : subscripted slice false (.ref (a.ad i .bk)) (.int kind tk) = operate [.ref (a.ad i .bk), .int kind tk] (getItem (.ref (a.ad i .bk)) (.int kind tk))),
    wpAny (model PG w) A (subscriptTail value slice (.ref (a.ad i .bk)) (.int kind tk)) Q E s := by
  intro w A s Q E p loose mg mb b fr a st i kind tk value slice T I hes hnts hroom hu hh hQ hs
  have X := T.X.keeps I.hb
  refine book_tail X (I.sl i .bk) (I.sl i .d) ?_ ?_ hs
  · intro e tk' he
    exact hQ _ _ _ _ (.inl ⟨e, he, rfl, rfl⟩) I (Slots.refl _ _) (fun x o _ e => e)
  · intro tk' hno
    obtain ⟨⟨fd, hf⟩, hfac⟩ := I.ff i
    have nbk : a.ad i .nt ≠ a.ad i .bk := fun e => nomatch (I.inj _ _ _ _ e).2
    have nd : a.ad i .nt ≠ a.ad i .d := fun e => nomatch (I.inj _ _ _ _ e).2
    have hsz : (st.nts i).toArray.size < 1000000 := by simp; omega
    have hlf : ∃ lfd : FuncData, ∀ x, st.fz i = some x → s.heap.get? x.2 = some { cls := .type "function", data := .func lfd } := by
      cases hz : st.fz i with
      | none => exact ⟨fd, fun x q => nomatch q⟩
      | some x =>
        obtain ⟨cell, c', pbs, pm, ctv, hl, _⟩ := I.lam i x hz
        exact ⟨_, fun y q => by cases q; exact hl.obj⟩
    obtain ⟨lfd, hlf⟩ := hlf
    refine wpAny_call (miss_call (b := b) (its := (st.nts i).toArray) (kn := st.ct i .nt) (nt := a.ad i .nt) (fz := st.fz i) (ep' := st.ct i .d) T I.hb (I.mb _ (.inl ⟨i, .nt, rfl⟩)) (I.sl i .bk) (I.sl i .d) (I.hb _ _ hf) hlf (I.nsm i) hes hno nbk nd (by show A.depth + 20 < _; omega) (by show A.units + 1 + 300 < _; omega) hh ?_ ?_ ?_ ?_)
    · intro _
      exact hfac A.in1 s.heap _ _ I.hb (I.sl i .nt) hsz (by show A.depth + 40 < _; omega) (by show A.units + 1 + 400 < _; omega)
    · intro x hx A' s' R' hk hd' hu' hh' hcont
      obtain ⟨cell, c', pbs, pm, ctv, hl, m1, m2, m3⟩ := I.lam i x hx
      have hd2 : A'.depth ≤ A.depth + 5 := hd'
      have hu2 : A'.units ≤ A.units + 1 + 40 := hu'
      refine lam_fac (A := A') (h0 := s'.heap) (its := (st.nts i).toArray) (kn := st.ct i .nt) (nt := a.ad i .nt) T (fun c o e => hk _ _ (I.hb _ _ e)) (hk _ _ (I.sl i .bk)) (hk _ _ (I.sl i .d)) (hk _ _ (I.hb _ _ hf)) (hl.mono hk) ?_ (fun c o e => e) (by omega) (by omega) (by omega) (by omega) hh' ?_
      · exact hfac A' s'.heap _ _ (fun c o e => hk _ _ (I.hb _ _ e)) (hk _ _ (I.sl i .nt)) hsz (by omega) (by omega)
      · intro h'' tk'' l k1 l0 l1 n1
        exact hcont h'' tk'' l k1 l0 l1 n1
    · intro h2 tk2 l hz k l0 l1 n1 bk1
      have hz' : (st.fz i).isNone = true := by rw [hz]; rfl
      refine hQ h2 tk2 l (missB st i kind tk l) (.inr ⟨hno, (I.fresh l0).1, rfl⟩) ?_ (I.steps k ?_).slots (fun x o hx e => k x o (fun q => hx ?_) e)
      · exact missB_inv I l0 l1 (by rw [if_pos hz']) k n1 (fun _ => bk1)
      · intro x hx
        simp only [List.mem_cons, List.not_mem_nil, or_false] at hx
        rcases hx with rfl | rfl
        · exact .inl ⟨_, _, rfl⟩
        · exact .inl ⟨_, _, rfl⟩
      · simp only [List.mem_cons, List.not_mem_nil, or_false] at q
        rcases q with rfl | rfl
        · exact .inl ⟨_, _, rfl⟩
        · exact .inl ⟨_, _, rfl⟩
    · intro h2 tk2 l hz k l0 l1 n1
      have hz' : (st.fz i).isNone = false := by cases q : st.fz i with | none => rw [q] at hz; cases hz | some _ => rfl
      refine hQ h2 tk2 l (missB st i kind tk l) (.inr ⟨hno, (I.fresh l0).1, rfl⟩) ?_ (I.steps k ?_).slots (fun x o hx e => k x o (fun q => hx ?_) e)
      · exact missB_inv I l0 l1 (by rw [hz', if_neg (by decide)]) k n1 (fun q => by rw [hz'] at q; cases q)
      · intro x hx
        rcases List.mem_singleton.mp hx with rfl
        exact .inl ⟨_, _, rfl⟩
      · rcases List.mem_singleton.mp q with rfl
        exact .inl ⟨_, _, rfl⟩
theorem book_get : ∀ {w : World} {A : Around} {s : Shared} {Q : Value → Shared → Prop} {E : Value → Shared → Prop} {p loose mg mb} {b : Heap} {fr : List Addr} {a : Ad} {st : St} {i : Bool} {kind : Int} {tk : Tok} {value slice : Expr}
    (T : Top0 w p loose mg mb b) (I : Inv w b fr a s.heap st) (hes : (st.es i).length < 1000) (hnts : (st.nts i).length < 1000)
    (hroom : A.depth + 60 < recursionLimit) (hu : A.units + 600 < cLine) (hh : A.handled = none)
    (hQ : ∀ h' tk' l st', BStep st i kind tk l st' → Inv w b fr a h' st' → Slots fr s.heap h' → Q (.ref l) { s with heap := h', toks := tk' })
    (hs : subscripted slice false (.ref (a.ad i .bk)) (.int kind tk) = operate [.ref (a.ad i .bk), .int kind tk] (getItem (.ref (a.ad i .bk)) (.int kind tk))),
    wpAny (model PG w) A (subscriptTail value slice (.ref (a.ad i .bk)) (.int kind tk)) Q E s := by
  intro w A s Q E p loose mg mb b fr a st i kind tk value slice T I hes hnts hroom hu hh hQ hs
  exact book_getK T I hes hnts hroom hu hh (fun h' tk' l st' B I' S _ => hQ h' tk' l st' B I' S) hs
theorem plain_get : ∀ {w : World} {A : Around} {s : Shared} {R : Result → Shared → Prop} {p loose mg mb} {b : Heap} {fr : List Addr} {a : Ad} {st : St} {i cold : Bool} {kind : Int} {tk : Tok}
    (T : Top0 w p loose mg mb b) (I : Inv w b fr a s.heap st) (hks : (st.ks i).length < 1000) (hrs : (st.rs i).length < 1000)
    (hroom : A.depth + 60 < recursionLimit) (hu : A.units + 600 < cLine) (hh : A.handled = none)
    (hQ : ∀ h' tk' l st', KStep st i cold kind tk l st' → Inv w b fr a h' st' → Slots fr s.heap h' → R (.ok (.ret (.ref l))) { s with heap := h', toks := tk' }),
    codeAny (model PG w) A (.call (.ref 88) ⟨[.ref (a.ad i .kp), .bool cold, .ref (a.ad i .rn), .int kind tk], []⟩) R s := by
  intro w A s R p loose mg mb b fr a st i cold kind tk T I hks hrs hroom hu hh hQ
  refine plain_call (es := st.ks i) (rs := st.rs i) T I.hb (I.sl i .kp) (I.mb _ (.inl ⟨i, .kp, rfl⟩)) (I.sl i .rn) (I.mb _ (.inl ⟨i, .rn, rfl⟩)) (fun e => nomatch (I.inj _ _ _ _ e).2) (fun e he => (I.ents i e he).1) hks hrs (by omega) (by omega) hh ?_ ?_
  · intro e h2 tk2 he k
    exact hQ _ _ _ _ (.inl ⟨e, he, rfl, rfl⟩) (I.same k) (I.steps k (fun x hx => nomatch hx)).slots
  · intro l h2 tk2 T' nT hno k l0 l1 r1 kp1
    refine hQ _ _ _ _ (.inr ⟨hno, (I.fresh l0).1, T', nT, rfl⟩) (missK_inv I l0 l1 k r1 kp1) (I.steps k ?_).slots
    intro x hx
    simp only [List.mem_cons, List.not_mem_nil, or_false] at hx
    rcases hx with rfl | rfl
    · exact .inl ⟨_, _, rfl⟩
    · exact .inl ⟨_, _, rfl⟩
end Mine
end
section
open PySem PySem.W PySem.Calls PyProof.Rows PySem.SeqAt
set_option linter.unusedVariables false
set_option maxRecDepth 100000
set_option maxHeartbeats 1000000
namespace Mine
variable {w : World} {b : Heap} {fr : List Addr} {a : Ad} {h h' : Heap} {st st' : St}
noncomputable def mutL (a : Ad) (st : St) : List Addr := [a.ad false .bk, a.ad false .d, a.ad false .nt, a.ad false .kp, a.ad false .rn, a.ad true .bk, a.ad true .d, a.ad true .nt, a.ad true .kp, a.ad true .rn, a.cd, 50] ++ st.ls
theorem mem_mutL {x : Addr} : x ∈ mutL a st ↔ isMut a st x := by
  unfold mutL isMut
  constructor
  · intro hx
    rcases List.mem_append.mp hx with hx | hx
    · simp only [List.mem_cons, List.not_mem_nil, or_false] at hx
      rcases hx with q | q | q | q | q | q | q | q | q | q | q | q
      · exact .inl ⟨_, _, q⟩
      · exact .inl ⟨_, _, q⟩
      · exact .inl ⟨_, _, q⟩
      · exact .inl ⟨_, _, q⟩
      · exact .inl ⟨_, _, q⟩
      · exact .inl ⟨_, _, q⟩
      · exact .inl ⟨_, _, q⟩
      · exact .inl ⟨_, _, q⟩
      · exact .inl ⟨_, _, q⟩
      · exact .inl ⟨_, _, q⟩
      · exact .inr (.inl q)
      · exact .inr (.inr (.inl q))
    · exact .inr (.inr (.inr hx))
  · rintro (⟨i, p, rfl⟩ | rfl | rfl | hx)
    · refine List.mem_append_left _ ?_
      cases i <;> cases p <;> simp
    · exact List.mem_append_left _ (by simp)
    · exact List.mem_append_left _ (by simp)
    · exact List.mem_append_right _ hx
theorem FacGen.mono {b b' : Heap} {f nt : Addr} (F : FacGen w b f nt) (k : b.StaysIn b') : FacGen w b' f nt := fun A h its n h1 => F A h its n fun c o e => h1 _ _ (k _ _ e)
theorem slot_ns {L : Addr} {m : PySem.Str → Option Value} (n : h.Ns L m) (S : Slots fr h h') (hL : L ∈ fr) : h'.Ns L m := by
  obtain ⟨o, es, ep, e, r⟩ := n
  obtain ⟨sl, e'⟩ := S _ hL _ e
  exact ⟨_, es, ep, e', r⟩
noncomputable abbrev baseG (a : Ad) (st : St) (fr : List Addr) (h₁ : Heap) (L : Addr) : Heap := rb h₁ L (mutL a st ++ fr)
theorem Inv.base_sub (I : Inv w b fr a h st) {h₁ : Heap} {L : Addr} (hL : L = h.objs.size) (k : ∀ c o, h.get? c = some o → h₁.get? c = some o) : b.StaysIn (baseG a st fr h₁ L) := fun c o e => by
  refine rb_get (k _ _ (I.hb _ _ e)) (by rw [hL]; exact Heap.lt_size (I.hb _ _ e)) fun q => ?_
  rcases List.mem_append.mp q with q | q
  · rw [I.mb _ (mem_mutL.mp q)] at e; cases e
  · rw [I.frb _ q] at e; cases e
theorem Inv.up (I : Inv w b fr a h st) {h₁ : Heap} {L : Addr} (hL : L = h.objs.size) (k : ∀ c o, h.get? c = some o → h₁.get? c = some o) (fs : List Addr) (hfs : ∀ x ∈ fs, @LE.le Nat _ L x ∧ ∃ o, h₁.get? x = some o) :
    Inv w (baseG a st fr h₁ L) (fs ++ fr) a h₁ st := by
  have J := I.same (h' := h₁) (fun c o _ e => k c o e)
  have hn : ∀ x ∈ fs, h.get? x = none := fun x hx => Heap.get?_none_of_le (by rw [← hL]; exact (hfs x hx).1)
  have bs := I.base_sub hL k
  refine { J with hb := fun c o e => (rb_of e).1, ff := fun i => ?_, mb := fun x hx => rb_none (.inl (List.mem_append_left _ (mem_mutL.mpr hx))), mf := fun x hx q => ?_, im := fun x hx => ⟨(J.im x hx).1, fun q => ?_, (J.im x hx).2.2⟩, frb := fun x hx => ?_, frh := fun x hx => ?_ }
  · obtain ⟨⟨fd, e⟩, F⟩ := I.ff i
    exact ⟨⟨fd, bs _ _ e⟩, F.mono bs⟩
  · rcases List.mem_append.mp q with q | q
    · obtain ⟨f1, f2, f3, f4, f5, f6⟩ := I.fresh (hn x q)
      rcases hx with ⟨i, p, rfl⟩ | rfl | rfl | hx
      · exact f2 _ _ rfl
      · exact f3 rfl
      · exact f4 rfl
      · exact f1 hx
    · exact J.mf x hx q
  · rcases List.mem_append.mp q with q | q
    · exact (I.fresh (hn x q)).2.2.2.2.1 hx
    · exact (J.im x hx).2.1 q
  · rcases List.mem_append.mp hx with q | q
    · exact rb_none (.inr (.inl (hfs x q).1))
    · exact rb_none (.inl (List.mem_append_right _ q))
  · rcases List.mem_append.mp hx with q | q
    · exact (hfs x q).2
    · exact J.frh x q
theorem Inv.down {G : Heap} {fs : List Addr} {h0 : Heap} {st0 : St} (I0 : Inv w b fr a h0 st0) (bG : b.StaysIn G) (I : Inv w G (fs ++ fr) a h st) : Inv w b fr a h st := by
  have bn : ∀ x, G.get? x = none → b.get? x = none := fun x e => by
    cases q : b.get? x with
    | none => rfl
    | some o => rw [bG _ _ q] at e; cases e
  exact { I with hb := fun c o e => I.hb _ _ (bG _ _ e), ff := I0.ff, mb := fun x hx => bn _ (I.mb x hx), mf := fun x hx q => I.mf x hx (List.mem_append_right _ q), im := fun x hx => ⟨(I.im x hx).1, fun q => (I.im x hx).2.1 (List.mem_append_right _ q), (I.im x hx).2.2⟩, frb := I0.frb, frh := fun x hx => I.frh x (List.mem_append_right _ hx) }
theorem fr_next {G : Heap} {L : Addr} {m : PySem.Str → Option Value} (F : Fr G L h m) (I' : Inv w G fr a h' st') (hL : L ∈ fr) (S : Slots fr h h') : Fr G L h' m := ⟨slot_ns F.ns S hL, I'.hb, F.above⟩
theorem Slots.sub {fr fr' : List Addr} {h h' : Heap} (S : Slots fr h h') (hs : ∀ x ∈ fr', x ∈ fr) : Slots fr' h h' := fun c hc o e => S c (hs _ hc) o e
theorem Slots.of_keep {fr : List Addr} {h h' : Heap} (k : ∀ c ∈ fr, ∀ o, h.get? c = some o → h'.get? c = some o) : Slots fr h h' := fun c hc o e => ⟨o.slots, k c hc o e⟩
theorem cell_next {c : Addr} {v : Option Value} (hc : h.IsCell c v) (S : Slots fr h h') (hf : c ∈ fr) : h'.IsCell c v := by
  obtain ⟨o, e, d⟩ := hc
  obtain ⟨sl, e'⟩ := S _ hf _ e
  exact ⟨_, e', d⟩
end Mine
end
section
open PySem PySem.W PySem.Calls PyProof.Rows PySem.SeqAt
set_option linter.unusedVariables false
set_option maxRecDepth 100000
set_option maxHeartbeats 1000000
namespace Mine
/-- all that stands in h, but for the base and ex -/
noncomputable def rest (G h : Heap) (ex : List Addr) : List (Addr × Obj) := (List.range h.objs.size).filterMap fun x => if x ∈ ex ∨ (G.get? x).isSome = true then none else (h.get? x).map fun o => (x, o)
theorem mem_rest {G h : Heap} {ex : List Addr} {x : Addr} {o : Obj} : (x, o) ∈ rest G h ex ↔ x ∉ ex ∧ G.get? x = none ∧ h.get? x = some o := by
  unfold rest
  rw [List.mem_filterMap]
  constructor
  · rintro ⟨y, hy, e⟩
    split at e
    · cases e
    · rename_i hc
      obtain ⟨o', ho, e2⟩ := Option.map_eq_some_iff.mp e
      cases e2
      refine ⟨fun q => hc (.inl q), ?_, ho⟩
      cases q : G.get? x with
      | none => rfl
      | some o2 => exact absurd (.inr (by rw [q]; rfl)) hc
  · rintro ⟨h1, h2, h3⟩
    refine ⟨x, List.mem_range.mpr (Heap.lt_size h3), ?_⟩
    rw [if_neg (by rintro (q | q); exact h1 q; rw [h2] at q; cases q), h3]; rfl
theorem rest_news {G h : Heap} {ex : List Addr} {L : Addr} {ns : List (Addr × Obj)} (N : News G L h ns) (hL : L ∈ ex) : News G L h (ns ++ rest G h ex) := by
  intro q hq
  rcases List.mem_append.mp hq with hq | hq
  · exact N q hq
  · obtain ⟨x, o⟩ := q
    obtain ⟨h1, h2, h3⟩ := mem_rest.mp hq
    exact ⟨h3, fun e => h1 (by have e2 : x = L := e; rw [e2]; exact hL), h2⟩
theorem rest_keep {G h h' : Heap} {ex : List Addr} {L : Addr} {m m' : PySem.Str → Option Value} {ns : List (Addr × Obj)} (F0 : Fr G L h m) (F : Fr G L h' m') (N : News G L h' ns) (hs : ∀ q ∈ rest G h ex, q ∈ ns) : Keep ex h h' := by
  intro x o hx e
  cases q : G.get? x with
  | none => exact (N _ (hs _ (mem_rest.mpr ⟨hx, q, e⟩))).1
  | some o' =>
    have := F0.keep _ _ q
    rw [e] at this; cases this
    exact F.keep _ _ q
theorem Inv.loc {w : World} {b : Heap} {fr : List Addr} {a : Ad} {h h' : Heap} {st : St} (I : Inv w b fr a h st) {ex : List Addr} (hex : ∀ x ∈ ex, x ∈ fr) (k : Keep ex h h') (he : ∀ x ∈ ex, ∃ o, h'.get? x = some o) : Inv w b fr a h' st := by
  have km : ∀ x o, x ∉ fr → h.get? x = some o → h'.get? x = some o := fun x o h1 e => k _ _ (fun q => h1 (hex _ q)) e
  have kim : ∀ x o, x ∈ st.imm → h.get? x = some o → h'.get? x = some o := fun x o hx e => km _ _ (I.im _ hx).2.1 e
  have kmu : ∀ x o, isMut a st x → h.get? x = some o → h'.get? x = some o := fun x o hx e => km _ _ (I.mf _ hx) e
  have hlm : ∀ {x bk cell c' pbs pm ctv}, LamAt w h x bk cell c' pbs pm ctv → x ∈ st.imm → cell ∈ st.imm → c' ∈ st.imm → LamAt w h' x bk cell c' pbs pm ctv := by
    intro x bk cell c' pbs pm ctv hl h1 h2 h3
    obtain ⟨o, e1, e2⟩ := hl.cell
    obtain ⟨c2, o2, vs, tq, q1, q2, q3, q4⟩ := hl.code
    cases q1
    exact ⟨hl.parts, kim _ _ h1 hl.obj, ⟨o, kim _ _ h2 e1, e2⟩, ⟨_, o2, vs, tq, rfl, kim _ _ h3 q2, q3, q4⟩⟩
  exact { I with
    hb := fun x o e => km _ _ (fun q => by rw [I.frb _ q] at e; cases e) (I.hb _ _ e)
    sl := fun i p => kmu _ _ (.inl ⟨i, p, rfl⟩) (I.sl i p)
    cdv := kmu _ _ (.inr (.inl rfl)) I.cdv
    tab := kmu _ _ (.inr (.inr (.inl rfl))) I.tab
    ftab := by
      rcases I.ftab with e | ⟨c', e, hc⟩
      · exact .inl e
      · refine .inr ⟨c', e, ?_⟩
        obtain ⟨c2, o2, vs, tq, q1, q2, q3, q4⟩ := hc
        cases q1
        exact ⟨_, o2, vs, tq, rfl, kim _ _ (I.code _ _ _ e) q2, q3, q4⟩
    ls := fun x hx => kmu _ _ (.inr (.inr (.inr hx))) (I.ls x hx)
    th := fun x hx t ht => ⟨(I.th x hx t ht).1.keep fun o => kim _ _ (I.th x hx t ht).2, (I.th x hx t ht).2⟩
    ents := fun i e he => ⟨kim _ _ (I.ents i e he).2.1 (I.ents i e he).1, (I.ents i e he).2⟩
    lam := fun i x hx => by
      obtain ⟨cell, c', pbs, pm, ctv, q0, q1, q2, q3⟩ := I.lam i x hx
      exact ⟨cell, c', pbs, pm, ctv, hlm q0 q1 q2 q3, q1, q2, q3⟩
    im := fun x hx => by
      obtain ⟨r1, r2, o, r3⟩ := I.im x hx
      exact ⟨r1, r2, o, kim _ _ hx r3⟩
    frh := fun x hx => by
      by_cases hm : x ∈ ex
      · exact he x hm
      · obtain ⟨o, e⟩ := I.frh x hx
        exact ⟨o, k _ _ hm e⟩ }
end Mine
end
section
open PySem PySem.W PySem.Calls PyProof.Rows PySem.SeqAt
set_option linter.unusedVariables false
set_option maxRecDepth 100000
set_option maxHeartbeats 1000000
namespace Mine
structure Outer (b : Heap) (a : Ad) (lb lk lr : Addr) : Prop where
  lb : b.IsList lb #[.ref (a.ad false .bk), .ref (a.ad true .bk)]
  lk : b.IsList lk #[.ref (a.ad false .kp), .ref (a.ad true .kp)]
  lr : b.IsList lr #[.ref (a.ad false .rn), .ref (a.ad true .rn)]
theorem outer0 {w : World} {A : Around} {E : Value → Shared → Prop} {s : Shared} {l : Addr} {v0 v1 : Value} {u : Tok} {value : Expr} {k : Nat} {ps : Pos} {Q : Value → Shared → Prop} (hl : s.heap.IsList l #[v0, v1]) (h : Q v0 s) :
    wpAny (model PG w) A (subscriptTail value (.Constant (.int 0) k ps) (.ref l) (.int 0 u)) Q E s :=
  tail_any hl.typeIs slot_list_getitem.lookup (wpAny_getItem_list (x := v0) hl (by decide) (by decide) (by rfl) h) (by with_unfolding_all rfl)
theorem outer1 {w : World} {A : Around} {E : Value → Shared → Prop} {s : Shared} {l : Addr} {v0 v1 : Value} {u : Tok} {value : Expr} {k : Nat} {ps : Pos} {Q : Value → Shared → Prop} (hl : s.heap.IsList l #[v0, v1]) (h : Q v1 s) :
    wpAny (model PG w) A (subscriptTail value (.Constant (.int 1) k ps) (.ref l) (.int 1 u)) Q E s :=
  tail_any hl.typeIs slot_list_getitem.lookup (wpAny_getItem_list (x := v1) hl (by decide) (by decide) (by rfl) h) (by with_unfolding_all rfl)
theorem news_next {G h h' : Heap} {L x y : Addr} {ox oy : Obj} {fr : List Addr} (N : News G L h [(x, ox), (y, oy)]) (hx : x ∈ fr) (hy : y ∈ fr) (S : Slots fr h h') :
    ∃ ox' oy', News G L h' [(x, ox'), (y, oy')] ∧ ox'.data = ox.data ∧ oy'.data = oy.data := by
  obtain ⟨sx, ex⟩ := S _ hx _ (N _ (.head _)).1
  obtain ⟨sy, ey⟩ := S _ hy _ (N _ (.tail _ (.head _))).1
  refine ⟨{ ox with slots := sx }, { oy with slots := sy }, fun q hq => ?_, rfl, rfl⟩
  rcases List.mem_cons.mp hq with rfl | hq
  · exact ⟨ex, (N (x, ox) (.head _)).2⟩
  · rcases List.mem_singleton.mp hq with rfl
    exact ⟨ey, (N (y, oy) (.tail _ (.head _))).2⟩
theorem seg {w : World} {G h h' : Heap} {L x y : Addr} {ox oy : Obj} {fr : List Addr} {a : Ad} {st : St} {m m' : PySem.Str → Option Value} {ex : List Addr} (F : Fr G L h m) (F' : Fr G L h' m') (N' : News G L h' ([(x, ox), (y, oy)] ++ rest G h ex)) (I : Inv w G fr a h st) (hex : ∀ z ∈ ex, z = L ∨ z = x ∨ z = y) (hf : ∀ z ∈ ex, z ∈ fr) :
    Inv w G fr a h' st ∧ News G L h' [(x, ox), (y, oy)] ∧ Keep ex h h' := by
  have k := rest_keep F F' N' (fun q hq => List.mem_append_right _ hq)
  refine ⟨I.loc hf k fun z hz => ?_, fun q hq => N' _ (List.mem_append_left _ hq), k⟩
  rcases hex z hz with rfl | rfl | rfl
  · obtain ⟨o, _, _, e, _⟩ := F'.ns; exact ⟨_, e⟩
  · exact ⟨_, (N' _ (List.mem_append_left _ (.head _))).1⟩
  · exact ⟨_, (N' _ (List.mem_append_left _ (.tail _ (.head _)))).1⟩
noncomputable def sdI (i : Bool) : Int := if i then 1 else 0
noncomputable def isC (i : Bool) (v : Value) : Bool := match v with | .int n _ => n == sdI i | _ => false
noncomputable def coldB (st : St) (i : Bool) : Bool := st.cold.any (isC i)
noncomputable def ColdOk (st : St) : Prop := ∀ v ∈ st.cold, ∃ (j : Bool) (t : Tok), v = .int (sdI j) t
theorem in_cold {w : World} {A : Around} {E : Value → Shared → Prop} {s : Shared} {st : St} {cd : Addr} {k : Nat} {i : Bool} {n : Int} {u : Tok} {Q : Value → Shared → Prop} (hn : n = sdI i) (hl : s.heap.get? cd = some (PySem.W.listOf st.cold.toArray k)) (hc : ColdOk st) (h : Q (.bool (coldB st i)) s) :
    wpAny (model PG w) A (compareOp .In (.int n u) (.ref cd)) Q E s := by
  subst hn
  refine in_listAt (items := st.cold.toArray) (isC i) ⟨_, hl, rfl, _, rfl⟩ (fun y hy => ?_) ?_
  · obtain ⟨j, t, rfl⟩ := hc y (by simpa using hy)
    exact EqAt.int_int _ _ _ _
  · simpa [coldB] using h
theorem BStep.same {st st' : St} {i : Bool} {kind : Int} {tk : Tok} {l : Addr} (B : BStep st i kind tk l st') : st'.cold = st.cold ∧ st'.ks = st.ks ∧ st'.rs = st.rs ∧ st'.fz = st.fz ∧ ∀ j, (st'.es j).length ≤ (st.es j).length + 1 ∧ (st'.nts j).length ≤ (st.nts j).length + 1 := by
  rcases B with ⟨e, _, _, rfl⟩ | ⟨_, _, rfl⟩
  · exact ⟨rfl, rfl, rfl, rfl, fun j => ⟨by omega, by omega⟩⟩
  · refine ⟨rfl, rfl, rfl, rfl, fun j => ?_⟩
    unfold missB updB
    constructor
    · dsimp only
      cases (st.fz i).isNone with
      | false => simp
      | true =>
        simp only [if_true]
        split
        · rename_i hj; subst hj; simp
        · omega
    · dsimp only
      split
      · rename_i hj; subst hj; simp
      · omega
theorem KStep.same {st st' : St} {i cold : Bool} {kind : Int} {tk : Tok} {l : Addr} (B : KStep st i cold kind tk l st') : st'.cold = st.cold ∧ st'.es = st.es ∧ st'.nts = st.nts ∧ st'.fz = st.fz ∧ ∀ j, (st'.ks j).length ≤ (st.ks j).length + 1 ∧ (st'.rs j).length ≤ (st.rs j).length + 1 := by
  rcases B with ⟨e, _, _, rfl⟩ | ⟨_, _, T, nT, rfl⟩
  · exact ⟨rfl, rfl, rfl, rfl, fun j => ⟨by omega, by omega⟩⟩
  · refine ⟨rfl, rfl, rfl, rfl, fun j => ?_⟩
    unfold missK updB
    constructor
    · dsimp only
      cases cold with
      | true => simp
      | false =>
        simp only [Bool.false_eq_true, if_false]
        split
        · rename_i hj; subst hj; simp
        · omega
    · dsimp only
      split
      · rename_i hj; subst hj; simp
      · omega
theorem BStep.grow {st st' : St} {i : Bool} {kind : Int} {tk : Tok} {l : Addr} (B : BStep st i kind tk l st') : (∀ x ∈ st.ls, x ∈ st'.ls ∧ (st'.c x = st.c x)) ∧ (∀ x ∈ st'.ls, x ∈ st.ls ∨ st'.c x = []) := by
  rcases B with ⟨e, _, _, rfl⟩ | ⟨_, hl, rfl⟩
  · exact ⟨fun x hx => ⟨hx, rfl⟩, fun x hx => .inl hx⟩
  · refine ⟨fun x hx => ⟨.tail _ hx, updC_other fun q => hl (q ▸ hx)⟩, fun x hx => ?_⟩
    rcases List.mem_cons.mp hx with rfl | hx
    · exact .inr updC_same
    · exact .inl hx
theorem KStep.grow {st st' : St} {i cold : Bool} {kind : Int} {tk : Tok} {l : Addr} (B : KStep st i cold kind tk l st') : (∀ x ∈ st.ls, x ∈ st'.ls ∧ (st'.c x = st.c x)) ∧ (∀ x ∈ st'.ls, x ∈ st.ls ∨ st'.c x = []) := by
  rcases B with ⟨e, _, _, rfl⟩ | ⟨_, hl, T, nT, rfl⟩
  · exact ⟨fun x hx => ⟨hx, rfl⟩, fun x hx => .inl hx⟩
  · refine ⟨fun x hx => ⟨.tail _ hx, updC_other fun q => hl (q ▸ hx)⟩, fun x hx => ?_⟩
    rcases List.mem_cons.mp hx with rfl | hx
    · exact .inr updC_same
    · exact .inl hx
theorem BStep.mem {w : World} {b h : Heap} {fr : List Addr} {a : Ad} {st st' : St} {i : Bool} {kind : Int} {tk : Tok} {l : Addr} (I : Inv w b fr a h st) (B : BStep st i kind tk l st') : l ∈ st'.ls := by
  rcases B with ⟨e, he, rfl, rfl⟩ | ⟨_, hl, rfl⟩
  · exact I.esl i e (List.mem_of_find?_eq_some he)
  · exact .head _
theorem KStep.mem {w : World} {b h : Heap} {fr : List Addr} {a : Ad} {st st' : St} {i cold : Bool} {kind : Int} {tk : Tok} {l : Addr} (I : Inv w b fr a h st) (B : KStep st i cold kind tk l st') : l ∈ st'.ls := by
  rcases B with ⟨e, he, rfl, rfl⟩ | ⟨_, hl, T, nT, rfl⟩
  · exact (I.ents i e (List.mem_of_find?_eq_some he)).2.2
  · exact .head _
theorem range_small {n : Nat} (h : n < 300000) : Builtin.Range.small 0 (n : Int) 1 = true := by
  have hf : ∀ m : Int, 0 ≤ m → m < 300000 → Builtin.Range.rangeFitsLong m = true := fun m h0 h1 => by
    simp [Builtin.Range.rangeFitsLong]
    omega
  have h1 := hf 0 (by decide) (by decide)
  have h2 := hf (n : Int) (by omega) (by omega)
  have h3 := hf 1 (by decide) (by decide)
  have h4 : Builtin.Range.rangeFitsLong (if 0 < n then (n : Int) else 0) = true := by
    by_cases h0 : 0 < n
    · rw [if_pos h0]; exact h2
    · rw [if_neg h0]; exact h1
  unfold Builtin.Range.small
  simp [rangeSize_one, h1, h2, h3, h4]
theorem rev_tail {w : World} {A : Around} {E : Value → Shared → Prop} {s : Shared} {l : Addr} {its : Array Value} {u : Tok} {value slice : Expr} {ops : List Value} {Q : Value → Shared → Prop} (hl : s.heap.IsList l its)
    (h : ∀ h' M, (∀ c o, s.heap.get? c = some o → h'.get? c = some o) → s.heap.get? M = none → h'.get? M = some (PySem.W.listOf its.toList.reverse.toArray 0) → Q (.ref M) { s with heap := h' })
    (hs : subscripted slice false (.ref l) (.ref s.heap.objs.size) = operate ops (getItem (.ref l) (.ref s.heap.objs.size))) (hz : its.size ≤ sizeLine) :
    wpAny (model PG w) A (subscriptTail value slice (.ref l) (.ref s.heap.objs.size)) Q E { s with heap := s.heap.push { cls := .type "slice", data := .fields #[.none, .none, .int (-1) u] } } := by
  refine tail_any (Heap.IsList.typeIs (s := { s with heap := s.heap.push { cls := .type "slice", data := .fields #[.none, .none, .int (-1) u] } }) (hl.push _)) slot_list_getitem.lookup
    (wpAny_getItem_list_slice (hl.push _) (Heap.IsSliceOf.new ..) .none .none (.int _ _) (by decide) ?_ hz) hs
  rw [krv_pick]
  refine h _ _ (fun c o e => Heap.get?_push_of_some _ (Heap.get?_push_of_some _ e)) ?_ (Heap.get?_push_size _ rfl)
  exact Heap.get?_none_of_le (by rw [Heap.size_push]; exact Nat.le_succ _)
theorem segK {G h h' : Heap} {L : Addr} {m m' : PySem.Str → Option Value} {ex : List Addr} {ns : List (Addr × Obj)} (F : Fr G L h m) (F' : Fr G L h' m') (N' : News G L h' (ns ++ rest G h ex)) (hns : ∀ q ∈ ns, h.get? q.1 = some q.2) (hex : ∀ z ∈ ex, z = L ∨ z ∈ ns.map (·.1)) : Keep [L] h h' := by
  have k := rest_keep F F' N' (fun q hq => List.mem_append_right _ hq)
  intro c o hc e
  by_cases hm : c ∈ ex
  · rcases hex c hm with q | q
    · exact absurd (List.mem_singleton.mpr q) hc
    · obtain ⟨x, hx, rfl⟩ := List.mem_map.mp q
      have := hns x hx
      rw [e] at this; cases this
      exact (N' x (List.mem_append_left _ hx)).1
  · exact k c o hm e
theorem stack_in {A : Around} {outer : List Env} {env : Env} {h h' : Heap} {L : Addr} {m : PySem.Str → Option Value} {fr : List Addr} (S : Stack A outer h) (hn : h'.Ns L m) (hL : env.frame = some L) (hk : env.scope.kind = .function) (SS : Slots fr h h') (hfo : ∀ c ∈ frs outer, c ∈ fr) : Stack (A.deeper env) (env :: outer) h' := by
  refine ⟨Around.frames_deeper S.frames, ?_, ?_⟩
  · intro e he
    rcases List.mem_cons.mp he with rfl | he
    · intro q; rw [hk] at q; cases q
    · exact S.kinds e he
  · intro e he
    rcases List.mem_cons.mp he with rfl | he
    · obtain ⟨oL, es, ep, hoL, hdL, _⟩ := hn
      exact ⟨L, oL, hL, hoL, fun vs q => by rw [hdL] at q; cases q⟩
    · obtain ⟨L', o, hf, ho, hd'⟩ := S.there e he
      obtain ⟨sl, e2⟩ := SS L' (hfo _ (List.mem_filterMap.mpr ⟨e, he, hf⟩)) o ho
      exact ⟨L', _, hf, e2, hd'⟩
theorem steps_mono {μ fr1 fr2 : List Addr} {h h' : Heap} (S : Steps μ fr1 h h') (hs : ∀ x ∈ fr1, x ∈ fr2) (hμ : ∀ x ∈ μ, x ∉ fr2) : Steps μ fr2 h h' := by
  refine ⟨fun c o h1 h2 e => S.keep c o h1 (fun q => h2 (hs _ q)) e, fun c hc o e => ?_⟩
  by_cases h1 : c ∈ fr1
  · exact S.slots c h1 o e
  · exact ⟨o.slots, S.keep c o (fun q => hμ _ q hc) h1 e⟩
theorem diff_sub : ∀ (xs ys ms : List (Addr × Int)), (∀ q ∈ (diff xs ys ms).1, q ∈ xs ∨ q ∈ ms) ∧ (∀ q ∈ (diff xs ys ms).2, q ∈ ys)
  | [], ys, ms => ⟨fun q hq => .inr hq, fun q hq => hq⟩
  | x :: r, ys, ms => by
    unfold diff
    split
    · rename_i j hj
      obtain ⟨a, b⟩ := diff_sub r (ys.eraseIdx j) ms
      refine ⟨fun q hq => ?_, fun q hq => List.mem_of_mem_eraseIdx (b q hq)⟩
      rcases a q hq with q1 | q1
      · exact .inl (.tail _ q1)
      · exact .inr q1
    · obtain ⟨a, b⟩ := diff_sub r ys (ms ++ [x])
      refine ⟨fun q hq => ?_, b⟩
      rcases a q hq with q1 | q1
      · exact .inl (.tail _ q1)
      · rcases List.mem_append.mp q1 with q2 | q2
        · exact .inr q2
        · rw [List.mem_singleton.mp q2]; exact .inl (.head _)
end Mine
end
section
open PySem PySem.W PySem.Calls PyProof.Rows PySem.SeqAt
set_option linter.unusedVariables false
set_option maxRecDepth 100000
set_option maxHeartbeats 1000000
namespace Mine
theorem keep_but {x : Addr} {h h' : Heap} (k : Heap.SameBut x h h') : Keep [x] h h' := fun c o hc e => by
  rw [k.2 c (by simpa using hc)]; exact e
theorem ext_list {w : World} {A : Around} {E : Value → Shared → Prop} {s : Shared} {x y : Addr} {xs ys : List (Addr × Int)} {k k2 : Nat} {Q : Value → Shared → Prop}
    (h1 : s.heap.get? x = some (PySem.W.listOf (refs xs).toArray k)) (h2 : s.heap.get? y = some (PySem.W.listOf (refs ys).toArray k2)) (hz : xs.length + ys.length < 1000000)
    (h : ∀ h' k', Keep [x] s.heap h' → h'.get? x = some (PySem.W.listOf (refs (xs ++ ys)).toArray k') → Q .none { s with heap := h' }) :
    wpAny (model PG w) A (call (.builtin "list.extend") [.ref x, .ref y]) Q E s := by
  have hz' : (refs xs).toArray.size + (refs ys).toArray.size ≤ sizeLine := by have := sizeLine_eq; simp [refs]; omega
  refine call_meets PySem.F.slot_list_extend ⟨_, h1, rfl⟩ PySem.F.entry_list_extend (PySem.F.args_list_extend_2 _ _) (AutoSeq1.list_extend_list_list_0 x _ k y _ k2 (extend_door hz') (Nat.le_trans (Nat.le_add_right _ _) hz') (by omega)) ⟨h1, h2, ?_⟩
  have z := Heap.get?_update_self (Obj.mapSeq fun xs => xs ++ (refs ys).toArray) h1 (by rfl)
  rw [mapSeq_listOf] at z
  have e : (refs xs).toArray ++ (refs ys).toArray = (refs (xs ++ ys)).toArray := by simp [refs]
  rw [e] at z
  exact h _ _ (keep_but (Heap.SameBut.update ..)) z
theorem clr_list {w : World} {A : Around} {E : Value → Shared → Prop} {s : Shared} {x : Addr} {xs : List (Addr × Int)} {k : Nat} {Q : Value → Shared → Prop}
    (h1 : s.heap.get? x = some (PySem.W.listOf (refs xs).toArray k)) (hz : xs.length < 1000000)
    (h : ∀ h' k', Keep [x] s.heap h' → h'.get? x = some (PySem.W.listOf (refs []).toArray k') → Q .none { s with heap := h' }) :
    wpAny (model PG w) A (call (.builtin "list.clear") [.ref x]) Q E s := by
  refine call_meets PySem.F.slot_list_clear ⟨_, h1, rfl⟩ PySem.F.entry_list_clear (PySem.F.args_list_clear_1 _) (PySem.AutoSeq1.list_clear_list_0 x _ k (by have := sizeLine_eq; simp [refs]; omega)) ⟨h1, ?_⟩
  have z := Heap.get?_update_self (Obj.mapSeq fun _ => #[]) h1 (by rfl)
  rw [mapSeq_listOf] at z
  exact h _ _ (keep_but (Heap.SameBut.update ..)) z
theorem app_list {w : World} {A : Around} {E : Value → Shared → Prop} {s : Shared} {x t : Addr} {n : Int} {xs : List (Addr × Int)} {k : Nat} {Q : Value → Shared → Prop}
    (h1 : s.heap.get? x = some (PySem.W.listOf (refs xs).toArray k)) (hz : xs.length < 1000000)
    (h : ∀ h' k', Keep [x] s.heap h' → h'.get? x = some (PySem.W.listOf (refs (xs ++ [(t, n)])).toArray k') → Q .none { s with heap := h' }) :
    wpAny (model PG w) A (call (.builtin "list.append") [.ref x, .ref t]) Q E s := by
  refine call_meets PySem.F.slot_list_append ⟨_, h1, rfl⟩ PySem.F.entry_list_append (PySem.F.args_list_append_2 _ _) (PySem.AutoListH.list_append_list_val_0 x _ k (.ref t) (by have := sizeLine_eq; simp [refs]; omega)) ⟨h1, ?_⟩
  have z := Heap.get?_update_self (Obj.mapSeq fun xs => xs.push (.ref t)) h1 (by rfl)
  rw [mapSeq_listOf] at z
  have e : (refs xs).toArray.push (.ref t) = (refs (xs ++ [(t, n)])).toArray := by simp [refs]
  rw [e] at z
  exact h _ _ (keep_but (Heap.SameBut.update ..)) z
theorem app_val {w : World} {A : Around} {E : Value → Shared → Prop} {s : Shared} {x : Addr} {v : Value} {xs : List Value} {k : Nat} {Q : Value → Shared → Prop}
    (h1 : s.heap.get? x = some (PySem.W.listOf xs.toArray k)) (hz : xs.length < 1000000)
    (h : ∀ h', Keep [x] s.heap h' → h'.get? x = some (PySem.W.listOf (xs ++ [v]).toArray (k + 1)) → Q .none { s with heap := h' }) :
    wpAny (model PG w) A (call (.builtin "list.append") [.ref x, v]) Q E s := by
  refine call_meets PySem.F.slot_list_append ⟨_, h1, rfl⟩ PySem.F.entry_list_append (PySem.F.args_list_append_2 _ _) (PySem.AutoListH.list_append_list_val_0 x _ k v (by have := sizeLine_eq; simp; omega)) ⟨h1, ?_⟩
  have z := Heap.get?_update_self (Obj.mapSeq fun xs => xs.push v) h1 (by rfl)
  have e : Obj.mapSeq (fun xs => xs.push v) (PySem.W.listOf xs.toArray k) = PySem.W.listOf (xs ++ [v]).toArray (k + 1) := by
    simp [Obj.mapSeq, PySem.W.listOf]
  rw [e] at z
  exact h _ (keep_but (Heap.SameBut.update ..)) z
variable {w : World} {G h h' : Heap} {fr : List Addr} {a : Ad} {st : St} {L : Addr} {m m' : PySem.Str → Option Value} {ex : List Addr} {ns : List (Addr × Obj)}
theorem news_but {x : Addr} (N : News G L h ns) (k : Keep [x] h h') (hx : ∀ q ∈ ns, q.1 ≠ x) : News G L h' ns := fun q hq => ⟨k _ _ (by simpa using hx q hq) (N q hq).1, (N q hq).2⟩
theorem news_keep0 (N : News G L h ns) (k : Keep [] h h') : News G L h' ns := fun q hq => ⟨k _ _ (by simp) (N q hq).1, (N q hq).2⟩
theorem news_ls {x : Addr} (N : News G L h ns) (I : Inv w G fr a h st) (hL : L ∈ fr) (hx : x ∈ st.ls) : News G L h ((x, PySem.W.listOf (refs (st.c x)).toArray (st.ck x)) :: ns) := by
  intro q hq
  rcases List.mem_cons.mp hq with rfl | hq
  · exact ⟨I.ls _ hx, fun e => I.mf x (.inr (.inr (.inr hx))) (by have e2 : x = L := e; rw [e2]; exact hL), I.mb x (.inr (.inr (.inr hx)))⟩
  · exact N q hq
theorem exL {L : Addr} {l : List Addr} : ∀ z ∈ [L], z = L ∨ z ∈ l := fun z hz => .inl (List.mem_singleton.mp hz)
theorem exT {L : Addr} {tl l : List Addr} (h : ∀ z ∈ tl, z ∈ l) : ∀ z ∈ L :: tl, z = L ∨ z ∈ l := fun z hz => (List.mem_cons.mp hz).elim .inl (fun q => .inr (h z q))
theorem mem3 {l : List Addr} {a b c : Addr} (ha : a ∈ l) (hb : b ∈ l) (hc : c ∈ l) : ∀ z ∈ [a, b, c], z ∈ l := List.forall_mem_cons.mpr ⟨ha, List.forall_mem_cons.mpr ⟨hb, List.forall_mem_cons.mpr ⟨hc, fun z hz => (nomatch hz)⟩⟩⟩
theorem mem6 {l : List Addr} {a b c d e f : Addr} (ha : a ∈ l) (hb : b ∈ l) (hc : c ∈ l) (hd : d ∈ l) (he : e ∈ l) (hf : f ∈ l) : ∀ z ∈ [a, b, c, d, e, f], z ∈ l := List.forall_mem_cons.mpr ⟨ha, List.forall_mem_cons.mpr ⟨hb, List.forall_mem_cons.mpr ⟨hc, mem3 hd he hf⟩⟩⟩
theorem segN (F : Fr G L h m) (F' : Fr G L h' m') (N' : News G L h' (ns ++ rest G h ex)) (N : News G L h ns) (I : Inv w G fr a h st) (hex : ∀ z ∈ ex, z = L ∨ z ∈ ns.map (·.1)) (hL : L ∈ fr) :
    Inv w G fr a h' st ∧ News G L h' ns ∧ Keep [L] h h' := by
  have k := segK F F' N' (fun q hq => (N q hq).1) hex
  refine ⟨I.loc (ex := [L]) (fun x hx => by rw [List.mem_singleton.mp hx]; exact hL) k fun x hx => ?_, PySem.W.KStb.news_of N' fun q hq => List.mem_append_left _ hq, k⟩
  obtain ⟨o, _, _, e, _⟩ := F'.ns
  rw [List.mem_singleton.mp hx]; exact ⟨_, e⟩
theorem mutStep {x : Addr} {v : List (Addr × Int)} {k' : Nat} (F : Fr G L h m) (I : Inv w G fr a h st) (N : News G L h ns) (hx : x ∈ st.ls) (hL : L ∈ fr) (hn : ∀ q ∈ ns, q.1 ≠ x) (k : Keep [x] h h') (e : h'.get? x = some (PySem.W.listOf (refs v).toArray k')) (hv : ∀ t ∈ v, t.1 ∈ st.imm ∧ IsThing h t.1 t.2) :
    Fr G L h' m ∧ Inv w G fr a h' (setC st (updC st.c x v) (updC st.ck x k')) ∧ News G L h' ns ∧ Slots fr h h' := by
  have S := I.steps k (fun z hz => by rw [List.mem_singleton.mp hz]; exact .inr (.inr (.inr hx)))
  have I' := setC_inv I (c := updC st.c x v) (ck := updC st.ck x k') S (fun z hz => by rw [List.mem_singleton.mp hz]; exact hx) (fun z hz => by
    by_cases q : z = x
    · subst q
      exact .inr ⟨by rw [updC_same, updC_same]; exact e, fun t ht => by rw [updC_same] at ht; exact hv t ht⟩
    · exact .inl ⟨(updC_other q).symm, (updC_other q).symm, by simpa using q⟩)
  exact ⟨fr_next F I' hL S.slots, I', news_but N k hn, S.slots⟩
theorem ls_same {x : Addr} {v : List (Addr × Int)} {k' : Nat} (I : Inv w G fr a h (setC st (updC st.c x v) (updC st.ck x k'))) (hx : x ∈ st.ls) : h.get? x = some (PySem.W.listOf (refs v).toArray k') := by
  have := I.ls x hx
  rw [show (setC st (updC st.c x v) (updC st.ck x k')).c x = v from updC_same, show (setC st (updC st.c x v) (updC st.ck x k')).ck x = k' from updC_same] at this
  exact this
end Mine
end
section
open PySem PySem.W PySem.Calls PyProof.Rows PySem.SeqAt
set_option linter.unusedVariables false
namespace Mine
/-- how many of a list have the value n -/
noncomputable abbrev cnt (n : Int) (l : List (Addr × Int)) : Nat := l.countP (fun q => q.2 = n)
theorem cnt_erase {ys : List (Addr × Int)} {n : Int} {j : Nat} (h : ys.findIdx? (fun p => decide (p.2 = n)) = some j) (m : Int) : cnt m (ys.eraseIdx j) + (if m = n then 1 else 0) = cnt m ys := by
  induction ys generalizing j with
  | nil => simp at h
  | cons y r ih =>
    rw [List.findIdx?_cons] at h
    by_cases hy : y.2 = n
    · simp only [hy, decide_true, if_true, Option.some.injEq] at h
      subst h
      simp only [List.eraseIdx_cons_zero, cnt, List.countP_cons, hy]
      by_cases hm : m = n
      · simp [hm]
      · have : ¬ n = m := fun q => hm q.symm
        simp [hm, this]
    · simp only [hy, decide_false, Bool.false_eq_true, if_false] at h
      obtain ⟨j', hj', rfl⟩ := Option.map_eq_some_iff.mp h
      simp only [List.eraseIdx_cons_succ, cnt, List.countP_cons]
      have := ih hj'
      simp only [cnt] at this
      omega
theorem cnt_zero {ys : List (Addr × Int)} {n : Int} (h : ys.findIdx? (fun p => decide (p.2 = n)) = none) : cnt n ys = 0 := by
  rw [List.findIdx?_eq_none_iff] at h
  exact List.countP_eq_zero.mpr fun a ha => by simpa using h a ha
theorem cnt_pos {ys : List (Addr × Int)} {n : Int} {j : Nat} (h : ys.findIdx? (fun p => decide (p.2 = n)) = some j) : 0 < cnt n ys := by
  have := cnt_erase h n
  simp at this; omega
/-- the missing, in the order of the walk: an item whose likes before it are at least as many as in ys -/
noncomputable def missG (pre ys : List (Addr × Int)) : List (Addr × Int) → List (Addr × Int)
  | [] => []
  | x :: r => if cnt x.2 pre ≥ cnt x.2 ys then x :: missG (pre ++ [x]) ys r else missG (pre ++ [x]) ys r
theorem cnt_append (m : Int) (a b : List (Addr × Int)) : cnt m (a ++ b) = cnt m a + cnt m b := List.countP_append
theorem diff_fst : ∀ (r ys ms pre ys0 : List (Addr × Int)), (∀ m, cnt m ys = cnt m ys0 - cnt m pre) → (diff r ys ms).1 = ms ++ missG pre ys0 r
  | [], ys, ms, pre, ys0, h => by simp [diff, missG]
  | x :: r, ys, ms, pre, ys0, h => by
    unfold diff missG
    have hx := h x.2
    split
    · rename_i j hj
      have hp := cnt_pos hj
      rw [if_neg (by omega)]
      refine diff_fst r _ ms (pre ++ [x]) ys0 fun m => ?_
      have e := cnt_erase hj m
      have hm := h m
      rw [cnt_append]
      have e2 : cnt m [x] = if m = x.2 then 1 else 0 := by
        by_cases q : m = x.2
        · simp [q, cnt]
        · have : ¬ x.2 = m := fun z => q z.symm
          simp [q, this, cnt]
      rw [e2]
      by_cases q : m = x.2
      · subst q; simp at e ⊢; omega
      · simp [q] at e ⊢; omega
    · rename_i hj
      have hz := cnt_zero hj
      rw [if_pos (by omega)]
      rw [diff_fst r ys (ms ++ [x]) (pre ++ [x]) ys0 fun m => ?_]
      · simp
      have hm := h m
      rw [cnt_append]
      have e2 : cnt m [x] = if m = x.2 then 1 else 0 := by
        by_cases q : m = x.2
        · simp [q, cnt]
        · have : ¬ x.2 = m := fun z => q z.symm
          simp [q, this, cnt]
      rw [e2]
      by_cases q : m = x.2
      · subst q; simp; omega
      · simp [q]; omega
theorem cnt_one (m : Int) (x : Addr × Int) : cnt m [x] = if m = x.2 then 1 else 0 := by
  by_cases q : m = x.2
  · simp [q, cnt]
  · have : ¬ x.2 = m := fun z => q z.symm
    simp [q, this, cnt]
theorem missG_append (pre ys : List (Addr × Int)) : ∀ (a b : List (Addr × Int)), missG pre ys (a ++ b) = missG pre ys a ++ missG (pre ++ a) ys b := by
  intro a
  induction a generalizing pre with
  | nil => intro b; simp [missG]
  | cons x r ih =>
    intro b
    simp only [List.cons_append, missG]
    have := ih (pre ++ [x]) b
    split
    · rw [this]; simp
    · rw [this]; simp
theorem range_cons_filter {α : Type} (n : Nat) (p : Nat → Bool) (f : Nat → α) : ((List.range (n + 1)).filter p).map f = (if p 0 then [f 0] else []) ++ ((List.range n).filter (fun k => p (k + 1))).map (fun k => f (k + 1)) := by
  rw [List.range_succ_eq_map, List.filter_cons, List.filter_map]
  split <;> simp [Function.comp_def]
/-- the missing, read by places -/
noncomputable def missI (X Y : List (Addr × Int)) : List (Addr × Int) := ((List.range X.length).filter fun k => decide ((X.drop (k + 1)).countP (fun q => q.2 = (X.getD k (0, 0)).2) ≥ Y.countP (fun q => q.2 = (X.getD k (0, 0)).2))).map fun k => X.getD k (0, 0)
theorem missI_cons (x : Addr × Int) (r Y : List (Addr × Int)) : missI (x :: r) Y = (if cnt x.2 r ≥ cnt x.2 Y then [x] else []) ++ missI r Y := by
  unfold missI
  rw [List.length_cons, range_cons_filter]
  congr 1
  simp [cnt]
theorem miss_rev (X Y : List (Addr × Int)) : missG [] Y X.reverse = (missI X Y).reverse := by
  induction X with
  | nil => simp [missG, missI]
  | cons x r ih =>
    rw [List.reverse_cons, missG_append, ih, missI_cons, List.reverse_append]
    congr 1
    have : cnt x.2 ([] ++ r.reverse) = cnt x.2 r := by simp [cnt]
    simp only [missG, this]
    split <;> simp
theorem plain1 (X Y : List (Addr × Int)) : (diff X.reverse Y []).1 = (missI X Y).reverse := by
  rw [diff_fst X.reverse Y [] [] Y (by simp [cnt]), miss_rev]; rfl
/-- what stays, by credit -/
noncomputable def leftL (g : Int → Nat) : List (Addr × Int) → List (Addr × Int)
  | [] => []
  | y :: t => if g y.2 = 0 then y :: leftL g t else leftL (fun m => if m = y.2 then g m - 1 else g m) t
theorem leftL_erase (n : Int) : ∀ (ys : List (Addr × Int)) (g g' : Int → Nat) (j : Nat), (∀ m, g m = g' m + if m = n then 1 else 0) → ys.findIdx? (fun p => decide (p.2 = n)) = some j → leftL g ys = leftL g' (ys.eraseIdx j)
  | [], g, g', j, _, h => by simp at h
  | y :: t, g, g', j, hg, h => by
    rw [List.findIdx?_cons] at h
    by_cases hy : y.2 = n
    · simp only [hy, decide_true, if_true, Option.some.injEq] at h
      subst h
      have : g y.2 ≠ 0 := by rw [hg]; simp [hy]
      simp only [leftL, if_neg this, List.eraseIdx_cons_zero]
      congr 1
      funext m
      have := hg m
      by_cases q : m = y.2
      · simp [q, hy] at this ⊢; omega
      · have q2 : ¬ m = n := fun z => q (z.trans hy.symm)
        simp [q, q2] at this ⊢; omega
    · simp only [hy, decide_false, Bool.false_eq_true, if_false] at h
      obtain ⟨j', hj', rfl⟩ := Option.map_eq_some_iff.mp h
      have e1 : g y.2 = g' y.2 := by rw [hg]; simp [hy]
      simp only [leftL, List.eraseIdx_cons_succ, e1]
      split
      · rw [leftL_erase n t g g' j' hg hj']
      · refine leftL_erase n t _ _ j' (fun m => ?_) hj'
        have := hg m
        by_cases q : m = y.2
        · have q2 : ¬ m = n := fun z => hy (q ▸ z)
          simp [q, q2] at this ⊢
          rw [if_neg hy] at this ⊢; omega
        · simp [q]; omega
theorem leftL_none (n : Int) : ∀ (ys : List (Addr × Int)) (g g' : Int → Nat), (∀ m, m ≠ n → g m = g' m) → ys.findIdx? (fun p => decide (p.2 = n)) = none → leftL g ys = leftL g' ys
  | [], g, g', _, h => rfl
  | y :: t, g, g', hg, h => by
    rw [List.findIdx?_cons] at h
    by_cases hy : y.2 = n
    · simp [hy] at h
    · simp only [hy, decide_false, Bool.false_eq_true, if_false, Option.map_eq_none_iff] at h
      simp only [leftL, hg _ hy]
      split
      · rw [leftL_none n t g g' hg h]
      · refine leftL_none n t _ _ (fun m hm => ?_) h
        simp [hg m hm]
theorem diff_snd : ∀ (r ys ms : List (Addr × Int)), (diff r ys ms).2 = leftL (fun m => cnt m r) ys
  | [], ys, ms => by
    have : ∀ ys : List (Addr × Int), leftL (fun m => 0) ys = ys := by
      intro ys
      induction ys with
      | nil => rfl
      | cons y t ih => simp [leftL, ih]
    simp only [diff]
    exact (this ys).symm
  | x :: r, ys, ms => by
    unfold diff
    have hc : ∀ m, cnt m (x :: r) = cnt m r + if m = x.2 then 1 else 0 := fun m => by
      have := cnt_append m [x] r
      rw [cnt_one] at this
      rw [show x :: r = [x] ++ r from rfl, this]; omega
    split
    · rename_i j hj
      rw [diff_snd r (ys.eraseIdx j) ms]
      exact (leftL_erase x.2 ys _ _ j hc hj).symm
    · rename_i hj
      rw [diff_snd r ys (ms ++ [x])]
      refine leftL_none x.2 ys _ _ (fun m hm => ?_) hj
      have := hc m
      rw [if_neg hm] at this
      exact this.symm
/-- what stays, read by places, with a row ahead -/
noncomputable def leftI (pre Y : List (Addr × Int)) (f : Int → Nat) : List (Addr × Int) := ((List.range Y.length).filter fun k => decide (cnt (Y.getD k (0, 0)).2 (pre ++ Y.take k) ≥ f (Y.getD k (0, 0)).2)).map fun k => Y.getD k (0, 0)
theorem leftI_cons (pre : List (Addr × Int)) (y : Addr × Int) (t : List (Addr × Int)) (f : Int → Nat) : leftI pre (y :: t) f = (if cnt y.2 pre ≥ f y.2 then [y] else []) ++ leftI (pre ++ [y]) t f := by
  unfold leftI
  rw [List.length_cons, range_cons_filter]
  congr 1
  · simp
  · simp
theorem leftL_I (f : Int → Nat) : ∀ (ys pre : List (Addr × Int)) (g : Int → Nat), (∀ m, g m = f m - cnt m pre) → leftL g ys = leftI pre ys f
  | [], pre, g, _ => rfl
  | y :: t, pre, g, hg => by
    rw [leftI_cons]
    have e := hg y.2
    unfold leftL
    split
    · rename_i h0
      rw [if_pos (by omega), leftL_I f t (pre ++ [y]) g fun m => ?_]
      · rfl
      · rw [cnt_append, cnt_one]
        have := hg m
        by_cases q : m = y.2
        · subst q; simp; omega
        · simp [q]; omega
    · rename_i h0
      rw [if_neg (by omega), leftL_I f t (pre ++ [y]) _ fun m => ?_]
      · rfl
      · rw [cnt_append, cnt_one]
        have := hg m
        by_cases q : m = y.2
        · subst q; simp; omega
        · simp [q]; omega
theorem plain2 (X Y : List (Addr × Int)) : (diff X.reverse Y []).2 = ((List.range Y.length).filter fun k => decide ((Y.take k).countP (fun q => q.2 = (Y.getD k (0, 0)).2) ≥ X.countP (fun q => q.2 = (Y.getD k (0, 0)).2))).map fun k => Y.getD k (0, 0) := by
  rw [diff_snd, leftL_I (fun m => cnt m X) Y [] _ (fun m => by simp [cnt])]
  simp only [leftI, cnt, List.nil_append]
end Mine
end
section
open PySem PySem.W PySem.Calls PyProof.Rows PySem.SeqAt
set_option linter.unusedVariables false
set_option maxRecDepth 100000
namespace Mine
inductive P2 {α β : Type} (R : α → β → Prop) : List α → List β → Prop
  | nil : P2 R [] []
  | cons {x y xs ys} : R x y → P2 R xs ys → P2 R (x :: xs) (y :: ys)
theorem P2.append {α β : Type} {R : α → β → Prop} {xs ys us vs} (h : P2 R xs ys) (g : P2 R us vs) : P2 R (xs ++ us) (ys ++ vs) := by
  induction h with
  | nil => exact g
  | cons a b ih => exact .cons a ih
theorem P2.mono {α β : Type} {R R' : α → β → Prop} {xs ys} (h : P2 R xs ys) (g : ∀ x ∈ xs, ∀ y ∈ ys, R x y → R' x y) : P2 R' xs ys := by
  induction h with
  | nil => exact .nil
  | cons a b ih => exact .cons (g _ (.head _) _ (.head _) a) (ih fun x hx y hy => g x (.tail _ hx) y (.tail _ hy))
noncomputable abbrev fe (kind : Int) (es : List BEnt) : Option BEnt := es.find? (fun e => e.k == kind)
noncomputable abbrev fk (kind : Int) (ks : List Ent) : Option Ent := ks.find? (fun e => e.k == kind)
theorem P2.find {R : BEnt → Ent → Prop} {es ks} (h : P2 R es ks) (hR : ∀ x y, R x y → x.k = y.k) (kind : Int) : (fe kind es = none ∧ fk kind ks = none) ∨ ∃ e e', fe kind es = some e ∧ fk kind ks = some e' ∧ R e e' := by
  induction h with
  | nil => exact .inl ⟨rfl, rfl⟩
  | @cons x y xs ys a b ih =>
    have hk := hR _ _ a
    by_cases q : x.k = kind
    · exact .inr ⟨x, y, by simp [fe, q], by simp [fk, ← hk, q], a⟩
    · have q' : ¬ y.k = kind := by rw [← hk]; exact q
      rcases ih with ⟨i1, i2⟩ | ⟨e, e', i1, i2, i3⟩
      · exact .inl ⟨by simpa [fe, q] using i1, by simpa [fk, q'] using i2⟩
      · exact .inr ⟨e, e', by simpa [fe, q] using i1, by simpa [fk, q'] using i2, i3⟩
noncomputable def Agree (st : St) (kind : Int) (i : Bool) : Prop := (fe kind (st.es i) = none ∧ fk kind (st.ks i) = none) ∨ ∃ e e', fe kind (st.es i) = some e ∧ fk kind (st.ks i) = some e' ∧ st.c e.l = st.c e'.l
structure Sync (st : St) (n m : Nat) : Prop where
  pr : ∀ i, P2 (fun (e : BEnt) (e' : Ent) => e.k = e'.k ∧ st.c e.l = st.c e'.l) (st.es i) (st.ks i)
  nd : ∀ i, ((st.ks i).map (·.k)).Nodup
  nt : ∀ i, ∀ e ∈ st.es i, Value.ref e.l ∈ st.nts i
  ntr : ∀ i, ∀ v ∈ st.nts i, ∃ x, x ∈ st.ls ∧ v = .ref x
  len : ∀ i, (st.nts i).length = (st.rs i).length
  co : ColdOk st
  cf : ∀ i, coldB st i = (st.fz i).isSome
  bd : ∀ i, (st.es i).length ≤ n ∧ (st.ks i).length ≤ n ∧ (st.nts i).length ≤ n ∧ (st.rs i).length ≤ n
  ct : ∀ x ∈ st.ls, (st.c x).length ≤ m
  cl : st.cold.length ≤ n
theorem Sync.agree {st : St} {n m : Nat} (S : Sync st n m) (kind : Int) (i : Bool) : Agree st kind i := by
  rcases (S.pr i).find (fun x y h => h.1) kind with h | ⟨e, e', h1, h2, h3⟩
  · exact .inl h
  · exact .inr ⟨e, e', h1, h2, h3.2⟩
theorem nodup_find_k {ks : List Ent} (h : (ks.map (·.k)).Nodup) {e : Ent} (he : e ∈ ks) : fk e.k ks = some e := by
  induction ks with
  | nil => cases he
  | cons x r ih =>
    simp only [List.map_cons, List.nodup_cons] at h
    rcases List.mem_cons.mp he with rfl | he
    · simp [fk]
    · have : ¬ x.k = e.k := fun q => h.1 (q ▸ List.mem_map_of_mem he)
      have := ih h.2 he
      simpa [fk, *] using this
theorem nodup_find_e {ks : List BEnt} (h : (ks.map (·.k)).Nodup) {e : BEnt} (he : e ∈ ks) : fe e.k ks = some e := by
  induction ks with
  | nil => cases he
  | cons x r ih =>
    simp only [List.map_cons, List.nodup_cons] at h
    rcases List.mem_cons.mp he with rfl | he
    · simp [fe]
    · have : ¬ x.k = e.k := fun q => h.1 (q ▸ List.mem_map_of_mem he)
      have := ih h.2 he
      simpa [fe, *] using this
theorem P2.keys {R : BEnt → Ent → Prop} {es ks} (h : P2 R es ks) (hR : ∀ x y, R x y → x.k = y.k) : es.map (·.k) = ks.map (·.k) := by
  induction h with
  | nil => rfl
  | cons a b ih => simp [ih, hR _ _ a]
theorem BStep.other {st st' : St} {i : Bool} {kind : Int} {tk : Tok} {l : Addr} (B : BStep st i kind tk l st') {j : Bool} (h : j ≠ i) : st'.es j = st.es j ∧ st'.nts j = st.nts j := by
  rcases B with ⟨e, _, _, rfl⟩ | ⟨_, _, rfl⟩
  · exact ⟨rfl, rfl⟩
  · unfold missB updB
    cases (st.fz i).isNone <;> simp [h]
theorem KStep.other {st st' : St} {i cold : Bool} {kind : Int} {tk : Tok} {l : Addr} (B : KStep st i cold kind tk l st') {j : Bool} (h : j ≠ i) : st'.ks j = st.ks j ∧ st'.rs j = st.rs j := by
  rcases B with ⟨e, _, _, rfl⟩ | ⟨_, _, T, nT, rfl⟩
  · exact ⟨rfl, rfl⟩
  · unfold missK updB
    cases cold <;> simp [h]
/-- what a look on one side does -/
structure EffM (st st' : St) (i : Bool) (kind : Int) (l k : Addr) : Prop where
  ne : fe kind (st.es i) = none
  nk : fk kind (st.ks i) = none
  ln : l ∉ st.ls
  kn : k ∉ st.ls
  rs : ∃ tk', st'.rs i = st.rs i ++ [.int kind tk']
  nts : st'.nts i = st.nts i ++ [.ref l]
  ek : ((st.fz i) = none ∧ ∃ tk tk' T nT, st'.es i = st.es i ++ [⟨kind, tk, l⟩] ∧ st'.ks i = st.ks i ++ [⟨T, kind, tk', nT, k⟩]) ∨ ((st.fz i).isSome = true ∧ st'.es i = st.es i ∧ st'.ks i = st.ks i)
structure Same (st st' : St) (i : Bool) : Prop where
  es : st'.es i = st.es i
  ks : st'.ks i = st.ks i
  nts : st'.nts i = st.nts i
  rs : st'.rs i = st.rs i
noncomputable def Eff (st st' : St) (i : Bool) (kind : Int) (l k : Addr) : Prop :=
  (∃ e e', Mine.fe kind (st.es i) = some e ∧ Mine.fk kind (st.ks i) = some e' ∧ l = e.l ∧ k = e'.l ∧ st.c e.l = st.c e'.l ∧ Same st st' i) ∨ EffM st st' i kind l k
theorem Eff.congr {st st' st'' : St} {i : Bool} {kind : Int} {l k : Addr} (E : Eff st st' i kind l k) (h : Same st' st'' i) : Eff st st'' i kind l k := by
  rcases E with ⟨e, e', h1, h2, h3, h4, h5, h6⟩ | E
  · exact .inl ⟨e, e', h1, h2, h3, h4, h5, h.es.trans h6.es, h.ks.trans h6.ks, h.nts.trans h6.nts, h.rs.trans h6.rs⟩
  · refine .inr ⟨E.ne, E.nk, E.ln, E.kn, ?_, h.nts.trans E.nts, ?_⟩
    · obtain ⟨t, ht⟩ := E.rs; exact ⟨t, h.rs.trans ht⟩
    · rcases E.ek with ⟨q, tk, tk', T, nT, q1, q2⟩ | ⟨q, q1, q2⟩
      · exact .inl ⟨q, tk, tk', T, nT, h.es.trans q1, h.ks.trans q2⟩
      · exact .inr ⟨q, h.es.trans q1, h.ks.trans q2⟩
theorem eff_of {st stB stK st' : St} {i : Bool} {kind : Int} {tk tk' : Tok} {l k : Addr} {cold : Bool} (hA : Agree st kind i) (hc : cold = (st.fz i).isSome)
    (B : BStep st i kind tk l stB) (K : KStep stK i cold kind tk' k st') (h1 : stK.ks i = st.ks i) (h2 : stK.rs i = st.rs i) (h3 : stK.es i = stB.es i) (h4 : stK.nts i = stB.nts i) (h5 : ∀ x ∈ st.ls, x ∈ stK.ls) : Eff st st' i kind l k := by
  rcases hA with ⟨a1, a2⟩ | ⟨e2, e', a1, a2, a3⟩
  · rcases B with ⟨e, he, rfl, rfl⟩ | ⟨hn, hl, rfl⟩
    · have he : fe kind (stB.es i) = some e := he
      rw [a1] at he; cases he
    rcases K with ⟨e3, he3, _⟩ | ⟨hn2, hk, T, nT, rfl⟩
    · have he3 : fk kind (stK.ks i) = some e3 := he3
      rw [h1, a2] at he3; cases he3
    refine .inr ⟨a1, a2, hl, fun q => hk (h5 _ q), ⟨tk', ?_⟩, ?_, ?_⟩
    · simp [missK, updB, h2]
    · simp [missK, h4, missB, updB]
    · subst hc
      cases hz : st.fz i with
      | none => exact .inl ⟨rfl, tk, tk', T, nT, by simp [missK, h3, missB, updB, hz], by simp [missK, updB, h1]⟩
      | some x => exact .inr ⟨rfl, by simp [missK, h3, missB, hz], by simp [missK, h1]⟩
  · rcases B with ⟨e, he, rfl, rfl⟩ | ⟨hn, hl, rfl⟩
    · have he : fe kind (stB.es i) = some e := he
      rw [a1] at he; cases he
      rcases K with ⟨e3, he3, rfl, rfl⟩ | ⟨hn, _⟩
      · have he3 : fk kind (st'.ks i) = some e3 := he3
        rw [h1, a2] at he3; cases he3
        exact .inl ⟨e2, e', a1, a2, rfl, rfl, a3, h3, h1, h4, h2⟩
      · have hn : fk kind (stK.ks i) = none := hn
        rw [h1, a2] at hn; cases hn
    · have hn : fe kind (st.es i) = none := hn
      rw [a1] at hn; cases hn
theorem sync_gen {st st' : St} {n m m' : Nat} {kind : Int} (Sy : Sync st n m) (hcold : st'.cold = st.cold) (hfz : st'.fz = st.fz) (hct : ∀ x ∈ st'.ls, (st'.c x).length ≤ m') (hls : ∀ x ∈ st.ls, x ∈ st'.ls)
    (hs : ∀ i, (Same st st' i ∧ (∀ e ∈ st.es i, st'.c e.l = st.c e.l) ∧ ∀ e ∈ st.ks i, st'.c e.l = st.c e.l) ∨ (∃ l k, Eff st st' i kind l k ∧ st'.c l = st'.c k ∧ (∀ e ∈ st.es i, e.k ≠ kind → st'.c e.l = st.c e.l) ∧ (∀ e ∈ st.ks i, e.k ≠ kind → st'.c e.l = st.c e.l) ∧ l ∈ st'.ls)) : Sync st' (n + 1) m' := by
  have hpr : ∀ i l k, Eff st st' i kind l k → st'.c l = st'.c k → (∀ e ∈ st.es i, e.k ≠ kind → st'.c e.l = st.c e.l) → (∀ e ∈ st.ks i, e.k ≠ kind → st'.c e.l = st.c e.l) → P2 (fun (e : BEnt) (e' : Ent) => e.k = e'.k ∧ st'.c e.l = st'.c e'.l) (st.es i) (st.ks i) := by
    intro i l k E hlk he hk
    refine (Sy.pr i).mono fun x hx y hy h => ⟨h.1, ?_⟩
    by_cases q : x.k = kind
    · have fx := nodup_find_e (by rw [(Sy.pr i).keys fun x y h => h.1]; exact Sy.nd i) hx
      have fy := nodup_find_k (Sy.nd i) hy
      rw [q] at fx
      rw [← h.1, q] at fy
      rcases E with ⟨e, e', h1, h2, rfl, rfl, _⟩ | E
      · rw [fx] at h1; cases h1
        rw [fy] at h2; cases h2
        exact hlk
      · rw [E.ne] at fx; cases fx
    · rw [he x hx q, hk y hy (by rw [← h.1]; exact q)]; exact h.2
  refine ⟨fun i => ?_, fun i => ?_, fun i => ?_, fun i => ?_, fun i => ?_, ?_, fun i => ?_, fun i => ?_, hct, by rw [hcold]; have := Sy.cl; omega⟩
  · rcases hs i with ⟨h, h1, h2⟩ | ⟨l, k, E, hlk, h1, h2, _⟩
    · rw [h.es, h.ks]
      exact (Sy.pr i).mono fun x hx y hy q => ⟨q.1, by rw [h1 x hx, h2 y hy]; exact q.2⟩
    · have P := hpr i l k E hlk h1 h2
      rcases E with ⟨_, _, _, _, _, _, _, E⟩ | E
      · rw [E.es, E.ks]; exact P
      · rcases E.ek with ⟨_, tk, tk', T, nT, q1, q2⟩ | ⟨_, q1, q2⟩
        · rw [q1, q2]; exact P.append (.cons ⟨rfl, hlk⟩ .nil)
        · rw [q1, q2]; exact P
  · rcases hs i with ⟨h, _⟩ | ⟨l, k, E, _⟩
    · rw [h.ks]; exact Sy.nd i
    · rcases E with ⟨_, _, _, _, _, _, _, E⟩ | E
      · rw [E.ks]; exact Sy.nd i
      · rcases E.ek with ⟨_, tk, tk', T, nT, q1, q2⟩ | ⟨_, q1, q2⟩
        · rw [q2, List.map_append]
          refine List.nodup_append.mpr ⟨Sy.nd i, by simp, fun a ha b hb => ?_⟩
          have : b = kind := by simpa using hb
          rw [this]
          rintro rfl
          obtain ⟨e, he, hk⟩ := List.mem_map.mp ha
          have := List.find?_eq_none.mp E.nk e he
          simp [hk] at this
        · rw [q2]; exact Sy.nd i
  · intro e he
    rcases hs i with ⟨h, _⟩ | ⟨l, k, E, _⟩
    · rw [h.es] at he; rw [h.nts]; exact Sy.nt i e he
    · rcases E with ⟨_, _, _, _, _, _, _, E⟩ | E
      · rw [E.es] at he; rw [E.nts]; exact Sy.nt i e he
      · rw [E.nts]
        rcases E.ek with ⟨_, tk, tk', T, nT, q1, q2⟩ | ⟨_, q1, q2⟩
        · rw [q1] at he
          rcases List.mem_append.mp he with he | he
          · exact List.mem_append_left _ (Sy.nt i e he)
          · rw [List.mem_singleton.mp he]; exact List.mem_append_right _ (.head _)
        · rw [q1] at he; exact List.mem_append_left _ (Sy.nt i e he)
  · intro v hv
    have up : ∀ v, (∃ x, x ∈ st.ls ∧ v = Value.ref x) → ∃ x, x ∈ st'.ls ∧ v = Value.ref x := fun v ⟨x, hx, e⟩ => ⟨x, hls x hx, e⟩
    rcases hs i with ⟨h, _⟩ | ⟨l, k, E, _, _, _, hl⟩
    · rw [h.nts] at hv; exact up v (Sy.ntr i v hv)
    · rcases E with ⟨_, _, _, _, _, _, _, E⟩ | E
      · rw [E.nts] at hv; exact up v (Sy.ntr i v hv)
      · rw [E.nts] at hv
        rcases List.mem_append.mp hv with hv | hv
        · exact up v (Sy.ntr i v hv)
        · exact ⟨l, hl, List.mem_singleton.mp hv⟩
  · rcases hs i with ⟨h, _⟩ | ⟨l, k, E, _⟩
    · rw [h.nts, h.rs]; exact Sy.len i
    · rcases E with ⟨_, _, _, _, _, _, _, E⟩ | E
      · rw [E.nts, E.rs]; exact Sy.len i
      · obtain ⟨t, ht⟩ := E.rs
        rw [E.nts, ht]; simp [Sy.len i]
  · intro v hv; rw [hcold] at hv; exact Sy.co v hv
  · have := Sy.cf i
    unfold coldB at this ⊢
    rw [hcold, hfz]; exact this
  · have bd := Sy.bd i
    rcases hs i with ⟨h, _⟩ | ⟨l, k, E, _⟩
    · rw [h.es, h.ks, h.nts, h.rs]; omega
    · rcases E with ⟨_, _, _, _, _, _, _, E⟩ | E
      · rw [E.es, E.ks, E.nts, E.rs]; omega
      · obtain ⟨t, ht⟩ := E.rs
        rw [E.nts, ht]
        rcases E.ek with ⟨_, tk, tk', T, nT, q1, q2⟩ | ⟨_, q1, q2⟩
        · rw [q1, q2]; simp; omega
        · rw [q1, q2]; simp; omega
theorem Sync.mono {st : St} {n m n' m' : Nat} (S : Sync st n m) (hn : n ≤ n') (hm : m ≤ m') : Sync st n' m' :=
  { S with bd := fun i => by have := S.bd i; omega, ct := fun x hx => Nat.le_trans (S.ct x hx) hm, cl := Nat.le_trans S.cl hn }
theorem isC_sd (i j : Bool) (t : Tok) : isC i (.int (sdI j) t) = decide (i = j) := by
  cases i <;> cases j <;> rfl
theorem sync_frz {st : St} {n m : Nat} (S : Sync st n m) {j : Bool} {t : Tok} {x : Tok × Addr} {ep2 : Nat} {cell c' : Addr} : Sync (frzS (coldS st (.int (sdI j) t)) j x ep2 cell c') (n + 1) m := by
  refine ⟨S.pr, S.nd, S.nt, S.ntr, S.len, ?_, fun i => ?_, fun i => by have := S.bd i; show (st.es i).length ≤ _ ∧ (st.ks i).length ≤ _ ∧ (st.nts i).length ≤ _ ∧ (st.rs i).length ≤ _; omega, S.ct, ?_⟩
  · intro v hv
    rcases List.mem_append.mp hv with hv | hv
    · exact S.co v hv
    · exact ⟨j, t, List.mem_singleton.mp hv⟩
  · have := S.cf i
    unfold coldB at this ⊢
    show (st.cold ++ [Value.int (sdI j) t]).any (isC i) = (updB st.fz j (some x) i).isSome
    rw [List.any_append, this]
    by_cases q : i = j
    · subst q; simp [updB, isC_sd]
    · simp [updB, isC_sd, q]
  · show (st.cold ++ [Value.int (sdI j) t]).length ≤ _
    have := S.cl
    simp; omega
end Mine
end
section
open PySem PySem.W PySem.Calls PyProof.Rows PySem.SeqAt
set_option linter.unusedVariables false
set_option maxRecDepth 100000
namespace Mine
noncomputable def slotL (st : St) (i p : Bool) : List Addr := if p then (st.ks i).map (·.l) else (st.es i).map (·.l)
theorem nodup_inj {α β : Type} {f : α → β} {xs : List α} (h : (xs.map f).Nodup) {x y : α} (hx : x ∈ xs) (hy : y ∈ xs) (e : f x = f y) : x = y := by
  induction xs with
  | nil => cases hx
  | cons z r ih =>
    simp only [List.map_cons, List.nodup_cons] at h
    rcases List.mem_cons.mp hx with h1 | h1 <;> rcases List.mem_cons.mp hy with h2 | h2
    · rw [h1, h2]
    · exact absurd (by rw [← h1, e]; exact List.mem_map_of_mem h2) h.1
    · exact absurd (by rw [← h2, ← e]; exact List.mem_map_of_mem h1) h.1
    · exact ih h.2 h1 h2
variable {w : World} {b : Heap} {fr : List Addr} {a : Ad} {h h' : Heap} {st st' : St}
theorem Inv.slot_nd (I : Inv w b fr a h st) (i p : Bool) : (slotL st i p).Nodup := by
  have pn := I.pn
  simp only [pl, List.nodup_append] at pn
  obtain ⟨⟨p1, p2, p3⟩, ⟨p4, p5, p6⟩, p7⟩ := pn
  cases i <;> cases p <;> assumption
theorem Inv.slot_ne (I : Inv w b fr a h st) {i p j q : Bool} (hne : i ≠ j ∨ p ≠ q) {x y : Addr} (hx : x ∈ slotL st i p) (hy : y ∈ slotL st j q) : x ≠ y := by
  have pn := I.pn
  simp only [pl, List.nodup_append] at pn
  obtain ⟨⟨p1, p2, p3⟩, ⟨p4, p5, p6⟩, p7⟩ := pn
  have al : ∀ {x : Addr} {A B : List Addr}, x ∈ A → x ∈ A ++ B := fun h => List.mem_append_left _ h
  have ar : ∀ {x : Addr} {A B : List Addr}, x ∈ B → x ∈ A ++ B := fun h => List.mem_append_right _ h
  cases i <;> cases p <;> cases j <;> cases q <;> first
    | (exfalso; revert hne; simp; done)
    | exact p3 x hx y hy
    | exact (p3 y hy x hx).symm
    | exact p6 x hx y hy
    | exact (p6 y hy x hx).symm
    | exact p7 x (al hx) y (al hy)
    | exact p7 x (al hx) y (ar hy)
    | exact p7 x (ar hx) y (al hy)
    | exact p7 x (ar hx) y (ar hy)
    | exact (p7 y (al hy) x (al hx)).symm
    | exact (p7 y (al hy) x (ar hx)).symm
    | exact (p7 y (ar hy) x (al hx)).symm
    | exact (p7 y (ar hy) x (ar hx)).symm
theorem Inv.slot_ls (I : Inv w b fr a h st) {i p : Bool} {x : Addr} (hx : x ∈ slotL st i p) : x ∈ st.ls := by
  cases p with
  | false => obtain ⟨e, he, rfl⟩ := List.mem_map.mp hx; exact I.esl i e he
  | true => obtain ⟨e, he, rfl⟩ := List.mem_map.mp hx; exact (I.ents i e he).2.2
/-- where a list came from -/
noncomputable def From (st : St) (A : List Addr) (i p : Bool) (kind : Int) (x : Addr) : Prop :=
  x ∉ A ∨ (p = false ∧ ∃ e ∈ st.es i, e.k = kind ∧ x = e.l) ∨ (p = true ∧ ∃ e ∈ st.ks i, e.k = kind ∧ x = e.l)
theorem From.slot {A : List Addr} {i p : Bool} {kind : Int} {x : Addr} (F : From st A i p kind x) : x ∉ A ∨ x ∈ slotL st i p := by
  rcases F with h | ⟨rfl, e, he, _, rfl⟩ | ⟨rfl, e, he, _, rfl⟩
  · exact .inl h
  · exact .inr (List.mem_map_of_mem he)
  · exact .inr (List.mem_map_of_mem he)
theorem From.ne (I : Inv w b fr a h st) {A B : List Addr} {i p j q : Bool} {kind : Int} {x y : Addr} (F : From st A i p kind x) (F' : From st B j q kind y) (hA : ∀ z ∈ st.ls, z ∈ A) (hB : x ∈ B) (hne : i ≠ j ∨ p ≠ q) : x ≠ y := by
  rcases F'.slot with h1 | h1
  · rintro rfl; exact h1 hB
  · rcases F.slot with h2 | h2
    · rintro rfl; exact h2 (hA _ (I.slot_ls h1))
    · exact I.slot_ne hne h2 h1
theorem From.ne_e (I : Inv w b fr a h st) {A : List Addr} {i p j : Bool} {kind : Int} {x : Addr} (F : From st A i p kind x) (hA : ∀ z ∈ st.ls, z ∈ A) {e : BEnt} (he : e ∈ st.es j) (hd : j ≠ i ∨ e.k ≠ kind ∨ p = true) : e.l ≠ x := by
  have hs : e.l ∈ slotL st j false := List.mem_map_of_mem he
  rcases F with h1 | ⟨rfl, e0, h0, hk, rfl⟩ | ⟨rfl, e0, h0, hk, rfl⟩
  · rintro rfl; exact h1 (hA _ (I.slot_ls hs))
  · by_cases q : j = i
    · subst q
      intro e2
      have := nodup_inj (I.slot_nd j false) he h0 e2
      subst this
      rcases hd with hd | hd | hd
      · exact hd rfl
      · exact hd hk
      · cases hd
    · exact I.slot_ne (p := false) (q := false) (.inl q) hs (List.mem_map_of_mem h0)
  · exact I.slot_ne (p := false) (q := true) (.inr (by decide)) hs (List.mem_map_of_mem h0)
theorem From.ne_k (I : Inv w b fr a h st) {A : List Addr} {i p j : Bool} {kind : Int} {x : Addr} (F : From st A i p kind x) (hA : ∀ z ∈ st.ls, z ∈ A) {e : Ent} (he : e ∈ st.ks j) (hd : j ≠ i ∨ e.k ≠ kind ∨ p = false) : e.l ≠ x := by
  have hs : e.l ∈ slotL st j true := List.mem_map_of_mem he
  rcases F with h1 | ⟨rfl, e0, h0, hk, rfl⟩ | ⟨rfl, e0, h0, hk, rfl⟩
  · rintro rfl; exact h1 (hA _ (I.slot_ls hs))
  · exact I.slot_ne (p := true) (q := false) (.inr (by decide)) hs (List.mem_map_of_mem h0)
  · by_cases q : j = i
    · subst q
      intro e2
      have := nodup_inj (I.slot_nd j true) he h0 e2
      subst this
      rcases hd with hd | hd | hd
      · exact hd rfl
      · exact hd hk
      · cases hd
    · exact I.slot_ne (p := true) (q := true) (.inl q) hs (List.mem_map_of_mem h0)
theorem find_mem_e {kind : Int} {es : List BEnt} {e : BEnt} (h : fe kind es = some e) : e ∈ es ∧ e.k = kind :=
  ⟨List.mem_of_find?_eq_some h, by simpa using List.find?_some h⟩
theorem find_mem_k {kind : Int} {es : List Ent} {e : Ent} (h : fk kind es = some e) : e ∈ es ∧ e.k = kind :=
  ⟨List.mem_of_find?_eq_some h, by simpa using List.find?_some h⟩
theorem BStep.from {st0 st st' : St} {i : Bool} {kind : Int} {tk : Tok} {l : Addr} (B : BStep st i kind tk l st') (he : st.es i = st0.es i) : From st0 st.ls i false kind l := by
  rcases B with ⟨e, h1, rfl, _⟩ | ⟨_, h1, _⟩
  · have := find_mem_e h1
    exact .inr (.inl ⟨rfl, e, he ▸ this.1, this.2, rfl⟩)
  · exact .inl h1
theorem KStep.from {st0 st st' : St} {i cold : Bool} {kind : Int} {tk : Tok} {l : Addr} (B : KStep st i cold kind tk l st') (he : st.ks i = st0.ks i) : From st0 st.ls i true kind l := by
  rcases B with ⟨e, h1, rfl, _⟩ | ⟨_, h1, _⟩
  · have := find_mem_k h1
    exact .inr (.inr ⟨rfl, e, he ▸ this.1, this.2, rfl⟩)
  · exact .inl h1
theorem BStep.val {st st' : St} {i : Bool} {kind : Int} {tk : Tok} {l : Addr} (B : BStep st i kind tk l st') : (∃ e, fe kind (st.es i) = some e ∧ l = e.l ∧ st'.c l = st.c e.l) ∨ (fe kind (st.es i) = none ∧ st'.c l = []) := by
  rcases B with ⟨e, h1, rfl, rfl⟩ | ⟨h0, h1, rfl⟩
  · exact .inl ⟨e, h1, rfl, rfl⟩
  · exact .inr ⟨h0, updC_same⟩
theorem KStep.val {st st' : St} {i cold : Bool} {kind : Int} {tk : Tok} {l : Addr} (B : KStep st i cold kind tk l st') : (∃ e, fk kind (st.ks i) = some e ∧ l = e.l ∧ st'.c l = st.c e.l) ∨ (fk kind (st.ks i) = none ∧ st'.c l = []) := by
  rcases B with ⟨e, h1, rfl, rfl⟩ | ⟨h0, h1, T, nT, rfl⟩
  · exact .inl ⟨e, h1, rfl, rfl⟩
  · exact .inr ⟨h0, updC_same⟩
/-- the four looks of differ -/
structure Four (w : World) (b : Heap) (fr : List Addr) (a : Ad) (h : Heap) (st st2 st4 st6 st8 : St) (kind : Int) (l0 l1 k0 k1 : Addr) : Prop where
  I : Inv w b fr a h st
  A : ∀ i, Agree st kind i
  cf : ∀ i, coldB st i = (st.fz i).isSome
  B2 : ∃ tk, BStep st false kind tk l0 st2
  B4 : ∃ tk, BStep st2 true kind tk l1 st4
  K6 : ∃ tk, KStep st4 false (coldB st4 false) kind tk k0 st6
  K8 : ∃ tk, KStep st6 true (coldB st6 true) kind tk k1 st8
  m0 : l0 ∈ st2.ls
  m1 : l1 ∈ st4.ls
  n0 : k0 ∈ st6.ls
  n1 : k1 ∈ st8.ls
variable {st2 st4 st6 st8 : St} {kind : Int} {l0 l1 k0 k1 : Addr}
theorem Four.froms (Q : Four w b fr a h st st2 st4 st6 st8 kind l0 l1 k0 k1) : From st st.ls false false kind l0 ∧ From st st2.ls true false kind l1 ∧ From st st4.ls false true kind k0 ∧ From st st6.ls true true kind k1 := by
  obtain ⟨t2, B2⟩ := Q.B2; obtain ⟨t4, B4⟩ := Q.B4; obtain ⟨t6, K6⟩ := Q.K6; obtain ⟨t8, K8⟩ := Q.K8
  refine ⟨B2.from rfl, B4.from (B2.other (by decide)).1, K6.from ?_, K8.from ?_⟩
  · rw [B4.same.2.1, B2.same.2.1]
  · rw [(K6.other (by decide)).1, B4.same.2.1, B2.same.2.1]
theorem Four.sub (Q : Four w b fr a h st st2 st4 st6 st8 kind l0 l1 k0 k1) : (∀ x ∈ st.ls, x ∈ st2.ls) ∧ (∀ x ∈ st2.ls, x ∈ st4.ls) ∧ (∀ x ∈ st4.ls, x ∈ st6.ls) ∧ (∀ x ∈ st6.ls, x ∈ st8.ls) := by
  obtain ⟨t2, B2⟩ := Q.B2; obtain ⟨t4, B4⟩ := Q.B4; obtain ⟨t6, K6⟩ := Q.K6; obtain ⟨t8, K8⟩ := Q.K8
  exact ⟨fun x hx => (B2.grow.1 x hx).1, fun x hx => (B4.grow.1 x hx).1, fun x hx => (K6.grow.1 x hx).1, fun x hx => (K8.grow.1 x hx).1⟩
theorem Four.ne (Q : Four w b fr a h st st2 st4 st6 st8 kind l0 l1 k0 k1) : l0 ≠ l1 ∧ l0 ≠ k0 ∧ l0 ≠ k1 ∧ l1 ≠ k0 ∧ l1 ≠ k1 ∧ k0 ≠ k1 := by
  obtain ⟨f0, f1, g0, g1⟩ := Q.froms
  obtain ⟨s2, s4, s6, s8⟩ := Q.sub
  have I := Q.I
  refine ⟨f0.ne I f1 (fun _ h => h) Q.m0 (.inl (by decide)), f0.ne I g0 (fun _ h => h) (s4 _ Q.m0) (.inr (by decide)), f0.ne I g1 (fun _ h => h) (s6 _ (s4 _ Q.m0)) (.inl (by decide)), f1.ne I g0 s2 Q.m1 (.inl (by decide)), f1.ne I g1 s2 (s6 _ Q.m1) (.inr (by decide)), g0.ne I g1 (fun _ h => s4 _ (s2 _ h)) Q.n0 (.inl (by decide))⟩
theorem Four.vals (Q : Four w b fr a h st st2 st4 st6 st8 kind l0 l1 k0 k1) : st8.c l0 = st8.c k0 ∧ st8.c l1 = st8.c k1 := by
  obtain ⟨s2, s4, s6, s8⟩ := Q.sub
  have hA := Q.A
  have I := Q.I
  have m0 := Q.m0; have m1 := Q.m1; have n0 := Q.n0
  obtain ⟨t2, B2⟩ := Q.B2; obtain ⟨t4, B4⟩ := Q.B4; obtain ⟨t6, K6⟩ := Q.K6; obtain ⟨t8, K8⟩ := Q.K8
  have c2 := fun x hx => (B2.grow.1 x hx).2
  have c4 := fun x hx => (B4.grow.1 x hx).2
  have c6 := fun x hx => (K6.grow.1 x hx).2
  have c8 := fun x hx => (K8.grow.1 x hx).2
  constructor
  · rw [c8 _ (s6 _ (s4 _ m0)), c6 _ (s4 _ m0), c4 _ m0, c8 _ n0]
    have e1 : st4.ks false = st.ks false := by rw [B4.same.2.1, B2.same.2.1]
    rcases B2.val with ⟨e, f1, rfl, v1⟩ | ⟨f1, v1⟩ <;> rcases K6.val with ⟨e', f2, rfl, v2⟩ | ⟨f2, v2⟩ <;> rw [e1] at f2 <;> rcases hA false with ⟨a1, a2⟩ | ⟨e3, e3', a1, a2, a3⟩ <;> rw [a1] at f1 <;> rw [a2] at f2 <;> try (cases f1; done)
    all_goals try (cases f2; done)
    · cases f1; cases f2
      have m3 : e'.l ∈ st.ls := (I.ents _ _ (find_mem_k a2).1).2.2
      rw [v1, v2, c4 _ (s2 _ m3), c2 _ m3]; exact a3
    · rw [v1, v2]
  · rw [c8 _ (s6 _ m1), c6 _ m1]
    have e1 : st6.ks true = st.ks true := by rw [(K6.other (by decide)).1, B4.same.2.1, B2.same.2.1]
    have e2 : st2.es true = st.es true := (B2.other (by decide)).1
    rcases B4.val with ⟨e, f1, rfl, v1⟩ | ⟨f1, v1⟩ <;> rcases K8.val with ⟨e', f2, rfl, v2⟩ | ⟨f2, v2⟩ <;> rw [e1] at f2 <;> rw [e2] at f1 <;> rcases hA true with ⟨a1, a2⟩ | ⟨e3, e3', a1, a2, a3⟩ <;> rw [a1] at f1 <;> rw [a2] at f2 <;> try (cases f1; done)
    all_goals try (cases f2; done)
    · cases f1; cases f2
      have m3 : e'.l ∈ st.ls := (I.ents _ _ (find_mem_k a2).1).2.2
      have m4 : e.l ∈ st.ls := I.esl _ _ (find_mem_e a1).1
      rw [v1, v2, c6 _ (s4 _ (s2 _ m3)), c4 _ (s2 _ m3), c2 _ m3, c2 _ m4]; exact a3
    · rw [v1, v2]
theorem Four.sync {n m m' : Nat} (Q : Four w b fr a h st st2 st4 st6 st8 kind l0 l1 k0 k1) (Sy : Sync st n m) {c' : Addr → List (Addr × Int)} {ck' : Addr → Nat} (h0 : c' l0 = c' k0) (h1 : c' l1 = c' k1) (ho : ∀ x, x ≠ l0 → x ≠ l1 → x ≠ k0 → x ≠ k1 → c' x = st8.c x) (hct : ∀ x ∈ st8.ls, (c' x).length ≤ m') : Sync (setC st8 c' ck') (n + 1) m' := by
  obtain ⟨f0, f1, g0, g1⟩ := Q.froms
  obtain ⟨s2, s4, s6, s8⟩ := Q.sub
  have I := Q.I
  have hA := Q.A
  have hcf := Q.cf
  have hm0 := Q.m0
  have hm1 := Q.m1
  obtain ⟨t2, B2⟩ := Q.B2; obtain ⟨t4, B4⟩ := Q.B4; obtain ⟨t6, K6⟩ := Q.K6; obtain ⟨t8, K8⟩ := Q.K8
  have c8 : ∀ x ∈ st.ls, st8.c x = st.c x := fun x hx => by
    rw [(K8.grow.1 x (s6 _ (s4 _ (s2 _ hx)))).2, (K6.grow.1 x (s4 _ (s2 _ hx))).2, (B4.grow.1 x (s2 _ hx)).2, (B2.grow.1 x hx).2]
  have a2 := B2.same; have a4 := B4.same; have a6 := K6.same; have a8 := K8.same
  have cE : ∀ i, ∀ e ∈ st.es i, e.k ≠ kind → c' e.l = st.c e.l := fun i e he hk => by
    rw [ho _ (f0.ne_e I (fun _ h => h) he (.inr (.inl hk))) (f1.ne_e I s2 he (.inr (.inl hk))) (g0.ne_e I (fun _ h => s4 _ (s2 _ h)) he (.inr (.inl hk))) (g1.ne_e I (fun _ h => s6 _ (s4 _ (s2 _ h))) he (.inr (.inl hk)))]
    exact c8 _ (I.esl _ _ he)
  have cK : ∀ i, ∀ e ∈ st.ks i, e.k ≠ kind → c' e.l = st.c e.l := fun i e he hk => by
    rw [ho _ (f0.ne_k I (fun _ h => h) he (.inr (.inl hk))) (f1.ne_k I s2 he (.inr (.inl hk))) (g0.ne_k I (fun _ h => s4 _ (s2 _ h)) he (.inr (.inl hk))) (g1.ne_k I (fun _ h => s6 _ (s4 _ (s2 _ h))) he (.inr (.inl hk)))]
    exact c8 _ (I.ents _ _ he).2.2
  have hcold : ∀ {s1 s2 : St} (i : Bool), s1.cold = s2.cold → coldB s1 i = coldB s2 i := fun i e => by unfold coldB; rw [e]
  refine sync_gen (kind := kind) Sy ?_ ?_ hct (fun x hx => s8 _ (s6 _ (s4 _ (s2 _ hx)))) (fun i => .inr ?_)
  · show st8.cold = st.cold
    rw [a8.1, a6.1, a4.1, a2.1]
  · show st8.fz = st.fz
    rw [a8.2.2.2.1, a6.2.2.2.1, a4.2.2.2.1, a2.2.2.2.1]
  · cases i with
    | false =>
      refine ⟨l0, k0, ?_, h0, cE false, cK false, s8 _ (s6 _ (s4 _ hm0))⟩
      refine (eff_of (hA false) ?_ B2 K6 ?_ ?_ ?_ ?_ (fun x hx => s4 _ (s2 _ hx))).congr ⟨?_, ?_, ?_, ?_⟩
      · rw [← hcf false]; exact hcold _ (by rw [a4.1, a2.1])
      · rw [a4.2.1, a2.2.1]
      · rw [a4.2.2.1, a2.2.2.1]
      · exact (B4.other (by decide)).1
      · exact (B4.other (by decide)).2
      · show st8.es false = st6.es false; rw [a8.2.1]
      · exact (K8.other (by decide)).1
      · show st8.nts false = st6.nts false; rw [a8.2.2.1]
      · exact (K8.other (by decide)).2
    | true =>
      refine ⟨l1, k1, ?_, h1, cE true, cK true, s8 _ (s6 _ hm1)⟩
      have e2 : st2.es true = st.es true := (B2.other (by decide)).1
      have e3 : st2.nts true = st.nts true := (B2.other (by decide)).2
      have E2 : Eff st2 st8 true kind l1 k1 := by
        refine (eff_of (st := st2) ?_ ?_ B4 K8 ?_ ?_ ?_ ?_ (fun x hx => s6 _ (s4 _ hx)))
        · rcases hA true with ⟨q1, q2⟩ | ⟨e, e', q1, q2, q3⟩
          · exact .inl ⟨by rw [e2]; exact q1, by rw [a2.2.1]; exact q2⟩
          · refine .inr ⟨e, e', by rw [e2]; exact q1, by rw [a2.2.1]; exact q2, ?_⟩
            rw [(B2.grow.1 _ (I.esl _ _ (find_mem_e q1).1)).2, (B2.grow.1 _ (I.ents _ _ (find_mem_k q2).1).2.2).2]; exact q3
        · rw [a2.2.2.2.1, ← hcf true]; exact hcold _ (by rw [a6.1, a4.1, a2.1])
        · rw [(K6.other (by decide)).1, a4.2.1]
        · rw [(K6.other (by decide)).2, a4.2.2.1]
        · rw [a6.2.1]
        · rw [a6.2.2.1]
      rcases E2 with ⟨e, e', q1, q2, q3, q4, q5, q6⟩ | E
      · rw [e2] at q1
        rw [a2.2.1] at q2
        refine .inl ⟨e, e', q1, q2, q3, q4, ?_, ⟨q6.es.trans e2, q6.ks.trans (by rw [a2.2.1]), q6.nts.trans e3, q6.rs.trans (by rw [a2.2.2.1])⟩⟩
        rw [(B2.grow.1 _ (I.esl _ _ (find_mem_e q1).1)).2, (B2.grow.1 _ (I.ents _ _ (find_mem_k q2).1).2.2).2] at q5; exact q5
      · refine .inr ⟨?_, ?_, fun q => E.ln (s2 _ q), fun q => E.kn (s2 _ q), ?_, ?_, ?_⟩
        · have := E.ne; rw [e2] at this; exact this
        · have := E.nk; rw [a2.2.1] at this; exact this
        · have := E.rs; rw [a2.2.2.1] at this; exact this
        · have := E.nts; rw [e3] at this; exact this
        · have := E.ek; rw [e2, a2.2.1, a2.2.2.2.1] at this; exact this
/-- what an append does -/
theorem sync_append {n m m' : Nat} {stB stK : St} {i : Bool} {tk tk' : Tok} {l k : Addr} {x : Addr × Int} {ck1 ck2 : Addr → Nat} (I : Inv w b fr a h st) (Sy : Sync st n m)
    (B : BStep st i kind tk l stB) (ml : l ∈ stB.ls) (K : KStep (setC stB (updC stB.c l (stB.c l ++ [x])) ck1) i (coldB stB i) kind tk' k stK) (hm : m + 1 ≤ m') :
    Sync (setC stK (updC stK.c k (stK.c k ++ [x])) ck2) (n + 1) m' := by
  have a2 := B.same
  have a8 := K.same
  have s2 : ∀ z ∈ st.ls, z ∈ stB.ls := fun z hz => (B.grow.1 z hz).1
  have f : From st st.ls i false kind l := B.from rfl
  have g : From st stB.ls i true kind k := K.from (by show stB.ks i = st.ks i; rw [a2.2.1])
  have hlk : l ≠ k := f.ne I g (fun _ h => h) ml (.inr (by decide))
  have gc : ∀ z ∈ stB.ls, z ≠ l → z ≠ k → (setC stK (updC stK.c k (stK.c k ++ [x])) ck2).c z = stB.c z := fun z hz h1 h2 => by
    show updC stK.c k _ z = _
    rw [updC_other h2, (K.grow.1 z hz).2]
    exact updC_other h1
  have hl : (setC stK (updC stK.c k (stK.c k ++ [x])) ck2).c l = stB.c l ++ [x] := by
    show updC stK.c k _ l = _
    rw [updC_other hlk, (K.grow.1 l ml).2]
    exact updC_same
  have hk : (setC stK (updC stK.c k (stK.c k ++ [x])) ck2).c k = stK.c k ++ [x] := updC_same
  have hbk : stB.c l = stK.c k := by
    rcases K.val with ⟨e', f2, rfl, v2⟩ | ⟨f2, v2⟩
    · have f2' : fk kind (st.ks i) = some e' := by have f3 : fk kind (stB.ks i) = some e' := f2; rw [a2.2.1] at f3; exact f3
      have m3 : e'.l ∈ st.ls := (I.ents _ _ (find_mem_k f2').1).2.2
      have v3 : stK.c e'.l = st.c e'.l := by
        rw [v2]
        show updC stB.c l _ e'.l = _
        rw [updC_other hlk.symm, (B.grow.1 _ m3).2]
      rw [v3]
      rcases Sy.agree kind i with ⟨q1, q2⟩ | ⟨e3, e3', q1, q2, q3⟩
      · rw [q2] at f2'; cases f2'
      · rw [q2] at f2'; cases f2'
        rcases B.val with ⟨e, f1, rfl, v1⟩ | ⟨f1, v1⟩
        · rw [q1] at f1; cases f1
          rw [v1]; exact q3
        · rw [q1] at f1; cases f1
    · have f2' : fk kind (st.ks i) = none := by have f3 : fk kind (stB.ks i) = none := f2; rw [a2.2.1] at f3; exact f3
      rw [v2]
      rcases Sy.agree kind i with ⟨q1, q2⟩ | ⟨e3, e3', q1, q2, q3⟩
      · rcases B.val with ⟨e, f1, rfl, v1⟩ | ⟨f1, v1⟩
        · rw [q1] at f1; cases f1
        · exact v1
      · rw [q2] at f2'; cases f2'
  have bl : ∀ z ∈ stB.ls, (stB.c z).length ≤ m := fun z hz => by
    rcases B.grow.2 z hz with q | q
    · rw [(B.grow.1 z q).2]; exact Sy.ct z q
    · rw [q]; simp
  refine sync_gen (kind := kind) Sy ?_ ?_ ?_ (fun z hz => (K.grow.1 z (s2 z hz)).1) (fun j => ?_)
  · show stK.cold = st.cold
    rw [a8.1]; exact a2.1
  · show stK.fz = st.fz
    rw [a8.2.2.2.1]; exact a2.2.2.2.1
  · intro z hz
    by_cases q1 : z = k
    · subst q1; rw [hk, ← hbk]
      have := bl l ml
      simp; omega
    · by_cases q2 : z = l
      · subst q2; rw [hl]
        have := bl z ml
        simp; omega
      · rcases K.grow.2 z hz with q | q
        · rw [gc z q q2 q1]
          have := bl z q
          omega
        · show (updC stK.c k _ z).length ≤ _
          rw [updC_other q1, q]; simp
  · by_cases q : j = i
    · subst q
      refine .inr ⟨l, k, ?_, ?_, fun e he hk' => ?_, fun e he hk' => ?_, (K.grow.1 l ml).1⟩
      · refine (eff_of (Sy.agree kind j) ?_ B K ?_ ?_ rfl rfl s2).congr ⟨rfl, rfl, rfl, rfl⟩
        · rw [← Sy.cf j]; unfold coldB; rw [a2.1]
        · show stB.ks j = _; rw [a2.2.1]
        · show stB.rs j = _; rw [a2.2.2.1]
      · rw [hl, hk, hbk]
      · rw [gc _ (s2 _ (I.esl _ _ he)) (f.ne_e I (fun _ h => h) he (.inr (.inl hk'))) (g.ne_e I s2 he (.inr (.inl hk'))), (B.grow.1 _ (I.esl _ _ he)).2]
      · rw [gc _ (s2 _ (I.ents _ _ he).2.2) (f.ne_k I (fun _ h => h) he (.inr (.inl hk'))) (g.ne_k I s2 he (.inr (.inl hk'))), (B.grow.1 _ (I.ents _ _ he).2.2).2]
    · refine .inl ⟨⟨?_, ?_, ?_, ?_⟩, fun e he => ?_, fun e he => ?_⟩
      · show stK.es j = _; rw [a8.2.1]; exact (B.other q).1
      · show stK.ks j = _; rw [(K.other q).1]; show stB.ks j = _; rw [a2.2.1]
      · show stK.nts j = _; rw [a8.2.2.1]; exact (B.other q).2
      · show stK.rs j = _; rw [(K.other q).2]; show stB.rs j = _; rw [a2.2.2.1]
      · rw [gc _ (s2 _ (I.esl _ _ he)) (f.ne_e I (fun _ h => h) he (.inl q)) (g.ne_e I s2 he (.inl q)), (B.grow.1 _ (I.esl _ _ he)).2]
      · rw [gc _ (s2 _ (I.ents _ _ he).2.2) (f.ne_k I (fun _ h => h) he (.inl q)) (g.ne_k I s2 he (.inl q)), (B.grow.1 _ (I.ents _ _ he).2.2).2]
end Mine
end
section
open PySem PySem.W PySem.Calls PyProof.Rows PySem.SeqAt
set_option linter.unusedVariables false
set_option maxRecDepth 100000
set_option maxHeartbeats 1000000
namespace Mine
theorem idict_ns {w : World} {h : Heap} {d : Addr} {fz : Option (Tok × Addr)} {ep : Nat} (hd : h.get? d = some (idict w fz ep)) : ∃ m, h.Ns d m ∧ m (PySem.Str.ofString "freeze") = none := by
  cases fz with
  | none => exact ⟨fun n => nsFind #[] n, ⟨_, _, _, hd, rfl, fun e he => by simp at he, fun n => rfl⟩, rfl⟩
  | some x => 
    refine ⟨fun n => nsFind #[⟨PyData.keyHash w.params "_frozen", .str "_frozen" x.1, .ref x.2⟩] n, ⟨_, _, _, hd, rfl, fun e he => ?_, fun n => rfl⟩, ?_⟩
    · have := Array.mem_singleton.mp he
      subst this
      exact ⟨_, _, rfl⟩
    · rfl
theorem fz_getMethod : ∀ {w : World} {A : Around} {s : Shared} {Q : Value × List Value → Shared → Prop} {E : Value → Shared → Prop} {bk d f : Addr} {es : List BEnt} {ep ep' : Nat} {fz : Option (Tok × Addr)} {pl : Sem Bool}
    (KX : (hd.heap_39 w.params).In s.heap) (hbk : s.heap.get? bk = some (bookObj d f es ep)) (hd : s.heap.get? d = some (idict w fz ep'))
    (hQ : Q (.ref 55, [.ref bk]) s),
    wpAny (model PG w) A (getMethod (.ref bk) (PySem.Str.ofString "freeze") pl) Q E s := by
  intro w A s Q E bk d f es ep ep' fz pl KX hbk hd hQ
  have I := book_inst hbk hd
  obtain ⟨m, hn, hm⟩ := idict_ns hd
  unfold getMethod
  refine wpAny_bind (wpAny_bind (I.type _ _ _ _ (fun b o e => e) (looks_findIn KX (r := some (.builtin "collections.defaultdict.__getattribute__")) (by k_is) _ _ _ _ (fun b o e => e) ?_)))
  change wpAny _ _ (if (Manifest.canonical "collections.defaultdict.__getattribute__" != "object.__getattribute__") = true then _ else _) _ _ _
  rw [canon_ga, if_neg (by decide)]
  refine wpAny_bind (wpAny_bind (I.type _ _ _ _ (fun b o e => e) (looks_findIn KX (r := none) (by k_is) _ _ _ _ (fun b o e => e) ?_)))
  rw [if_neg (by decide)]
  refine wpAny_bind (wpAny_bind (I.type _ _ _ _ (fun b o e => e) (looks_findIn KX (r := some (.ref 55)) (by k_is) _ _ _ _ (fun b o e => e) ?_)))
  dsimp only
  refine wpAny_bind (wpAny_typeOf_ref (KX 55 _ (by k_is)) ?_)
  rw [if_neg (by decide)]
  refine wpAny_bind (wpAny_bind (wpAny_loadPart hbk (wpAny_pure ?_)))
  refine wpAny_bind (wpAny_nsGet hn ?_)
  rw [hm, if_neg (by decide)]
  refine wpAny_bind ?_
  exact wpAny_rule (wpAny_pure hQ)
end Mine
end
section
open PySem PySem.W PySem.Calls PyProof.Rows PySem.SeqAt
set_option linter.unusedVariables false
set_option maxRecDepth 100000
set_option maxHeartbeats 1000000
namespace Mine
theorem outerI {w : World} {A : Around} {E : Value → Shared → Prop} {s : Shared} {l : Addr} {v0 v1 : Value} {n : Int} {u : Tok} {value slice : Expr} {j : Bool} {Q : Value → Shared → Prop} (hn : n = sdI j) (hl : s.heap.IsList l #[v0, v1]) (h : Q (if j then v1 else v0) s)
    (hs : subscripted slice false (.ref l) (.int n u) = operate [.ref l, .int n u] (getItem (.ref l) (.int n u))) :
    wpAny (model PG w) A (subscriptTail value slice (.ref l) (.int n u)) Q E s := by
  subst hn
  cases j with
  | false => exact tail_any hl.typeIs slot_list_getitem.lookup (wpAny_getItem_list (x := v0) hl (by decide) (by decide) (by rfl) h) hs
  | true => exact tail_any hl.typeIs slot_list_getitem.lookup (wpAny_getItem_list (x := v1) hl (by decide) (by decide) (by rfl) h) hs
theorem news_cd {w : World} {G h : Heap} {fr : List Addr} {a : Ad} {st : St} {L : Addr} {ns : List (Addr × Obj)} (N : News G L h ns) (I : Inv w G fr a h st) (hL : L ∈ fr) : News G L h ((a.cd, PySem.W.listOf st.cold.toArray st.kc) :: ns) := by
  intro q hq
  rcases List.mem_cons.mp hq with rfl | hq
  · exact ⟨I.cdv, fun e => I.mf a.cd (.inr (.inl rfl)) (by have e2 : a.cd = L := e; rw [e2]; exact hL), I.mb a.cd (.inr (.inl rfl))⟩
  · exact N q hq
theorem news_sl {w : World} {G h : Heap} {fr : List Addr} {a : Ad} {st : St} {L : Addr} {ns : List (Addr × Obj)} (N : News G L h ns) (I : Inv w G fr a h st) (hL : L ∈ fr) (i : Bool) (p : Slot) : News G L h ((a.ad i p, ob w a st i p) :: ns) := by
  intro q hq
  rcases List.mem_cons.mp hq with rfl | hq
  · exact ⟨I.sl i p, fun e => I.mf (a.ad i p) (.inl ⟨_, _, rfl⟩) (by have e2 : a.ad i p = L := e; rw [e2]; exact hL), I.mb (a.ad i p) (.inl ⟨_, _, rfl⟩)⟩
  · exact N q hq
theorem sd_ex {r : Int} (h0 : 0 ≤ r) (h1 : r < 2) : ∃ j, r = sdI j := by
  rcases (by omega : r = 0 ∨ r = 1) with rfl | rfl
  · exact ⟨false, rfl⟩
  · exact ⟨true, rfl⟩
theorem Inv.frame' {w : World} {b : Heap} {fr : List Addr} {a : Ad} {h h' : Heap} {st : St} (I : Inv w b fr a h st) {L : Addr} {o : Obj} {ex : List Addr} (hex : ∀ x ∈ ex, x ∈ fr) (k : Keep ex h h') (he : ∀ x ∈ ex, ∃ o, h'.get? x = some o) (hL : h.get? L = none) (hL' : h'.get? L = some o) : Inv w b (L :: fr) a h' st := by
  have J := I.loc hex k he
  obtain ⟨f1, f2, f3, f4, f5, f6⟩ := I.fresh hL
  refine { J with mf := ?_, im := ?_, frb := ?_, frh := ?_ }
  · intro x hx q
    rcases List.mem_cons.mp q with rfl | q
    · rcases hx with ⟨i, p, e⟩ | e | e | e
      · exact f2 i p e.symm
      · exact f3 e.symm
      · exact f4 e
      · exact f1 e
    · exact J.mf _ hx q
  · intro x hx
    obtain ⟨q1, q2, q3⟩ := J.im x hx
    exact ⟨q1, fun q => by
      rcases List.mem_cons.mp q with rfl | q
      · exact f5 hx
      · exact q2 q, q3⟩
  · intro x hx
    rcases List.mem_cons.mp hx with rfl | hx
    · cases q : b.get? x with
      | none => rfl
      | some o => have := I.hb _ _ q; rw [hL] at this; cases this
    · exact I.frb x hx
  · intro x hx
    rcases List.mem_cons.mp hx with rfl | hx
    · exact ⟨_, hL'⟩
    · exact J.frh x hx
theorem tupleIter_slots {it t : Addr} {i : Nat} {h h' : Heap} {fr : List Addr} (H : h.IsTupleIter it t i) (S : Slots fr h h') (hf : it ∈ fr) : h'.IsTupleIter it t i := by
  obtain ⟨o, e, c, d⟩ := H
  obtain ⟨sl, e'⟩ := S _ hf _ e
  exact ⟨_, e', c, d⟩
theorem tuple_slots {t : Addr} {its : Array Value} {h h' : Heap} {fr : List Addr} (H : h.IsTuple t its) (S : Slots fr h h') (hf : t ∈ fr) : h'.IsTuple t its := by
  obtain ⟨o, e, c, d⟩ := H
  obtain ⟨sl, e'⟩ := S _ hf _ e
  exact ⟨_, e', c, d⟩
theorem addI_in {w : World} {b : Heap} {fr : List Addr} {a : Ad} {h : Heap} {st : St} (I : Inv w b fr a h st) {d : Addr} {o : Obj} (h1 : ¬ isMut a st d) (h2 : d ∉ fr) (e : h.get? d = some o) : Inv w b fr a h (addI st d) :=
  { I with
    th := fun x hx t ht => ⟨(I.th x hx t ht).1, .tail _ (I.th x hx t ht).2⟩
    ents := fun i q hq => ⟨(I.ents i q hq).1, .tail _ (I.ents i q hq).2.1, (I.ents i q hq).2.2⟩
    lam := fun i x hx => by
      obtain ⟨cell, c', pbs, pm, ctv, q0, q1, q2, q3⟩ := I.lam i x hx
      exact ⟨cell, c', pbs, pm, ctv, q0, .tail _ q1, .tail _ q2, .tail _ q3⟩
    code := fun x y c' q => .tail _ (I.code x y c' q)
    im := fun x hx => by
      rcases List.mem_cons.mp hx with rfl | hx
      · exact ⟨h1, h2, _, e⟩
      · exact I.im x hx }
theorem outerF {w : World} {A : Around} {E : Value → Shared → Prop} {s : Shared} {l : Addr} {n : Int} {u : Tok} {value slice : Expr} {j : Bool} {Q : Value → Shared → Prop} (f : Bool → Addr) (hn : n = sdI j) (hl : s.heap.IsList l #[.ref (f false), .ref (f true)]) (h : Q (.ref (f j)) s)
    (hs : subscripted slice false (.ref l) (.int n u) = operate [.ref l, .int n u] (getItem (.ref l) (.int n u))) :
    wpAny (model PG w) A (subscriptTail value slice (.ref l) (.int n u)) Q E s :=
  outerI hn hl (by cases j <;> exact h) hs
theorem Inv.fresh_mut {w : World} {b : Heap} {fr : List Addr} {a : Ad} {h : Heap} {st : St} (I : Inv w b fr a h st) {l : Addr} (hl : h.get? l = none) : ¬ isMut a st l := by
  obtain ⟨f1, f2, f3, f4, f5, f6⟩ := I.fresh hl
  rintro (⟨i, p, rfl⟩ | rfl | rfl | hx)
  · exact f2 _ _ rfl
  · exact f3 rfl
  · exact f4 rfl
  · exact f1 hx
theorem BStep.imm {st st' : St} {i : Bool} {kind : Int} {tk : Tok} {l : Addr} (B : BStep st i kind tk l st') : st'.imm = st.imm := by
  rcases B with ⟨e, _, _, rfl⟩ | ⟨_, _, rfl⟩ <;> rfl
theorem Sync.addI {st : St} {n m : Nat} (S : Sync st n m) (d : Addr) : Sync (Mine.addI st d) n m := ⟨S.pr, S.nd, S.nt, S.ntr, S.len, S.co, S.cf, S.bd, S.ct, S.cl⟩
theorem Inv.drop {w : World} {b : Heap} {fr : List Addr} {a : Ad} {h h' : Heap} {st : St} {it : Addr} (I : Inv w b (it :: fr) a h st) (hn : it ∉ fr) (k : Keep [it] h h') : Inv w b fr a h' st := by
  have km : ∀ x o, x ≠ it → h.get? x = some o → h'.get? x = some o := fun x o h1 e => k _ _ (by simpa using h1) e
  have ni : ∀ x, x ∉ it :: fr → x ≠ it := fun x h e => h (by rw [e]; exact .head _)
  have nf : ∀ x, x ∉ it :: fr → x ∉ fr := fun x h e => h (.tail _ e)
  have kim : ∀ x o, x ∈ st.imm → h.get? x = some o → h'.get? x = some o := fun x o hx e => km _ _ (ni _ (I.im _ hx).2.1) e
  have kmu : ∀ x o, isMut a st x → h.get? x = some o → h'.get? x = some o := fun x o hx e => km _ _ (ni _ (I.mf _ hx)) e
  have hlm : ∀ {x bk cell c' pbs pm ctv}, LamAt w h x bk cell c' pbs pm ctv → x ∈ st.imm → cell ∈ st.imm → c' ∈ st.imm → LamAt w h' x bk cell c' pbs pm ctv := by
    intro x bk cell c' pbs pm ctv hl h1 h2 h3
    obtain ⟨o, e1, e2⟩ := hl.cell
    obtain ⟨c2, o2, vs, tq, q1, q2, q3, q4⟩ := hl.code
    cases q1
    exact ⟨hl.parts, kim _ _ h1 hl.obj, ⟨o, kim _ _ h2 e1, e2⟩, ⟨_, o2, vs, tq, rfl, kim _ _ h3 q2, q3, q4⟩⟩
  exact { I with
    hb := fun x o e => km _ _ (fun q => by rw [q, I.frb _ (.head _)] at e; cases e) (I.hb _ _ e)
    sl := fun i p => kmu _ _ (.inl ⟨i, p, rfl⟩) (I.sl i p)
    cdv := kmu _ _ (.inr (.inl rfl)) I.cdv
    tab := kmu _ _ (.inr (.inr (.inl rfl))) I.tab
    ftab := by
      rcases I.ftab with e | ⟨c', e, hc⟩
      · exact .inl e
      · refine .inr ⟨c', e, ?_⟩
        obtain ⟨c2, o2, vs, tq, q1, q2, q3, q4⟩ := hc
        cases q1
        exact ⟨_, o2, vs, tq, rfl, kim _ _ (I.code _ _ _ e) q2, q3, q4⟩
    ls := fun x hx => kmu _ _ (.inr (.inr (.inr hx))) (I.ls x hx)
    th := fun x hx t ht => ⟨(I.th x hx t ht).1.keep fun o => kim _ _ (I.th x hx t ht).2, (I.th x hx t ht).2⟩
    ents := fun i e he => ⟨kim _ _ (I.ents i e he).2.1 (I.ents i e he).1, (I.ents i e he).2⟩
    lam := fun i x hx => by
      obtain ⟨cell, c', pbs, pm, ctv, q0, q1, q2, q3⟩ := I.lam i x hx
      exact ⟨cell, c', pbs, pm, ctv, hlm q0 q1 q2 q3, q1, q2, q3⟩
    mf := fun x hx => nf _ (I.mf x hx)
    im := fun x hx => by
      obtain ⟨r1, r2, o, r3⟩ := I.im x hx
      exact ⟨r1, nf _ r2, o, kim _ _ hx r3⟩
    frb := fun x hx => I.frb x (.tail _ hx)
    frh := fun x hx => by
      obtain ⟨o, e⟩ := I.frh x (.tail _ hx)
      exact ⟨o, km _ _ (fun q => hn (q ▸ hx)) e⟩ }
noncomputable def jN (j : Bool) : Nat := if j then 1 else 0
theorem jN_ex {i : Nat} (h : i < 2) : ∃ j : Bool, i = jN j := by
  rcases (by omega : i = 0 ∨ i = 1) with rfl | rfl
  · exact ⟨false, rfl⟩
  · exact ⟨true, rfl⟩
theorem sd01 (j : Bool) : sdI j = 0 ∨ sdI j = 1 := by cases j <;> simp [sdI]
end Mine
end
section
open PySem PySem.W PySem.Calls PyProof.Rows PySem.SeqAt
set_option linter.unusedVariables false
set_option maxRecDepth 100000
set_option maxHeartbeats 8000000
namespace Mine
local macro_rules | `(tactic| walk_at "MY steps") => `(tactic| repeat' ((fail_if_success (with_reducible (first | refine Mine.sp0 ?_ | refine Mine.sp8 ?_ | refine Mine.sp9 ?_ | refine Mine.sp10 ?_ | refine Mine.sp11 ?_ | refine Mine.sp12 ?_ | refine Mine.sp13 ?_ | refine Mine.sp14 ?_ | refine Mine.sp4 ?_ | refine Mine.sp1 ?_ | refine Mine.sp5 ?_ | refine Mine.sp6 ?_))); (walk_at "MY b0")))
theorem differ_call : ∀ {w : World} {A : Around} {s : Shared} {R : Result → Shared → Prop} {p loose mg mb} {b : Heap} {fr : List Addr} {a : Ad} {st : St} {kind : Int} {tk : Tok} {lb lk lr : Addr} {outer : List Env} {nn mm : Nat}
    (T : Top0 w p loose mg mb b) (I : Inv w b fr a s.heap st) (O : Outer b a lb lk lr) (S : Stack A outer s.heap) (hfo : ∀ c ∈ frs outer, c ∈ fr)
    (hroom : A.depth + 90 < recursionLimit) (hu : A.units + 900 < cLine)
    (hh : A.handled = none) (Sy : Sync st nn mm) (hnn : nn < 900) (hmm : mm < 300000)
    (hQ : ∀ h' tk' st', Sync st' (nn + 1) (2 * mm) → Inv w b fr a h' st' → Slots fr s.heap h' → R (.ok (.ret (.bool true))) { s with heap := h', toks := tk' }),
    codeAny (model PG w) A (.call (.ref 93) ⟨[.ref lb, .ref lk, .ref a.cd, .ref lr, .int kind tk], []⟩) R s := by
  intro w A s R p loose mg mb b fr a st kind tk lb lk lr outer nn mm T I O S hfo hroom hu hh Sy hnn hmm hQ
  have hbd : ∀ i, (st.es i).length < 900 ∧ (st.ks i).length < 900 ∧ (st.nts i).length < 900 ∧ (st.rs i).length < 900 := fun i => by
    have := Sy.bd i; omega
  have hco := Sy.co
  have hlen0 : ∀ x ∈ st.ls, (st.c x).length < 300000 := fun x hx => by have := Sy.ct x hx; omega
  refine' call_hideC [] T I.hb ?hμ ?hroom ?ho ?hcd ?hbind ?hloc ?hcell ?hco ?hgen ?hk ?_
  case ho => k_is
  case hcd => k_is
  case hbind => exact BindsTo.of_eq rfl
  case hloc => rfl
  case hcell => decide
  case hμ => intro q hq; cases hq
  case hroom => omega
  case hco => rfl
  case hgen => rfl
  case hk => rfl
  intro g L h₁ tk0 cells hg hL Tg Fg Ng Y kp cn
  k_cells Y
  rename_i o1 o2 d1 d2
  have frh : ∀ x ∈ [(L : Addr), (L + 1 : Nat), (L + 2 : Nat)], @LE.le Nat _ L x ∧ ∃ o, h₁.get? x = some o := by
    intro x hx
    simp only [List.mem_cons, List.not_mem_nil, or_false] at hx
    rcases hx with rfl | rfl | rfl
    · obtain ⟨o, _, _, e, _⟩ := Fg.ns; exact ⟨Nat.le_refl _, _, e⟩
    · exact ⟨Nat.le_succ _, _, (Ng _ (.tail _ (.head _))).1⟩
    · exact ⟨Nat.le_add_right _ 2, _, (Ng _ (.head _)).1⟩
  have I1 := I.up hL kp [L, (L + 1 : Nat), (L + 2 : Nat)] frh
  have bG := I.base_sub hL kp
  have T1 : Top0 w p loose mg mb (baseG a st fr h₁ L) := T.keeps bG
  have hL0 : L ∈ [(L : Addr), (L + 1 : Nat), (L + 2 : Nat)] ++ fr := .head _
  have hL1 : ((L + 1 : Nat) : Addr) ∈ [(L : Addr), (L + 1 : Nat), (L + 2 : Nat)] ++ fr := .tail _ (.head _)
  have hL2 : ((L + 1 + 1 : Nat) : Addr) ∈ [(L : Addr), (L + 1 : Nat), (L + 2 : Nat)] ++ fr := .tail _ (.tail _ (.head _))
  have sx2 : ∀ z ∈ [(L : Addr), (L + 1 : Nat), (L + 1 + 1 : Nat)], z ∈ [(L : Addr), (L + 1 : Nat), (L + 2 : Nat)] ++ fr := mem3 hL0 hL1 hL2
  have sx1 : ∀ z ∈ [(L : Addr), (L + 1 : Nat), (L + 1 + 1 : Nat)], z = L ∨ z = ((L + 1 + 1 : Nat) : Addr) ∨ z = ((L + 1 : Nat) : Addr) := List.forall_mem_cons.mpr ⟨.inl rfl, List.forall_mem_cons.mpr ⟨.inr (.inr rfl), List.forall_mem_cons.mpr ⟨.inr (.inl rfl), fun z hz => (nomatch hz)⟩⟩⟩
  have sx3 : ∀ z ∈ [(L : Addr)], z ∈ [(L : Addr), (L + 1 : Nat), (L + 2 : Nat)] ++ fr := fun z hz => (List.mem_singleton.mp hz) ▸ hL0
  have F1 : Fr (baseG a st fr h₁ L) L h₁ _ := rb_fr Fg.ns
  have F1k := And.intro F1 True.intro
  generalize baseG a st fr h₁ L = G at *
  have N1 : News G L h₁ [((L + 1 + 1 : Nat), o1), ((L + 1 : Nat), o2)] := by
    intro q hq
    have := Ng q (by simpa using hq)
    refine ⟨this.1, this.2.1, I1.frb _ ?_⟩
    simp only [List.mem_cons, List.not_mem_nil, or_false] at hq
    rcases hq with rfl | rfl <;> simp
  have OG : Outer G a lb lk lr := ⟨O.lb.at fun o e => bG _ _ e, O.lk.at fun o e => bG _ _ e, O.lr.at fun o e => bG _ _ e⟩
  have X1 := T1.X
  have TT1 := T1.T
  clear Fg Ng Tg
  have N1r := rest_news (ex := [L, (L + 1 : Nat), (L + 1 + 1 : Nat)]) N1 (.head _)
  walk_at "MY steps"
  refine outer0 (OG.lb.at fun o e => F1.keep _ _ e) ?_
  walk_at "MY steps"
  refine book_get T1 I1 ?_ ?_ ?_ ?_ hh ?_ (by with_unfolding_all rfl)
  · have := hbd false; omega
  · have := hbd false; omega
  · show A.depth + 1 + 60 < _; omega
  · show A.units + 3 + 600 < _; omega
  intro h2 tk2 l0 st2 B2 I2 S2
  have F2 := fr_next F1k.1 I2 hL0 S2
  have F2k := And.intro F2 True.intro
  obtain ⟨o1', o2', N2, d1', d2'⟩ := news_next N1 hL2 hL1 S2
  have N2r := rest_news (ex := [L, (L + 1 : Nat), (L + 1 + 1 : Nat)]) N2 (.head _)
  walk_at "MY steps"
  (rename News _ _ _ _ => N3r); (rename Fr _ _ _ _ => F3)
  obtain ⟨I3, N3, k3⟩ := seg F2k.1 F3 N3r I2 sx1 sx2
  have F3k := And.intro F3 True.intro
  refine outer1 (OG.lb.at fun o e => F3.keep _ _ e) ?_
  walk_at "MY steps"
  refine book_get T1 I3 ?_ ?_ ?_ ?_ hh ?_ (by with_unfolding_all rfl)
  · have := (B2.same.2.2.2.2 true).1; have := hbd true; omega
  · have := (B2.same.2.2.2.2 true).2; have := hbd true; omega
  · show A.depth + 1 + 60 < _; omega
  · show A.units + 3 + 600 < _; omega
  intro h4 tk4 l1 st4 B4 I4 S4
  have F4 := fr_next F3k.1 I4 hL0 S4
  have F4k := And.intro F4 True.intro
  obtain ⟨o1'', o2'', N4, d1'', d2''⟩ := news_next N3 hL2 hL1 S4
  have N4r := rest_news (ex := [L, (L + 1 : Nat), (L + 1 + 1 : Nat)]) N4 (.head _)
  walk_at "MY steps"
  (rename News _ _ _ _ => N5r); (rename Fr _ _ _ _ => F5)
  obtain ⟨I5, N5, k5⟩ := seg F4k.1 F5 N5r I4 sx1 sx2
  have F5k := And.intro F5 True.intro
  refine outer0 (OG.lk.at fun o e => F5.keep _ _ e) ?_
  walk_at "MY steps"
  have sB2 := B2.same
  have sB4 := B4.same
  have hc4 : ColdOk st4 := by intro v hv; rw [sB4.1, sB2.1] at hv; exact hco v hv
  refine in_cold (i := false) rfl I5.cdv hc4 ?_
  walk_at "MY steps"
  refine outer0 (OG.lr.at fun o e => F5k.1.keep _ _ e) ?_
  walk_at "MY steps"
  refine wpAny_call (plain_get (i := false) T1 I5 ?_ ?_ ?_ ?_ hh ?_)
  · rw [sB4.2.1, sB2.2.1]; have := hbd false; omega
  · rw [sB4.2.2.1, sB2.2.2.1]; have := hbd false; omega
  · show A.depth + 1 + 60 < _; omega
  · show A.units + 3 + 600 < _; omega
  intro h6 tk6 k0 st6 K6 I6 S6
  have F6 := fr_next F5k.1 I6 hL0 S6
  have F6k := And.intro F6 True.intro
  obtain ⟨o1a, o2a, N6, d1a, d2a⟩ := news_next N5 hL2 hL1 S6
  have N6r := rest_news (ex := [L, (L + 1 : Nat), (L + 1 + 1 : Nat)]) N6 (.head _)
  have rne : ∀ {G h : Heap} {ex : List Addr} {z : Addr}, z ∈ ex → ∀ q ∈ rest G h ex, q.1 ≠ z := fun hz q hq e => by
    obtain ⟨x, o⟩ := q
    exact (mem_rest.mp hq).1 (by have e2 : x = _ := e; rw [e2]; exact hz)
  have c12 : ((L + 1 : Nat) : Addr) ≠ (L + 1 + 1 : Nat) := Nat.ne_of_lt (Nat.lt_succ_self _)
  refine storeX_C (c := (L + 1 : Nat)) F6 N6r (by rfl) (.tail (Ne.symm c12) (.head (rne (by simp)))) (d2a.trans (d2''.trans (d2'.trans d2))) ?_
  intro h7 oOld F7 N7r dOld
  obtain ⟨I7, N7, k7⟩ := seg F6k.1 F7 N7r I6 sx1 sx2
  have F7k := And.intro F7 True.intro
  have N7r2 := rest_news (ex := [L, (L + 1 : Nat), (L + 1 + 1 : Nat)]) N7 (.head _)
  dsimp only
  walk_at "MY steps"
  refine outer1 (OG.lk.at fun o e => F7k.1.keep _ _ e) ?_
  walk_at "MY steps"
  have sK6 := K6.same
  have hc6 : ColdOk st6 := by intro v hv; rw [sK6.1] at hv; exact hc4 v hv
  refine in_cold (i := true) rfl I7.cdv hc6 ?_
  walk_at "MY steps"
  refine outer1 (OG.lr.at fun o e => F7k.1.keep _ _ e) ?_
  walk_at "MY steps"
  refine wpAny_call (plain_get (i := true) T1 I7 ?_ ?_ ?_ ?_ hh ?_)
  · have := (sK6.2.2.2.2 true).1; rw [sB4.2.1, sB2.2.1] at this; have := hbd true; omega
  · have := (sK6.2.2.2.2 true).2; rw [sB4.2.2.1, sB2.2.2.1] at this; have := hbd true; omega
  · show A.depth + 1 + 60 < _; omega
  · show A.units + 3 + 600 < _; omega
  intro h8 tk8 k1 st8 K8 I8 S8
  have F8 := fr_next F7k.1 I8 hL0 S8
  have F8k := And.intro F8 True.intro
  obtain ⟨o1b, oOldb, N8, d1b, dOldb⟩ := news_next N7 hL2 hL1 S8
  have N8r := rest_news (ex := [L, (L + 1 : Nat), (L + 1 + 1 : Nat)]) N8 (.head _)
  dsimp only
  refine storeX_C (c := (L + 1 + 1 : Nat)) F8 N8r (by rfl) (.head (fun q hq => by
    rcases List.mem_cons.mp hq with rfl | hq
    · exact c12
    · exact rne (by simp) q hq)) (d1b.trans (d1a.trans (d1''.trans (d1'.trans d1)))) ?_
  intro h9 oNew F9 N9r dNew
  obtain ⟨I9, N9, k9⟩ := seg F8k.1 F9 N9r I8 sx1 sx2
  have F9k := And.intro F9 True.intro
  have dOld9 := dOldb.trans dOld
  have N9r2 := rest_news (ex := [L, (L + 1 : Nat), (L + 1 + 1 : Nat)]) N9 (.head _)
  dsimp only
  walk_at "MY steps"
  have gl : ∀ {s1 s2 : St}, (∀ x ∈ s1.ls, (s1.c x).length < 300000) → (∀ x ∈ s1.ls, x ∈ s2.ls ∧ (s2.c x = s1.c x)) ∧ (∀ x ∈ s2.ls, x ∈ s1.ls ∨ s2.c x = []) → ∀ x ∈ s2.ls, (s2.c x).length < 300000 := by
    intro s1 s2 h1 ⟨g1, g2⟩ x hx
    rcases g2 x hx with q | q
    · rw [(g1 x q).2]; exact h1 x q
    · rw [q]; simp
  have hlen : ∀ x ∈ st8.ls, (st8.c x).length < 300000 := gl (gl (gl (gl hlen0 B2.grow) B4.grow) K6.grow) K8.grow
  have hk0 : k0 ∈ st8.ls := (K8.grow.1 _ (K6.mem I5)).1
  have hk1 : k1 ∈ st8.ls := K8.mem I7
  have hl0 : h9.get? k0 = some (PySem.W.listOf (refs (st8.c k0)).toArray (st8.ck k0)) := I9.ls _ hk0
  have hl1 : h9.get? k1 = some (PySem.W.listOf (refs (st8.c k1)).toArray (st8.ck k1)) := I9.ls _ hk1
  have hcl : ∀ c ∈ [L, (L + 1 : Nat), (L + 1 + 1 : Nat)], c ≠ k0 ∧ c ≠ k1 := fun c hc => ⟨fun q => I9.mf k0 (.inr (.inr (.inr hk0))) (List.mem_append_left _ (by rw [← q]; simpa using hc)), fun q => I9.mf k1 (.inr (.inr (.inr hk1))) (List.mem_append_left _ (by rw [← q]; simpa using hc))⟩
  refine comp_any (by with_unfolding_all rfl) (by decide) (by rfl) (by decide) loop_one ?_
  walk_at "MY steps"
  have hsz0 : ((refs (st8.c k0)).toArray.size : Int) < 2 ^ 63 := by have := hlen k0 hk0; simp [refs]; omega
  refine call_len_list (l := k0) (items := (refs (st8.c k0)).toArray) ⟨_, hl0, rfl, _, rfl⟩ hsz0 ?_
  walk_at "MY steps"
  refine call_range_1 ?_
  refine wpAny_pyIter_range (IsRange.new _ _ _ _ _ _ _) ?_ ?_
  · rw [show ((refs (st8.c k0)).toArray.size : Int) = ((st8.c k0).length : Int) by simp [refs]]
    exact range_small (hlen k0 hk0)
  refine ⟨_, _, _, (st8.c k0).length, _, _, _, fun k => decide (((st8.c k0).drop (k + 1)).countP (fun q => q.2 = ((st8.c k0).getD k (0, 0)).2) ≥ (st8.c k1).countP (fun q => q.2 = ((st8.c k0).getD k (0, 0)).2)), fun k => .ref ((st8.c k0).getD k (0, 0)).1, rfl, KTurns.ofWalks (Walks.range (A := A.deeper _) hh _ 0 1 _) (fun i v s Q E hst hq => wpAny_of_eq rfl hq), (Walks.range (A := A.deeper _) hh _ 0 1 _).self, ?_, ?_, ?_, ?turn, ?fin⟩
  · have := sizeLine_eq; have := hlen k0 hk0; omega
  · have e1 : ((refs (st8.c k0)).toArray.size : Int) = ((st8.c k0).length : Int) := by simp [refs]
    have e2 : Builtin.Range.rangeSize 0 ((refs (st8.c k0)).toArray.size : Int) 1 = ((st8.c k0).length : Int) - ((0 : Nat) : Int) := by
      rw [rangeSize_one, e1]; split <;> omega
    rw [e2]
    exact Heap.get?_push_size _ rfl
  · intro q hq
    rcases List.mem_singleton.mp hq with rfl
    dsimp only
    simp only [Heap.size_push]
    exact Nat.lt_succ_self _
  case turn =>
    rintro C i v s₃ m₃ E' hC hi ⟨t, rfl⟩ hns hk ⟨h10, tk10, rfl⟩
    dsimp only at hC hk
    have hC9 : @LT.lt Nat _ h9.objs.size C := by
      rw [Heap.size_push, Heap.size_push] at hC; omega
    have k910 : ∀ c o, h9.get? c = some o → h10.get? c = some o := fun c o e => hk c o (fun q => by
      have e3 : @Eq Nat c (h9.push _).objs.size := List.mem_singleton.mp q
      rw [Heap.size_push] at e3
      have h5 : @LT.lt Nat _ c h9.objs.size := Heap.lt_size e
      omega) (Heap.get?_push_of_some _ (Heap.get?_push_of_some _ e))
    refine wpAny_assign_Name (wpAny_storeName_local (lookup_relabel_local (by rfl)) hns (fun h11 hn11 hs11 => ?_) (by rfl))
    refine testW_one ?_
    have F11 : Fr (rb h11 C [k0, k1]) C h11 _ := rb_fr hn11
    have k911 : ∀ c o, h9.get? c = some o → h11.get? c = some o := fun c o e => hs11.extBut c o (fun q => absurd (Heap.lt_size e) (by rw [q]; exact Nat.lt_asymm hC9)) (k910 _ _ e)
    have ltC : ∀ {c : Addr} {o : Obj}, h9.get? c = some o → @LT.lt Nat _ c C := fun e => Nat.lt_trans (Heap.lt_size e) hC9
    have ne0 : k0 ≠ C := Nat.ne_of_lt (ltC hl0)
    have ne1 : k1 ≠ C := Nat.ne_of_lt (ltC hl1)
    have N11b : News (rb h11 C [k0, k1]) C h11 [(k0, PySem.W.listOf (refs (st8.c k0)).toArray (st8.ck k0)), (k1, PySem.W.listOf (refs (st8.c k1)).toArray (st8.ck k1))] := by
      intro q hq
      rcases List.mem_cons.mp hq with rfl | hq
      · exact ⟨k911 _ _ hl0, ne0, rb_none (.inl (by simp))⟩
      · rcases List.mem_singleton.mp hq with rfl
        exact ⟨k911 _ _ hl1, ne1, rb_none (.inl (by simp))⟩
    have N11 := rest_news (ex := [C, k0, k1]) N11b (by simp)
    have T11 : Top0 w p loose mg mb (rb h11 C [k0, k1]) := T1.keeps fun c o e => rb_get (k911 _ _ (I9.hb _ _ e)) (ltC (I9.hb _ _ e)) (fun q => by
      rcases List.mem_cons.mp q with rfl | q
      · rw [I9.mb _ (.inr (.inr (.inr hk0)))] at e; cases e
      · rw [List.mem_singleton.mp q, I9.mb _ (.inr (.inr (.inr hk1)))] at e; cases e)
    have F11k := And.intro F11 True.intro
    have X11 := T11.X
    have TT11 := T11.T
    have hold : h11.IsCell (L + 1 : Nat) (some (.ref k0)) := ⟨_, k911 _ _ (N9 _ (.tail _ (.head _))).1, dOld9⟩
    have hnew : h11.IsCell (L + 1 + 1 : Nat) (some (.ref k1)) := ⟨_, k911 _ _ (N9 _ (.head _)).1, dNew⟩
    clear N9r2
    refine wpAny_isTrue_Compare1 (MethodCall_ ?_)
    refine Subscript_ (ccell (by rfl) (by rfl) (by rfl) hold ?_)
    walk_at "MY steps"
    refine cname (by rfl) (by rfl) hn11 (by rfl) ?_
    walk_at "MY steps"
    refine slice_list (l := k0) (items := (refs (st8.c k0)).toArray) F11 N11 (N11.isList (.head _)) (.int _ _) .none ?_ (by with_unfolding_all rfl) (by intro _; with_unfolding_all rfl) (by have := sizeLine_eq; have := hlen k0 hk0; simp [refs]; omega)
    intro h12 F12 N12
    have hsl : slicePick (refs (st8.c k0)).toArray (some (0 + (i : Int) * 1 + 1)) none none = (refs ((st8.c k0).drop (i + 1))).toArray := by
      rw [show (0 + (i : Int) * 1 + 1) = ((i + 1 : Nat) : Int) by omega, slicePick_from']
      simp [refs, List.map_drop]
    dsimp only at N12 ⊢
    rw [hsl] at N12
    have N12k := And.intro N12 True.intro
    have k1112 : Keep [C, k0, k1] h11 h12 := rest_keep F11k.1 F12 N12 (fun q hq => .tail _ (List.mem_append_right _ hq))
    have k112 : ∀ c o, c ≠ C → h11.get? c = some o → h12.get? c = some o := fun c o h1 e => by
      by_cases e0 : c = k0
      · subst e0; rw [(N11b _ (.head _)).1] at e; cases e; exact (N12 _ (.tail _ (.head _))).1
      by_cases e1 : c = k1
      · subst e1; rw [(N11b _ (.tail _ (.head _))).1] at e; cases e; exact (N12 _ (.tail _ (.tail _ (.head _)))).1
      · exact k1112 _ _ (by simp [h1, e0, e1]) e
    have kc : ∀ tk, KeepsC C { s with heap := h10, toks := tk10 } { s with heap := h12, toks := tk } := fun tk => ⟨h12, tk, rfl, fun c o hc e => k112 _ _ hc (hs11.extBut _ _ hc e), _, F12.ns⟩
    have hold12 : h12.IsCell (L + 1 : Nat) (some (.ref k0)) := by
      obtain ⟨o, e, d⟩ := hold; exact ⟨o, k112 _ _ (Nat.ne_of_lt (ltC (N9 _ (.tail _ (.head _))).1)) e, d⟩
    have hnew12 : h12.IsCell (L + 1 + 1 : Nat) (some (.ref k1)) := by
      obtain ⟨o, e, d⟩ := hnew; exact ⟨o, k112 _ _ (Nat.ne_of_lt (ltC (N9 _ (.head _)).1)) e, d⟩
    have hget : (st8.c k0)[i]? = some ((st8.c k0).getD i (0, 0)) := by
      rw [List.getD_eq_getElem?_getD, List.getElem?_eq_getElem hi]; rfl
    have hitem : ((refs (st8.c k0)).toArray)[(0 + (i : Int) * 1).toNat]? = some (.ref ((st8.c k0).getD i (0, 0)).1) := by
      rw [show (0 + (i : Int) * 1).toNat = i by omega, List.getElem?_toArray]; unfold refs; rw [List.getElem?_map, hget]; rfl
    have hn0 : (0 : Int) ≤ 0 + (i : Int) * 1 := by omega
    have hn1 : (0 : Int) + (i : Int) * 1 < 2 ^ 63 := by have := hlen k0 hk0; omega
    walk_at "MY steps"
    refine ccell (by rfl) (by rfl) (by rfl) hold12 ?_
    refine cname (by rfl) (by rfl) F12.ns (by rfl) ?_
    refine tail_any (N12.isList (.tail _ (.head _))).typeIs slot_list_getitem.lookup (wpAny_getItem_list (N12.isList (.tail _ (.head _))) hn0 hn1 hitem ?_) (by with_unfolding_all rfl)
    walk_at "MY steps"
    have hmem : (st8.c k0).getD i (0, 0) ∈ st8.c k0 := List.mem_of_getElem? hget
    have thk : ∀ x ∈ st8.ls, ∀ q ∈ st8.c x, IsThing h12 q.1 q.2 := fun x hx q hq => (I9.th x hx q hq).1.keep fun o e => k112 _ _ (Nat.ne_of_lt (ltC e)) (k911 _ _ e)
    refine count_things (N12 _ (.head _)).1 (fun q hq => thk _ hk0 q (List.mem_of_mem_drop hq)) (thk _ hk0 _ hmem) (by show A.units + 3 + 110 < _; omega) ?_
    walk_at "MY steps"
    refine ccell (by rfl) (by rfl) (by rfl) hnew12 ?_
    walk_at "MY steps"
    refine ccell (by rfl) (by rfl) (by rfl) hold12 ?_
    refine cname (by rfl) (by rfl) F12.ns (by rfl) ?_
    refine tail_any (N12.isList (.tail _ (.head _))).typeIs slot_list_getitem.lookup (wpAny_getItem_list (N12.isList (.tail _ (.head _))) hn0 hn1 hitem ?_) (by with_unfolding_all rfl)
    walk_at "MY steps"
    refine count_things (N12 _ (.tail _ (.tail _ (.head _)))).1 (thk _ hk1) (thk _ hk0 _ hmem) (by show A.units + 3 + 110 < _; omega) ?_
    walk_at "MY steps"
    · exact decide_eq_decide.mpr (by constructor <;> intro h <;> omega)
    · walk_at "MY steps"
      refine ccell (by rfl) (by rfl) (by rfl) hold12 ?_
      refine cname (by rfl) (by rfl) F12.ns (by rfl) ?_
      exact tail_any (N12k.1.isList (.tail _ (.head _))).typeIs slot_list_getitem.lookup (wpAny_getItem_list (N12k.1.isList (.tail _ (.head _))) hn0 hn1 hitem ⟨rfl, kc _⟩) (by with_unfolding_all rfl)
    · exact kc _
  case fin =>
    intro D h10 tk10 kD hD hl hk
    dsimp only at hD hk
    have k910 : ∀ c o, h9.get? c = some o → h10.get? c = some o := fun c o e => hk c o (fun q => by
      have e3 : @Eq Nat c (h9.push _).objs.size := List.mem_singleton.mp q
      rw [Heap.size_push] at e3
      have h5 : @LT.lt Nat _ c h9.objs.size := Heap.lt_size e
      omega) (Heap.get?_push_of_some _ (Heap.get?_push_of_some _ e))
    have hD9 : h9.get? D = none := by
      cases q : h9.get? D with
      | none => rfl
      | some o => rw [Heap.get?_push_of_some _ (Heap.get?_push_of_some _ q)] at hD; cases hD
    have F10 := F9k.1.keeps k910
    have F10k := And.intro F10 True.intro
    have I10 := I9.same (h' := h10) (fun c o _ e => k910 c o e)
    generalize hms : ((List.range (st8.c k0).length).filter fun k => decide (((st8.c k0).drop (k + 1)).countP (fun q => q.2 = ((st8.c k0).getD k (0, 0)).2) ≥ (st8.c k1).countP (fun q => q.2 = ((st8.c k0).getD k (0, 0)).2))).map (fun k => ((st8.c k0).getD k (0, 0))) = ms
    have hl2 : h10.get? D = some (PySem.W.listOf (refs ms).toArray kD) := by rw [hl, ← hms]; simp [refs]
    have DL : D ≠ L := fun q => by
      obtain ⟨o, _, _, e, _⟩ := F9k.1.ns
      rw [← q, hD9] at e; cases e
    have N10 : News G L h10 [(D, PySem.W.listOf (refs ms).toArray kD), ((L + 1 + 1 : Nat), oNew), ((L + 1 : Nat), oOldb)] := by
      intro q hq
      rcases List.mem_cons.mp hq with rfl | hq
      · refine ⟨hl2, DL, ?_⟩
        cases q : G.get? D with
        | none => rfl
        | some o => rw [I9.hb _ _ q] at hD9; cases hD9
      · exact ⟨k910 _ _ (N9 q hq).1, (N9 q hq).2⟩
    have N10r := rest_news (ex := [L, D, (L + 1 : Nat), (L + 1 + 1 : Nat)]) N10 (.head _)
    clear N9r2
    walk_at "MY steps"
    (rename Fr _ _ _ _ => F11)
    refine rev_tail (l := D) (its := (refs ms).toArray) (N10r.isList (.head _)) ?_ (by with_unfolding_all rfl) (by
      have := sizeLine_eq; have := hlen k0 hk0
      have e1 : ms.length ≤ (st8.c k0).length := by
        rw [← hms, List.length_map]
        have := List.length_filter_le (fun k => decide (((st8.c k0).drop (k + 1)).countP (fun q => q.2 = ((st8.c k0).getD k (0, 0)).2) ≥ (st8.c k1).countP (fun q => q.2 = ((st8.c k0).getD k (0, 0)).2))) (List.range (st8.c k0).length)
        simpa using this
      simp [refs]; omega)
    intro h11 M k1011 hM0 hM
    dsimp only at k1011 hM0
    have F11 := F10k.1.keeps k1011
    have F11k := And.intro F11 True.intro
    have I11 := I10.same (h' := h11) (fun c o _ e => k1011 c o e)
    have N10b : News G L h10 [((L + 1 + 1 : Nat), oNew), ((L + 1 : Nat), oOldb)] := fun q hq => N10 q (.tail _ hq)
    have ML : M ≠ L := fun q => by
      obtain ⟨o, _, _, e, _⟩ := F10k.1.ns
      rw [← q, hM0] at e; cases e
    have hM' : h11.get? M = some (PySem.W.listOf (refs ms.reverse).toArray 0) := by rw [hM]; simp [refs]
    have N11 : News G L h11 [(M, PySem.W.listOf (refs ms.reverse).toArray 0), ((L + 1 + 1 : Nat), oNew), ((L + 1 : Nat), oOldb)] := by
      intro q hq
      rcases List.mem_cons.mp hq with rfl | hq
      · refine ⟨hM', ML, ?_⟩
        cases q : G.get? M with
        | none => rfl
        | some o => rw [I10.hb _ _ q] at hM0; cases hM0
      · exact ⟨k1011 _ _ (N10b q hq).1, (N10b q hq).2⟩
    have N11k := And.intro N11 True.intro
    have N11r := rest_news (ex := [L, M, (L + 1 : Nat), (L + 1 + 1 : Nat)]) N11 (.head _)
    clear N10r
    walk_at "MY steps"
    (rename News _ _ _ _ => N12r); (rename Fr _ _ _ _ => F12)
    rename_i h12
    have k12 := segK F11k.1 F12 N12r (fun q hq => (N11k.1 q hq).1) (exT (mem3 (.head _) (.tail _ (.tail _ (.head _))) (.tail _ (.head _))))
    have F12k := And.intro F12 True.intro
    have I12 := I11.loc (ex := [L]) sx3 k12 (fun x hx => by obtain ⟨o, _, _, e, _⟩ := F12.ns; rw [List.mem_singleton.mp hx]; exact ⟨_, e⟩)
    have N12 : News G L _ [(M, PySem.W.listOf (refs ms.reverse).toArray 0), ((L + 1 + 1 : Nat), oNew), ((L + 1 : Nat), oOldb)] := fun q hq => N12r q (List.mem_append_left _ hq)
    have hl0' := I12.ls _ hk0
    have hl1' := I12.ls _ hk1
    have N12k := And.intro N12 True.intro
    have N12r2 := rest_news (ex := [L, M, (L + 1 : Nat), (L + 1 + 1 : Nat)]) N12 (.head _)
    clear N12r
    refine wpAny_execs_cons (comp_assign (by rfl) (by rfl) (by rfl) (by with_unfolding_all rfl) (by decide) (by rfl) (by decide) loop_one ?_)
    walk_at "MY steps"
    have hsz1 : ((refs (st8.c k1)).toArray.size : Int) < 2 ^ 63 := by have := hlen k1 hk1; simp [refs]; omega
    refine call_len_list (l := k1) (items := (refs (st8.c k1)).toArray) ⟨_, hl1', rfl, _, rfl⟩ hsz1 ?_
    walk_at "MY steps"
    refine call_range_1 ?_
    refine wpAny_pyIter_range (IsRange.new _ _ _ _ _ _ _) ?_ ?_
    · rw [show ((refs (st8.c k1)).toArray.size : Int) = ((st8.c k1).length : Int) by simp [refs]]
      exact range_small (hlen k1 hk1)
    refine ⟨_, _, _, (st8.c k1).length, _, _, _, fun k => decide (((st8.c k1).take k).countP (fun q => q.2 = ((st8.c k1).getD k (0, 0)).2) ≥ (st8.c k0).countP (fun q => q.2 = ((st8.c k1).getD k (0, 0)).2)), fun k => .ref ((st8.c k1).getD k (0, 0)).1, _, ?_, (F12k.1.ns.at' (fun o e => Heap.get?_push_of_some _ (Heap.get?_push_of_some _ e))), rfl, KTurns.ofWalks (Walks.range (A := A.deeper _) hh _ 0 1 _) (fun i v s Q E hst hq => wpAny_of_eq rfl hq), (Walks.range (A := A.deeper _) hh _ 0 1 _).self, ?_, ?_, ?_, ?turn, ?fin⟩
    · intro q
      have e3 : @Eq Nat L (h12.push _).objs.size := List.mem_singleton.mp q
      rw [Heap.size_push] at e3
      have h5 : @LT.lt Nat _ L h12.objs.size := F12k.1.ns.lt
      omega
    · have := sizeLine_eq; have := hlen k1 hk1; omega
    · have e1 : ((refs (st8.c k1)).toArray.size : Int) = ((st8.c k1).length : Int) := by simp [refs]
      have e2 : Builtin.Range.rangeSize 0 ((refs (st8.c k1)).toArray.size : Int) 1 = ((st8.c k1).length : Int) - ((0 : Nat) : Int) := by
        rw [rangeSize_one, e1]; split <;> omega
      rw [e2]
      exact Heap.get?_push_size _ rfl
    · intro q hq
      rcases List.mem_singleton.mp hq with rfl
      dsimp only
      simp only [Heap.size_push]
      exact Nat.lt_succ_self _
    case turn =>
      rintro C i v s₃ m₃ E' hC hi ⟨t, rfl⟩ hns hk ⟨g10, tk10, rfl⟩
      dsimp only at hC hk
      have N12o := N12k.1
      have hC9 : @LT.lt Nat _ h12.objs.size C := by
        rw [Heap.size_push, Heap.size_push] at hC; omega
      have k910 : ∀ c o, h12.get? c = some o → g10.get? c = some o := fun c o e => hk c o (fun q => by
        have e3 : @Eq Nat c (h12.push _).objs.size := List.mem_singleton.mp q
        rw [Heap.size_push] at e3
        have h5 : @LT.lt Nat _ c h12.objs.size := Heap.lt_size e
        omega) (Heap.get?_push_of_some _ (Heap.get?_push_of_some _ e))
      refine wpAny_assign_Name (wpAny_storeName_local (lookup_relabel_local (by rfl)) hns (fun g11 hn11 hs11 => ?_) (by rfl))
      refine testW_one ?_
      have F11 : Fr (rb g11 C [k1, k0]) C g11 _ := rb_fr hn11
      have k911 : ∀ c o, h12.get? c = some o → g11.get? c = some o := fun c o e => hs11.extBut c o (fun q => absurd (Heap.lt_size e) (by rw [q]; exact Nat.lt_asymm hC9)) (k910 _ _ e)
      have ltC : ∀ {c : Addr} {o : Obj}, h12.get? c = some o → @LT.lt Nat _ c C := fun e => Nat.lt_trans (Heap.lt_size e) hC9
      have ne0 : k1 ≠ C := Nat.ne_of_lt (ltC hl1')
      have ne1 : k0 ≠ C := Nat.ne_of_lt (ltC hl0')
      have N11b : News (rb g11 C [k1, k0]) C g11 [(k1, PySem.W.listOf (refs (st8.c k1)).toArray (st8.ck k1)), (k0, PySem.W.listOf (refs (st8.c k0)).toArray (st8.ck k0))] := by
        intro q hq
        rcases List.mem_cons.mp hq with rfl | hq
        · exact ⟨k911 _ _ hl1', ne0, rb_none (.inl (by simp))⟩
        · rcases List.mem_singleton.mp hq with rfl
          exact ⟨k911 _ _ hl0', ne1, rb_none (.inl (by simp))⟩
      have N11 := rest_news (ex := [C, k1, k0]) N11b (by simp)
      have T11 : Top0 w p loose mg mb (rb g11 C [k1, k0]) := T1.keeps fun c o e => rb_get (k911 _ _ (I12.hb _ _ e)) (ltC (I12.hb _ _ e)) (fun q => by
        rcases List.mem_cons.mp q with rfl | q
        · rw [I12.mb _ (.inr (.inr (.inr hk1)))] at e; cases e
        · rw [List.mem_singleton.mp q, I12.mb _ (.inr (.inr (.inr hk0)))] at e; cases e)
      have F11k := And.intro F11 True.intro
      have X11 := T11.X
      have TT11 := T11.T
      have hold : g11.IsCell (L + 1 + 1 : Nat) (some (.ref k1)) := ⟨_, k911 _ _ (N12o _ (.tail _ (.head _))).1, dNew⟩
      have hnew : g11.IsCell (L + 1 : Nat) (some (.ref k0)) := ⟨_, k911 _ _ (N12o _ (.tail _ (.tail _ (.head _)))).1, dOld9⟩
      clear N12r2
      refine wpAny_isTrue_Compare1 (MethodCall_ ?_)
      refine Subscript_ (ccell (by rfl) (by rfl) (by rfl) hold ?_)
      walk_at "MY steps"
      refine cname (by rfl) (by rfl) hn11 (by rfl) ?_
      walk_at "MY steps"
      refine slice_list (l := k1) (items := (refs (st8.c k1)).toArray) F11 N11 (N11.isList (.head _)) .none (.int _ _) ?_ (by with_unfolding_all rfl) (by intro _; with_unfolding_all rfl) (by have := sizeLine_eq; have := hlen k1 hk1; simp [refs]; omega)
      intro g12 F12 N12
      have hsl : slicePick (refs (st8.c k1)).toArray none (some (0 + (i : Int) * 1)) none = (refs ((st8.c k1).take i)).toArray := by
        rw [show (0 + (i : Int) * 1) = ((i : Nat) : Int) by omega, slicePick_upto']
        simp [refs, List.map_take]
      dsimp only at N12 ⊢
      rw [hsl] at N12
      have N12k := And.intro N12 True.intro
      have k1112 : Keep [C, k1, k0] g11 g12 := rest_keep F11k.1 F12 N12 (fun q hq => .tail _ (List.mem_append_right _ hq))
      have k112 : ∀ c o, c ≠ C → g11.get? c = some o → g12.get? c = some o := fun c o h1 e => by
        by_cases e0 : c = k1
        · subst e0; rw [(N11b _ (.head _)).1] at e; cases e; exact (N12 _ (.tail _ (.head _))).1
        by_cases e1 : c = k0
        · subst e1; rw [(N11b _ (.tail _ (.head _))).1] at e; cases e; exact (N12 _ (.tail _ (.tail _ (.head _)))).1
        · exact k1112 _ _ (by simp [h1, e0, e1]) e
      have kc : ∀ tk, KeepsC C { s with heap := g10, toks := tk10 } { s with heap := g12, toks := tk } := fun tk => ⟨g12, tk, rfl, fun c o hc e => k112 _ _ hc (hs11.extBut _ _ hc e), _, F12.ns⟩
      have hold12 : g12.IsCell (L + 1 + 1 : Nat) (some (.ref k1)) := by
        obtain ⟨o, e, d⟩ := hold; exact ⟨o, k112 _ _ (Nat.ne_of_lt (ltC (N12o _ (.tail _ (.head _))).1)) e, d⟩
      have hnew12 : g12.IsCell (L + 1 : Nat) (some (.ref k0)) := by
        obtain ⟨o, e, d⟩ := hnew; exact ⟨o, k112 _ _ (Nat.ne_of_lt (ltC (N12o _ (.tail _ (.tail _ (.head _)))).1)) e, d⟩
      have hget : (st8.c k1)[i]? = some ((st8.c k1).getD i (0, 0)) := by
        rw [List.getD_eq_getElem?_getD, List.getElem?_eq_getElem hi]; rfl
      have hitem : ((refs (st8.c k1)).toArray)[(0 + (i : Int) * 1).toNat]? = some (.ref ((st8.c k1).getD i (0, 0)).1) := by
        rw [show (0 + (i : Int) * 1).toNat = i by omega, List.getElem?_toArray]; unfold refs; rw [List.getElem?_map, hget]; rfl
      have hn0 : (0 : Int) ≤ 0 + (i : Int) * 1 := by omega
      have hn1 : (0 : Int) + (i : Int) * 1 < 2 ^ 63 := by have := hlen k1 hk1; omega
      walk_at "MY steps"
      refine ccell (by rfl) (by rfl) (by rfl) hold12 ?_
      refine cname (by rfl) (by rfl) F12.ns (by rfl) ?_
      refine tail_any (N12.isList (.tail _ (.head _))).typeIs slot_list_getitem.lookup (wpAny_getItem_list (N12.isList (.tail _ (.head _))) hn0 hn1 hitem ?_) (by with_unfolding_all rfl)
      walk_at "MY steps"
      have hmem : (st8.c k1).getD i (0, 0) ∈ st8.c k1 := List.mem_of_getElem? hget
      have thk : ∀ x ∈ st8.ls, ∀ q ∈ st8.c x, IsThing g12 q.1 q.2 := fun x hx q hq => (I12.th x hx q hq).1.keep fun o e => k112 _ _ (Nat.ne_of_lt (ltC e)) (k911 _ _ e)
      refine count_things (N12 _ (.head _)).1 (fun q hq => thk _ hk1 q (List.mem_of_mem_take hq)) (thk _ hk1 _ hmem) (by show A.units + 3 + 110 < _; omega) ?_
      walk_at "MY steps"
      refine ccell (by rfl) (by rfl) (by rfl) hnew12 ?_
      walk_at "MY steps"
      refine ccell (by rfl) (by rfl) (by rfl) hold12 ?_
      refine cname (by rfl) (by rfl) F12.ns (by rfl) ?_
      refine tail_any (N12.isList (.tail _ (.head _))).typeIs slot_list_getitem.lookup (wpAny_getItem_list (N12.isList (.tail _ (.head _))) hn0 hn1 hitem ?_) (by with_unfolding_all rfl)
      walk_at "MY steps"
      refine count_things (N12 _ (.tail _ (.tail _ (.head _)))).1 (thk _ hk0) (thk _ hk1 _ hmem) (by show A.units + 3 + 110 < _; omega) ?_
      walk_at "MY steps"
      · exact decide_eq_decide.mpr (by constructor <;> intro h <;> omega)
      · walk_at "MY steps"
        refine ccell (by rfl) (by rfl) (by rfl) hold12 ?_
        refine cname (by rfl) (by rfl) F12.ns (by rfl) ?_
        exact tail_any (N12k.1.isList (.tail _ (.head _))).typeIs slot_list_getitem.lookup (wpAny_getItem_list (N12k.1.isList (.tail _ (.head _))) hn0 hn1 hitem ⟨rfl, kc _⟩) (by with_unfolding_all rfl)
      · exact kc _
    case fin =>
      intro D3 h13 tk13 kD3 hD30 hlD3 hk13 hns13
      dsimp only at hD30 hk13
      have k1213 : ∀ c o, c ≠ L → h12.get? c = some o → h13.get? c = some o := fun c o hc e => hk13 c o hc (fun q => by
        have e3 : @Eq Nat c (h12.push _).objs.size := List.mem_singleton.mp q
        rw [Heap.size_push] at e3
        have h5 : @LT.lt Nat _ c h12.objs.size := Heap.lt_size e
        omega) (Heap.get?_push_of_some _ (Heap.get?_push_of_some _ e))
      have hD3 : h12.get? D3 = none := by
        cases q : h12.get? D3 with
        | none => rfl
        | some o => rw [Heap.get?_push_of_some _ (Heap.get?_push_of_some _ q)] at hD30; cases hD30
      have GL : G.get? L = none := I12.frb _ (by simp)
      have F13 : Fr G L h13 _ := ⟨hns13, fun c o e => k1213 c o (fun q => by rw [q, GL] at e; cases e) (I12.hb _ _ e), F12k.1.above⟩
      have F13k := And.intro F13 True.intro
      have I13 := I12.loc (ex := [L]) (h' := h13) (by simp) (fun c o hc e => k1213 c o (by simpa using hc) e) (fun x hx => by obtain ⟨o, _, _, e, _⟩ := F13.ns; rw [List.mem_singleton.mp hx]; exact ⟨_, e⟩)
      generalize hlf : ((List.range (st8.c k1).length).filter fun k => decide (((st8.c k1).take k).countP (fun q => q.2 = ((st8.c k1).getD k (0, 0)).2) ≥ (st8.c k0).countP (fun q => q.2 = ((st8.c k1).getD k (0, 0)).2))).map (fun k => ((st8.c k1).getD k (0, 0))) = lf
      have hl3 : h13.get? D3 = some (PySem.W.listOf (refs lf).toArray kD3) := by rw [hlD3, ← hlf]; simp [refs]
      have D3L : D3 ≠ L := fun q => by
        obtain ⟨o, _, _, e, _⟩ := F12k.1.ns
        rw [← q, hD3] at e; cases e
      have N13 : News G L h13 [(D3, PySem.W.listOf (refs lf).toArray kD3), (M, PySem.W.listOf (refs ms.reverse).toArray 0), ((L + 1 + 1 : Nat), oNew), ((L + 1 : Nat), oOldb)] := by
        intro q hq
        rcases List.mem_cons.mp hq with rfl | hq
        · refine ⟨hl3, D3L, ?_⟩
          cases q : G.get? D3 with
          | none => rfl
          | some o => rw [I12.hb _ _ q] at hD3; cases hD3
        · exact ⟨k1213 _ _ (N12k.1 q hq).2.1 (N12k.1 q hq).1, (N12k.1 q hq).2⟩
      have N13k := And.intro N13 True.intro
      have N13r := rest_news (ex := [L, D3, M, (L + 1 : Nat), (L + 1 + 1 : Nat)]) N13 (.head _)
      clear N12r2
      walk_at "MY steps"
      (rename News _ _ _ _ => N14r); (rename Fr _ _ _ _ => F14)
      have m0 : l0 ∈ st8.ls := (K8.grow.1 _ (K6.grow.1 _ (B4.grow.1 _ (B2.mem I1)).1).1).1
      have m1 : l1 ∈ st8.ls := (K8.grow.1 _ (K6.grow.1 _ (B4.mem I3)).1).1
      have frn : ∀ c ∈ fr, c ∉ [L, (L + 1 : Nat), (L + 1 + 1 : Nat)] := fun c hc hm => by
        obtain ⟨o, e⟩ := I.frh c hc
        have h5 : @LT.lt Nat _ c L := by rw [hL]; exact Heap.lt_size e
        simp only [List.mem_cons, List.not_mem_nil, or_false] at hm
        rcases hm with hm | hm | hm
        · exact Nat.lt_irrefl _ (hm ▸ h5)
        · have h6 : @Eq Nat c (L + 1) := hm
          omega
        · have h6 : @Eq Nat c (L + 1 + 1) := hm
          omega
      have sl1 : Slots fr s.heap h₁ := Slots.of_keep fun c _ o e => kp c o e
      have sub : ∀ {x y : Heap}, Slots ([L, L + 1, L + 2] ++ fr) x y → Slots fr x y := fun S => S.sub fun x hx => List.mem_append_right _ hx
      have kk : ∀ {x y : Heap} {ex : List Addr}, Keep ex x y → (∀ z ∈ ex, z ∈ [L, (L + 1 : Nat), (L + 1 + 1 : Nat)]) → Slots fr x y := fun k hex => Slots.of_keep fun c hc o e => k c o (fun q => frn c hc (hex _ q)) e
      have SS : Slots fr s.heap h13 := ((((((((((sl1.trans (sub S2)).trans (kk k3 (by simp))).trans (sub S4)).trans (kk k5 (by simp))).trans (sub S6)).trans (kk k7 (by simp))).trans (sub S8)).trans (kk k9 (by simp))).trans (Slots.of_keep fun c _ o e => k1011 _ _ (k910 _ _ e))).trans (kk k12 (by simp))).trans (kk (ex := [L]) (fun c o hc e => k1213 c o (by simpa using hc) e) (by simp))
      have Q4 : Four w b fr a s.heap st st2 st4 st6 st8 kind l0 l1 k0 k1 := ⟨I, Sy.agree kind, Sy.cf, ⟨_, B2⟩, ⟨_, B4⟩, ⟨_, K6⟩, ⟨_, K8⟩, B2.mem I1, B4.mem I3, K6.mem I5, K8.mem I7⟩
      obtain ⟨hne01, hne2, hne3, hne4, hne5, hne6⟩ := Q4.ne
      have hv := Q4.vals
      have hplain1 : (diff (st8.c l0).reverse (st8.c l1) []).1 = ms.reverse := by rw [hv.1, hv.2, plain1, ← hms]; rfl
      have hplain2 : (diff (st8.c l0).reverse (st8.c l1) []).2 = lf := by rw [hv.1, hv.2, plain2, ← hlf]
      have hmss : ∀ t ∈ ms.reverse, t ∈ st8.c l0 := by
        rw [← hplain1]
        intro t ht
        rcases (diff_sub _ _ _).1 t ht with q | q
        · exact List.mem_reverse.mp q
        · cases q
      have hlfs : ∀ t ∈ lf, t ∈ st8.c l1 := by
        rw [← hplain2]; exact (diff_sub _ _ _).2
      have hfrs : ∀ {env : Env} (c : Addr), env.frame = some L → c ∈ frs (env :: outer) → c ∈ [L, (L + 1 : Nat), (L + 2 : Nat)] ++ fr := fun c hf hc => by
        rcases frs_cons hf hc with rfl | hc
        · exact .head _
        · exact List.mem_append_right _ (hfo _ hc)
      have mu : ∀ {x : Addr}, x ∈ st8.ls → isMut a st8 x := fun hx => .inr (.inr (.inr hx))
      have imf : ∀ {x : Addr}, x ∈ st8.ls → ∀ q ∈ st8.c x, q.1 ∉ [L, (L + 1 : Nat), (L + 2 : Nat)] ++ fr := fun hx q hq => (I13.im _ (I13.th _ hx q hq).2).2.1
      refine wpAny_call (uld_call T1 I13.hb (stack_in S F13k.1.ns (by rfl) (by rfl) SS hfo) (fun c hc => I13.frb _ (hfrs c rfl hc)) (I13.ls _ m0) (I13.mb _ (mu m0)) (fun q => I13.mf _ (mu m0) (hfrs _ rfl q)) (I13.ls _ m1) (I13.mb _ (mu m1)) (fun q => I13.mf _ (mu m1) (hfrs _ rfl q)) hne01 (fun q hq => (I13.th _ m0 q hq).1) (fun q hq => (I13.th _ m1 q hq).1) (by have := hlen l0 m0; omega) (by have := hlen l1 m1; omega) (by show A.depth + 1 + 3 < _; omega) (by show A.units + 3 + 200 < _; omega) (fun q hq hf => by
        rcases List.mem_append.mp hq with hq | hq
        · exact imf m0 q hq (hfrs _ rfl hf)
        · exact imf m1 q hq (hfrs _ rfl hf)) hh ?_)
      intro h15 tk15 t15 m15 q1 q2 q3 q4 S15 hm15 ht15 hmt hx15 hy15 hmm15 htt15
      rw [hplain2] at hy15
      rw [hplain1] at hmm15
      have S15' := steps_mono S15 (fun x hx => hfrs x rfl hx) (fun x hx q => by
        rcases List.mem_cons.mp hx with rfl | hx
        · exact I13.mf _ (mu m0) q
        · rw [List.mem_singleton.mp hx] at q; exact I13.mf _ (mu m1) q)
      have I15 := setC_inv I13 (c := updC (updC st8.c l0 []) l1 lf) (ck := updC (updC st8.ck l0 q1) l1 q2) S15' (fun x hx => by
        rcases List.mem_cons.mp hx with rfl | hx
        · exact m0
        · rw [List.mem_singleton.mp hx]; exact m1) (fun x hx => by
        by_cases e1 : x = l1
        · subst e1
          refine .inr ⟨by simpa [updC] using hy15, fun t ht => ?_⟩
          rw [updC_same] at ht
          have := hlfs t ht
          exact ⟨(I13.th _ m1 t this).2, (I13.th _ m1 t this).1⟩
        · by_cases e0 : x = l0
          · subst e0
            refine .inr ⟨by simpa [updC, e1, refs] using hx15, fun t ht => ?_⟩
            rw [updC_other e1, updC_same] at ht; cases ht
          · exact .inl ⟨by simp [updC, e0, e1], by simp [updC, e0, e1], by simp [e0, e1]⟩)
      have F15 := fr_next F13k.1 I15 hL0 S15'.slots
      have F15k := And.intro F15 True.intro
      have hne : ∀ c, h13.get? c = none → G.get? c = none ∧ c ≠ L := fun c e => by
        refine ⟨?_, fun q => ?_⟩
        · cases q : G.get? c with
          | none => rfl
          | some o => rw [I13.hb _ _ q] at e; cases e
        · obtain ⟨o, _, _, e2, _⟩ := F13k.1.ns
          rw [← q, e] at e2; cases e2
      have nml : ∀ c, c ∉ st8.ls → c ∉ [l0, l1] := fun c hc hm => by
        rcases List.mem_cons.mp hm with rfl | hm
        · exact hc m0
        · rw [List.mem_singleton.mp hm] at hc; exact hc m1
      have hD3ls : D3 ∉ st8.ls := (I12.fresh hD3).1
      have hMls : M ∉ st8.ls := (I10.fresh hM0).1
      have hD3fr : D3 ∉ [L, (L + 1 : Nat), (L + 2 : Nat)] ++ fr := (I12.fresh hD3).2.2.2.2.2
      have hMfr : M ∉ [L, (L + 1 : Nat), (L + 2 : Nat)] ++ fr := (I10.fresh hM0).2.2.2.2.2
      obtain ⟨sx, ex1⟩ := S15'.slots (L + 1 + 1 : Nat) (by simp) _ (N13k.1 _ (.tail _ (.tail _ (.head _)))).1
      obtain ⟨sy, ey1⟩ := S15'.slots (L + 1 : Nat) (by simp) _ (N13k.1 _ (.tail _ (.tail _ (.tail _ (.head _))))).1
      have N15 : News G L h15 [(t15, { cls := .type "tuple", data := .seq #[.ref m15, .ref l1] q4 }), (m15, PySem.W.listOf (refs ms.reverse).toArray q3), (D3, PySem.W.listOf (refs lf).toArray kD3), (M, PySem.W.listOf (refs ms.reverse).toArray 0), ((L + 1 + 1 : Nat), { oNew with slots := sx }), ((L + 1 : Nat), { oOldb with slots := sy })] := by
        intro q hq
        simp only [List.mem_cons, List.not_mem_nil, or_false] at hq
        rcases hq with rfl | rfl | rfl | rfl | rfl | rfl
        · exact ⟨htt15, (hne _ ht15).2, (hne _ ht15).1⟩
        · exact ⟨hmm15, (hne _ hm15).2, (hne _ hm15).1⟩
        · exact ⟨S15'.keep _ _ (nml _ hD3ls) hD3fr hl3, (N13k.1 (D3, _) (.head _)).2⟩
        · exact ⟨S15'.keep _ _ (nml _ hMls) hMfr (N13k.1 _ (.tail _ (.head _))).1, (N13k.1 (M, _) (.tail _ (.head _))).2⟩
        · exact ⟨ex1, (N13k.1 _ (.tail _ (.tail _ (.head _)))).2⟩
        · exact ⟨ey1, (N13k.1 _ (.tail _ (.tail _ (.tail _ (.head _))))).2⟩
      have N15k := And.intro N15 True.intro
      have N15r := rest_news (ex := [L, t15, m15, D3, M, (L + 1 : Nat), (L + 1 + 1 : Nat)]) N15 (.head _)
      dsimp only
      walk_at "MY steps"
      (rename News _ _ _ _ => N16r); (rename Fr _ _ _ _ => F16)
      rename_i h16
      have F16k := And.intro F16 True.intro
      have k16 := segK F15k.1 F16 N16r (fun q hq => (N15k.1 q hq).1) (exT (mem6 (.head _) (.tail _ (.head _)) (.tail _ (.tail _ (.head _))) (.tail _ (.tail _ (.tail _ (.head _)))) (.tail _ (.tail _ (.tail _ (.tail _ (.tail _ (.head _)))))) (.tail _ (.tail _ (.tail _ (.tail _ (.head _)))))))
      have I16 := I15.loc (ex := [L]) sx3 k16 (fun x hx => by obtain ⟨o, _, _, e, _⟩ := F16.ns; rw [List.mem_singleton.mp hx]; exact ⟨_, e⟩)
      have N16 := fun q hq => N16r q (List.mem_append_left _ hq)
      refine call_type_obj (h := h16) (N16 _ (.head _)).1 (by rfl) ?_
      walk_at "MY steps"
      (rename News _ _ _ _ => N17r); (rename Fr _ _ _ _ => F17)
      have nl15 : ∀ x ∈ st8.ls, x ∉ [L, t15, m15, D3, M, (L + 1 : Nat), (L + 1 + 1 : Nat)] := fun x hx q => by
        simp only [List.mem_cons, List.not_mem_nil, or_false] at q
        have h1 := I13.ls _ hx
        have h2 := I12.ls _ hx
        have h3 := I10.ls _ hx
        rcases q with rfl | rfl | rfl | rfl | rfl | rfl | rfl
        · exact I13.mf _ (mu hx) (by simp)
        · rw [ht15] at h1; cases h1
        · rw [hm15] at h1; cases h1
        · exact hD3ls hx
        · exact hMls hx
        · exact I13.mf _ (mu hx) (by simp)
        · exact I13.mf _ (mu hx) (by simp)
      have r0 : (l0, PySem.W.listOf #[] q1) ∈ rest G h15 [L, t15, m15, D3, M, (L + 1 : Nat), (L + 1 + 1 : Nat)] := mem_rest.mpr ⟨nl15 _ m0, I13.mb _ (mu m0), hx15⟩
      refine RcNeAt.lists (items := #[]) (items2 := #[]) (e := fun _ => true) (N17r.isList (.tail _ (List.mem_append_right _ r0))) (N17r.isList (.head _)) rfl (by show A.units + 3 < _; omega) (by intro j h1 h2; simp at h2) _ _ _ _ ?_
      walk_at "MY steps"
      (rename News _ _ _ _ => N18r); (rename Fr _ _ _ _ => F18)
      have N18k := And.intro N18r True.intro
      have F18k := And.intro F18 True.intro
      have tup18 := (N18r.get (.tail _ (.head _)))
      refine item_tupleT (l := [.ref m15, .ref l1]) (j := 1) (x := .ref l1) ⟨_, tup18, rfl, _, rfl⟩ (by decide) (by decide) (by rfl) (by rfl) ?_
      walk_at "MY steps"
      refine item_tupleT (l := [.ref m15, .ref l1]) (j := 0) (x := .ref m15) ⟨_, tup18, rfl, _, rfl⟩ (by decide) (by decide) (by rfl) (by rfl) ?_
      walk_at "MY steps"
      obtain ⟨I18, N18, k18⟩ := segN (ex := [L, t15, m15, D3, M, (L + 1 : Nat), (L + 1 + 1 : Nat)]) F15k.1 F18k.1 (fun q hq => N18k.1 q (.tail _ hq)) N15k.1 I15 (exT (mem6 (.head _) (.tail _ (.head _)) (.tail _ (.tail _ (.head _))) (.tail _ (.tail _ (.tail _ (.head _)))) (.tail _ (.tail _ (.tail _ (.tail _ (.tail _ (.head _)))))) (.tail _ (.tail _ (.tail _ (.tail _ (.head _))))))) (by simp)
      have hlm0 : ms.reverse.length ≤ (st8.c k0).length := by
        rw [List.length_reverse, ← hms, List.length_map]
        have := List.length_filter_le (fun k => decide (((st8.c k0).drop (k + 1)).countP (fun q => q.2 = ((st8.c k0).getD k (0, 0)).2) ≥ (st8.c k1).countP (fun q => q.2 = ((st8.c k0).getD k (0, 0)).2))) (List.range (st8.c k0).length)
        rw [List.length_range] at this
        omega
      have hlm : ms.reverse.length < 300000 := by have := hlen k0 hk0; omega
      refine wpAny_call (same_call T1 I18.hb (N18 (m15, PySem.W.listOf (refs ms.reverse).toArray q3) (.tail _ (.head _))).1 (N18 (M, PySem.W.listOf (refs ms.reverse).toArray 0) (.tail _ (.tail _ (.tail _ (.head _))))).1 (by omega) (by show A.depth + 1 + 3 < _; omega) (by show A.units + 3 + 200 < _; omega) hh ?_)
      intro h19 tk19 k19
      have F19 := F18k.1.keeps fun c o e => k19 c o (by simp) e
      have I19 := I18.same k19
      have N19 := news_keep0 N18 k19
      have F19k := And.intro F19 True.intro
      have N19r := rest_news (ex := [L]) N19 (.head _)
      dsimp only
      clear N18r
      walk_at "MY steps"
      (rename News _ _ _ _ => N20r); (rename Fr _ _ _ _ => F20)
      have F20k := And.intro F20 True.intro
      obtain ⟨I20, N20, k20⟩ := segN F19k.1 F20 N20r N19 I19 exL hL0
      have hL20 := I20.ls l1 m1
      rw [show (setC st8 (updC (updC st8.c l0 []) l1 lf) (updC (updC st8.ck l0 q1) l1 q2)).c l1 = lf from updC_same] at hL20
      have hlf0 : lf.length ≤ (st8.c k1).length := by
        rw [← hlf, List.length_map]
        have := List.length_filter_le (fun k => decide (((st8.c k1).take k).countP (fun q => q.2 = ((st8.c k1).getD k (0, 0)).2) ≥ (st8.c k0).countP (fun q => q.2 = ((st8.c k1).getD k (0, 0)).2))) (List.range (st8.c k1).length)
        rw [List.length_range] at this
        omega
      have hlf3 : lf.length < 300000 := by have := hlen k1 hk1; omega
      refine wpAny_call (same_call T1 I20.hb hL20 (N20 (D3, PySem.W.listOf (refs lf).toArray kD3) (.tail _ (.tail _ (.head _)))).1 (by omega) (by show A.depth + 1 + 3 < _; omega) (by show A.units + 3 + 200 < _; omega) hh ?_)
      intro h21 tk21 k21
      have F21 := F20k.1.keeps fun c o e => k21 c o (by simp) e
      have I21 := I20.same k21
      have N21 := news_keep0 N20 k21
      have F21k := And.intro F21 True.intro
      have N21x := news_ls (news_ls (news_ls N21 I21 hL0 hk1) I21 (by simp) hk0) I21 (by simp) m1
      have N21r := rest_news (ex := [L]) N21x (.head _)
      dsimp only
      clear N20r
      walk_at "MY steps"
      (rename News _ _ _ _ => N22r); (rename Fr _ _ _ _ => F22)
      refine item_tupleT (l := [.ref m15, .ref l1]) (j := 0) (x := .ref m15) ⟨_, (N22r _ (.tail _ (.tail _ (.tail _ (.head _))))).1, rfl, _, rfl⟩ (by decide) (by decide) (by rfl) (by rfl) ?_
      walk_at "MY steps"
      (rename News _ _ _ _ => N23r); (rename Fr _ _ _ _ => F23)
      have F23k := And.intro F23 True.intro
      obtain ⟨I23, N23x, k23⟩ := segN F21k.1 F23 N23r N21x I21 exL hL0
      have N23 := fun q hq => N23x q (.tail _ (.tail _ (.tail _ hq)))
      have e15k0 : (updC (updC st8.c l0 []) l1 lf) k0 = st8.c k0 := by rw [updC_other (Ne.symm hne4), updC_other (Ne.symm hne2)]
      have e15k1 : (updC (updC st8.c l0 []) l1 lf) k1 = st8.c k1 := by rw [updC_other (Ne.symm hne5), updC_other (Ne.symm hne3)]
      have hL23 := I23.ls l1 m1
      rw [show (setC st8 (updC (updC st8.c l0 []) l1 lf) (updC (updC st8.ck l0 q1) l1 q2)).c l1 = lf from updC_same] at hL23
      have nn15 : ∀ x ∈ st8.ls, ∀ q ∈ ([(t15, { cls := .type "tuple", data := .seq #[.ref m15, .ref l1] q4 }), (m15, PySem.W.listOf (refs ms.reverse).toArray q3), (D3, PySem.W.listOf (refs lf).toArray kD3), (M, PySem.W.listOf (refs ms.reverse).toArray 0), ((L + 1 + 1 : Nat), { oNew with slots := sx }), ((L + 1 : Nat), { oOldb with slots := sy })] : List (Addr × Obj)), q.1 ≠ x := fun x hx q hq e => by
        apply nl15 x hx
        simp only [List.mem_cons, List.not_mem_nil, or_false] at hq ⊢
        rcases hq with rfl | rfl | rfl | rfl | rfl | rfl <;> simp [← e]
      refine ext_list hL23 (N23 (m15, PySem.W.listOf (refs ms.reverse).toArray q3) (.tail _ (.head _))).1 (by omega) ?_
      intro h24 k24 kp24 e24
      obtain ⟨F24, I24, N24, S24⟩ := mutStep F23k.1 I23 N23 m1 hL0 (nn15 _ m1) kp24 e24 (fun t ht => by
        rcases List.mem_append.mp ht with q | q
        · have := I23.th l1 m1 t (by show t ∈ (updC (updC st8.c l0 []) l1 lf) l1; rw [updC_same]; exact q)
          exact ⟨this.2, this.1⟩
        · have := I23.th k0 hk0 t (by show t ∈ (updC (updC st8.c l0 []) l1 lf) k0; rw [e15k0, ← hv.1]; exact hmss _ q)
          exact ⟨this.2, this.1⟩)
      have N24x := news_ls (news_ls (news_ls N24 I24 hL0 hk1) I24 (by simp) hk0) I24 (by simp) m1
      have F24k := And.intro F24 True.intro
      have N24r := rest_news (ex := [L]) N24x (.head _)
      dsimp only
      clear N23r
      walk_at "MY steps"
      (rename News _ _ _ _ => N25r); (rename Fr _ _ _ _ => F25)
      have F25k := And.intro F25 True.intro
      obtain ⟨I25, N25x, k25⟩ := segN F24k.1 F25 N25r N24x I24 exL hL0
      have N25 := fun q hq => N25x q (.tail _ (.tail _ (.tail _ hq)))
      refine clr_list (I25.ls k0 hk0) (by
        show (updC (updC (updC st8.c l0 []) l1 lf) l1 (lf ++ ms.reverse) k0).length < _
        rw [updC_other (Ne.symm hne4), e15k0]
        have := hlen k0 hk0; omega) ?_
      intro h26 k26 kp26 e26
      obtain ⟨F26, I26, N26, S26⟩ := mutStep F25k.1 I25 N25 hk0 hL0 (nn15 _ hk0) kp26 e26 (fun t ht => nomatch ht)
      have N26x := news_ls (news_ls (news_ls N26 I26 hL0 hk1) I26 (by simp) hk0) I26 (by simp) m1
      have F26k := And.intro F26 True.intro
      have N26r := rest_news (ex := [L]) N26x (.head _)
      dsimp only
      clear N25r
      walk_at "MY steps"
      (rename News _ _ _ _ => N27r); (rename Fr _ _ _ _ => F27)
      have F27k := And.intro F27 True.intro
      obtain ⟨I27, N27x, k27⟩ := segN F26k.1 F27 N27r N26x I26 exL hL0
      have N27 := fun q hq => N27x q (.tail _ (.tail _ (.tail _ hq)))
      refine clr_list (I27.ls k1 hk1) (by
        show (updC (updC (updC (updC st8.c l0 []) l1 lf) l1 (lf ++ ms.reverse)) k0 [] k1).length < _
        rw [updC_other (Ne.symm hne6), updC_other (Ne.symm hne5), e15k1]
        have := hlen k1 hk1; omega) ?_
      intro h28 k28 kp28 e28
      obtain ⟨F28, I28, N28, S28⟩ := mutStep F27k.1 I27 N27 hk1 hL0 (nn15 _ hk1) kp28 e28 (fun t ht => nomatch ht)
      have N28x := news_ls (news_ls (news_ls N28 I28 hL0 hk1) I28 (by simp) hk0) I28 (by simp) m1
      have F28k := And.intro F28 True.intro
      have N28r := rest_news (ex := [L]) N28x (.head _)
      dsimp only
      clear N27r
      walk_at "MY steps"
      (rename News _ _ _ _ => N29r); (rename Fr _ _ _ _ => F29)
      refine add_arrays F29 N29r (N29r.isList (.tail _ (.tail _ (.tail _ (.tail _ (.tail _ (.head _))))))) (N29r.isList (.tail _ (.tail _ (.tail _ (.tail _ (.tail _ (.tail _ (.head _)))))))) ?_ (by have := sizeLine_eq; simp [refs]; rw [List.length_reverse] at hlm; omega)
      intro h30 F30 N30r
      clear N29r
      walk_at "MY steps"
      (rename News _ _ _ _ => N31r); (rename Fr _ _ _ _ => F31)
      have F31k := And.intro F31 True.intro
      obtain ⟨I31, N31x, k31⟩ := segN F28k.1 F31 (fun q hq => N31r q (.tail _ hq)) N28x I28 exL hL0
      have N31 := fun q hq => N31x q (.tail _ (.tail _ (.tail _ hq)))
      have hL31 := ls_same I31 hk1
      refine ext_list hL31 (ys := lf ++ ms.reverse) (k2 := 0) (by rw [(N31r _ (.head _)).1]; simp [refs]) (by rw [List.length_append]; simp only [List.length_nil]; omega) ?_
      intro h32 k32 kp32 e32
      obtain ⟨F32, I32, N32, S32⟩ := mutStep F31k.1 I31 N31 hk1 hL0 (nn15 _ hk1) kp32 e32 (fun t ht => by
        rw [List.nil_append] at ht
        have := I31.th l1 m1 t (by
          show t ∈ updC (updC (updC (updC (updC st8.c l0 []) l1 lf) l1 (lf ++ ms.reverse)) k0 []) k1 [] l1
          rw [updC_other hne5, updC_other hne4, updC_same]; exact ht)
        exact ⟨this.2, this.1⟩)
      have SA : Slots fr s.heap h32 := (((((((((((SS.trans (sub S15'.slots)).trans (kk k18 (by simp))).trans (Slots.of_keep fun c _ o e => k19 c o (by simp) e)).trans (kk k20 (by simp))).trans (Slots.of_keep fun c _ o e => k21 c o (by simp) e)).trans (kk k23 (by simp))).trans (sub S24)).trans (kk k25 (by simp))).trans (sub S26)).trans ((kk k27 (by simp)).trans (sub S28))).trans (kk k31 (by simp))).trans (sub S32)
      have I32' := I.down bG I32
      dsimp only
      walk_at "MY steps"
      refine hQ _ _ _ (Q4.sync Sy ?_ ?_ ?_ ?_) I32' SA
      · show updC (updC (updC (updC (updC (updC st8.c l0 []) l1 lf) l1 (lf ++ ms.reverse)) k0 []) k1 []) k1 ([] ++ (lf ++ ms.reverse)) l0 = updC (updC (updC (updC (updC (updC st8.c l0 []) l1 lf) l1 (lf ++ ms.reverse)) k0 []) k1 []) k1 ([] ++ (lf ++ ms.reverse)) k0
        rw [updC_other hne3, updC_other hne3, updC_other hne2, updC_other hne01, updC_other hne01, updC_same, updC_other hne6, updC_other hne6, updC_same]
      · show updC (updC (updC (updC (updC (updC st8.c l0 []) l1 lf) l1 (lf ++ ms.reverse)) k0 []) k1 []) k1 ([] ++ (lf ++ ms.reverse)) l1 = updC (updC (updC (updC (updC (updC st8.c l0 []) l1 lf) l1 (lf ++ ms.reverse)) k0 []) k1 []) k1 ([] ++ (lf ++ ms.reverse)) k1
        rw [updC_other hne5, updC_other hne5, updC_other hne4, updC_same, updC_same, List.nil_append]
      · intro x x1 x2 x3 x4
        show updC (updC (updC (updC (updC (updC st8.c l0 []) l1 lf) l1 (lf ++ ms.reverse)) k0 []) k1 []) k1 ([] ++ (lf ++ ms.reverse)) x = _
        rw [updC_other x4, updC_other x4, updC_other x3, updC_other x2, updC_other x2, updC_other x1]
      · intro x hx
        show (updC (updC (updC (updC (updC (updC st8.c l0 []) l1 lf) l1 (lf ++ ms.reverse)) k0 []) k1 []) k1 ([] ++ (lf ++ ms.reverse)) x).length ≤ _
        have gm : ∀ {s1 s2 : St}, (∀ x ∈ s1.ls, (s1.c x).length ≤ mm) → (∀ x ∈ s1.ls, x ∈ s2.ls ∧ (s2.c x = s1.c x)) ∧ (∀ x ∈ s2.ls, x ∈ s1.ls ∨ s2.c x = []) → ∀ x ∈ s2.ls, (s2.c x).length ≤ mm := by
          intro s1 s2 h1 ⟨g1, g2⟩ x hx
          rcases g2 x hx with q | q
          · rw [(g1 x q).2]; exact h1 x q
          · rw [q]; simp
        have hm8 : ∀ x ∈ st8.ls, (st8.c x).length ≤ mm := gm (gm (gm (gm Sy.ct B2.grow) B4.grow) K6.grow) K8.grow
        have a0 := hm8 k0 hk0
        have a1 := hm8 k1 hk1
        have ax := hm8 x hx
        by_cases x4 : x = k1
        · rw [x4, updC_same, List.nil_append, List.length_append]; omega
        rw [updC_other x4, updC_other x4]
        by_cases x3 : x = k0
        · rw [x3, updC_same]; simp
        rw [updC_other x3]
        by_cases x2 : x = l1
        · rw [x2, updC_same, List.length_append]; omega
        rw [updC_other x2, updC_other x2]
        by_cases x1 : x = l0
        · rw [x1, updC_same]; simp
        rw [updC_other x1]; omega
end Mine
end
section
local macro_rules | `(tactic| walk_at "MY steps") => `(tactic| repeat' ((fail_if_success (with_reducible (first | refine Mine.sp0 ?_ | refine Mine.sp8 ?_ | refine Mine.sp15 ?_ | refine Mine.sp16 ?_ | refine Mine.sp17 ?_ | refine Mine.sp18 ?_ | refine Mine.sp10 ?_ | refine Mine.sp14 ?_ | refine Mine.sp9 ?_ | refine Mine.sp13 ?_ | refine Mine.sp4 ?_ | refine Mine.sp1 ?_ | refine Mine.sp5 ?_))); (walk_at "MY b0")))
section
open PySem PySem.W PySem.Calls PyProof.Rows PySem.SeqAt
set_option linter.unusedVariables false
set_option maxRecDepth 100000
set_option maxHeartbeats 8000000
namespace Mine
noncomputable def DMap (u v : Option Value) (lb lk cd lr : Addr) (x kd : Value) : PySem.Str → Option Value := fun z => if z = PySem.Str.ofString "thing" then u else if z = PySem.Str.ofString "side" then v else if z = PySem.Str.ofString "kind" then some kd else if z = PySem.Str.ofString "x" then some x else if z = PySem.Str.ofString "runs" then some (.ref lr) else if z = PySem.Str.ofString "cold" then some (.ref cd) else if z = PySem.Str.ofString "kept" then some (.ref lk) else if z = PySem.Str.ofString "books" then some (.ref lb) else none
theorem DMap_start {lb lk cd lr : Addr} {x kd : Value} (z : PySem.Str) : (if z = PySem.Str.ofString "kind" then some kd else List.lookup z [(PySem.Str.ofString "x", x), (PySem.Str.ofString "runs", Value.ref lr), (PySem.Str.ofString "cold", Value.ref cd), (PySem.Str.ofString "kept", Value.ref lk), (PySem.Str.ofString "books", Value.ref lb)]) = DMap none none lb lk cd lr x kd z := by
  unfold DMap
  by_cases h1 : z = PySem.Str.ofString "thing"
  · subst h1; rfl
  by_cases h2 : z = PySem.Str.ofString "side"
  · subst h2; rfl
  by_cases h3 : z = PySem.Str.ofString "kind"
  · subst h3; rfl
  by_cases h4 : z = PySem.Str.ofString "x"
  · subst h4; rfl
  by_cases h5 : z = PySem.Str.ofString "runs"
  · subst h5; rfl
  by_cases h6 : z = PySem.Str.ofString "cold"
  · subst h6; rfl
  by_cases h7 : z = PySem.Str.ofString "kept"
  · subst h7; rfl
  by_cases h8 : z = PySem.Str.ofString "books"
  · subst h8; rfl
  simp [List.lookup_cons, h1, h2, h3, h4, h5, h6, h7, h8, beq_eq_false_iff_ne.mpr h4, beq_eq_false_iff_ne.mpr h5, beq_eq_false_iff_ne.mpr h6, beq_eq_false_iff_ne.mpr h7, beq_eq_false_iff_ne.mpr h8]
theorem DMap_side {u v : Option Value} {lb lk cd lr : Addr} {x kd a : Value} (z : PySem.Str) : (if z = PySem.Str.ofString "side" then some a else DMap u v lb lk cd lr x kd z) = DMap u (some a) lb lk cd lr x kd z := by
  unfold DMap
  by_cases h1 : z = PySem.Str.ofString "thing"
  · subst h1; rfl
  by_cases h2 : z = PySem.Str.ofString "side"
  · subst h2; rfl
  simp only [if_neg h1, if_neg h2]
theorem DMap_thing {u v : Option Value} {lb lk cd lr : Addr} {x kd a : Value} (z : PySem.Str) : (if z = PySem.Str.ofString "thing" then some a else DMap u v lb lk cd lr x kd z) = DMap (some a) v lb lk cd lr x kd z := by
  unfold DMap
  by_cases h1 : z = PySem.Str.ofString "thing"
  · rw [if_pos h1, if_pos h1]
  simp only [if_neg h1]
noncomputable def LInv (w : World) (G : Heap) (fr fr0 : List Addr) (a : Ad) (s : Shared) (h0 : Heap) (it D' L : Addr) (t0 t1 : Tok) (M : Option Value → Option Value → PySem.Str → Option Value) (nn mm : Nat) (n : Nat) (s' : Shared) : Prop :=
  ∃ h tk i st u v, s' = { s with heap := h, toks := tk } ∧ n = 3 - i ∧ i ≤ 2 ∧ h.IsTupleIter it D' i ∧ h.IsTuple D' #[.int 0 t0, .int 1 t1] ∧ h.Ns L (M u v) ∧ Inv w G fr a h st ∧ Sync st (nn + i) (mm + i) ∧ Slots fr0 h0 h
theorem deed_call : ∀ {w : World} {A : Around} {s : Shared} {R : Result → Shared → Prop} {p loose mg mb} {mean : ExcName → Option Value} {b : Heap} {fr : List Addr} {a : Ad} {st : St} {x : Int} {tx : Tok} {lb lk lr : Addr} {outer : List Env} {nn mm : Nat}
    (T : Top0 w p loose mg mb b) (TF : Top p loose mean mg mb b) (I : Inv w b fr a s.heap st) (O : Outer b a lb lk lr) (S : Stack A outer s.heap) (hfo : ∀ c ∈ frs outer, c ∈ fr)
    (hroom : A.depth + 100 < recursionLimit) (hu : A.units + 950 < cLine)
    (hh : A.handled = none) (Sy : Sync st nn mm) (hnn : nn < 890) (hmm : mm < 300000) (h2 : 2 ≤ mm)
    (hQ : ∀ h' tk' st', Sync st' (nn + 2) (2 * mm) → Inv w b fr a h' st' → Slots fr s.heap h' → R (.ok (.ret (.bool true))) { s with heap := h', toks := tk' }),
    codeAny (model PG w) A (.call (.ref 100) ⟨[.ref lb, .ref lk, .ref a.cd, .ref lr, .int x tx], []⟩) R s := by
  intro w A s R p loose mg mb mean b fr a st x tx lb lk lr outer nn mm T TF I O S hfo hroom hu hh Sy hnn hmm h2 hQ
  refine' call_hide' [] T I.hb ?hμ ?hroom ?ho ?hcd ?hbind ?hloc ?hcell ?hco ?hgen ?hk ?_
  case ho => k_is
  case hcd => k_is
  case hbind => exact BindsTo.of_eq rfl
  case hloc => exact locs rfl
  case hcell => decide
  case hμ => intro q hq; cases hq
  case hroom => omega
  case hco => rfl
  case hgen => rfl
  case hk => rfl
  intro g L h₁ tk0 hg hL Tg Fg Ng
  have kp : ∀ c o, s.heap.get? c = some o → h₁.get? c = some o := fun c o e => keep_of hg Fg (by simp) e
  have frh : ∀ x ∈ [(L : Addr)], @LE.le Nat _ L x ∧ ∃ o, h₁.get? x = some o := by
    intro x hx
    rw [List.mem_singleton.mp hx]
    obtain ⟨o, _, _, e, _⟩ := Fg.ns; exact ⟨Nat.le_refl _, _, e⟩
  have I1 := I.up hL kp [L] frh
  have bG := I.base_sub hL kp
  have T1 : Top0 w p loose mg mb (baseG a st fr h₁ L) := T.keeps bG
  have TF1 := TF.keeps bG
  have F1 : Fr (baseG a st fr h₁ L) L h₁ _ := rb_fr Fg.ns
  have F1k := And.intro F1 True.intro
  generalize baseG a st fr h₁ L = G at *
  have OG : Outer G a lb lk lr := ⟨O.lb.at fun o e => bG _ _ e, O.lk.at fun o e => bG _ _ e, O.lr.at fun o e => bG _ _ e⟩
  have X1 := T1.X
  have TT1 := T1.T
  have N0 : News G L h₁ [] := fun q hq => nomatch hq
  have N1 := news_cd N0 I1 (by simp)
  have N1k := And.intro N1 True.intro
  have sl1 : Slots fr s.heap h₁ := Slots.of_keep fun c _ o e => kp c o e
  have frn : ∀ c ∈ fr, c ≠ L := fun c hc hm => by
    obtain ⟨o, e⟩ := I.frh c hc
    have h5 : @LT.lt Nat _ c L := by rw [hL]; exact Heap.lt_size e
    exact Nat.lt_irrefl _ (hm ▸ h5)
  have kk : ∀ {x y : Heap}, Keep [L] x y → Slots fr x y := fun k => Slots.of_keep fun c hc o e => k c o (by simpa using frn c hc) e
  have sub : ∀ {x y : Heap}, Slots ([L] ++ fr) x y → Slots fr x y := fun S => S.sub fun x hx => List.mem_append_right _ hx
  have hfrs : ∀ {env : Env} (c : Addr), env.frame = some L → c ∈ frs (env :: outer) → c ∈ [L] ++ fr := fun c hf hc => by
    rcases frs_cons hf hc with rfl | hc
    · exact .head _
    · exact List.mem_append_right _ (hfo _ hc)
  clear Fg Ng Tg
  have N1r := rest_news (ex := [L]) N1 (by simp)
  have m0 : 0 ≤ x.fmod 6 := Int.fmod_nonneg_of_pos x (by decide)
  have m1 : x.fmod 6 < 6 := Int.fmod_lt_of_pos x (by decide)
  walk_at "MY steps"
  · (rename News _ _ _ _ => N2r); (rename Fr _ _ _ _ => F2)
    have F2k := And.intro F2 True.intro
    obtain ⟨I2, N2, k2⟩ := segN F1k.1 F2 N2r N1k.1 I1 exL (by simp)
    refine wpAny_call (differ_call T1 I2 OG (stack_in S F2k.1.ns (by rfl) (by rfl) (sl1.trans (kk k2)) hfo) (fun c hc => hfrs c (by rfl) hc) (by show A.depth + 1 + 90 < _; omega) (by show A.units + 3 + 900 < _; omega) hh Sy (by omega) hmm ?_)
    intro h3 tk3 st3 Sy3 I3 S3
    exact hQ _ _ st3 (Sy3.mono (by omega) (by omega)) (I.down bG I3) ((sl1.trans (kk k2)).trans (sub S3))
  · (rename News _ _ _ _ => N2r); (rename Fr _ _ _ _ => F2)
    have F2k := And.intro F2 True.intro
    obtain ⟨I2, N2, k2⟩ := segN F1k.1 F2 N2r N1k.1 I1 exL (by simp)
    obtain ⟨j, hj⟩ := sd_ex (r := x.fmod 6 - 4) (by omega) (by omega)
    refine app_val I2.cdv (by have := Sy.cl; omega) ?_
    intro h3 k3 e3
    have I3 := coldS_inv I2 k3 e3
    have S3 := I2.steps k3 (fun z hz => by rw [List.mem_singleton.mp hz]; exact .inr (.inl rfl))
    have F3 := fr_next F2k.1 I3 (by simp) S3.slots
    have F3k := And.intro F3 True.intro
    have N3 : News G L h3 [] := fun q hq => nomatch hq
    have N3r := rest_news (ex := [L]) N3 (by simp)
    dsimp only
    clear N2r
    walk_at "MY steps"
    (rename News _ _ _ _ => N4r); (rename Fr _ _ _ _ => F4)
    refine outerI hj (OG.lb.at fun o e => F4.keep _ _ e) ?_ (by with_unfolding_all rfl)
    obtain ⟨I4, N4, k4⟩ := segN F3k.1 F4 N4r PyProof.Rows.News.nil I3 exL (by simp)
    have N4x := news_sl (news_sl N4 I4 (by simp) j .d) I4 (by simp) j .bk
    have N4r2 := rest_news (ex := [L]) N4x (by simp)
    have F4k := And.intro F4 True.intro
    clear N4r
    rw [show (if j = true then Value.ref (a.ad true .bk) else Value.ref (a.ad false .bk)) = Value.ref (a.ad j .bk) by cases j <;> rfl]
    refine fz_getMethod (T1.X.keeps F4k.1.keep) (I4.sl j .bk) (I4.sl j .d) ?_
    walk_at "MY steps"
    (rename News _ _ _ _ => N5r); (rename Fr _ _ _ _ => F5)
    have F5k := And.intro F5 True.intro
    obtain ⟨I5, N5, k5⟩ := segN F4k.1 F5 N5r N4x I4 exL (by simp)
    refine wpAny_call (freeze_call T1 TF1 I5.hb I5.tab (I5.mb 50 (.inr (.inr (.inl rfl)))) I5.ftab (I5.sl j .bk) (I5.sl j .d) (I5.mb _ (.inl ⟨_, _, rfl⟩)) (by show A.depth + 1 + 20 < _; omega) (by show A.units + 3 + 300 < _; omega) hh ?_)
    intro h6 tk6 ps' lam tkf ep2 cell c' pbs pm ctv k6 e6 e50 hps hc hl hlam hcell
    subst hps
    have I6 := frzS_inv I5 k6 e6 e50 hc hl hlam hcell
    have S6 := I5.steps k6 (fun z hz => by
      rcases List.mem_cons.mp hz with rfl | hz
      · exact .inl ⟨_, _, rfl⟩
      · rw [List.mem_singleton.mp hz]; exact .inr (.inr (.inl rfl)))
    have F6 := fr_next F5k.1 I6 (by simp) S6.slots
    have N6r := rest_news (ex := [L]) (PyProof.Rows.News.nil (h₀ := G) (L := L) (h := h6)) (by simp)
    clear N5r
    dsimp only
    walk_at "MY steps"
    rw [hj] at I6
    exact hQ _ _ _ ((sync_frz Sy).mono (by omega) (by omega)) (I.down bG I6) (((((sl1.trans (kk k2)).trans (sub S3.slots)).trans (kk k4)).trans (kk k5)).trans (sub S6.slots))
  · (rename News _ _ _ _ => N2r); (rename Fr _ _ _ _ => F2)
    have F2k := And.intro F2 True.intro
    rename_i h2 hx3 tkx hx4
    obtain ⟨I2, N2, k2⟩ := segN F1k.1 F2 N2r N1k.1 I1 exL (by simp)
    have N2r2 := rest_news (ex := [L]) (PySem.W.KStb.news_of (led := []) N2 (fun q hq => nomatch hq)) (by simp)
    dsimp only
    refine wpAny_execs_cons (wpAny_For ?_)
    walk_at "MY steps"
    (rename News _ _ _ _ => N3r); (rename Fr _ _ _ _ => F3)
    rename_i D' h3 l3
    have F3k := And.intro F3 True.intro
    obtain ⟨I3, N3, k3⟩ := segN F2k.1 F3 (fun q hq => N3r q (.tail _ hq)) PyProof.Rows.News.nil I2 exL (by simp)
    have tD3 := (N3r _ (.head _)).1
    have hD2 : h2.get? D' = none := by
      cases q : h2.get? D' with
      | none => rfl
      | some o =>
        have := l3 (D', o) (List.mem_append_right _ (mem_rest.mpr ⟨by simpa using (N3r _ (.head _)).2.1, (N3r _ (.head _)).2.2, q⟩))
        exact absurd this (Nat.lt_irrefl _)
    have I3f := I2.frame' (ex := [L]) (by simp) k3 (fun x hx => by obtain ⟨o, _, _, e, _⟩ := F3k.1.ns; rw [List.mem_singleton.mp hx]; exact ⟨_, e⟩) hD2 tD3
    have SS3 : Slots fr s.heap h3 := (sl1.trans (kk k2)).trans (kk k3)
    have DL : D' ≠ L := (N3r _ (.head _)).2.1
    obtain ⟨kdv, hns3⟩ : ∃ v, h3.Ns L (DMap none none lb lk a.cd lr (.int x tx) (.int ((x.fdiv 6).fmod 3) v)) := ⟨_, Heap.Ns.same F3k.1.ns (fun z => DMap_start z)⟩
    obtain ⟨tt0, tt1, htp3⟩ : ∃ t0 t1, h3.IsTuple D' #[.int 0 t0, .int 1 t1] := ⟨_, _, _, tD3, rfl, _, rfl⟩
    refine wpAny_pyIter_tuple (t := D') htp3 ?_
    have I4f := I3f.frame (h' := h3.push { cls := .type "tuple_iterator", data := .fields #[.ref D', .int 0 0] }) (o := { cls := .type "tuple_iterator", data := .fields #[.ref D', .int 0 0] }) (L := h3.objs.size) (Heap.get?_none_of_le (Nat.le_refl _)) (fun c o _ e => Heap.get?_push_of_some _ e) (Heap.get?_push_size _ rfl)
    generalize hit0 : h3.objs.size = it at *
    refine codeAny_forLoop_any (LInv w G (it :: D' :: ([L] ++ fr)) fr a s h3 it D' L tt0 tt1 (fun u v => DMap u v lb lk a.cd lr (.int x tx) (.int ((x.fdiv 6).fmod 3) kdv)) nn mm) ?turn 3 ?init
    case init =>
      refine ⟨_, _, 0, st, none, none, rfl, rfl, by omega, ⟨_, by rw [← hit0]; exact Heap.get?_push_size _ rfl, rfl, rfl⟩, htp3.at (fun o e => Heap.get?_push_of_some _ e), hns3.at' (fun o e => Heap.get?_push_of_some _ e), I4f, Sy, Slots.of_keep fun c _ o e => Heap.get?_push_of_some _ e⟩
    have itL0 : it ≠ L := fun q => absurd F3k.1.ns.lt (by rw [hit0, q]; exact Nat.lt_irrefl _)
    have itD : it ≠ D' := fun q => absurd (Heap.lt_size tD3) (by rw [hit0, q]; exact Nat.lt_irrefl _)
    have frit : ∀ c ∈ fr, c ≠ it := fun c hc q => by
      obtain ⟨o, e⟩ := I3.frh c (List.mem_append_right _ hc)
      exact absurd (Heap.lt_size e) (by rw [hit0, q]; exact Nat.lt_irrefl _)
    have kkI : ∀ {x y : Heap}, Keep [L] x y → Slots (it :: D' :: fr) x y := fun k => Slots.of_keep fun c hc o e => k c o (by
      intro q
      rw [List.mem_singleton.mp q] at hc
      rcases List.mem_cons.mp hc with q | hc
      · exact itL0 q.symm
      rcases List.mem_cons.mp hc with q | hc
      · exact DL q.symm
      · exact frn L hc rfl) e
    have subI : ∀ {x y : Heap}, Slots (it :: D' :: ([L] ++ fr)) x y → Slots (it :: D' :: fr) x y := fun S => S.sub fun x hx => by
      rcases List.mem_cons.mp hx with rfl | hx
      · exact .head _
      rcases List.mem_cons.mp hx with rfl | hx
      · exact .tail _ (.head _)
      · exact .tail _ (.tail _ (.tail _ hx))
    case turn =>
      rintro n s' ⟨h4, tk4, i, st4, u, v, rfl, rfl, hi, hit, htp, hns4, I4, Sy4, S4⟩
      by_cases hlt : i < 2
      · -- a side
        obtain ⟨j, rfl⟩ : ∃ j : Bool, i = jN j := jN_ex hlt
        have hj1 : jN j ≤ 1 := by cases j <;> decide
        obtain ⟨tj, htj⟩ : ∃ t, (#[Value.int 0 tt0, Value.int 1 tt1] : Array Value)[jN j]? = some (.int (sdI j) t) := by
          cases j with
          | false => exact ⟨_, rfl⟩
          | true => exact ⟨_, rfl⟩
        refine wpAny_pyNext_tuple_item hit htp htj fun h5 hit5 hs5 => ?_
        dsimp only
        have itL : it ≠ L := fun q => by
          obtain ⟨o, _, _, e, dq, _⟩ := hns4
          obtain ⟨o2, e2, _, dq2⟩ := hit
          rw [q, e] at e2; cases e2
          rw [dq] at dq2; cases dq2
        have I5 := I4.loc (ex := [it]) (by simp) (keep_but hs5) (fun x hx => by obtain ⟨o, e, _⟩ := hit5; rw [List.mem_singleton.mp hx]; exact ⟨_, e⟩)
        refine wpAny_pure ?_
        refine wpAny_assign_Name (wpAny_storeName_local (by rfl) (hns4.sameBut hs5 (Ne.symm itL)) (fun h6 hn6 hs6 => ?_) (by rfl))
        have hn6' := Heap.Ns.same hn6 (fun z => DMap_side z)
        have k56 : Keep [L] h5 h6 := fun c o hc e => hs6.extBut c o (fun q => hc (by rw [q]; exact .head _)) e
        have I6 := I5.loc (ex := [L]) (by simp) k56 (fun x hx => by obtain ⟨o, _, _, e, _⟩ := hn6; rw [List.mem_singleton.mp hx]; exact ⟨_, e⟩)
        have F6 : Fr G L h6 _ := ⟨hn6', I6.hb, F3k.1.above⟩
        have F6k := And.intro F6 True.intro
        have S46 : Slots fr h4 h6 := (Slots.of_keep fun c hc o e => keep_but hs5 c o (by simpa using frit c hc) e).trans (kk k56)
        have hit6 : h6.IsTupleIter it D' (jN j + 1) := by
          obtain ⟨o, e, c, dq⟩ := hit5
          exact ⟨o, k56 _ _ (by simpa using itL) e, c, dq⟩
        have htp6 : h6.IsTuple D' #[.int 0 tt0, .int 1 tt1] := by
          obtain ⟨o, e, c, dq⟩ := htp
          exact ⟨o, k56 _ _ (by simpa using DL) (keep_but hs5 _ _ (by simpa using Ne.symm itD) e), c, dq⟩
        have X6 := T1.X
        have N6r := rest_news (ex := [L]) (PyProof.Rows.News.nil (h₀ := G) (L := L) (h := h6)) (by simp)
        have bd4 := fun i => Sy4.bd i
        clear hn6 hn6'
        walk_at "MY steps"
        · (rename News _ _ _ _ => N7r); (rename Fr _ _ _ _ => F7)
          refine kdn_eval (knd := PySem.intKind PG w) F7 N7r (Top.nolimit TF1) (by rfl) (by rfl) (List.cons_ne_nil _ _) (by decide) ?_
          intro d h8 o8 F8 N8 l8 hds hd8
          walk_at "MY steps"
          (rename News _ _ _ _ => N9); (rename Fr _ _ _ _ => F9)
          refine kdn_made_int F9 N9 (.head (fun q hq => Nat.ne_of_lt (l8 q hq))) hd8 (by rfl) (by cases j <;> exact of_decide_eq_true (by rfl)) ?_
          intro h10 o10 F10 N10 hd10
          have F10k := And.intro F10 True.intro
          have N10k := And.intro N10 True.intro
          have hd6 : h6.get? d = none := by
            cases q : h6.get? d with
            | none => rfl
            | some o =>
              have := l8 (d, o) (List.mem_cons_of_mem _ (List.mem_append_right _ (mem_rest.mpr ⟨by simpa using (N10 _ (.head _)).2.1, (N10 _ (.head _)).2.2, q⟩)))
              exact absurd this (Nat.lt_irrefl _)
          have hth : ∃ v : Int, Obj.IsDictOf (PySem.intKind PG w) o10 (intKeyPairs [(Value.int (sdI j) tj, Value.int v _), (Value.int (1 - sdI j) _, Value.int v _)]) := ⟨_, hd10⟩
          walk_at "MY steps"
          (rename News _ _ _ _ => N11r); (rename Fr _ _ _ _ => F11)
          obtain ⟨v, hv10⟩ := hth
          have F11k := And.intro F11 True.intro
          obtain ⟨I11, _, k11⟩ := segN F6k.1 F11 (fun q hq => N11r q (.tail _ (.tail _ hq))) PyProof.Rows.News.nil I6 exL (by simp)
          have hdo11 := (N11r _ (.head _)).1
          have hdL : d ≠ L := (N11r _ (.head _)).2.1
          have I11d := addI_in I11 (I6.fresh_mut hd6) (I6.fresh hd6).2.2.2.2.2 hdo11
          have hth11 : IsThing _ d v := IsThing.of (prog := PG) hds (sd01 j) (Heap.dictOf_iff.mpr ⟨o10, hdo11, hv10⟩)
          refine outerF (fun i => a.ad i .bk) (j := j) rfl (OG.lb.at fun o e => F11k.1.keep _ _ e) ?_ (by with_unfolding_all rfl)
          try dsimp only
          walk_at "MY steps"
          refine book_getK T1 I11d (by have := bd4 j; show (st4.es _).length < _; omega) (by have := bd4 j; show (st4.nts _).length < _; omega) (by show A.depth + 1 + 60 < _; omega) (by show A.units + 3 + 600 < _; omega) hh ?_ (by with_unfolding_all rfl)
          intro h12 tk12 l stB B I12 S12 kp12
          have F12 := fr_next F11k.1 I12 (by simp) S12
          have F12k := And.intro F12 True.intro
          have ml := B.mem I11d
          have N12 := news_ls (L := L) PyProof.Rows.News.nil I12 (by simp) ml
          have N12k := And.intro N12 True.intro
          have N12r := rest_news (ex := [L]) N12 (by simp)
          clear N11r
          try dsimp only
          walk_at "MY steps"
          (rename News _ _ _ _ => N13r); (rename Fr _ _ _ _ => F13)
          have F13k := And.intro F13 True.intro
          obtain ⟨I13, N13, k13⟩ := segN F12k.1 F13 N13r N12k.1 I12 exL (by simp)
          have hth13 := hth11.keep fun o e => k13 _ _ (by simpa using hdL) (kp12 _ _ (fun q => (I11d.im d (.head _)).1 q) e)
          have lB : ∀ x ∈ stB.ls, (stB.c x).length ≤ mm + jN j := fun x hx => by
            rcases B.grow.2 x hx with q | q
            · rw [(B.grow.1 x q).2]; exact Sy4.ct x q
            · rw [q]; simp
          refine app_list (n := v) (I13.ls l ml) (by have := lB l ml; omega) ?_
          intro h14 k14 kp14 e14
          obtain ⟨F14, I14, _, S14⟩ := mutStep F13k.1 I13 PyProof.Rows.News.nil ml (by simp) (fun q hq => nomatch hq) kp14 e14 (fun t ht => by
            rcases List.mem_append.mp ht with q | q
            · exact ⟨(I13.th l ml t q).2, (I13.th l ml t q).1⟩
            · rw [List.mem_singleton.mp q]
              exact ⟨by rw [B.imm]; exact .head _, hth13⟩)
          have F14k := And.intro F14 True.intro
          have N14r := rest_news (ex := [L]) (PyProof.Rows.News.nil (h₀ := G) (L := L) (h := h14)) (by simp)
          clear N13r N12
          try dsimp only
          walk_at "MY steps"
          (rename News _ _ _ _ => N15r); (rename Fr _ _ _ _ => F15)
          have F15k := And.intro F15 True.intro
          obtain ⟨I15, _, k15⟩ := segN F14k.1 F15 N15r PyProof.Rows.News.nil I14 exL (by simp)
          refine outerF (fun i => a.ad i .kp) (j := j) rfl (OG.lk.at fun o e => F15k.1.keep _ _ e) ?_ (by with_unfolding_all rfl)
          try dsimp only
          walk_at "MY steps"
          refine in_cold (i := j) rfl I15.cdv (fun v hv => Sy4.co v (by have e := B.same.1; have hv2 : v ∈ stB.cold := hv; rw [e] at hv2; exact hv2)) ?_
          walk_at "MY steps"
          refine outerF (fun i => a.ad i .rn) (j := j) rfl (OG.lr.at fun o e => F15k.1.keep _ _ e) ?_ (by with_unfolding_all rfl)
          try dsimp only
          walk_at "MY steps"
          refine wpAny_call (plain_get (i := j) T1 I15 (by have := bd4 j; have e := B.same.2.1; show (stB.ks _).length < _; rw [e]; show (st4.ks _).length < _; omega) (by have := bd4 j; have e := B.same.2.2.1; show (stB.rs _).length < _; rw [e]; show (st4.rs _).length < _; omega) (by show A.depth + 1 + 60 < _; omega) (by show A.units + 3 + 600 < _; omega) hh ?_)
          intro h16 tk16 k stK K I16 S16
          have F16 := fr_next F15k.1 I16 (by simp) S16
          have F16k := And.intro F16 True.intro
          have mk := K.mem I15
          have N16 := news_ls (L := L) PyProof.Rows.News.nil I16 (by simp) mk
          have N16k := And.intro N16 True.intro
          have N16r := rest_news (ex := [L]) N16 (by simp)
          clear N15r
          try dsimp only
          walk_at "MY steps"
          (rename News _ _ _ _ => N17r); (rename Fr _ _ _ _ => F17)
          have F17k := And.intro F17 True.intro
          obtain ⟨I17, _, k17⟩ := segN F16k.1 F17 N17r N16k.1 I16 exL (by simp)
          have lK : ∀ x ∈ stK.ls, (stK.c x).length ≤ mm + jN j + 1 := fun x hx => by
            rcases K.grow.2 x hx with q | q
            · rw [(K.grow.1 x q).2]
              show (updC stB.c l (stB.c l ++ [(d, v)]) x).length ≤ _
              by_cases e : x = l
              · subst e; rw [updC_same]; have := lB x q; simp; omega
              · rw [updC_other e]; have := lB x q; omega
            · rw [q]; simp
          refine app_list (n := v) (I17.ls k mk) (by have := lK k mk; omega) ?_
          intro h18 k18 kp18 e18
          obtain ⟨F18, I18, _, S18⟩ := mutStep F17k.1 I17 PyProof.Rows.News.nil mk (by simp) (fun q hq => nomatch hq) kp18 e18 (fun t ht => by
            rcases List.mem_append.mp ht with q | q
            · exact ⟨(I17.th k mk t q).2, (I17.th k mk t q).1⟩
            · rw [List.mem_singleton.mp q]
              have := I17.th l (K.grow.1 l ml).1 (d, v) (by
                rw [(K.grow.1 l ml).2]
                show (d, v) ∈ updC stB.c l (stB.c l ++ [(d, v)]) l
                rw [updC_same]; simp)
              exact ⟨this.2, this.1⟩)
          have F18k := And.intro F18 True.intro
          have N18r := rest_news (ex := [L]) (PyProof.Rows.News.nil (h₀ := G) (L := L) (h := h18)) (by simp)
          clear N17r
          try dsimp only
          walk_at "MY steps"
          (rename News _ _ _ _ => N19r); (rename Fr _ _ _ _ => F19)
          obtain ⟨I19, _, k19⟩ := segN F18k.1 F19 N19r PyProof.Rows.News.nil I18 exL (by simp)
          have SE := (((((((kkI k11).trans (subI S12)).trans (kkI k13)).trans (subI S14)).trans (kkI k15)).trans (subI S16)).trans (kkI k17)).trans ((subI S18).trans (kkI k19))
          try dsimp only
          refine ⟨3 - (jN j + 1), by omega, _, _, jN j + 1, _, _, _, rfl, rfl, by omega, tupleIter_slots hit6 SE (.head _), tuple_slots htp6 SE (.tail _ (.head _)), Heap.Ns.same F19.ns (fun z => DMap_thing z), I19, sync_append I11d (Sy4.addI d) B ml K (by omega), (S4.trans S46).trans (SE.sub fun x hx => .tail _ (.tail _ hx))⟩
        · (rename News _ _ _ _ => N7r); (rename Fr _ _ _ _ => F7)
          obtain ⟨I7, _, k7⟩ := segN F6k.1 F7 (fun q hq => N7r q (.tail _ hq)) PyProof.Rows.News.nil I6 exL (by simp)
          have SE := kkI k7
          try dsimp only
          refine ⟨3 - (jN j + 1), by omega, _, _, jN j + 1, _, _, _, rfl, rfl, by omega, tupleIter_slots hit6 SE (.head _), tuple_slots htp6 SE (.tail _ (.head _)), F7.ns, I7, Sy4.mono (by omega) (by omega), (S4.trans S46).trans (SE.sub fun x hx => .tail _ (.tail _ hx))⟩
      · obtain rfl : i = 2 := by omega
        refine wpAny_pyNext_tuple_end hh hit htp (by rfl) fun h5 he5 => ?_
        dsimp only
        refine wpAny_execs_nil ?_
        try dsimp only
        have itL : it ≠ L := fun q => by
          obtain ⟨o, _, _, e, dq, _⟩ := hns4
          obtain ⟨o2, e2, _, dq2⟩ := hit
          rw [q, e] at e2; cases e2
          rw [dq] at dq2; cases dq2
        have k5 : Keep [it] h4 h5 := fun c o hc e => he5 c o (by simpa using hc) e
        have J5 := (I4.drop (by
          intro q
          rcases List.mem_cons.mp q with q | q
          · exact itD q
          rcases List.mem_cons.mp q with q | q
          · exact itL q
          · exact frit _ q rfl) k5).unframe (fr' := [L] ++ fr) (fun x hx => .tail _ hx)
        have F5 : Fr G L h5 _ := ⟨hns4.at' (fun o e => he5 L o (Ne.symm itL) e), J5.hb, F3k.1.above⟩
        have N5r := rest_news (ex := [L]) (PyProof.Rows.News.nil (h₀ := G) (L := L) (h := h5)) (by simp)
        walk_at "MY steps"
        have S45 : Slots fr h4 h5 := Slots.of_keep fun c hc o e => k5 c o (by simpa using frit c hc) e
        exact hQ _ _ st4 (Sy4.mono (by omega) (by omega)) (I.down bG J5) ((SS3.trans S4).trans S45)
end Mine
end
section
open PySem PySem.W PySem.Calls PyProof.Rows PySem.SeqAt
set_option linter.unusedVariables false
set_option maxRecDepth 100000
set_option maxHeartbeats 1000000
namespace Mine
noncomputable abbrev lamBody (i : Bool) (p1 p2 p3 p4 p5 : Pos) : Expr := (Expr.Name (PySem.Str.ofString "_law_noted") p1).Call [(Expr.Name (PySem.Str.ofString "notes") p2).Subscript (Expr.Constant (Const.int (sdI i)) 0 p3) p4] [] p5
noncomputable abbrev lamScope : Scope := { kind := ScopeKind.function, names := [(PySem.Str.ofString "notes", NameKind.free), (PySem.Str.ofString "_law_noted", NameKind.globalImplicit)], isGenerator := false, isCoroutine := false }
theorem fac_law : ∀ {w : World} {p loose mg mb} {b : Heap} {f c' cell ln : Addr} {qual : PySem.Str} {pm ct : Value} {i : Bool} {p1 p2 p3 p4 p5 : Pos} {nf : Bool → Addr}
    (T : Top0 w p loose mg mb b) (hnt : b.get? (nf i) = none)
    (hf : b.get? f = some (kla_obj (PySem.Str.ofString "<lambda>") qual { posonlyargs := [], args := [], vararg := none, kwonlyargs := [], kw_defaults := [], kwarg := none, defaults := [] } (lamBody i p1 p2 p3 p4 p5) lamScope [(PySem.Str.ofString "notes", cell)] pm c' ct))
    (hcd : b.CodeRec (.ref c') qual) (hcell : ∃ o, b.get? cell = some o ∧ o.data = .cell (some (.ref ln))) (hln : b.IsList ln #[.ref (nf false), .ref (nf true)]),
    FacGen w b f (nf i) := by
  intro w p loose mg mb b f c' cell ln qual pm ct i p1 p2 p3 p4 p5 nf T hnt hf hcd hcell hln
  intro A h0 its kn hb hn hsz hd0 hu0
  intro A' s R hk hdp hun hh hcont
  have kb : b.StaysIn s.heap := fun c o e => hk _ _ (hb _ _ e)
  obtain ⟨oc, hce, hcd2⟩ := hcell
  have hcr : s.heap.CodeRec (.ref c') qual := by
    obtain ⟨c2, o2, vs, tq, q1, q2, q3, q4⟩ := hcd
    exact ⟨c2, o2, vs, tq, q1, kb _ _ q2, q3, q4⟩
  refine' call_hideL [] T kb ?hμ ?hroom (kb _ _ hf) hcr ?hbind ?hloc ?hcell ?hco ?hgen ?hk ?_
  case hbind => exact rfl
  case hloc => exact locs rfl
  case hcell => decide
  case hμ => intro q hq; cases hq
  case hroom => omega
  case hco => rfl
  case hgen => rfl
  case hk => rfl
  intro g L h₁ tk0 hg hL T' F N
  have X' := T'.X
  have TT := T'.T
  have k0 : ∀ c o, s.heap.get? c = some o → h₁.get? c = some o := fun c o e => keep_of hg F (by simp) e
  have F0 := And.intro F True.intro
  walk1
  walk1
  walk1
  walk1
  refine Subscript_ (wpAny_Name (wpAny_loadName_free (by rfl) (by rfl) (by rfl) ⟨oc, k0 _ _ (kb _ _ hce), hcd2⟩ ?_))
  walk_at "MY steps"
  refine outerF nf (j := i) rfl (hln.at fun o e => k0 _ _ (kb _ _ e)) ?_ (by with_unfolding_all rfl)
  walk_at "MY steps"
  have hnb : h₁.get? (nf i) = some (PySem.W.listOf its kn) := k0 _ _ (hk _ _ hn)
  refine wpAny_call (noted_call T (fun c o e => k0 _ _ (kb _ _ e)) hnb hnt hsz (by show A'.depth + 1 + 3 < _; omega) hh ?_)
  intro h2 tk2 l l0 kk n1 l1
  try dsimp only
  refine hcont _ _ _ (fun c o hc e => kk _ _ hc (k0 _ _ e)) ?_ l1 n1
  cases q : s.heap.get? l with
  | none => rfl
  | some o => have := k0 _ _ q; rw [l0] at this; cases this
end Mine
end
section
open PySem PySem.W PySem.Calls PyProof.Rows PySem.SeqAt
set_option linter.unusedVariables false
set_option maxRecDepth 100000
set_option maxHeartbeats 4000000
namespace Mine
noncomputable def tagO (o : Obj) : Nat := match o.data with | .dict _ _ => 1 | .seq _ _ => 2 | .cell _ => 3 | .func _ => 4 | .fields _ => 5 | _ => 0
theorem ne_tag {h : Heap} {x y : Addr} {o o' : Obj} {a b : Nat} (e : h.get? x = some o) (e' : h.get? y = some o') (t : tagO o = a) (t' : tagO o' = b) (hab : a ≠ b) : x ≠ y := fun q => by
  subst q; rw [e] at e'; cases e'; exact hab (t.symm.trans t')
noncomputable def mkAd (bk0 bk1 d0 d1 n0 n1 kp0 kp1 rn0 rn1 f0 f1 cd : Addr) : Ad where
  ad := fun i p => match i, p with
    | false, .bk => bk0 | true, .bk => bk1
    | false, .d => d0 | true, .d => d1
    | false, .nt => n0 | true, .nt => n1
    | false, .kp => kp0 | true, .kp => kp1
    | false, .rn => rn0 | true, .rn => rn1
  f := fun i => match i with | false => f0 | true => f1
  cd := cd
noncomputable def st0 : St where
  es := fun _ => []
  ks := fun _ => []
  fz := fun _ => none
  nts := fun _ => []
  rs := fun _ => []
  ct := fun _ _ => 0
  c := fun _ => []
  ck := fun _ => 0
  ls := []
  imm := []
  cold := []
  kc := 0
  ps := #[]
theorem sync0 (n m : Nat) : Sync st0 n m := ⟨fun _ => .nil, fun _ => List.nodup_nil, fun _ _ h => (nomatch h), fun _ _ h => (nomatch h), fun _ => rfl, fun _ h => (nomatch h), fun _ => rfl, fun _ => ⟨Nat.zero_le _, Nat.zero_le _, Nat.zero_le _, Nat.zero_le _⟩, fun _ h => (nomatch h), Nat.zero_le _⟩
theorem inv0 : ∀ {w : World} {p loose mg mb} {mean : ExcName → Option Value} {g h : Heap} {L ct cn ln lb lk lr c0 c1 bk0 bk1 d0 d1 n0 n1 kp0 kp1 rn0 rn1 f0 f1 cd : Addr} {m : PySem.Str → Option Value} {qa qb : PySem.Str} {pa pb ca cb : Value} {p1 p2 p3 p4 p5 r1 r2 r3 r4 r5 : Pos} {oct ocn oc0 oc1 : Obj} {vs0 vs1 : Array Value} {t0 t1 : Tok}
    (TG : Top p loose mean mg mb g) (XG : (hd.heap_39 w.params).In g) (F : Fr g L h m)
    (HN : ∀ x ∈ [ct, n0, n1, bk0, d0, bk1, d1, kp0, kp1, rn0, rn1, cd, (50 : Addr)], g.get? x = none ∧ x ≠ L)
    (ect : h.get? ct = some oct) (tct : tagO oct = 3) (ecn : h.get? cn = some ocn) (dcn : ocn.data = .cell (some (.ref ln))) (hcn : cn ≠ ct)
    (en0 : h.get? n0 = some (PySem.W.listOf #[] 0)) (en1 : h.get? n1 = some (PySem.W.listOf #[] 0))
    (ekp0 : h.get? kp0 = some (PySem.W.listOf #[] 0)) (ekp1 : h.get? kp1 = some (PySem.W.listOf #[] 0))
    (ern0 : h.get? rn0 = some (PySem.W.listOf #[] 0)) (ern1 : h.get? rn1 = some (PySem.W.listOf #[] 0)) (ecd : h.get? cd = some (PySem.W.listOf #[] 0))
    (ebk0 : h.get? bk0 = some ⟨.ref 58, some d0, .dict #[] 0, #[some (.ref f0)]⟩) (ebk1 : h.get? bk1 = some ⟨.ref 58, some d1, .dict #[] 0, #[some (.ref f1)]⟩)
    (ed0 : h.get? d0 = some { cls := .type "dict", data := .dict #[] 0 }) (ed1 : h.get? d1 = some { cls := .type "dict", data := .dict #[] 0 })
    (e50 : h.get? 50 = some (tabObj #[]))
    (eln : h.get? ln = some (PySem.W.listOf #[.ref n0, .ref n1] 0)) (elb : h.get? lb = some (PySem.W.listOf #[.ref bk0, .ref bk1] 0)) (elk : h.get? lk = some (PySem.W.listOf #[.ref kp0, .ref kp1] 0)) (elr : h.get? lr = some (PySem.W.listOf #[.ref rn0, .ref rn1] 0))
    (ef0 : h.get? f0 = some (kla_obj (PySem.Str.ofString "<lambda>") qa { posonlyargs := [], args := [], vararg := none, kwonlyargs := [], kw_defaults := [], kwarg := none, defaults := [] } (lamBody false p1 p2 p3 p4 p5) lamScope [(PySem.Str.ofString "notes", cn)] pa c0 ca))
    (ef1 : h.get? f1 = some (kla_obj (PySem.Str.ofString "<lambda>") qb { posonlyargs := [], args := [], vararg := none, kwonlyargs := [], kw_defaults := [], kwarg := none, defaults := [] } (lamBody true r1 r2 r3 r4 r5) lamScope [(PySem.Str.ofString "notes", cn)] pb c1 cb))
    (ec0 : h.get? c0 = some oc0) (dc0 : oc0.data = .fields vs0) (dv0 : vs0[1]? = some (.str qa t0)) (ec1 : h.get? c1 = some oc1) (dc1 : oc1.data = .fields vs1) (dv1 : vs1[1]? = some (.str qb t1))
    (o1 : @LT.lt Nat _ n0 n1) (o2 : @LT.lt Nat _ n1 ln) (o3 : @LT.lt Nat _ ln lb) (o4 : @LT.lt Nat _ lb kp0) (o5 : @LT.lt Nat _ kp0 kp1) (o6 : @LT.lt Nat _ kp1 lk) (o7 : @LT.lt Nat _ lk rn0) (o8 : @LT.lt Nat _ rn0 rn1) (o9 : @LT.lt Nat _ rn1 lr) (o10 : @LT.lt Nat _ lr cd)
    (o11 : @LT.lt Nat _ 50 c0) (o12 : @LT.lt Nat _ 50 c1) (hbk : bk0 ≠ bk1) (hdd : d0 ≠ d1) (bd0 : bk0 ≠ d0) (bd1 : bk0 ≠ d1) (bd2 : bk1 ≠ d0) (bd3 : bk1 ≠ d1) (s0 : bk0 ≠ sysModules) (s1 : bk1 ≠ sysModules),
    ∃ b : Heap, Top0 w p loose mg mb b ∧ Top p loose mean mg mb b ∧ g.StaysIn b ∧ b.StaysIn h ∧ Inv w b [L, ct] (mkAd bk0 bk1 d0 d1 n0 n1 kp0 kp1 rn0 rn1 f0 f1 cd) h st0 ∧ Outer b (mkAd bk0 bk1 d0 d1 n0 n1 kp0 kp1 rn0 rn1 f0 f1 cd) lb lk lr ∧ b.IsList ln #[.ref n0, .ref n1] ∧ (∃ o, b.get? cn = some o ∧ o.data = .cell (some (.ref ln))) ∧ ∀ x o, x ∉ [L, ct, n0, n1, bk0, d0, bk1, d1, kp0, kp1, rn0, rn1, cd, 50] → h.get? x = some o → b.get? x = some o := by
  intro w p loose mg mb mean g h L ct cn ln lb lk lr c0 c1 bk0 bk1 d0 d1 n0 n1 kp0 kp1 rn0 rn1 f0 f1 cd m qa qb pa pb ca cb p1 p2 p3 p4 p5 r1 r2 r3 r4 r5 oct ocn oc0 oc1 vs0 vs1 t0 t1 TG XG F HN ect tct ecn dcn hcn en0 en1 ekp0 ekp1 ern0 ern1 ecd ebk0 ebk1 ed0 ed1 e50 eln elb elk elr ef0 ef1 ec0 dc0 dv0 ec1 dc1 dv1 o1 o2 o3 o4 o5 o6 o7 o8 o9 o10 o11 o12 hbk hdd bd0 bd1 bd2 bd3 s0 s1
  obtain ⟨oL, esL, epL, eL, dL, _⟩ := F.ns
  have tL : tagO oL = 1 := by unfold tagO; rw [dL]
  have tcn : tagO ocn = 3 := by unfold tagO; rw [dcn]
  have tc0 : tagO oc0 = 5 := by unfold tagO; rw [dc0]
  have tc1 : tagO oc1 = 5 := by unfold tagO; rw [dc1]
  have p_n0_n1 : @LT.lt Nat _ n0 n1 := o1
  have p_n0_ln : @LT.lt Nat _ n0 ln := Nat.lt_trans p_n0_n1 o2
  have p_n0_lb : @LT.lt Nat _ n0 lb := Nat.lt_trans p_n0_ln o3
  have p_n0_kp0 : @LT.lt Nat _ n0 kp0 := Nat.lt_trans p_n0_lb o4
  have p_n0_kp1 : @LT.lt Nat _ n0 kp1 := Nat.lt_trans p_n0_kp0 o5
  have p_n0_lk : @LT.lt Nat _ n0 lk := Nat.lt_trans p_n0_kp1 o6
  have p_n0_rn0 : @LT.lt Nat _ n0 rn0 := Nat.lt_trans p_n0_lk o7
  have p_n0_rn1 : @LT.lt Nat _ n0 rn1 := Nat.lt_trans p_n0_rn0 o8
  have p_n0_lr : @LT.lt Nat _ n0 lr := Nat.lt_trans p_n0_rn1 o9
  have p_n0_cd : @LT.lt Nat _ n0 cd := Nat.lt_trans p_n0_lr o10
  have p_n1_ln : @LT.lt Nat _ n1 ln := o2
  have p_n1_lb : @LT.lt Nat _ n1 lb := Nat.lt_trans p_n1_ln o3
  have p_n1_kp0 : @LT.lt Nat _ n1 kp0 := Nat.lt_trans p_n1_lb o4
  have p_n1_kp1 : @LT.lt Nat _ n1 kp1 := Nat.lt_trans p_n1_kp0 o5
  have p_n1_lk : @LT.lt Nat _ n1 lk := Nat.lt_trans p_n1_kp1 o6
  have p_n1_rn0 : @LT.lt Nat _ n1 rn0 := Nat.lt_trans p_n1_lk o7
  have p_n1_rn1 : @LT.lt Nat _ n1 rn1 := Nat.lt_trans p_n1_rn0 o8
  have p_n1_lr : @LT.lt Nat _ n1 lr := Nat.lt_trans p_n1_rn1 o9
  have p_n1_cd : @LT.lt Nat _ n1 cd := Nat.lt_trans p_n1_lr o10
  have p_ln_lb : @LT.lt Nat _ ln lb := o3
  have p_ln_kp0 : @LT.lt Nat _ ln kp0 := Nat.lt_trans p_ln_lb o4
  have p_ln_kp1 : @LT.lt Nat _ ln kp1 := Nat.lt_trans p_ln_kp0 o5
  have p_ln_lk : @LT.lt Nat _ ln lk := Nat.lt_trans p_ln_kp1 o6
  have p_ln_rn0 : @LT.lt Nat _ ln rn0 := Nat.lt_trans p_ln_lk o7
  have p_ln_rn1 : @LT.lt Nat _ ln rn1 := Nat.lt_trans p_ln_rn0 o8
  have p_ln_lr : @LT.lt Nat _ ln lr := Nat.lt_trans p_ln_rn1 o9
  have p_ln_cd : @LT.lt Nat _ ln cd := Nat.lt_trans p_ln_lr o10
  have p_lb_kp0 : @LT.lt Nat _ lb kp0 := o4
  have p_lb_kp1 : @LT.lt Nat _ lb kp1 := Nat.lt_trans p_lb_kp0 o5
  have p_lb_lk : @LT.lt Nat _ lb lk := Nat.lt_trans p_lb_kp1 o6
  have p_lb_rn0 : @LT.lt Nat _ lb rn0 := Nat.lt_trans p_lb_lk o7
  have p_lb_rn1 : @LT.lt Nat _ lb rn1 := Nat.lt_trans p_lb_rn0 o8
  have p_lb_lr : @LT.lt Nat _ lb lr := Nat.lt_trans p_lb_rn1 o9
  have p_lb_cd : @LT.lt Nat _ lb cd := Nat.lt_trans p_lb_lr o10
  have p_kp0_kp1 : @LT.lt Nat _ kp0 kp1 := o5
  have p_kp0_lk : @LT.lt Nat _ kp0 lk := Nat.lt_trans p_kp0_kp1 o6
  have p_kp0_rn0 : @LT.lt Nat _ kp0 rn0 := Nat.lt_trans p_kp0_lk o7
  have p_kp0_rn1 : @LT.lt Nat _ kp0 rn1 := Nat.lt_trans p_kp0_rn0 o8
  have p_kp0_lr : @LT.lt Nat _ kp0 lr := Nat.lt_trans p_kp0_rn1 o9
  have p_kp0_cd : @LT.lt Nat _ kp0 cd := Nat.lt_trans p_kp0_lr o10
  have p_kp1_lk : @LT.lt Nat _ kp1 lk := o6
  have p_kp1_rn0 : @LT.lt Nat _ kp1 rn0 := Nat.lt_trans p_kp1_lk o7
  have p_kp1_rn1 : @LT.lt Nat _ kp1 rn1 := Nat.lt_trans p_kp1_rn0 o8
  have p_kp1_lr : @LT.lt Nat _ kp1 lr := Nat.lt_trans p_kp1_rn1 o9
  have p_kp1_cd : @LT.lt Nat _ kp1 cd := Nat.lt_trans p_kp1_lr o10
  have p_lk_rn0 : @LT.lt Nat _ lk rn0 := o7
  have p_lk_rn1 : @LT.lt Nat _ lk rn1 := Nat.lt_trans p_lk_rn0 o8
  have p_lk_lr : @LT.lt Nat _ lk lr := Nat.lt_trans p_lk_rn1 o9
  have p_lk_cd : @LT.lt Nat _ lk cd := Nat.lt_trans p_lk_lr o10
  have p_rn0_rn1 : @LT.lt Nat _ rn0 rn1 := o8
  have p_rn0_lr : @LT.lt Nat _ rn0 lr := Nat.lt_trans p_rn0_rn1 o9
  have p_rn0_cd : @LT.lt Nat _ rn0 cd := Nat.lt_trans p_rn0_lr o10
  have p_rn1_lr : @LT.lt Nat _ rn1 lr := o9
  have p_rn1_cd : @LT.lt Nat _ rn1 cd := Nat.lt_trans p_rn1_lr o10
  have p_lr_cd : @LT.lt Nat _ lr cd := o10

  have v_f0 : f0 ∉ ([L, ct, n0, n1, bk0, d0, bk1, d1, kp0, kp1, rn0, rn1, cd, 50] : List Addr) := fun q => by
    simp only [List.mem_cons, List.not_mem_nil, or_false] at q
    rcases q with q | q | q | q | q | q | q | q | q | q | q | q | q | q
    · exact ne_tag (a := 4) (b := 1) ef0 eL rfl tL (by decide) q
    · exact ne_tag (a := 4) (b := 3) ef0 ect rfl tct (by decide) q
    · exact ne_tag (a := 4) (b := 2) ef0 en0 rfl rfl (by decide) q
    · exact ne_tag (a := 4) (b := 2) ef0 en1 rfl rfl (by decide) q
    · exact ne_tag (a := 4) (b := 1) ef0 ebk0 rfl rfl (by decide) q
    · exact ne_tag (a := 4) (b := 1) ef0 ed0 rfl rfl (by decide) q
    · exact ne_tag (a := 4) (b := 1) ef0 ebk1 rfl rfl (by decide) q
    · exact ne_tag (a := 4) (b := 1) ef0 ed1 rfl rfl (by decide) q
    · exact ne_tag (a := 4) (b := 2) ef0 ekp0 rfl rfl (by decide) q
    · exact ne_tag (a := 4) (b := 2) ef0 ekp1 rfl rfl (by decide) q
    · exact ne_tag (a := 4) (b := 2) ef0 ern0 rfl rfl (by decide) q
    · exact ne_tag (a := 4) (b := 2) ef0 ern1 rfl rfl (by decide) q
    · exact ne_tag (a := 4) (b := 2) ef0 ecd rfl rfl (by decide) q
    · exact ne_tag (a := 4) (b := 5) ef0 e50 rfl rfl (by decide) q
  have v_f1 : f1 ∉ ([L, ct, n0, n1, bk0, d0, bk1, d1, kp0, kp1, rn0, rn1, cd, 50] : List Addr) := fun q => by
    simp only [List.mem_cons, List.not_mem_nil, or_false] at q
    rcases q with q | q | q | q | q | q | q | q | q | q | q | q | q | q
    · exact ne_tag (a := 4) (b := 1) ef1 eL rfl tL (by decide) q
    · exact ne_tag (a := 4) (b := 3) ef1 ect rfl tct (by decide) q
    · exact ne_tag (a := 4) (b := 2) ef1 en0 rfl rfl (by decide) q
    · exact ne_tag (a := 4) (b := 2) ef1 en1 rfl rfl (by decide) q
    · exact ne_tag (a := 4) (b := 1) ef1 ebk0 rfl rfl (by decide) q
    · exact ne_tag (a := 4) (b := 1) ef1 ed0 rfl rfl (by decide) q
    · exact ne_tag (a := 4) (b := 1) ef1 ebk1 rfl rfl (by decide) q
    · exact ne_tag (a := 4) (b := 1) ef1 ed1 rfl rfl (by decide) q
    · exact ne_tag (a := 4) (b := 2) ef1 ekp0 rfl rfl (by decide) q
    · exact ne_tag (a := 4) (b := 2) ef1 ekp1 rfl rfl (by decide) q
    · exact ne_tag (a := 4) (b := 2) ef1 ern0 rfl rfl (by decide) q
    · exact ne_tag (a := 4) (b := 2) ef1 ern1 rfl rfl (by decide) q
    · exact ne_tag (a := 4) (b := 2) ef1 ecd rfl rfl (by decide) q
    · exact ne_tag (a := 4) (b := 5) ef1 e50 rfl rfl (by decide) q
  have v_c0 : c0 ∉ ([L, ct, n0, n1, bk0, d0, bk1, d1, kp0, kp1, rn0, rn1, cd, 50] : List Addr) := fun q => by
    simp only [List.mem_cons, List.not_mem_nil, or_false] at q
    rcases q with q | q | q | q | q | q | q | q | q | q | q | q | q | q
    · exact ne_tag (a := 5) (b := 1) ec0 eL tc0 tL (by decide) q
    · exact ne_tag (a := 5) (b := 3) ec0 ect tc0 tct (by decide) q
    · exact ne_tag (a := 5) (b := 2) ec0 en0 tc0 rfl (by decide) q
    · exact ne_tag (a := 5) (b := 2) ec0 en1 tc0 rfl (by decide) q
    · exact ne_tag (a := 5) (b := 1) ec0 ebk0 tc0 rfl (by decide) q
    · exact ne_tag (a := 5) (b := 1) ec0 ed0 tc0 rfl (by decide) q
    · exact ne_tag (a := 5) (b := 1) ec0 ebk1 tc0 rfl (by decide) q
    · exact ne_tag (a := 5) (b := 1) ec0 ed1 tc0 rfl (by decide) q
    · exact ne_tag (a := 5) (b := 2) ec0 ekp0 tc0 rfl (by decide) q
    · exact ne_tag (a := 5) (b := 2) ec0 ekp1 tc0 rfl (by decide) q
    · exact ne_tag (a := 5) (b := 2) ec0 ern0 tc0 rfl (by decide) q
    · exact ne_tag (a := 5) (b := 2) ec0 ern1 tc0 rfl (by decide) q
    · exact ne_tag (a := 5) (b := 2) ec0 ecd tc0 rfl (by decide) q
    · exact absurd (show @Eq Nat c0 50 from q) (Nat.ne_of_gt o11)
  have v_c1 : c1 ∉ ([L, ct, n0, n1, bk0, d0, bk1, d1, kp0, kp1, rn0, rn1, cd, 50] : List Addr) := fun q => by
    simp only [List.mem_cons, List.not_mem_nil, or_false] at q
    rcases q with q | q | q | q | q | q | q | q | q | q | q | q | q | q
    · exact ne_tag (a := 5) (b := 1) ec1 eL tc1 tL (by decide) q
    · exact ne_tag (a := 5) (b := 3) ec1 ect tc1 tct (by decide) q
    · exact ne_tag (a := 5) (b := 2) ec1 en0 tc1 rfl (by decide) q
    · exact ne_tag (a := 5) (b := 2) ec1 en1 tc1 rfl (by decide) q
    · exact ne_tag (a := 5) (b := 1) ec1 ebk0 tc1 rfl (by decide) q
    · exact ne_tag (a := 5) (b := 1) ec1 ed0 tc1 rfl (by decide) q
    · exact ne_tag (a := 5) (b := 1) ec1 ebk1 tc1 rfl (by decide) q
    · exact ne_tag (a := 5) (b := 1) ec1 ed1 tc1 rfl (by decide) q
    · exact ne_tag (a := 5) (b := 2) ec1 ekp0 tc1 rfl (by decide) q
    · exact ne_tag (a := 5) (b := 2) ec1 ekp1 tc1 rfl (by decide) q
    · exact ne_tag (a := 5) (b := 2) ec1 ern0 tc1 rfl (by decide) q
    · exact ne_tag (a := 5) (b := 2) ec1 ern1 tc1 rfl (by decide) q
    · exact ne_tag (a := 5) (b := 2) ec1 ecd tc1 rfl (by decide) q
    · exact absurd (show @Eq Nat c1 50 from q) (Nat.ne_of_gt o12)
  have v_cn : cn ∉ ([L, ct, n0, n1, bk0, d0, bk1, d1, kp0, kp1, rn0, rn1, cd, 50] : List Addr) := fun q => by
    simp only [List.mem_cons, List.not_mem_nil, or_false] at q
    rcases q with q | q | q | q | q | q | q | q | q | q | q | q | q | q
    · exact ne_tag (a := 3) (b := 1) ecn eL tcn tL (by decide) q
    · exact hcn q
    · exact ne_tag (a := 3) (b := 2) ecn en0 tcn rfl (by decide) q
    · exact ne_tag (a := 3) (b := 2) ecn en1 tcn rfl (by decide) q
    · exact ne_tag (a := 3) (b := 1) ecn ebk0 tcn rfl (by decide) q
    · exact ne_tag (a := 3) (b := 1) ecn ed0 tcn rfl (by decide) q
    · exact ne_tag (a := 3) (b := 1) ecn ebk1 tcn rfl (by decide) q
    · exact ne_tag (a := 3) (b := 1) ecn ed1 tcn rfl (by decide) q
    · exact ne_tag (a := 3) (b := 2) ecn ekp0 tcn rfl (by decide) q
    · exact ne_tag (a := 3) (b := 2) ecn ekp1 tcn rfl (by decide) q
    · exact ne_tag (a := 3) (b := 2) ecn ern0 tcn rfl (by decide) q
    · exact ne_tag (a := 3) (b := 2) ecn ern1 tcn rfl (by decide) q
    · exact ne_tag (a := 3) (b := 2) ecn ecd tcn rfl (by decide) q
    · exact ne_tag (a := 3) (b := 5) ecn e50 tcn rfl (by decide) q
  have v_ln : ln ∉ ([L, ct, n0, n1, bk0, d0, bk1, d1, kp0, kp1, rn0, rn1, cd, 50] : List Addr) := fun q => by
    simp only [List.mem_cons, List.not_mem_nil, or_false] at q
    rcases q with q | q | q | q | q | q | q | q | q | q | q | q | q | q
    · exact ne_tag (a := 2) (b := 1) eln eL rfl tL (by decide) q
    · exact ne_tag (a := 2) (b := 3) eln ect rfl tct (by decide) q
    · exact absurd (show @Eq Nat ln n0 from q) (Nat.ne_of_gt p_n0_ln)
    · exact absurd (show @Eq Nat ln n1 from q) (Nat.ne_of_gt p_n1_ln)
    · exact ne_tag (a := 2) (b := 1) eln ebk0 rfl rfl (by decide) q
    · exact ne_tag (a := 2) (b := 1) eln ed0 rfl rfl (by decide) q
    · exact ne_tag (a := 2) (b := 1) eln ebk1 rfl rfl (by decide) q
    · exact ne_tag (a := 2) (b := 1) eln ed1 rfl rfl (by decide) q
    · exact absurd (show @Eq Nat ln kp0 from q) (Nat.ne_of_lt p_ln_kp0)
    · exact absurd (show @Eq Nat ln kp1 from q) (Nat.ne_of_lt p_ln_kp1)
    · exact absurd (show @Eq Nat ln rn0 from q) (Nat.ne_of_lt p_ln_rn0)
    · exact absurd (show @Eq Nat ln rn1 from q) (Nat.ne_of_lt p_ln_rn1)
    · exact absurd (show @Eq Nat ln cd from q) (Nat.ne_of_lt p_ln_cd)
    · exact ne_tag (a := 2) (b := 5) eln e50 rfl rfl (by decide) q
  have v_lb : lb ∉ ([L, ct, n0, n1, bk0, d0, bk1, d1, kp0, kp1, rn0, rn1, cd, 50] : List Addr) := fun q => by
    simp only [List.mem_cons, List.not_mem_nil, or_false] at q
    rcases q with q | q | q | q | q | q | q | q | q | q | q | q | q | q
    · exact ne_tag (a := 2) (b := 1) elb eL rfl tL (by decide) q
    · exact ne_tag (a := 2) (b := 3) elb ect rfl tct (by decide) q
    · exact absurd (show @Eq Nat lb n0 from q) (Nat.ne_of_gt p_n0_lb)
    · exact absurd (show @Eq Nat lb n1 from q) (Nat.ne_of_gt p_n1_lb)
    · exact ne_tag (a := 2) (b := 1) elb ebk0 rfl rfl (by decide) q
    · exact ne_tag (a := 2) (b := 1) elb ed0 rfl rfl (by decide) q
    · exact ne_tag (a := 2) (b := 1) elb ebk1 rfl rfl (by decide) q
    · exact ne_tag (a := 2) (b := 1) elb ed1 rfl rfl (by decide) q
    · exact absurd (show @Eq Nat lb kp0 from q) (Nat.ne_of_lt p_lb_kp0)
    · exact absurd (show @Eq Nat lb kp1 from q) (Nat.ne_of_lt p_lb_kp1)
    · exact absurd (show @Eq Nat lb rn0 from q) (Nat.ne_of_lt p_lb_rn0)
    · exact absurd (show @Eq Nat lb rn1 from q) (Nat.ne_of_lt p_lb_rn1)
    · exact absurd (show @Eq Nat lb cd from q) (Nat.ne_of_lt p_lb_cd)
    · exact ne_tag (a := 2) (b := 5) elb e50 rfl rfl (by decide) q
  have v_lk : lk ∉ ([L, ct, n0, n1, bk0, d0, bk1, d1, kp0, kp1, rn0, rn1, cd, 50] : List Addr) := fun q => by
    simp only [List.mem_cons, List.not_mem_nil, or_false] at q
    rcases q with q | q | q | q | q | q | q | q | q | q | q | q | q | q
    · exact ne_tag (a := 2) (b := 1) elk eL rfl tL (by decide) q
    · exact ne_tag (a := 2) (b := 3) elk ect rfl tct (by decide) q
    · exact absurd (show @Eq Nat lk n0 from q) (Nat.ne_of_gt p_n0_lk)
    · exact absurd (show @Eq Nat lk n1 from q) (Nat.ne_of_gt p_n1_lk)
    · exact ne_tag (a := 2) (b := 1) elk ebk0 rfl rfl (by decide) q
    · exact ne_tag (a := 2) (b := 1) elk ed0 rfl rfl (by decide) q
    · exact ne_tag (a := 2) (b := 1) elk ebk1 rfl rfl (by decide) q
    · exact ne_tag (a := 2) (b := 1) elk ed1 rfl rfl (by decide) q
    · exact absurd (show @Eq Nat lk kp0 from q) (Nat.ne_of_gt p_kp0_lk)
    · exact absurd (show @Eq Nat lk kp1 from q) (Nat.ne_of_gt p_kp1_lk)
    · exact absurd (show @Eq Nat lk rn0 from q) (Nat.ne_of_lt p_lk_rn0)
    · exact absurd (show @Eq Nat lk rn1 from q) (Nat.ne_of_lt p_lk_rn1)
    · exact absurd (show @Eq Nat lk cd from q) (Nat.ne_of_lt p_lk_cd)
    · exact ne_tag (a := 2) (b := 5) elk e50 rfl rfl (by decide) q
  have v_lr : lr ∉ ([L, ct, n0, n1, bk0, d0, bk1, d1, kp0, kp1, rn0, rn1, cd, 50] : List Addr) := fun q => by
    simp only [List.mem_cons, List.not_mem_nil, or_false] at q
    rcases q with q | q | q | q | q | q | q | q | q | q | q | q | q | q
    · exact ne_tag (a := 2) (b := 1) elr eL rfl tL (by decide) q
    · exact ne_tag (a := 2) (b := 3) elr ect rfl tct (by decide) q
    · exact absurd (show @Eq Nat lr n0 from q) (Nat.ne_of_gt p_n0_lr)
    · exact absurd (show @Eq Nat lr n1 from q) (Nat.ne_of_gt p_n1_lr)
    · exact ne_tag (a := 2) (b := 1) elr ebk0 rfl rfl (by decide) q
    · exact ne_tag (a := 2) (b := 1) elr ed0 rfl rfl (by decide) q
    · exact ne_tag (a := 2) (b := 1) elr ebk1 rfl rfl (by decide) q
    · exact ne_tag (a := 2) (b := 1) elr ed1 rfl rfl (by decide) q
    · exact absurd (show @Eq Nat lr kp0 from q) (Nat.ne_of_gt p_kp0_lr)
    · exact absurd (show @Eq Nat lr kp1 from q) (Nat.ne_of_gt p_kp1_lr)
    · exact absurd (show @Eq Nat lr rn0 from q) (Nat.ne_of_gt p_rn0_lr)
    · exact absurd (show @Eq Nat lr rn1 from q) (Nat.ne_of_gt p_rn1_lr)
    · exact absurd (show @Eq Nat lr cd from q) (Nat.ne_of_lt p_lr_cd)
    · exact ne_tag (a := 2) (b := 5) elr e50 rfl rfl (by decide) q
  have gL : g.get? L = none := by
    cases q : g.get? L with
    | none => rfl
    | some o => exact absurd (Nat.lt_of_lt_of_le (Heap.lt_size q) F.above) (Nat.lt_irrefl _)
  have HG : ∀ x ∈ ([L, ct, n0, n1, bk0, d0, bk1, d1, kp0, kp1, rn0, rn1, cd, 50] : List Addr), g.get? x = none := fun x hx => by
    rcases List.mem_cons.mp hx with rfl | hx
    · exact gL
    · exact (HN x hx).1
  let b := hideAll h [L, ct, n0, n1, bk0, d0, bk1, d1, kp0, kp1, rn0, rn1, cd, 50]
  have bget : ∀ x o, x ∉ ([L, ct, n0, n1, bk0, d0, bk1, d1, kp0, kp1, rn0, rn1, cd, 50] : List Addr) → h.get? x = some o → b.get? x = some o := fun x o hx e => hideAll_get _ e hx
  have bnone : ∀ x ∈ ([L, ct, n0, n1, bk0, d0, bk1, d1, kp0, kp1, rn0, rn1, cd, 50] : List Addr), b.get? x = none := fun x hx => hideAll_none _ hx
  have gb : g.StaysIn b := fun x o e => bget x o (fun q => by rw [HG x q] at e; cases e) (F.keep _ _ e)
  have bh : b.StaysIn h := fun x o e => of_hideAll _ e
  have T0 : Top0 w p loose mg mb b := ⟨XG.keeps gb, (topRead_of TG).keeps gb⟩
  have iln : b.IsList ln #[.ref n0, .ref n1] := ⟨_, bget _ _ v_ln eln, rfl, _, rfl⟩
  have icn : ∃ o, b.get? cn = some o ∧ o.data = .cell (some (.ref ln)) := ⟨_, bget _ _ v_cn ecn, dcn⟩
  refine ⟨b, T0, TG.keeps gb, gb, bh, ?_, ⟨⟨_, bget _ _ v_lb elb, rfl, _, rfl⟩, ⟨_, bget _ _ v_lk elk, rfl, _, rfl⟩, ⟨_, bget _ _ v_lr elr, rfl, _, rfl⟩⟩, iln, icn, bget⟩
  have mt : ∀ x, isMut (mkAd bk0 bk1 d0 d1 n0 n1 kp0 kp1 rn0 rn1 f0 f1 cd) st0 x → x ∈ [n0, n1, bk0, d0, bk1, d1, kp0, kp1, rn0, rn1, cd, (50 : Addr)] := by
    rintro x (⟨i, q, rfl⟩ | rfl | rfl | hx)
    · cases i <;> cases q <;> simp [mkAd]
    · simp [mkAd]
    · simp
    · cases hx
  have mtL : ∀ x ∈ [n0, n1, bk0, d0, bk1, d1, kp0, kp1, rn0, rn1, cd, (50 : Addr)], x ≠ L ∧ x ≠ ct := by
    intro x hx
    refine ⟨(HN x (.tail _ hx)).2, ?_⟩
    simp only [List.mem_cons, List.not_mem_nil, or_false] at hx
    rcases hx with rfl | rfl | rfl | rfl | rfl | rfl | rfl | rfl | rfl | rfl | rfl | rfl
    · exact ne_tag (a := 2) (b := 3) en0 ect rfl tct (by decide)
    · exact ne_tag (a := 2) (b := 3) en1 ect rfl tct (by decide)
    · exact ne_tag (a := 1) (b := 3) ebk0 ect rfl tct (by decide)
    · exact ne_tag (a := 1) (b := 3) ed0 ect rfl tct (by decide)
    · exact ne_tag (a := 1) (b := 3) ebk1 ect rfl tct (by decide)
    · exact ne_tag (a := 1) (b := 3) ed1 ect rfl tct (by decide)
    · exact ne_tag (a := 2) (b := 3) ekp0 ect rfl tct (by decide)
    · exact ne_tag (a := 2) (b := 3) ekp1 ect rfl tct (by decide)
    · exact ne_tag (a := 2) (b := 3) ern0 ect rfl tct (by decide)
    · exact ne_tag (a := 2) (b := 3) ern1 ect rfl tct (by decide)
    · exact ne_tag (a := 2) (b := 3) ecd ect rfl tct (by decide)
    · exact ne_tag (a := 5) (b := 3) e50 ect rfl tct (by decide)
  refine { hb := bh, sl := ?_, inj := ?_, cdv := ecd, cdn := ?_, tab := e50, ftab := .inl rfl, ls := fun x hx => (nomatch hx), lsn := fun x hx => (nomatch hx), th := fun x hx => (nomatch hx), ents := fun i e he => (nomatch he), esl := fun i e he => (nomatch he), lam := fun i x hx => (nomatch hx), code := fun x y c' q => ?_, ff := ?_, mb := ?_, mf := ?_, im := fun x hx => (nomatch hx), pn := List.nodup_nil, frb := ?_, frh := ?_, nsm := ?_ }
  · intro i q
    cases i <;> cases q <;> first | exact ebk0 | exact ebk1 | exact ed0 | exact ed1 | exact en0 | exact en1 | exact ekp0 | exact ekp1 | exact ern0 | exact ern1
  · intro i j p q e
    cases i <;> cases j <;> cases p <;> cases q
    · exact ⟨rfl, rfl⟩
    · exact absurd e bd0
    · exact absurd e (ne_tag (a := 1) (b := 2) ebk0 en0 rfl rfl (by decide))
    · exact absurd e (ne_tag (a := 1) (b := 2) ebk0 ekp0 rfl rfl (by decide))
    · exact absurd e (ne_tag (a := 1) (b := 2) ebk0 ern0 rfl rfl (by decide))
    · exact absurd e (Ne.symm bd0)
    · exact ⟨rfl, rfl⟩
    · exact absurd e (ne_tag (a := 1) (b := 2) ed0 en0 rfl rfl (by decide))
    · exact absurd e (ne_tag (a := 1) (b := 2) ed0 ekp0 rfl rfl (by decide))
    · exact absurd e (ne_tag (a := 1) (b := 2) ed0 ern0 rfl rfl (by decide))
    · exact absurd e (ne_tag (a := 2) (b := 1) en0 ebk0 rfl rfl (by decide))
    · exact absurd e (ne_tag (a := 2) (b := 1) en0 ed0 rfl rfl (by decide))
    · exact ⟨rfl, rfl⟩
    · exact absurd (show @Eq Nat n0 kp0 from e) (Nat.ne_of_lt p_n0_kp0)
    · exact absurd (show @Eq Nat n0 rn0 from e) (Nat.ne_of_lt p_n0_rn0)
    · exact absurd e (ne_tag (a := 2) (b := 1) ekp0 ebk0 rfl rfl (by decide))
    · exact absurd e (ne_tag (a := 2) (b := 1) ekp0 ed0 rfl rfl (by decide))
    · exact absurd (show @Eq Nat kp0 n0 from e) (Nat.ne_of_gt p_n0_kp0)
    · exact ⟨rfl, rfl⟩
    · exact absurd (show @Eq Nat kp0 rn0 from e) (Nat.ne_of_lt p_kp0_rn0)
    · exact absurd e (ne_tag (a := 2) (b := 1) ern0 ebk0 rfl rfl (by decide))
    · exact absurd e (ne_tag (a := 2) (b := 1) ern0 ed0 rfl rfl (by decide))
    · exact absurd (show @Eq Nat rn0 n0 from e) (Nat.ne_of_gt p_n0_rn0)
    · exact absurd (show @Eq Nat rn0 kp0 from e) (Nat.ne_of_gt p_kp0_rn0)
    · exact ⟨rfl, rfl⟩
    · exact absurd e hbk
    · exact absurd e bd1
    · exact absurd e (ne_tag (a := 1) (b := 2) ebk0 en1 rfl rfl (by decide))
    · exact absurd e (ne_tag (a := 1) (b := 2) ebk0 ekp1 rfl rfl (by decide))
    · exact absurd e (ne_tag (a := 1) (b := 2) ebk0 ern1 rfl rfl (by decide))
    · exact absurd e (Ne.symm bd2)
    · exact absurd e hdd
    · exact absurd e (ne_tag (a := 1) (b := 2) ed0 en1 rfl rfl (by decide))
    · exact absurd e (ne_tag (a := 1) (b := 2) ed0 ekp1 rfl rfl (by decide))
    · exact absurd e (ne_tag (a := 1) (b := 2) ed0 ern1 rfl rfl (by decide))
    · exact absurd e (ne_tag (a := 2) (b := 1) en0 ebk1 rfl rfl (by decide))
    · exact absurd e (ne_tag (a := 2) (b := 1) en0 ed1 rfl rfl (by decide))
    · exact absurd (show @Eq Nat n0 n1 from e) (Nat.ne_of_lt p_n0_n1)
    · exact absurd (show @Eq Nat n0 kp1 from e) (Nat.ne_of_lt p_n0_kp1)
    · exact absurd (show @Eq Nat n0 rn1 from e) (Nat.ne_of_lt p_n0_rn1)
    · exact absurd e (ne_tag (a := 2) (b := 1) ekp0 ebk1 rfl rfl (by decide))
    · exact absurd e (ne_tag (a := 2) (b := 1) ekp0 ed1 rfl rfl (by decide))
    · exact absurd (show @Eq Nat kp0 n1 from e) (Nat.ne_of_gt p_n1_kp0)
    · exact absurd (show @Eq Nat kp0 kp1 from e) (Nat.ne_of_lt p_kp0_kp1)
    · exact absurd (show @Eq Nat kp0 rn1 from e) (Nat.ne_of_lt p_kp0_rn1)
    · exact absurd e (ne_tag (a := 2) (b := 1) ern0 ebk1 rfl rfl (by decide))
    · exact absurd e (ne_tag (a := 2) (b := 1) ern0 ed1 rfl rfl (by decide))
    · exact absurd (show @Eq Nat rn0 n1 from e) (Nat.ne_of_gt p_n1_rn0)
    · exact absurd (show @Eq Nat rn0 kp1 from e) (Nat.ne_of_gt p_kp1_rn0)
    · exact absurd (show @Eq Nat rn0 rn1 from e) (Nat.ne_of_lt p_rn0_rn1)
    · exact absurd e (Ne.symm hbk)
    · exact absurd e bd2
    · exact absurd e (ne_tag (a := 1) (b := 2) ebk1 en0 rfl rfl (by decide))
    · exact absurd e (ne_tag (a := 1) (b := 2) ebk1 ekp0 rfl rfl (by decide))
    · exact absurd e (ne_tag (a := 1) (b := 2) ebk1 ern0 rfl rfl (by decide))
    · exact absurd e (Ne.symm bd1)
    · exact absurd e (Ne.symm hdd)
    · exact absurd e (ne_tag (a := 1) (b := 2) ed1 en0 rfl rfl (by decide))
    · exact absurd e (ne_tag (a := 1) (b := 2) ed1 ekp0 rfl rfl (by decide))
    · exact absurd e (ne_tag (a := 1) (b := 2) ed1 ern0 rfl rfl (by decide))
    · exact absurd e (ne_tag (a := 2) (b := 1) en1 ebk0 rfl rfl (by decide))
    · exact absurd e (ne_tag (a := 2) (b := 1) en1 ed0 rfl rfl (by decide))
    · exact absurd (show @Eq Nat n1 n0 from e) (Nat.ne_of_gt p_n0_n1)
    · exact absurd (show @Eq Nat n1 kp0 from e) (Nat.ne_of_lt p_n1_kp0)
    · exact absurd (show @Eq Nat n1 rn0 from e) (Nat.ne_of_lt p_n1_rn0)
    · exact absurd e (ne_tag (a := 2) (b := 1) ekp1 ebk0 rfl rfl (by decide))
    · exact absurd e (ne_tag (a := 2) (b := 1) ekp1 ed0 rfl rfl (by decide))
    · exact absurd (show @Eq Nat kp1 n0 from e) (Nat.ne_of_gt p_n0_kp1)
    · exact absurd (show @Eq Nat kp1 kp0 from e) (Nat.ne_of_gt p_kp0_kp1)
    · exact absurd (show @Eq Nat kp1 rn0 from e) (Nat.ne_of_lt p_kp1_rn0)
    · exact absurd e (ne_tag (a := 2) (b := 1) ern1 ebk0 rfl rfl (by decide))
    · exact absurd e (ne_tag (a := 2) (b := 1) ern1 ed0 rfl rfl (by decide))
    · exact absurd (show @Eq Nat rn1 n0 from e) (Nat.ne_of_gt p_n0_rn1)
    · exact absurd (show @Eq Nat rn1 kp0 from e) (Nat.ne_of_gt p_kp0_rn1)
    · exact absurd (show @Eq Nat rn1 rn0 from e) (Nat.ne_of_gt p_rn0_rn1)
    · exact ⟨rfl, rfl⟩
    · exact absurd e bd3
    · exact absurd e (ne_tag (a := 1) (b := 2) ebk1 en1 rfl rfl (by decide))
    · exact absurd e (ne_tag (a := 1) (b := 2) ebk1 ekp1 rfl rfl (by decide))
    · exact absurd e (ne_tag (a := 1) (b := 2) ebk1 ern1 rfl rfl (by decide))
    · exact absurd e (Ne.symm bd3)
    · exact ⟨rfl, rfl⟩
    · exact absurd e (ne_tag (a := 1) (b := 2) ed1 en1 rfl rfl (by decide))
    · exact absurd e (ne_tag (a := 1) (b := 2) ed1 ekp1 rfl rfl (by decide))
    · exact absurd e (ne_tag (a := 1) (b := 2) ed1 ern1 rfl rfl (by decide))
    · exact absurd e (ne_tag (a := 2) (b := 1) en1 ebk1 rfl rfl (by decide))
    · exact absurd e (ne_tag (a := 2) (b := 1) en1 ed1 rfl rfl (by decide))
    · exact ⟨rfl, rfl⟩
    · exact absurd (show @Eq Nat n1 kp1 from e) (Nat.ne_of_lt p_n1_kp1)
    · exact absurd (show @Eq Nat n1 rn1 from e) (Nat.ne_of_lt p_n1_rn1)
    · exact absurd e (ne_tag (a := 2) (b := 1) ekp1 ebk1 rfl rfl (by decide))
    · exact absurd e (ne_tag (a := 2) (b := 1) ekp1 ed1 rfl rfl (by decide))
    · exact absurd (show @Eq Nat kp1 n1 from e) (Nat.ne_of_gt p_n1_kp1)
    · exact ⟨rfl, rfl⟩
    · exact absurd (show @Eq Nat kp1 rn1 from e) (Nat.ne_of_lt p_kp1_rn1)
    · exact absurd e (ne_tag (a := 2) (b := 1) ern1 ebk1 rfl rfl (by decide))
    · exact absurd e (ne_tag (a := 2) (b := 1) ern1 ed1 rfl rfl (by decide))
    · exact absurd (show @Eq Nat rn1 n1 from e) (Nat.ne_of_gt p_n1_rn1)
    · exact absurd (show @Eq Nat rn1 kp1 from e) (Nat.ne_of_gt p_kp1_rn1)
    · exact ⟨rfl, rfl⟩
  · intro i q e
    cases i <;> cases q
    · exact absurd e (ne_tag (a := 1) (b := 2) ebk0 ecd rfl rfl (by decide))
    · exact absurd e (ne_tag (a := 1) (b := 2) ed0 ecd rfl rfl (by decide))
    · exact absurd (show @Eq Nat n0 cd from e) (Nat.ne_of_lt p_n0_cd)
    · exact absurd (show @Eq Nat kp0 cd from e) (Nat.ne_of_lt p_kp0_cd)
    · exact absurd (show @Eq Nat rn0 cd from e) (Nat.ne_of_lt p_rn0_cd)
    · exact absurd e (ne_tag (a := 1) (b := 2) ebk1 ecd rfl rfl (by decide))
    · exact absurd e (ne_tag (a := 1) (b := 2) ed1 ecd rfl rfl (by decide))
    · exact absurd (show @Eq Nat n1 cd from e) (Nat.ne_of_lt p_n1_cd)
    · exact absurd (show @Eq Nat kp1 cd from e) (Nat.ne_of_lt p_kp1_cd)
    · exact absurd (show @Eq Nat rn1 cd from e) (Nat.ne_of_lt p_rn1_cd)
  · have := congrArg Array.size q
    simp [st0] at this
  · intro i
    cases i with
    | false => exact ⟨⟨_, bget _ _ v_f0 ef0⟩, fac_law (i := false) (nf := fun i => match i with | false => n0 | true => n1) T0 (bnone _ (by simp)) (bget _ _ v_f0 ef0) ⟨_, _, vs0, t0, rfl, bget _ _ v_c0 ec0, dc0, dv0⟩ icn iln⟩
    | true => exact ⟨⟨_, bget _ _ v_f1 ef1⟩, fac_law (i := true) (nf := fun i => match i with | false => n0 | true => n1) T0 (bnone _ (by simp)) (bget _ _ v_f1 ef1) ⟨_, _, vs1, t1, rfl, bget _ _ v_c1 ec1, dc1, dv1⟩ icn iln⟩
  · intro x hx
    exact bnone x (.tail _ (.tail _ (mt x hx)))
  · intro x hx q
    have := mtL x (mt x hx)
    simp only [List.mem_cons, List.not_mem_nil, or_false] at q
    rcases q with q | q
    · exact this.1 q
    · exact this.2 q
  · intro x hx
    simp only [List.mem_cons, List.not_mem_nil, or_false] at hx
    rcases hx with rfl | rfl
    · exact bnone _ (.head _)
    · exact bnone _ (.tail _ (.head _))
  · intro x hx
    simp only [List.mem_cons, List.not_mem_nil, or_false] at hx
    rcases hx with rfl | rfl
    · exact ⟨_, eL⟩
    · exact ⟨_, ect⟩
  · intro i
    cases i
    · exact s0
    · exact s1
end Mine
end
section
open PySem PySem.W PySem.Calls PyProof.Rows PySem.SeqAt
set_option linter.unusedVariables false
set_option maxRecDepth 100000
set_option maxHeartbeats 1000000
namespace Mine
theorem bk_pyIter {w : World} {A : Around} {s : Shared} {Q : Value → Shared → Prop} {E : Value → Shared → Prop} {bk d f : Addr} {es : List BEnt} {ep : Nat} {od : Obj}
    (X : (hd.heap_39 w.params).In s.heap) (hb : s.heap.get? bk = some (bookObj d f es ep)) (hd' : s.heap.get? d = some od) (hne : ¬ bk = sysModules) (hes : es.length < 1000)
    (hroom : A.depth + 4 < recursionLimit) (hu : A.units + 100 < cLine) (hh : A.handled = none)
    (hQ : ∀ h' tk it, (∀ c o, s.heap.get? c = some o → h'.get? c = some o) → s.heap.get? it = none → h'.IsKeyIter it bk 0 es.length ep → Q (.ref it) { s with heap := h', toks := tk }) :
    wpAny (model PG w) A (pyIter (.ref bk)) Q E s := by
  have I := book_inst hb hd'
  have hc : wpAny (model PG w) A (call (.builtin "dict.__iter__") [.ref bk]) (fun it s' => ∃ T' r, s'.TypeIs it T' ∧ typeLookup (.type T') "__next__" = pure (some r) ∧ Q it s') E s := by
    refine bk_iter0 X hb hne (by simpa [bents] using hes) hroom hu hh fun h' tk it k h0 h1 => ?_
    have hi : h'.IsKeyIter it bk 0 es.length ep := ⟨_, h1, rfl, by simp [bents]⟩
    exact ⟨"dict_keyiterator", _, ⟨_, h1, rfl⟩, F.slot_dict_keyiterator_next.lookup, hQ _ _ _ k h0 hi⟩
  unfold pyIter
  refine wpAny_bind (wpAny_bind (I.type.here ((looks_findIn X (r := some (.builtin "dict.__iter__")) (by k_is)).here ?_)))
  show wpAny _ _ (callSpecialIfBoundUnlessNone? (.ref bk) "__iter__" _ >>= _) Q E s
  refine wpAny_bind ?_
  simp only [callSpecialIfBoundUnlessNone?, bindSpecialIfBound?]
  refine wpAny_holding (wpAny_bind (wpAny_bind (wpAny_bind (I.type.here ((looks_findIn X (r := some (.builtin "dict.__iter__")) (by k_is)).here ?_)))))
  simp only [F.slot_dict_iter.bind]
  refine wpAny_bind (wpAny_askSetting (wpAny_ite ?_))
  have hfin : ∀ {rf : Sem Value} {Q2 : Option Value → Shared → Prop}, wpAny (model PG w) A (call (.builtin "dict.__iter__") [.ref bk]) (fun v => Q2 (some v)) E s → wpAny (model PG w) A (if (Value.builtin "dict.__iter__" == Value.none) = true then (rf >>= fun v => pure (some v)) else (call (.builtin "dict.__iter__") [.ref bk] >>= fun v => pure (some v))) Q2 E s := by
    intro rf Q2 h
    rw [if_neg (by decide)]
    exact wpAny_bind (wpAny_mono h (fun v s' h' => wpAny_pure h') fun _ _ h' => h')
  have hc2 := wpAny_mono (Q' := fun v s' => wpAny (model PG w) A (do match ← specialOf v "__next__" with | none => rule "iter.non-iterator"; raiseError "TypeError" s!"iter() returned non-iterator of type '{← typeNameOf v}'" | some _ => pure v) Q E s') hc (fun it s' ⟨T', r, hT', hl, q⟩ => wpAny_bind (wpAny_specialOf hT' hl (wpAny_pure q))) fun _ _ e => e
  split
  · exact wpAny_bind (wpAny_pure (wpAny_pure (hfin hc2)))
  · exact wpAny_tryCatch (wpAny_bind (wpAny_pure (wpAny_pure (hfin hc2))))
noncomputable abbrev BkIt (h : Heap) (I bk d f : Addr) (es : List BEnt) (ep i : Nat) : Prop := h.IsKeyIter I bk i es.length ep ∧ h.get? bk = some (bookObj d f es ep)
theorem bk_turn {w : World} {A : Around} {s : Shared} {E : Value → Shared → Prop} {bk d f it : Addr} {es : List BEnt} {ep i : Nat} {Q : Option Value → Shared → Prop} (hh : A.handled = none) (st : BkIt s.heap it bk d f es ep i)
    (more : ∀ e h', es[i]? = some e → h'.IsKeyIter it bk (i + 1) es.length ep → Heap.SameBut it s.heap h' → Q (some (.int e.k e.t)) { s with heap := h' })
    (over : es[i]? = none → ∀ h', Heap.ExtBut it s.heap h' → Q none { s with heap := h' }) : wpAny (model PG w) A (pyNext (.ref it)) Q E s := by
  have hit := st.1
  have hb := st.2
  obtain ⟨o, ho, hc, hd⟩ := id hit
  have hg : (bents es)[i]? = es[i]?.map fun e => ⟨hashInt e.k, .int e.k e.t, .ref e.l⟩ := by unfold bents; rw [List.getElem?_toArray, List.getElem?_map]
  have hn : (bents es).size = es.length := by simp [bents]
  have ni : ¬ ((i : Int) < 0) := Int.not_lt.mpr (Int.natCast_nonneg i)
  have nb : ¬ ((Value.ref bk == Value.none) = true) := fun q => nomatch (show false = true from q)
  have nm : ∀ {A' : Around} {Q2 : String → Shared → Prop} {E2 : Value → Shared → Prop}, Q2 "dict_keyiterator" s → wpAny (model PG w) A' (typeNameOfWhole (.ref it)) Q2 E2 s := wpAny_typeNameOfWhole_keyiter hit.typeIs
  unfold pyNext
  refine wpAny_bind (wpAny_attempt (wpAny_callSpecial?_slot (name := PySem.Str.ofString "__next__") hit.typeIs F.slot_dict_keyiterator_next (wpAny_call_entry F.slot_dict_keyiterator_next hit.typeIs F.entry_dict_keyiterator_next ?_ (F.args_dict_keyiterator_next_1 _))))
  refine wpAny_bind (wpAny_pure (wpAny_bind (wpAny_bind (wpAny_bind (nm (wpAny_pure ?_))))))
  refine wpAny_bind (wpAny_fieldsOf ho hd ?_)
  rw [if_neg (show ¬ (Builtin.Dict_items.ownsTuple "dict_keyiterator" = true) by decide)]
  refine (show wpAny _ _ (if (Value.ref bk == Value.none) = true then _ else _) _ _ s from ?_)
  rw [if_neg nb]
  refine wpAny_bind (wpAny_pure (wpAny_bind (wpAny_dictEntries hb rfl ?_)))
  rw [if_neg (by simp [hn])]
  refine wpAny_bind (wpAny_pure (wpAny_bind (wpAny_dictEpoch hb rfl ?_)))
  rw [if_neg (by simp)]
  refine wpAny_pure ?_
  simp only [if_neg ni, Int.toNat_natCast, hg]
  cases hx : es[i]? with
  | some e =>
    refine wpAny_bind (wpAny_bind (nm (wpAny_pure (wpAny_bind (wpAny_isOneOf_keyiter hit.typeIs ?_)))))
    refine (show wpAny _ _ (setField (.ref it) 1 (rawInt ((i : Int) + 1)) >>= _) _ _ s from ?_)
    have h2 : (s.heap.update it (Obj.mapFields (·.setIfInBounds 1 (rawInt ((i : Int) + 1))))).IsKeyIter it bk (i + 1) es.length ep := by
      refine ⟨_, Heap.get?_update_self _ ho (Obj.isFreed_of_fields (Obj.data_mapFields hd _)), (Obj.cls_mapFields ..).trans hc, ?_⟩
      rw [Obj.data_mapFields hd]; simp [rawInt]
    refine wpAny_bind (wpAny_setField ho hd (by simp) (wpAny_bind (wpAny_holding (wpAny_bind (wpAny_isOneOf_keyiter (s := ⟨_, s.gens, s.drawn, s.toks, s.os⟩) h2.typeIs ?_)))))
    exact wpAny_pure (wpAny_pure ⟨_, rfl, wpAny_pure (more e _ hx h2 (Heap.SameBut.update ..))⟩)
  | none =>
    refine wpAny_bind (wpAny_bind (nm (wpAny_pure ?_)))
    refine (show wpAny _ _ (setField (.ref it) 0 .none >>= _) _ _ s from ?_)
    refine wpAny_bind (wpAny_setField ho hd (by simp) (wpAny_bind (m := newExc (.type "StopIteration") []) ?_))
    simp only [newExc, newTuple]
    refine wpAny_bind (wpAny_newObj_type (wpAny_bind (m := firstArgMember _ _) (wpAny_of_eq (a := Value.none) (by rfl) (wpAny_newObj_type ?_ (by size_fits)))) (by size_fits))
    simp only [raiseNew]
    refine wpAny_bind (wpAny_handled ?_)
    rw [show A.in1.handled = none from hh]
    refine wpAny_bind (wpAny_pure (wpAny_throw ?_))
    refine wpAny_bind (wpAny_isInstance (T := "StopIteration") (b := true) ⟨_, Heap.get?_push_size _ rfl, rfl⟩ isSubtype_stop ?_)
    exact wpAny_pure (over hx _ (((Heap.SameBut.update ..).extBut.push _).push _))
theorem bk_walks {w : World} {A : Around} {bk d f I : Addr} {es : List BEnt} {ep : Nat} (hh : A.handled = none) (hne : bk ≠ I) :
    Walks PG w A I [I, bk] [I] es.length (fun i v => ∃ e, es[i]? = some e ∧ v = .int e.k e.t) (fun i h => BkIt h I bk d f es ep i) where
  sub := fun b hb => by simp at hb; simp [hb]
  frame := fun _ _ _ st hk => ⟨st.1.at fun o e => hk I (by simp) o e, hk bk (by simp) _ st.2⟩
  item := fun i s Q E hi st hQ => by
    refine bk_turn hh st (fun e h' he hit' hs' => ?_) fun q => absurd q (by simp [hi])
    exact hQ _ h' s.toks ⟨_, he, rfl⟩ ⟨hit', hs'.extBut _ _ hne st.2⟩ fun b o hb e => hs'.extBut b o (fun h => hb (by simp [h])) e
  done := fun s Q E st hQ => bk_turn hh st (fun e h' q => absurd q (by simp)) fun _ h' he' => hQ h' s.toks fun b o hb e => he' b o (fun h => hb (by simp [h])) e
  self := fun _ _ _ _ st hQ => wpAny_pyIter_keyiter st.1 hQ
end Mine
end
section
open PySem PySem.W PySem.Calls PyProof.Rows PySem.SeqAt
set_option linter.unusedVariables false
set_option maxRecDepth 100000
set_option maxHeartbeats 1000000
namespace Mine
theorem bk_hint {w : World} {A : Around} {s : Shared} {Q : Bool → Shared → Prop} {E : Value → Shared → Prop} {bk d f : Addr} {es : List BEnt} {ep : Nat} {od : Obj}
    (X : (hd.heap_39 w.params).In s.heap) (hb : s.heap.get? bk = some (bookObj d f es ep)) (hd' : s.heap.get? d = some od) (hne : ¬ bk = sysModules) (hes : es.length < 1000)
    (hroom : A.depth + 4 < recursionLimit) (hu : A.units + 100 < cLine) (hh : A.handled = none)
    (hQ : ∀ (h' : Heap) (tk : Nat) (r : Bool), (∀ c o, s.heap.get? c = some o → h'.get? c = some o) → Q r { s with heap := h', toks := tk }) :
    wpAny (model PG w) A (Builtin.List.listLengthHint (.ref bk)) Q E s := by
  have I := book_inst hb hd'
  unfold Builtin.List.listLengthHint
  refine wpAny_bind (wpAny_bind (I.type.here ((looks_findIn X (r := some (.builtin "dict.__len__")) (by k_is)).here ?_)))
  generalize hid : ("dict.__len__" : String) = id0
  wp_delta
  rw [show splitId id0 = some ("dict", "__len__") from by subst hid; decide +kernel]
  subst hid
  refine wpAny_bind ((book_isDict X hb hd').here ?_)
  refine wpAny_ite_split (fun hab => absurd hab (by decide)) (fun _ => ?_)
  refine wpAny_ite_split (fun _ => ?_) (fun hab => absurd (by decide +kernel) hab)
  refine wpAny_bind (I.type.here ?_)
  refine wpAny_bind (bk_len X hb hne (by simpa [bents] using hes) hroom hu hh fun h' tk tk2 n hn k => ?_)
  subst hn
  refine wpAny_bind (wpAny_of_eq (a := some ((bents es).size : Int)) (by rfl) ?_)
  exact wpAny_pure (hQ _ _ _ k)
theorem bk_extend {w : World} {A : Around} {s : Shared} {R : Result → Shared → Prop} {bk d f S : Addr} {es : List BEnt} {ep c₀ : Nat} {od : Obj} {res : Value}
    (X : (hd.heap_39 w.params).In s.heap) (hb : s.heap.get? bk = some (bookObj d f es ep)) (hd' : s.heap.get? d = some od) (hne : ¬ bk = sysModules) (hes : es.length < 1000)
    (hroom : A.depth + 5 < recursionLimit) (hu : A.units + 110 < cLine) (hh : A.handled = none)
    (hXS : ∀ o, (hd.heap_39 w.params).lookup S = some o → False) (hSd : S ≠ d) (hS : s.heap.get? S = some { cls := .type "list", data := .seq #[] c₀ })
    (hR : ∀ h' tk acc' c', (∀ b o, b ≠ S → s.heap.get? b = some o → h'.get? b = some o) → h'.get? S = some { cls := .type "list", dict := none, data := .seq acc' c', slots := #[] } → ItemsOf (fun i v => ∃ e, es[i]? = some e ∧ v = .int e.k e.t) acc' es.length → R (.ok (.ret res)) { s with heap := h', toks := tk }) :
    wpAny (model PG w) A.in1 (Builtin.List.listExtendWith (.ref S) (.ref bk) res)
      (fun fin s' => match fin with | .done f => R (.ok f) s' | .again c' => c'.quiet = true ∧ codeAny (model PG w) A c' R s') (fun e s' => R (.error e) s') s := by
  have I := book_inst hb hd'
  have hSb : S ≠ bk := fun q => by rw [q, hb] at hS; cases hS
  have hn : es.length ≤ sizeLine := by have := sizeLine_eq; omega
  have h1 : Builtin.List.listSameRef (.ref S) (.ref bk) = false := by simp [Builtin.List.listSameRef, hSb]
  unfold Builtin.List.listExtendWith
  refine wpAny_bind (I.type.here ?_)
  simp only [h1, show (Value.ref 58 == Value.type "list") = false by decide, show (Value.ref 58 == Value.type "tuple") = false by decide, Bool.or_false, Bool.false_eq_true, if_false]
  refine wpAny_bind (bk_pyIter X hb hd' hne hes (by show A.depth + 4 < _; omega) (by show A.units + 1 + 100 < _; omega) hh fun h1' tk1 it k1 hit0 hit => ?_)
  have hSI : S ≠ it := fun q => by rw [q, hit0] at hS; cases hS
  have hbI : bk ≠ it := fun q => by rw [q, hit0] at hb; cases hb
  have W := (bk_walks (w := w) (A := A.in1) (d := d) (f := f) (es := es) (ep := ep) hh hbI)
  refine wpAny_bind (wpAny_holding (bk_hint (X.keeps k1) (k1 _ _ hb) (k1 _ _ hd') hne hes (by show A.depth + 4 < _; omega) (by show A.units + 1 + 100 < _; omega) hh fun h2' tk2 r k2 => ?_))
  have st : BkIt h2' it bk d f es ep 0 := ⟨hit.at fun o e => k2 _ _ e, k2 _ _ (k1 _ _ hb)⟩
  have hS2 := k2 _ _ (k1 _ _ hS)
  have hSf : S ∉ [it, bk] := by simp [hSI, hSb]
  have key : ∀ (h : Heap) (c₁ tk : Nat), BkIt h it bk d f es ep 0 → (∀ b o, b ≠ S → s.heap.get? b = some o → h.get? b = some o) →
      h.get? S = some { cls := .type "list", data := .seq #[] c₁ } → codeAny (model PG w) A (.builtin "list.extend.loop" ⟨[.ref S, .ref it, res], []⟩) R { s with heap := h, toks := tk } := by
    intro h c₁ tk hst hk hS₁
    refine codeAny_extend_loopS W.toS hn S hSf res es.length 0 _ #[] c₁ rfl (Nat.zero_le _) hst hS₁ (ItemsOf.nil _) fun s' acc' c' hm hS' hacc => ?_
    rw [Moved.eq_with hm]
    refine hR s'.heap s'.toks acc' c' (fun b o hb e => hm.heap b o (fun hmem => ?_) (hk b o hb e)) hS' hacc
    rcases List.mem_cons.mp hmem with e' | hmem
    · exact hb e'
    · rw [List.mem_singleton.mp hmem, hit0] at e; cases e
  have k02 : ∀ b o, s.heap.get? b = some o → h2'.get? b = some o := fun b o e => k2 _ _ (k1 _ _ e)
  refine wpAny_ite_split (fun _ => ?_) (fun _ => wpAny_pure ⟨plainId_quiet PySem.F.plain_extend_loop _, key _ c₀ _ st (fun b o _ e => k02 _ _ e) hS2⟩)
  refine wpAny_bind (wpAny_rule ?_)
  refine wpAny_bind ?_
  show wpAny _ _ (updateSeq S (·.push .none) >>= fun _ => updateSeq S (·.pop)) _ _ _
  refine wpAny_bind (wpAny_updateSeq hS2 rfl ?_)
  have hS₂ := Heap.get?_update_self (Obj.mapSeq (·.push Value.none)) hS2 rfl
  refine wpAny_updateSeq (hz := by seq_fits) hS₂ rfl ?_
  have hS₃ := Heap.get?_update_self (Obj.mapSeq (·.pop)) hS₂ rfl
  refine wpAny_pure ⟨plainId_quiet PySem.F.plain_extend_loop _, key _ _ _ ?_ (fun b o hb e => ?_) hS₃⟩
  · refine W.frame 0 _ _ st fun b hb o e => ?_
    have hbS : b ≠ S := fun h => hSf (h ▸ hb)
    exact (Heap.get?_update_other _ _ (Ne.symm hbS)).trans ((Heap.get?_update_other _ _ (Ne.symm hbS)).trans e)
  · exact (Heap.get?_update_other _ _ (Ne.symm hb)).trans ((Heap.get?_update_other _ _ (Ne.symm hb)).trans (k02 _ _ e))
theorem bk_list {w : World} {A : Around} {s : Shared} {Q : Value → Shared → Prop} {E : Value → Shared → Prop} {bk d f : Addr} {es : List BEnt} {ep : Nat} {od : Obj}
    (X : (hd.heap_39 w.params).In s.heap) (hb : s.heap.get? bk = some (bookObj d f es ep)) (hd' : s.heap.get? d = some od) (hne : ¬ bk = sysModules) (hes : es.length < 1000)
    (hroom : A.depth + 8 < recursionLimit) (hu : A.units + 120 < cLine) (hh : A.handled = none)
    (hQ : ∀ h' tk acc' c' D, (∀ b o, s.heap.get? b = some o → h'.get? b = some o) → s.heap.get? D = none → h'.get? D = some (PySem.W.listOf acc' c') → ItemsOf (fun i v => ∃ e, es[i]? = some e ∧ v = .int e.k e.t) acc' es.length → Q (.ref D) { s with heap := h', toks := tk }) :
    wpAny (model PG w) A (call (.type "list") [.ref bk]) Q E s := by
  refine callType_codes (Q₁ := fun obj s₁ => obj = .ref s.heap.objs.size ∧ s₁ = { s with heap := s.heap.push { cls := .type "list", data := .seq #[] } }) PySem.F.called_list (PySem.F.typeCall_list_1 _) PySem.F.entry_list_init
    (code_list_new _ ⟨rfl, rfl⟩) fun obj s₁ h₁ => ?_
  obtain ⟨rfl, rfl⟩ := h₁
  have hS : (s.heap.push { cls := .type "list", data := .seq #[] }).get? s.heap.objs.size = some { cls := .type "list", data := .seq #[] } := Heap.get?_push_size _ rfl
  have kp : ∀ c o, s.heap.get? c = some o → (s.heap.push { cls := .type "list", data := .seq #[] }).get? c = some o := fun c o e => Heap.get?_push_of_some _ e
  refine ⟨⟨_, hS, rfl⟩, PySem.F.args_list_init_2 _ _, ?_⟩
  show wpAny _ _ (do let old ← Builtin.List.listItems (.ref s.heap.objs.size); Builtin.List.listUpdate (.ref s.heap.objs.size) (fun _ => #[]); letGo old.toList.reverse; Builtin.List.listExtendWith (.ref s.heap.objs.size) (.ref bk) .none) _ _ _
  refine wpAny_bind ?_
  unfold Builtin.List.listItems
  refine wpAny_bind (wpAny_seqItems hS rfl (wpAny_pure ?_))
  show wpAny _ _ (updateSeq s.heap.objs.size (fun _ => #[]) >>= fun _ => letGo (#[] : Array Value).toList.reverse >>= fun _ => Builtin.List.listExtendWith (.ref s.heap.objs.size) (.ref bk) .none) _ _ _
  refine wpAny_bind (wpAny_updateSeq hS rfl ?_)
  have hS₂ := Heap.get?_update_self (Obj.mapSeq (fun _ => (#[] : Array Value))) hS rfl
  have oth : ∀ b o, s.heap.get? b = some o → ((s.heap.push { cls := .type "list", data := .seq #[] }).update s.heap.objs.size (Obj.mapSeq (fun _ => (#[] : Array Value)))).get? b = some o :=
    fun b o e => (Heap.get?_update_other _ _ (Nat.ne_of_gt (Heap.lt_size e))).trans (kp _ _ e)
  refine wpAny_bind (wpAny_letGo ?_)
  refine bk_extend (A := A.in1) (X.keeps oth) (oth _ _ hb) (oth _ _ hd') hne hes (by show A.depth + 5 < _; omega) (by show A.units + 1 + 110 < _; omega) hh (fun o e => by have := X _ _ e; exact absurd (Heap.lt_size this) (Nat.lt_irrefl _)) (Nat.ne_of_gt (Heap.lt_size hd')) hS₂ fun h' tk acc' c' hk hS' hacc => ?_
  exact ⟨rfl, hQ h' tk acc' c' _ (fun b o e => hk b o (Nat.ne_of_lt (Heap.lt_size e)) (oth _ _ e)) (Heap.get?_none_of_le (Nat.le_refl _)) hS' hacc⟩
end Mine
end
section
open PySem PySem.W PySem.Calls PyProof.Rows PySem.SeqAt
set_option linter.unusedVariables false
set_option maxRecDepth 100000
set_option maxHeartbeats 1000000
namespace Mine
theorem news_fresh {G h h' : Heap} {L x : Addr} {o : Obj} {m : PySem.Str → Option Value} {ns : List (Addr × Obj)} (F : Fr G L h m) (hx : h.get? x = none) (e : h'.get? x = some o) (N : News G L h' ns) : News G L h' ((x, o) :: ns) := by
  intro q hq
  rcases List.mem_cons.mp hq with rfl | hq
  · refine ⟨e, fun q => ?_, ?_⟩
    · obtain ⟨o, _, _, e2, _⟩ := F.ns
      have q2 : x = L := q
      rw [← q2, hx] at e2; cases e2
    · cases q : G.get? x with
      | none => rfl
      | some o => have := F.keep _ _ q; rw [hx] at this; cases this
  · exact N q hq
theorem segL {w : World} {g b h h' : Heap} {fr : List Addr} {a : Ad} {st : St} {L : Addr} {m m' : PySem.Str → Option Value} {ex : List Addr} {ns : List (Addr × Obj)} (F : Fr g L h m) (F' : Fr g L h' m') (N' : News g L h' (ns ++ rest g h ex)) (N : News g L h ns) (I : Inv w b fr a h st) (hex : ∀ z ∈ ex, z = L ∨ z ∈ ns.map (·.1)) (hL : L ∈ fr) :
    Inv w b fr a h' st ∧ News g L h' ns ∧ Keep [L] h h' := by
  have k := segK F F' N' (fun q hq => (N q hq).1) hex
  refine ⟨I.loc (ex := [L]) (fun x hx => by rw [List.mem_singleton.mp hx]; exact hL) k fun x hx => ?_, PySem.W.KStb.news_of N' fun q hq => List.mem_append_left _ hq, k⟩
  obtain ⟨o, _, _, e, _⟩ := F'.ns
  rw [List.mem_singleton.mp hx]; exact ⟨_, e⟩
/-- the frame and the cells after a call that knows the law's own base -/
theorem frL {w : World} {g b h h' : Heap} {fr : List Addr} {a : Ad} {st' : St} {L : Addr} {m : PySem.Str → Option Value} (F : Fr g L h m) (gb : g.StaysIn b) (I' : Inv w b fr a h' st') (hL : L ∈ fr) (S : Slots fr h h') : Fr g L h' m := ⟨slot_ns F.ns S hL, fun c o e => I'.hb _ _ (gb _ _ e), F.above⟩
theorem kturns_tups {w : World} {A : Around} {elts : List Expr} {k : Nat} {pos : Pos} (hh : A.handled = none) (I ax : Addr) (hne : ax ≠ I) (items : Array Value) (href : ∀ (i : Nat) (v : Value), items[i]? = some v → ∃ T, v = .ref T) :
    KTurns PG w A (.Tuple elts k pos) I [I, ax] [I] items.size (fun i v _ => items[i]? = some v) (fun i v h => items[i]? = some v ∧ h.IsListIter I ax (i + 1) ∧ h.IsList ax items) (fun i h => h.IsListIter I ax i ∧ h.IsList ax items) where
  sub := (Walks.list (prog := PG) (w := w) hh I ax hne items).sub
  frame := (Walks.list (prog := PG) (w := w) hh I ax hne items).frame
  item := fun i s Q E hi st hQ => (Walks.list hh I ax hne items).item i s Q E hi st fun v h' tk hP st' hk => hQ v h' tk ⟨hP, st'⟩ hk
  go := fun i v s Q E hm hQ => by
    obtain ⟨T, rfl⟩ := href i v hm.1
    exact wpAny_letOwnedTupleGo_listiter hm.2.1 (hQ s.heap hm.1 hm.2 fun _ _ _ e => e)
  done := (Walks.list hh I ax hne items).done
theorem tups_ref {es : List Ent} : ∀ (i : Nat) (v : Value), (tups es).toArray[i]? = some v → ∃ T, v = .ref T := by
  intro i v h
  simp only [tups, List.getElem?_toArray, List.getElem?_map, Option.map_eq_some_iff] at h
  obtain ⟨e, _, rfl⟩ := h
  exact ⟨_, rfl⟩
theorem keys_list {es : List Ent} : ((List.range (tups es).toArray.size).filter fun _ => true).map (fun k => Value.int (es.getD k ⟨0, 0, 0, 0, 0⟩).k (es.getD k ⟨0, 0, 0, 0, 0⟩).t) = es.map fun e => Value.int e.k e.t := by
  refine List.ext_getElem? fun j => ?_
  have : (tups es).toArray.size = es.length := by simp [tups]
  have hf : (List.range es.length).filter (fun _ => true) = List.range es.length := List.filter_eq_self.mpr fun _ _ => rfl
  rw [this, hf]
  by_cases h : j < es.length
  · simp [h, List.getD_eq_getElem?_getD]
  · simp [h]
end Mine
end
section
open PySem PySem.W PySem.Calls PyProof.Rows PySem.SeqAt
set_option linter.unusedVariables false
set_option maxRecDepth 100000
set_option maxHeartbeats 1000000
namespace Mine
noncomputable def LMap (ux us uk ut : Option Value) (lb lk lr cd sc : Addr) : PySem.Str → Option Value := fun z => if z = PySem.Str.ofString "things" then ut else if z = PySem.Str.ofString "kind" then uk else if z = PySem.Str.ofString "side" then us else if z = PySem.Str.ofString "x" then ux else if z = PySem.Str.ofString "cold" then some (.ref cd) else if z = PySem.Str.ofString "runs" then some (.ref lr) else if z = PySem.Str.ofString "kept" then some (.ref lk) else if z = PySem.Str.ofString "books" then some (.ref lb) else if z = PySem.Str.ofString "script" then some (.ref sc) else none
theorem LMap_start {lb lk lr cd sc : Addr} (z : PySem.Str) : (if z = PySem.Str.ofString "cold" then some (Value.ref cd) else if z = PySem.Str.ofString "runs" then some (Value.ref lr) else if z = PySem.Str.ofString "kept" then some (Value.ref lk) else if z = PySem.Str.ofString "books" then some (Value.ref lb) else if z = PySem.Str.ofString "script" then some (Value.ref sc) else none) = LMap none none none none lb lk lr cd sc z := by
  unfold LMap
  by_cases h0 : z = PySem.Str.ofString "things"
  · subst h0; rfl
  by_cases h1 : z = PySem.Str.ofString "kind"
  · subst h1; rfl
  by_cases h2 : z = PySem.Str.ofString "side"
  · subst h2; rfl
  by_cases h3 : z = PySem.Str.ofString "x"
  · subst h3; rfl
  by_cases h4 : z = PySem.Str.ofString "cold"
  · subst h4; rfl
  by_cases h5 : z = PySem.Str.ofString "runs"
  · subst h5; rfl
  by_cases h6 : z = PySem.Str.ofString "kept"
  · subst h6; rfl
  by_cases h7 : z = PySem.Str.ofString "books"
  · subst h7; rfl
  by_cases h8 : z = PySem.Str.ofString "script"
  · subst h8; rfl
  simp only [if_neg h0, if_neg h1, if_neg h2, if_neg h3, if_neg h4, if_neg h5, if_neg h6, if_neg h7, if_neg h8]
theorem LMap_x {ux us uk ut : Option Value} {lb lk lr cd sc : Addr} {a : Value} (z : PySem.Str) : (if z = PySem.Str.ofString "x" then some a else LMap ux us uk ut lb lk lr cd sc z) = LMap (some a) us uk ut lb lk lr cd sc z := by
  by_cases h : z = PySem.Str.ofString "x"
  · subst h; rfl
  · rw [if_neg h]; unfold LMap; simp only [if_neg h]
theorem LMap_side {ux us uk ut : Option Value} {lb lk lr cd sc : Addr} {a : Value} (z : PySem.Str) : (if z = PySem.Str.ofString "side" then some a else LMap ux us uk ut lb lk lr cd sc z) = LMap ux (some a) uk ut lb lk lr cd sc z := by
  by_cases h : z = PySem.Str.ofString "side"
  · subst h; rfl
  · rw [if_neg h]; unfold LMap; simp only [if_neg h]
theorem LMap_kind {ux us uk ut : Option Value} {lb lk lr cd sc : Addr} {a : Value} (z : PySem.Str) : (if z = PySem.Str.ofString "kind" then some a else LMap ux us uk ut lb lk lr cd sc z) = LMap ux us (some a) ut lb lk lr cd sc z := by
  by_cases h : z = PySem.Str.ofString "kind"
  · subst h; rfl
  · rw [if_neg h]; unfold LMap; simp only [if_neg h]
theorem LMap_things {ux us uk ut : Option Value} {lb lk lr cd sc : Addr} {a : Value} (z : PySem.Str) : (if z = PySem.Str.ofString "things" then some a else LMap ux us uk ut lb lk lr cd sc z) = LMap ux us uk (some a) lb lk lr cd sc z := by
  by_cases h : z = PySem.Str.ofString "things"
  · subst h; rfl
  · rw [if_neg h]; unfold LMap; simp only [if_neg h]
/-- the state between two deeds -/
noncomputable def WInv (w : World) (b : Heap) (fr : List Addr) (a : Ad) (s : Shared) (it D L ct : Addr) (its : List Value) (M : Option Value → PySem.Str → Option Value) (n : Nat) (s' : Shared) : Prop :=
  ∃ h tk i st u, s' = { s with heap := h, toks := tk } ∧ n = its.length + 1 - i ∧ i ≤ its.length ∧ h.IsListIter it D i ∧ h.IsList D its.toArray ∧ h.Ns L (M u) ∧ Inv w b fr a h st ∧ Sync st (2 * i) (2 ^ (i + 1)) ∧ ∃ v, h.IsCell ct v
theorem listIter_slots {it t : Addr} {i : Nat} {h h' : Heap} {fr : List Addr} (H : h.IsListIter it t i) (S : Slots fr h h') (hf : it ∈ fr) : h'.IsListIter it t i := by
  obtain ⟨o, e, c, d⟩ := H
  obtain ⟨sl, e'⟩ := S _ hf _ e
  exact ⟨_, e', c, d⟩
theorem list_slots {t : Addr} {its : Array Value} {h h' : Heap} {fr : List Addr} (H : h.IsList t its) (S : Slots fr h h') (hf : t ∈ fr) : h'.IsList t its := by
  obtain ⟨o, e, c, n, d⟩ := H
  obtain ⟨sl, e'⟩ := S _ hf _ e
  exact ⟨_, e', c, n, d⟩
noncomputable def EInv (w : World) (b : Heap) (fr : List Addr) (a : Ad) (s : Shared) (it D L ct : Addr) (t0 t1 : Tok) (st : St) (M : Option Value → Option Value → Option Value → Option Value → PySem.Str → Option Value) (n : Nat) (s' : Shared) : Prop :=
  ∃ h tk i ux us uk ut, s' = { s with heap := h, toks := tk } ∧ n = 3 - i ∧ i ≤ 2 ∧ h.IsTupleIter it D i ∧ h.IsTuple D #[.int 0 t0, .int 1 t1] ∧ h.Ns L (M ux us uk ut) ∧ Inv w b fr a h st ∧ ∃ v, h.IsCell ct v
noncomputable def KInv (w : World) (b : Heap) (fr : List Addr) (a : Ad) (s : Shared) (it kp L ct it2 E6 : Addr) (j : Nat) (t0 t1 : Tok) (st : St) (ks : List Ent) (M : Option Value → Option Value → Option Value → PySem.Str → Option Value) (n : Nat) (s' : Shared) : Prop :=
  ∃ h tk i ux uk ut, s' = { s with heap := h, toks := tk } ∧ n = ks.length + 1 - i ∧ i ≤ ks.length ∧ h.IsListIter it kp i ∧ h.Ns L (M ux uk ut) ∧ Inv w b fr a h st ∧ (∃ v, h.IsCell ct v) ∧ h.IsTupleIter it2 E6 j ∧ h.IsTuple E6 #[.int 0 t0, .int 1 t1]
theorem told_hit {w : World} {b h : Heap} {fr : List Addr} {a : Ad} {st st' : St} {n m : Nat} {i : Bool} {e : Ent} {l : Addr} (I : Inv w b fr a h st) (Sy : Sync st n m) (he : e ∈ st.ks i) (B : BStep st i e.k e.t l st') : st' = st ∧ l ∈ st.ls ∧ e.l ∈ st.ls ∧ st.c l = st.c e.l ∧ Value.ref l ∈ st.nts i := by
  have hf := nodup_find_k (Sy.nd i) he
  rcases Sy.agree e.k i with ⟨q1, q2⟩ | ⟨e3, e3', q1, q2, q3⟩
  · rw [q2] at hf; cases hf
  · rw [q2] at hf; cases hf
    rcases B with ⟨e2, h1, rfl, rfl⟩ | ⟨hn, _⟩
    · have h1' : fe e.k (st'.es i) = some e2 := h1
      rw [q1] at h1'; cases h1'
      have hm := (find_mem_e q1).1
      exact ⟨rfl, I.esl _ _ hm, (I.ents _ _ he).2.2, q3, Sy.nt _ _ hm⟩
    · have hn' : fe e.k (st.es i) = none := hn
      rw [q1] at hn'; cases hn'
noncomputable def isR (l : Addr) (v : Option Value) : Bool := match v with | some (.ref x) => decide (x = l) | _ => false
theorem noned {l : Addr} {nts : List Value} (h : Value.ref l ∈ nts) : (((((List.range nts.toArray.size).filter fun i => isR l (nts[i]?)).map fun i => (nts[i]?).getD .none).toArray).size != (#[] : Array Value).size) = true := by
  obtain ⟨j, hj, e⟩ := List.mem_iff_getElem.mp h
  have hm : j ∈ (List.range nts.toArray.size).filter fun i => isR l (nts[i]?) := by
    refine List.mem_filter.mpr ⟨by simpa using hj, ?_⟩
    simp [isR, hj, e]
  have : ((List.range nts.toArray.size).filter fun i => isR l (nts[i]?)).length ≠ 0 := fun q => by
    rw [List.length_eq_zero_iff] at q
    rw [q] at hm; cases hm
  simpa using this
theorem cell_keep {h h' : Heap} {L c : Addr} {v : Option Value} (H : h.IsCell c v) (k : Keep [L] h h') (hne : c ≠ L) : h'.IsCell c v := by
  obtain ⟨o, e, d⟩ := H
  exact ⟨o, k _ _ (by simpa using hne) e, d⟩
theorem pow_small {i : Nat} (h : i ≤ 17) : 2 ^ (i + 1) < 300000 ∧ 2 ≤ 2 ^ (i + 1) ∧ 2 * 2 ^ (i + 1) = 2 ^ (i + 1 + 1) := by
  have h1 : 2 ^ (i + 1) ≤ 2 ^ 18 := Nat.pow_le_pow_right (by decide) (by omega)
  have h2 : 2 ^ 1 ≤ 2 ^ (i + 1) := Nat.pow_le_pow_right (by decide) (by omega)
  have h3 : 2 ^ (i + 1 + 1) = 2 ^ (i + 1) * 2 := Nat.pow_succ 2 (i + 1)
  omega
theorem keys_eq {w : World} {A : Around} {E : Value → Shared → Prop} {s : Shared} {Q : Value → Shared → Prop} {x y : Addr} {acc : Array Value} {es : List BEnt} {ks : List Ent}
    (hx : s.heap.IsList x acc) (hy : s.heap.IsList y (ks.map fun e => Value.int e.k e.t).toArray) (hacc : ItemsOf (fun i v => ∃ e : BEnt, es[i]? = some e ∧ v = .int e.k e.t) acc es.length) (hk : es.map (·.k) = ks.map (·.k)) (hu : A.units < cLine)
    (h : Q (.bool false) s) : wpAny (model PG w) A (compareOp .NotEq (.ref x) (.ref y)) Q E s := by
  have hl : es.length = ks.length := by have := congrArg List.length hk; simpa using this
  have hsz : acc.size = ((ks.map fun e => Value.int e.k e.t).toArray).size := by rw [hacc.1, hl]; simp
  refine RcNeAt.lists (items := acc) (items2 := (ks.map fun e => Value.int e.k e.t).toArray) (e := fun _ => true) hx hy hsz hu (fun j h1 h2 => ?_) _ _ _ _ ?_
  · obtain ⟨e, he, hv⟩ := hacc.2 j acc[j] (by simp [h1])
    have hj : j < ks.length := by rw [← hl]; exact (List.getElem?_eq_some_iff.mp he).1
    have hv2 : ((ks.map fun e => Value.int e.k e.t).toArray)[j] = .int ks[j].k ks[j].t := by simp
    rw [hv, hv2]
    have hkk : e.k = ks[j].k := by
      have q := congrArg (fun l : List Int => l[j]?) hk
      simp only [List.getElem?_map, he, Option.map_some] at q
      rw [List.getElem?_eq_getElem hj] at q
      simpa using q
    have := EqAt.int_int (A := A.in1) (s := s) e.k e.t ks[j].k ks[j].t
    rwa [show (e.k == ks[j].k) = true from by simp [hkk]] at this
  · rw [show (!(List.range acc.size).all fun _ => true) = false by simp]
    exact h
end Mine
end
section
open PySem PySem.W PySem.Calls PyProof.Rows PySem.SeqAt
set_option linter.unusedVariables false
set_option maxRecDepth 100000
set_option maxHeartbeats 8000000
namespace Mine
theorem law_holds : PySem.Challenge.rw_in0002_01.Holds := hd (by
  k_go0
  rename World => w
  rename List Int => xs
  (rename Fr _ _ _ _ => F0); (rename News _ _ _ _ => N0); (rename Top _ _ _ _ _ (ghostOf _ _) => TG)
  rename Frag.In _ _ => XG
  rename CellsAre _ _ _ => Y0
  have TR := topRead_of TG
  rename Shared => s1
  rename _ = Data.cell _ => dTold
  rename Obj => oT
  rename Heap.IsList (ghostOf _ _) _ _ => hscr
  rename IntsAre _ _ => hIa
  rename List Value => vs
  have hA1 : callerA.depth + 200 < recursionLimit := by decide +kernel
  have hA2 : callerA.units + 2000 < cLine := by decide +kernel
  have hA3 : callerA.handled = none := rfl
  walk_at "MY steps"
  (rename Fr _ _ _ _ => FA); (rename News _ _ _ _ => NA)
  rename_i n0 h_1 lt0 n1 h_2 lt1 ln h_3 lt2 h_4 oN F_ N_ dN f0 c0 oc0 vs0 t0 ct0 hA tkA dA1 dA2 ltA1 ltA2
  refine book_new (XG.keeps FA.keep) (NA _ (.head _)).1 (by show callerA.depth + 1 + 3 < _; omega) (by show callerA.units + 3 + 100 < _; omega) hA3 ?_
  intro hB tkB bk0 d0 eb1 eb2 eb3 kB eb4 eb5
  have FB := FA.keeps kB
  have neB : ∀ {x z : Addr} {o : Obj}, hA.get? x = none → hA.get? z = some o → @Ne Nat x z := fun h e q => by
    have q2 : _ = _ := q
    rw [q2, e] at h; cases h
  have NB := news_fresh FA eb1 eb4 (news_fresh FA eb2 eb5 (PyProof.Rows.News.grown NA kB))
  have xb1 := neB eb1 (NA (102, _) (by k_mem)).1
  have xb2 := neB eb2 (NA (102, _) (by k_mem)).1
  have NA102 := (NA (102, _) (by k_mem)).1
  clear NA F_ N_
  have FAk := And.intro FA True.intro
  clear FA
  try dsimp only
  walk_at "MY steps"
  (rename Fr _ _ _ _ => FC); (rename News _ _ _ _ => NC)
  rename_i f1 c1 oc1 vs1 t1 ct1 hC tkC dC1 dC2 ltC1 ltC2
  refine book_new (XG.keeps FC.keep) (NC _ (.head _)).1 (by show callerA.depth + 1 + 3 < _; omega) (by show callerA.units + 3 + 100 < _; omega) hA3 ?_
  intro hD tkD bk1 d1 eD1 eD2 eD3 kD eD4 eD5
  have FD := FC.keeps kD
  have ND := news_fresh FC eD1 eD4 (news_fresh FC eD2 eD5 (PyProof.Rows.News.grown NC kD))
  have NCk := And.intro NC True.intro
  have FCk := And.intro FC True.intro
  clear NC FC
  try dsimp only
  walk_at "MY steps"
  (rename Fr _ _ _ _ => FE); (rename News _ _ _ _ => NE)
  rename_i lb h_5 lt5 h_6 tk_1 kp0 h_7 lt6 kp1 h_8 lt7 lk h_9 lt8 h_10 tk_2 rn0 h_11 lt9 rn1 h_12 lt10 lr h_13 lt11 h_14 cd h_15 lt12 hE
  have FEk := And.intro FE True.intro
  have NEk := And.intro NE True.intro
  have tct : tagO oT = 3 := by unfold tagO; rw [dTold]
  have neA : ∀ {x z : Addr} {o : Obj}, hA.get? x = none → hA.get? z = some o → x ≠ z := fun h e q => by
    rw [q, e] at h; cases h
  have neC : ∀ {x z : Addr} {o : Obj}, hC.get? x = none → hC.get? z = some o → x ≠ z := fun h e q => by
    rw [q, e] at h; cases h
  have nz : ∀ {bk d : Addr} {h : Heap}, h.get? d = none → @GT.gt Nat _ bk d → (∀ c o, (ghostOf s1.heap [(54, 50), (104, 102)]).get? c = some o → h.get? c = some o) → bk ≠ sysModules := fun {bk d h} hd hg hk q => by
    obtain ⟨o, _, _, e, _⟩ := TR.b
    have d0 : ¬ @Eq Nat d 0 := fun z => by
      have z2 : d = builtinsNs := z
      rw [z2, hk _ _ e] at hd; cases hd
    have q2 : @Eq Nat bk 1 := q
    omega
  have HN : ∀ x ∈ [s1.heap.objs.size + 1, n0, n1, bk0, d0, bk1, d1, kp0, kp1, rn0, rn1, cd, (50 : Addr)], (ghostOf s1.heap [(54, 50), (104, 102)]).get? x = none ∧ x ≠ s1.heap.objs.size := by
    intro x hx
    simp only [List.mem_cons, List.not_mem_nil, or_false] at hx
    rcases hx with hx | hx | hx | hx | hx | hx | hx | hx | hx | hx | hx | hx | hx <;> rw [hx]
    · exact (NEk.1 (s1.heap.objs.size + 1, _) (by k_mem)).2.symm
    · exact (NEk.1 (n0, _) (by k_mem)).2.symm
    · exact (NEk.1 (n1, _) (by k_mem)).2.symm
    · exact (NEk.1 (bk0, _) (by k_mem)).2.symm
    · exact (NEk.1 (d0, _) (by k_mem)).2.symm
    · exact (NEk.1 (bk1, _) (by k_mem)).2.symm
    · exact (NEk.1 (d1, _) (by k_mem)).2.symm
    · exact (NEk.1 (kp0, _) (by k_mem)).2.symm
    · exact (NEk.1 (kp1, _) (by k_mem)).2.symm
    · exact (NEk.1 (rn0, _) (by k_mem)).2.symm
    · exact (NEk.1 (rn1, _) (by k_mem)).2.symm
    · exact (NEk.1 (cd, _) (by k_mem)).2.symm
    · exact (NEk.1 (50, _) (by k_mem)).2.symm
  have eBC : hC.get? bk0 = some _ := (NCk.1 (bk0, _) (by k_mem)).1
  have eDC : hC.get? d0 = some _ := (NCk.1 (d0, _) (by k_mem)).1
  obtain ⟨b, T0, TGb, gb, bh, I0, O0, iln, icn, bget⟩ := inv0 (L := s1.heap.objs.size) (ct := s1.heap.objs.size + 1) (cn := s1.heap.objs.size + 1 + 1) (ln := ln) (lb := lb) (lk := lk) (lr := lr) (c0 := c0) (c1 := c1) (bk0 := bk0) (bk1 := bk1) (d0 := d0) (d1 := d1) (n0 := n0) (n1 := n1) (kp0 := kp0) (kp1 := kp1) (rn0 := rn0) (rn1 := rn1) (f0 := f0) (f1 := f1) (cd := cd) TG XG FEk.1 HN (NEk.1 (s1.heap.objs.size + 1, _) (by k_mem)).1 tct (NEk.1 (s1.heap.objs.size + 1 + 1, _) (by k_mem)).1 dN (Nat.ne_of_gt (Nat.lt_succ_self _)) (NEk.1 (n0, _) (by k_mem)).1 (NEk.1 (n1, _) (by k_mem)).1 (NEk.1 (kp0, _) (by k_mem)).1 (NEk.1 (kp1, _) (by k_mem)).1 (NEk.1 (rn0, _) (by k_mem)).1 (NEk.1 (rn1, _) (by k_mem)).1 (NEk.1 (cd, _) (by k_mem)).1 (NEk.1 (bk0, _) (by k_mem)).1 (NEk.1 (bk1, _) (by k_mem)).1 (NEk.1 (d0, _) (by k_mem)).1 (NEk.1 (d1, _) (by k_mem)).1 (NEk.1 (50, _) (by k_mem)).1 (NEk.1 (ln, _) (by k_mem)).1 (NEk.1 (lb, _) (by k_mem)).1 (NEk.1 (lk, _) (by k_mem)).1 (NEk.1 (lr, _) (by k_mem)).1 (NEk.1 (f0, _) (by k_mem)).1 (NEk.1 (f1, _) (by k_mem)).1 (NEk.1 (c0, _) (by k_mem)).1 dA1 dA2 (NEk.1 (c1, _) (by k_mem)).1 dC1 dC2 (by omega) (by omega) (by omega) (by omega) (by omega) (by omega) (by omega) (by omega) (by omega) (by omega) (by omega) (by omega) (neC eD1 eBC).symm (neC eD2 eDC).symm (Nat.ne_of_gt eb3) (neC eD2 eBC).symm (neC eD1 eDC) (Nat.ne_of_gt eD3) (nz eb2 eb3 FAk.1.keep) (nz eD2 eD3 FCk.1.keep)
  have g50 := (NEk.1 (50, _) (by k_mem)).2.symm
  have g102 := (NEk.1 (102, _) (by k_mem)).2.symm
  have NF : News (ghostOf s1.heap [(54, 50), (104, 102)]) s1.heap.objs.size hE [(s1.heap.objs.size + 1, oT), (s1.heap.objs.size + 1 + 1, oN)] := fun q hq => by
    simp only [List.mem_cons, List.not_mem_nil, or_false] at hq
    rcases hq with hq | hq <;> rw [hq]
    · exact NEk.1 _ (by k_mem)
    · exact NEk.1 _ (by k_mem)
  have n102 := bget 102 _ (fun q => by
    simp only [List.mem_cons, List.not_mem_nil, or_false] at q
    rcases q with q | q | q | q | q | q | q | q | q | q | q | q | q | q
    · exact absurd (show @Eq Nat 102 _ from q) (by omega)
    · exact absurd (show @Eq Nat 102 _ from q) (by omega)
    · exact absurd (show @Eq Nat 102 _ from q) (by omega)
    · exact absurd (show @Eq Nat 102 _ from q) (by omega)
    · exact neA eb1 (NA102) q.symm
    · exact neA eb2 (NA102) q.symm
    · exact neC eD1 (NCk.1 (102, _) (by k_mem)).1 q.symm
    · exact neC eD2 (NCk.1 (102, _) (by k_mem)).1 q.symm
    · exact absurd (show @Eq Nat 102 _ from q) (by omega)
    · exact absurd (show @Eq Nat 102 _ from q) (by omega)
    · exact absurd (show @Eq Nat 102 _ from q) (by omega)
    · exact absurd (show @Eq Nat 102 _ from q) (by omega)
    · exact absurd (show @Eq Nat 102 _ from q) (by omega)
    · exact absurd (show @Eq Nat 102 50 from q) (by decide)) (NEk.1 (102, _) (by k_mem)).1
  clear NEk NCk FCk FAk ltA1 ltA2 ltC1 ltC2 lt0 lt1 lt2 lt5 lt6 lt7 lt8 lt9 lt10 lt11 lt12 bget nz neA neC HN eBC eDC xb1 xb2
  have NFk := And.intro NF True.intro
  have NFr := rest_news (ex := [s1.heap.objs.size]) NF (by simp)
  clear NE
  refine wpAny_execs_cons (wpAny_For ?_)
  walk_at "MY steps"
  (rename Fr _ _ _ _ => FG); (rename News _ _ _ _ => NG)
  refine slice_list FG NG (hscr.at fun o e => FG.keep _ _ e) .none (.int _ _) ?_ (by with_unfolding_all rfl) (by intro _; with_unfolding_all rfl) ?hz
  case hz =>
    have := hIa.length
    have := sizeLine_eq
    rw [List.size_toArray]
    omega
  intro hH FH NH
  have e8 : slicePick (Array.mk vs) none (some 8) none = (vs.take 8).toArray := by
    have := slicePick_upto' vs.toArray 8
    simpa using this
  rw [e8] at NH
  have hv8 : (vs.take 8).length ≤ 8 := by simp; omega
  walk_at "MY steps"
  (rename Fr _ _ _ _ => FH2); (rename News _ _ _ _ => NH2)
  refine add_arrays FH2 NH2 (NH2.isList (.tail _ (.head _))) (NH2.isList (.head _)) ?_ (by have := sizeLine_eq; simp; omega)
  intro hI2 FI NI
  walk_at "MY steps"
  (rename Fr _ _ _ _ => FJ); (rename News _ _ _ _ => NJ)
  rename_i hJ lJ
  have FJk := And.intro FJ True.intro
  obtain ⟨IJ, NJc, kJ⟩ := segL FEk.1 FJ (fun q hq => NJ q (.tail _ (.tail _ (.tail _ (.tail _ hq))))) NFk.1 I0 exL (by simp)
  refine add_arrays FJ (rest_news (ex := [s1.heap.objs.size]) NJc (by simp)) (NJ.isList (.tail _ (.head _))) (NJ.isList (.head _)) ?_ (by have := sizeLine_eq; simp; omega)
  intro hK FK NK
  have FKk := And.intro FK True.intro
  obtain ⟨IK0, NKc, kK⟩ := segL FJk.1 FK (fun q hq => NK q (.tail _ hq)) NJc IJ exL (by simp)
  have eD := (NK _ (.head _)).1
  have IK := IJ.frame' (ex := [s1.heap.objs.size]) (by simp) kK (fun x hx => by obtain ⟨o, _, _, e, _⟩ := FKk.1.ns; rw [List.mem_singleton.mp hx]; exact ⟨_, e⟩) (Heap.get?_none_of_le (Nat.le_refl _)) eD
  obtain ⟨its, hits, hlen, hint⟩ : ∃ its : List Value, hK.IsList hJ.objs.size its.toArray ∧ its.length ≤ 18 ∧ ∀ v ∈ its, ∃ n t, v = .int n t := by
    refine ⟨_, ⟨_, eD, rfl, _, rfl⟩, ?_, ?_⟩
    · simp; omega
    · intro v hv
      simp only [List.mem_append, List.mem_cons, List.not_mem_nil, or_false] at hv
      rcases hv with (hv | hv) | hv
      · exact ⟨_, _, hv⟩
      · exact IntsAre.all hIa v (List.mem_of_mem_take hv)
      · rcases hv with rfl | rfl | rfl | rfl | rfl | rfl | rfl | rfl | rfl <;> exact ⟨_, _, rfl⟩
  have hDL : hJ.objs.size ≠ s1.heap.objs.size := (NK _ (.head _)).2.1
  have SS0 : ∀ (h : Heap) (fr : List Addr), Slots fr h h := fun h fr => Slots.refl _ _
  generalize hgg : ghostOf s1.heap [(54, 50), (104, 102)] = g at *
  generalize hLL : s1.heap.objs.size = L at *
  generalize hDD : hJ.objs.size = D at *
  have gT := (NFk.1 (L + 1, oT) (.head _)).2
  have gN := (NFk.1 (L + 1 + 1, oN) (.tail _ (.head _))).2
  have cTL : (L + 1 : Nat) ≠ L := gT.1
  have cT0 : hK.IsCell (L + 1 : Nat) _ := ⟨oT, (NKc _ (.head _)).1, dTold⟩
  refine wpAny_pyIter_list hits ?_
  have IK1 := IK.frame (h' := hK.push { cls := .type "list_iterator", data := .fields #[.ref D, .int 0 0] }) (o := { cls := .type "list_iterator", data := .fields #[.ref D, .int 0 0] }) (L := hK.objs.size) (Heap.get?_none_of_le (Nat.le_refl _)) (fun c o _ e => Heap.get?_push_of_some _ e) (Heap.get?_push_size _ rfl)
  obtain ⟨sc, hns0⟩ : ∃ sc, hK.Ns L (LMap none none none none lb lk lr cd sc) := ⟨_, Heap.Ns.same FKk.1.ns (fun z => LMap_start z)⟩
  have cT1 : ∃ v, (hK.push { cls := .type "list_iterator", data := .fields #[.ref D, .int 0 0] }).IsCell (L + 1 : Nat) v := ⟨_, oT, Heap.get?_push_of_some _ (NKc _ (.head _)).1, dTold⟩
  have itT : hK.objs.size ≠ (L + 1 : Nat) := Nat.ne_of_gt (Heap.lt_size (NKc _ (.head _)).1)
  have itL : hK.objs.size ≠ L := Nat.ne_of_gt hns0.lt
  have itD : hK.objs.size ≠ D := Nat.ne_of_gt (Heap.lt_size eD)
  generalize hit0 : hK.objs.size = it at *
  refine codeAny_forLoop_any (WInv w b (it :: D :: [L, L + 1]) (mkAd bk0 bk1 d0 d1 n0 n1 kp0 kp1 rn0 rn1 f0 f1 cd) s1 it D L (L + 1) its (fun u => LMap u none none none lb lk lr cd sc)) ?turn (its.length + 1) ?init
  case init =>
    exact ⟨_, _, 0, st0, none, rfl, rfl, Nat.zero_le _, ⟨_, by rw [← hit0]; exact Heap.get?_push_size _ rfl, rfl, rfl⟩, hits.at (fun o e => Heap.get?_push_of_some _ e), hns0.at' (fun o e => Heap.get?_push_of_some _ e), IK1, sync0 _ _, cT1⟩
  case turn =>
    rintro n s' ⟨h4, tk4, i, st4, u, rfl, rfl, hi, hit, hls, hns4, I4, Sy4, ⟨vT4, cT4⟩⟩
    by_cases hlt : i < its.length
    · obtain ⟨nx, tx, hx⟩ := hint its[i] (List.getElem_mem hlt)
      refine wpAny_pyNext_list_item hit hls (x := .int nx tx) (by simp [← hx, hlt]) fun h5 hit5 hs5 => ?_
      dsimp only
      have I5 := I4.loc (ex := [it]) (by simp) (keep_but hs5) (fun x hx => by obtain ⟨o, e, _⟩ := hit5; rw [List.mem_singleton.mp hx]; exact ⟨_, e⟩)
      refine wpAny_pure ?_
      refine wpAny_assign_Name (wpAny_storeName_local (by rfl) (hns4.sameBut hs5 (Ne.symm itL)) (fun h6 hn6 hs6 => ?_) (by rfl))
      have hn6' := Heap.Ns.same hn6 (fun z => LMap_x z)
      have k56 : Keep [L] h5 h6 := fun c o hc e => hs6.extBut c o (fun q => hc (by rw [q]; exact .head _)) e
      have I6 := I5.loc (ex := [L]) (by simp) k56 (fun x hx => by obtain ⟨o, _, _, e, _⟩ := hn6; rw [List.mem_singleton.mp hx]; exact ⟨_, e⟩)
      have F6 : Fr g L h6 _ := ⟨hn6', fun c o e => I6.hb _ _ (gb _ _ e), FKk.1.above⟩
      have cT5 := cell_keep cT4 (keep_but hs5) (Ne.symm itT)
      have F6k := And.intro F6 True.intro
      have hit6 : h6.IsListIter it D (i + 1) := by
        obtain ⟨o, e, c, dq⟩ := hit5
        exact ⟨o, k56 _ _ (by simpa using itL) e, c, dq⟩
      have hls6 : h6.IsList D its.toArray := by
        obtain ⟨o, e, c, dq⟩ := hls
        exact ⟨o, k56 _ _ (by simpa using hDL) (keep_but hs5 _ _ (by simpa using Ne.symm itD) e), c, dq⟩
      have N6r := rest_news (ex := [L]) (PyProof.Rows.News.nil (h₀ := g) (L := L) (h := h6)) (by simp)
      clear hn6 hn6'
      walk_at "MY steps"
      (rename Fr _ _ _ _ => F7); (rename News _ _ _ _ => N7r)
      have F7k := And.intro F7 True.intro
      obtain ⟨I7, _, k7⟩ := segL F6k.1 F7 N7r PyProof.Rows.News.nil I6 exL (by simp)
      have S0 : ∀ h : Heap, Stack callerA [] h := fun h => ⟨rfl, (fun e he => nomatch he), (fun e he => nomatch he)⟩
      have pw := pow_small (show i ≤ 17 by omega)
      refine wpAny_call (deed_call (a := mkAd bk0 bk1 d0 d1 n0 n1 kp0 kp1 rn0 rn1 f0 f1 cd) T0 TGb I7 O0 (stack_in (S0 _) F7k.1.ns (by rfl) (by rfl) (Slots.refl [] _) (fun c hc => nomatch hc)) (fun c hc => by
        rcases frs_cons (by rfl) hc with rfl | hc
        · simp
        · exact nomatch hc) (by show callerA.depth + 1 + 100 < _; omega) (by show callerA.units + 3 + 950 < _; omega) hA3 Sy4 (by omega) pw.1 pw.2.1 ?_)
      intro h8 tk8 st8 Sy8 I8 S8
      have F8 := frL F7k.1 gb I8 (by simp) S8
      have N8r := rest_news (ex := [L]) (PyProof.Rows.News.nil (h₀ := g) (L := L) (h := h8)) (by simp)
      have F8k := And.intro F8 True.intro
      clear N7r
      try dsimp only
      walk_at "MY steps"
      (rename Fr _ _ _ _ => F9); (rename News _ _ _ _ => N9r)
      obtain ⟨I9, _, k9⟩ := segL F8k.1 F9 N9r PyProof.Rows.News.nil I8 exL (by simp)
      have Sy9 := Sy8.mono (n' := 2 * (i + 1)) (m' := 2 ^ (i + 1 + 1)) (by omega) (by omega)
      have kS : ∀ {x y : Heap}, Keep [L] x y → Slots [it, D] x y := fun k => Slots.of_keep fun c hc o e => k c o (by
        intro q
        rw [List.mem_singleton.mp q] at hc
        rcases List.mem_cons.mp hc with q | hc
        · exact itL q.symm
        · exact hDL (List.mem_singleton.mp hc).symm) e
      have SE := ((kS k7).trans (S8.sub fun x hx => by
        rcases List.mem_cons.mp hx with rfl | hx
        · simp
        · rw [List.mem_singleton.mp hx]; simp)).trans (kS k9)
      try dsimp only
      exact ⟨its.length + 1 - (i + 1), by omega, _, _, i + 1, st8, _, rfl, rfl, by omega, listIter_slots hit6 SE (by simp), list_slots hls6 SE (by simp), F9.ns, I9, Sy9, _, cell_keep (cell_next (cell_keep (cell_keep cT5 k56 cTL) k7 cTL) S8 (by simp)) k9 cTL⟩
    · have hie : i = its.length := by omega
      have lenb : ∀ x ∈ st4.ls, (st4.c x).length < 1000000 := fun x hx => by
        have h1 := Sy4.ct x hx
        have h2 : 2 ^ (i + 1) ≤ 2 ^ 19 := Nat.pow_le_pow_right (by decide) (by omega)
        omega
      refine wpAny_pyNext_list_end hA3 hit hls (by simp [hie]) fun h5 he5 => ?_
      refine wpAny_execs_nil ?_
      try dsimp only
      have k5 : Keep [it] h4 h5 := fun c o hc e => he5 c o (by simpa using hc) e
      have J5 := (I4.drop (by
        intro q
        simp only [List.mem_cons, List.not_mem_nil, or_false] at q
        rcases q with q | q | q
        · exact itD q
        · exact itL q
        · exact itT q) k5).unframe (fr' := [L, (L + 1 : Nat)]) (fun x hx => .tail _ hx)
      have hns5 := hns4.at' (fun o e => he5 L o (Ne.symm itL) e)
      have F5 : Fr g L h5 _ := ⟨hns5, fun c o e => J5.hb _ _ (gb _ _ e), FKk.1.above⟩
      have cT5 := cell_keep cT4 k5 (Ne.symm itT)
      have F5k := And.intro F5 True.intro
      clear hit hls itL itD itT k5 he5
      have N5r := rest_news (ex := [L]) (PyProof.Rows.News.nil (h₀ := g) (L := L) (h := h5)) (by simp)
      refine wpAny_execs_cons (wpAny_For ?_)
      walk_at "MY steps"
      (rename Fr _ _ _ _ => F6); (rename News _ _ _ _ => N6r)
      rename_i E6 h6 l6
      have F6k := And.intro F6 True.intro
      obtain ⟨I6, _, k6⟩ := segL F5k.1 F6 (fun q hq => N6r q (.tail _ hq)) PyProof.Rows.News.nil J5 exL (by simp)
      have eE6 := (N6r _ (.head _)).1
      have hE60 : h5.get? E6 = none := by
        cases q : h5.get? E6 with
        | none => rfl
        | some o =>
          have := l6 (E6, o) (List.mem_append_right _ (mem_rest.mpr ⟨by simpa using (N6r _ (.head _)).2.1, (N6r _ (.head _)).2.2, q⟩))
          exact absurd this (Nat.lt_irrefl _)
      have EL : E6 ≠ L := (N6r _ (.head _)).2.1
      have I6f := J5.frame' (ex := [L]) (by simp) k6 (fun x hx => by obtain ⟨o, _, _, e, _⟩ := F6k.1.ns; rw [List.mem_singleton.mp hx]; exact ⟨_, e⟩) hE60 eE6
      obtain ⟨tt0, tt1, htp6⟩ : ∃ t0 t1, h6.IsTuple E6 #[.int 0 t0, .int 1 t1] := ⟨_, _, _, eE6, rfl, _, rfl⟩
      have hns6 := F6k.1.ns
      have cT6 := cell_keep cT5 k6 cTL
      refine wpAny_pyIter_tuple (t := E6) htp6 ?_
      have I6g := I6f.frame (h' := h6.push { cls := .type "tuple_iterator", data := .fields #[.ref E6, .int 0 0] }) (o := { cls := .type "tuple_iterator", data := .fields #[.ref E6, .int 0 0] }) (L := h6.objs.size) (Heap.get?_none_of_le (Nat.le_refl _)) (fun c o _ e => Heap.get?_push_of_some _ e) (Heap.get?_push_size _ rfl)
      have itL : h6.objs.size ≠ L := Nat.ne_of_gt hns6.lt
      have itE : h6.objs.size ≠ E6 := Nat.ne_of_gt (Heap.lt_size eE6)
      have itT : h6.objs.size ≠ (L + 1 : Nat) := by obtain ⟨o, e, _⟩ := cT6; exact Nat.ne_of_gt (Heap.lt_size e)
      have ET : E6 ≠ (L + 1 : Nat) := fun q => by obtain ⟨o, e, _⟩ := cT5; rw [← q, hE60] at e; cases e
      have cT7 : ∃ v, (h6.push { cls := .type "tuple_iterator", data := .fields #[.ref E6, .int 0 0] }).IsCell (L + 1 : Nat) v := by
        obtain ⟨o, e, d⟩ := cT6
        exact ⟨_, o, Heap.get?_push_of_some _ e, d⟩
      generalize hit1 : h6.objs.size = it2 at *
      refine codeAny_forLoop_any (EInv w b (it2 :: E6 :: [L, (L + 1 : Nat)]) (mkAd bk0 bk1 d0 d1 n0 n1 kp0 kp1 rn0 rn1 f0 f1 cd) s1 it2 E6 L (L + 1) tt0 tt1 st4 (fun ux us uk ut => LMap ux us uk ut lb lk lr cd sc)) ?turn2 3 ?init2
      case init2 =>
        exact ⟨_, _, 0, _, _, _, _, rfl, rfl, Nat.zero_le _, ⟨_, by rw [← hit1]; exact Heap.get?_push_size _ rfl, rfl, rfl⟩, htp6.at (fun o e => Heap.get?_push_of_some _ e), hns6.at' (fun o e => Heap.get?_push_of_some _ e), I6g, cT7⟩
      case turn2 =>
        rintro n s' ⟨h7, tk7, i2, ux, us, uk, ut, rfl, rfl, hi2, hit2, htp2, hns7, I7, ⟨vT8, cT8⟩⟩
        by_cases hlt2 : i2 < 2
        · -- a side
          obtain ⟨j, rfl⟩ : ∃ j : Bool, i2 = jN j := jN_ex hlt2
          have hj1 : jN j ≤ 1 := by cases j <;> decide
          obtain ⟨tj, htj⟩ : ∃ t, (#[Value.int 0 tt0, Value.int 1 tt1] : Array Value)[jN j]? = some (.int (sdI j) t) := by
            cases j with
            | false => exact ⟨_, rfl⟩
            | true => exact ⟨_, rfl⟩
          refine wpAny_pyNext_tuple_item hit2 htp2 htj fun h8 hit8 hs8 => ?_
          try dsimp only
          have I8 := I7.loc (ex := [it2]) (by simp) (keep_but hs8) (fun x hx => by obtain ⟨o, e, _⟩ := hit8; rw [List.mem_singleton.mp hx]; exact ⟨_, e⟩)
          refine wpAny_pure ?_
          refine wpAny_assign_Name (wpAny_storeName_local (by rfl) (hns7.sameBut hs8 (Ne.symm itL)) (fun h9 hn9 hs9 => ?_) (by rfl))
          have hn9' := Heap.Ns.same hn9 (fun z => LMap_side z)
          have k89 : Keep [L] h8 h9 := fun c o hc e => hs9.extBut c o (fun q => hc (by rw [q]; exact .head _)) e
          have I9 := I8.loc (ex := [L]) (by simp) k89 (fun x hx => by obtain ⟨o, _, _, e, _⟩ := hn9; rw [List.mem_singleton.mp hx]; exact ⟨_, e⟩)
          have F9 : Fr g L h9 _ := ⟨hn9', fun c o e => I9.hb _ _ (gb _ _ e), FKk.1.above⟩
          have F9k := And.intro F9 True.intro
          have hit9 : h9.IsTupleIter it2 E6 (jN j + 1) := by
            obtain ⟨o, e, c, dq⟩ := hit8
            exact ⟨o, k89 _ _ (by simpa using itL) e, c, dq⟩
          have htp9 : h9.IsTuple E6 #[.int 0 tt0, .int 1 tt1] := by
            obtain ⟨o, e, c, dq⟩ := htp2
            exact ⟨o, k89 _ _ (by simpa using EL) (keep_but hs8 _ _ (by simpa using Ne.symm itE) e), c, dq⟩
          obtain ⟨oT9, eT9, dT9⟩ := cell_keep (cell_keep cT8 (keep_but hs8) (Ne.symm itT)) k89 cTL
          obtain ⟨oN9, eN9, dN9⟩ := icn
          have N9 : News g L h9 [((L + 1 : Nat), oT9), ((L + 1 + 1 : Nat), oN9)] := fun q hq => by
            simp only [List.mem_cons, List.not_mem_nil, or_false] at hq
            rcases hq with hq | hq <;> rw [hq]
            · exact ⟨eT9, gT⟩
            · exact ⟨I9.hb _ _ eN9, gN⟩
          have N9k := And.intro N9 True.intro
          have N9r := rest_news (ex := [L]) N9 (by simp)
          clear hn9 hn9'
          walk_at "MY steps"
          refine outerF (fun i => (mkAd bk0 bk1 d0 d1 n0 n1 kp0 kp1 rn0 rn1 f0 f1 cd).ad i .bk) (j := j) rfl (O0.lb.at fun o e => I9.hb _ _ e) ?_ (by with_unfolding_all rfl)
          walk_at "MY steps"
          have X9 := T0.X.keeps I9.hb
          have bde := Sy4.bd j
          have pw18 := 0
          refine bk_list X9 (I9.sl j .bk) (I9.sl j .d) (I9.nsm j) (by omega) (by show callerA.depth + 1 + 8 < _; omega) (by show callerA.units + 3 + 120 < _; omega) hA3 ?_
          intro h10 tk10 acc c10 D10 k10 hD10 eD10 hacc
          have F10 := F9k.1.keeps k10
          have I10 := I9.same (h' := h10) (fun c o _ e => k10 c o e)
          have N10 := news_fresh F9k.1 hD10 eD10 (PyProof.Rows.News.grown N9k.1 k10)
          have F10k := And.intro F10 True.intro
          have N10k := And.intro N10 True.intro
          have N10r := rest_news (ex := [L]) N10 (by simp)
          try dsimp only
          walk_at "MY steps"
          refine comp_any (by with_unfolding_all rfl) (by decide) (by rfl) (by decide) loop_pair ?_
          walk_at "MY steps"
          refine outerF (fun i => (mkAd bk0 bk1 d0 d1 n0 n1 kp0 kp1 rn0 rn1 f0 f1 cd).ad i .kp) (j := j) rfl (O0.lk.at fun o e => I10.hb _ _ e) ?_ (by with_unfolding_all rfl)
          have hkp10 : h10.IsList ((mkAd bk0 bk1 d0 d1 n0 n1 kp0 kp1 rn0 rn1 f0 f1 cd).ad j .kp) (tups (st4.ks j)).toArray := ⟨_, I10.sl j .kp, rfl, _, rfl⟩
          refine wpAny_pyIter_list hkp10 ?_
          have kpI : ((mkAd bk0 bk1 d0 d1 n0 n1 kp0 kp1 rn0 rn1 f0 f1 cd).ad j .kp) ≠ h10.objs.size := Nat.ne_of_lt (by obtain ⟨o, e, _⟩ := hkp10; exact Heap.lt_size e)
          refine ⟨_, _, _, (tups (st4.ks j)).toArray.size, _, _, _, fun _ => true, fun k => .int ((st4.ks j).getD k ⟨0, 0, 0, 0, 0⟩).k ((st4.ks j).getD k ⟨0, 0, 0, 0, 0⟩).t, rfl, kturns_tups (A := callerA.deeper _) hA3 _ _ kpI _ tups_ref, (Walks.list (A := callerA.deeper _) hA3 _ _ kpI _).self, ?hn1, ⟨⟨_, Heap.get?_push_size _ rfl, rfl, rfl⟩, hkp10.at fun o e => Heap.get?_push_of_some _ e⟩, ?fp, ?turnc, ?finc⟩
          case hn1 => have := sizeLine_eq; simp [tups]; omega
          case fp =>
            intro q hq
            simp only [List.mem_cons, List.not_mem_nil, or_false] at hq
            rcases hq with rfl | rfl
            · simp only [Heap.size_push]; exact Nat.lt_succ_self _
            · simp only [Heap.size_push]; obtain ⟨o, e, _⟩ := hkp10; exact Nat.lt_succ_of_lt (Heap.lt_size e)
          case turnc =>
            rintro C i v s₃ m₃ E' hC hi hP hns hk ⟨h3, tk3, rfl⟩
            try dsimp only at hC hk hns ⊢
            have hi' : i < (st4.ks j).length := by simpa [tups] using hi
            obtain ⟨e, he⟩ : ∃ e, (st4.ks j)[i]? = some e := ⟨(st4.ks j)[i], by simp [hi']⟩
            have hge : (st4.ks j).getD i ⟨0, 0, 0, 0, 0⟩ = e := by rw [List.getD_eq_getElem?_getD, he]; rfl
            have hv : v = .ref e.T := by
              have := hP
              simp only [tups, List.getElem?_toArray, List.getElem?_map, he, Option.map_some, Option.some.injEq] at this
              exact this.symm
            subst hv
            have hT10 := (I10.ents j e (List.mem_of_getElem? he)).1
            have hT3 := hk e.T _ (fun q => absurd (Heap.lt_size hT10) (by rw [List.mem_singleton.mp q]; exact Nat.lt_irrefl _)) (Heap.get?_push_of_some _ hT10)
            refine assign_Tuple_tuple hA3 (items := #[.int e.k e.t, .ref e.l]) ⟨_, hT3, rfl, _, rfl⟩ rfl rfl fun h5 he5' => ?_
            have he' : ∀ b o, h3.get? b = some o → h5.get? b = some o := fun b o e => he5' b o (Nat.ne_of_lt (Heap.lt_size e)) e
            refine assignInOrder_cons (wpAny_assign_Name (wpAny_storeName_local (lookup_relabel_local (by rfl)) (hns.at' fun o e => he' _ o e) (fun h6 hn6 hs6 => ?_) (by rfl)))
            refine assignInOrder_cons (wpAny_assign_Name (wpAny_storeName_local (lookup_relabel_local (by rfl)) hn6 (fun h7 hn7 hs7 => ?_) (by rfl)))
            refine assignInOrder_nil ?_
            refine ⟨rfl, ?_⟩
            rw [if_pos rfl]
            refine cname (by rfl) (by rfl) hn7 (by rfl) ⟨by rw [hge], h7, _, rfl, fun c o hc e => hs7.extBut c o hc (hs6.extBut c o hc (he' _ _ e)), _, hn7⟩
          case finc =>
            intro D11 h11 tk11 c11 hD11 hl11 hk11
            try dsimp only at hD11 hk11
            have k1011 : ∀ c o, h10.get? c = some o → h11.get? c = some o := fun c o e => hk11 c o (fun q => absurd (Heap.lt_size e) (by rw [List.mem_singleton.mp q]; exact Nat.lt_irrefl _)) (Heap.get?_push_of_some _ e)
            have hD110 : h10.get? D11 = none := by
              cases q : h10.get? D11 with
              | none => rfl
              | some o => rw [Heap.get?_push_of_some _ q] at hD11; cases hD11
            have F11 := F10k.1.keeps k1011
            have I11 := I10.same (h' := h11) (fun c o _ e => k1011 c o e)
            have hl11' : h11.get? D11 = some (PySem.W.listOf ((st4.ks j).map fun e => Value.int e.k e.t).toArray c11) := by
              rw [hl11]
              rw [keys_list]
            have N11 := news_fresh F10k.1 hD110 hl11' (PyProof.Rows.News.grown N10k.1 k1011)
            have F11k := And.intro F11 True.intro
            have N11k := And.intro N11 True.intro
            have N11r := rest_news (ex := [L]) N11 (by simp)
            try dsimp only
            refine keys_eq (N11.isList (.tail _ (.head _))) (N11.isList (.head _)) hacc ((Sy4.pr j).keys fun x y h => h.1) (by show callerA.units + 3 < _; omega) ?_
            clear N10r
            walk_at "MY steps"
            refine outerF (fun i => (mkAd bk0 bk1 d0 d1 n0 n1 kp0 kp1 rn0 rn1 f0 f1 cd).ad i .nt) (j := j) rfl (iln.at fun o e => I11.hb _ _ e) ?_ (by with_unfolding_all rfl)
            walk_at "MY steps"
            refine call_len_list (items := (st4.nts j).toArray) ⟨_, I11.sl j .nt, rfl, _, rfl⟩ (by simp; omega) ?_
            walk_at "MY steps"
            refine outerF (fun i => (mkAd bk0 bk1 d0 d1 n0 n1 kp0 kp1 rn0 rn1 f0 f1 cd).ad i .rn) (j := j) rfl (O0.lr.at fun o e => I11.hb _ _ e) ?_ (by with_unfolding_all rfl)
            walk_at "MY steps"
            refine call_len_list (items := (st4.rs j).toArray) ⟨_, I11.sl j .rn, rfl, _, rfl⟩ (by simp; omega) ?_
            refine PyProof.Rows.ne_int ?_
            rw [show (((st4.nts j).toArray.size : Int) != ((st4.rs j).toArray.size : Int)) = false by simp [Sy4.len j]]
            walk_at "MY steps"
            refine wpAny_execs_cons (wpAny_For ?_)
            have N11c : News g L h11 [((L + 1 : Nat), oT9), ((L + 1 + 1 : Nat), oN9)] := fun q hq => N11k.1 q (.tail _ (.tail _ hq))
            have F12 := F11k.1
            have N12r := rest_news (ex := [L]) N11c (by simp)
            walk_at "MY steps"
            refine outerF (fun i => (mkAd bk0 bk1 d0 d1 n0 n1 kp0 kp1 rn0 rn1 f0 f1 cd).ad i .kp) (j := j) rfl (O0.lk.at fun o e => I11.hb _ _ e) ?_ (by with_unfolding_all rfl)
            have hkp11 : h11.IsList ((mkAd bk0 bk1 d0 d1 n0 n1 kp0 kp1 rn0 rn1 f0 f1 cd).ad j .kp) (tups (st4.ks j)).toArray := ⟨_, I11.sl j .kp, rfl, _, rfl⟩
            refine wpAny_pyIter_list hkp11 ?_
            have I12 := I11.frame (h' := h11.push { cls := .type "list_iterator", data := .fields #[.ref ((mkAd bk0 bk1 d0 d1 n0 n1 kp0 kp1 rn0 rn1 f0 f1 cd).ad j .kp), .int 0 0] }) (o := { cls := .type "list_iterator", data := .fields #[.ref ((mkAd bk0 bk1 d0 d1 n0 n1 kp0 kp1 rn0 rn1 f0 f1 cd).ad j .kp), .int 0 0] }) (L := h11.objs.size) (Heap.get?_none_of_le (Nat.le_refl _)) (fun c o _ e => Heap.get?_push_of_some _ e) (Heap.get?_push_size _ rfl)
            have i3L : h11.objs.size ≠ L := Nat.ne_of_gt F11k.1.ns.lt
            have hit11 : h11.IsTupleIter it2 E6 (jN j + 1) := by
              obtain ⟨o, e, c, dq⟩ := hit9
              exact ⟨o, k1011 _ _ (k10 _ _ e), c, dq⟩
            have htp11 : h11.IsTuple E6 #[.int 0 tt0, .int 1 tt1] := htp9.at fun o e => k1011 _ _ (k10 _ _ e)
            have i3it : h11.objs.size ≠ it2 := by obtain ⟨o, e, _⟩ := hit11; exact Nat.ne_of_gt (Heap.lt_size e)
            have i3E : h11.objs.size ≠ E6 := by obtain ⟨o, e, _⟩ := htp11; exact Nat.ne_of_gt (Heap.lt_size e)
            have i3T : h11.objs.size ≠ (L + 1 : Nat) := Nat.ne_of_gt (Heap.lt_size (N11c _ (.head _)).1)
            have hns11 := F11k.1.ns
            have cT11 : ∃ v, (h11.push { cls := .type "list_iterator", data := .fields #[.ref ((mkAd bk0 bk1 d0 d1 n0 n1 kp0 kp1 rn0 rn1 f0 f1 cd).ad j .kp), .int 0 0] }).IsCell (L + 1 : Nat) v := ⟨_, oT9, Heap.get?_push_of_some _ (N11c _ (.head _)).1, dT9⟩
            generalize hi3 : h11.objs.size = it3 at *
            refine codeAny_forLoop_any (KInv w b (it3 :: it2 :: E6 :: [L, (L + 1 : Nat)]) (mkAd bk0 bk1 d0 d1 n0 n1 kp0 kp1 rn0 rn1 f0 f1 cd) s1 it3 ((mkAd bk0 bk1 d0 d1 n0 n1 kp0 kp1 rn0 rn1 f0 f1 cd).ad j .kp) L (L + 1) it2 E6 (jN j + 1) tt0 tt1 st4 (st4.ks j) (fun ux uk ut => LMap ux (some (Value.int (sdI j) tj)) uk ut lb lk lr cd sc)) ?turn3 ((st4.ks j).length + 1) ?init3
            case init3 =>
              exact ⟨_, _, 0, _, _, _, rfl, rfl, Nat.zero_le _, ⟨_, by rw [← hi3]; exact Heap.get?_push_size _ rfl, rfl, rfl⟩, hns11.at' (fun o e => Heap.get?_push_of_some _ e), I12, cT11, by obtain ⟨o, e, c, dq⟩ := hit11; exact ⟨o, Heap.get?_push_of_some _ e, c, dq⟩, htp11.at fun o e => Heap.get?_push_of_some _ e⟩
            case turn3 =>
              rintro n s' ⟨h12, tk12, i, ux3, uk3, ut3, rfl, rfl, hi3', hit3, hns12, I12', ⟨vT12, cT12⟩, hit12, htp12⟩
              have hkp12 : h12.IsList ((mkAd bk0 bk1 d0 d1 n0 n1 kp0 kp1 rn0 rn1 f0 f1 cd).ad j .kp) (tups (st4.ks j)).toArray := ⟨_, I12'.sl j .kp, rfl, _, rfl⟩
              by_cases hlt3 : i < (st4.ks j).length
              · obtain ⟨e, he⟩ : ∃ e, (st4.ks j)[i]? = some e := ⟨(st4.ks j)[i], by simp [hlt3]⟩
                have hem := List.mem_of_getElem? he
                refine wpAny_pyNext_list_item hit3 hkp12 (x := .ref e.T) (by simp [tups, he]) fun h13 hit13 hs13 => ?_
                refine wpAny_letOwnedTupleGo_listiter hit13 ?_
                have I13 := I12'.loc (ex := [it3]) (by simp) (keep_but hs13) (fun x hx => by obtain ⟨o, e, _⟩ := hit13; rw [List.mem_singleton.mp hx]; exact ⟨_, e⟩)
                have hT13 := (I13.ents j e hem).1
                refine assign_Tuple_tuple hA3 (items := #[.int e.k e.t, .ref e.l]) ⟨_, hT13, rfl, _, rfl⟩ rfl rfl fun h14 he14 => ?_
                have k1314 : ∀ c o, h13.get? c = some o → h14.get? c = some o := fun c o e => he14 c o (Nat.ne_of_lt (Heap.lt_size e)) e
                refine assignInOrder_cons (wpAny_assign_Name (wpAny_storeName_local (by rfl) ((hns12.sameBut hs13 (Ne.symm i3L)).at' fun o e => k1314 _ o e) (fun h15 hn15 hs15 => ?_) (by rfl)))
                refine assignInOrder_cons (wpAny_assign_Name (wpAny_storeName_local (by rfl) (Heap.Ns.same hn15 (fun z => LMap_kind z)) (fun h16 hn16 hs16 => ?_) (by rfl)))
                refine assignInOrder_nil ?_
                have hn16' := Heap.Ns.same hn16 (fun z => LMap_things z)
                have k1316 : Keep [L] h13 h16 := fun c o hc e => hs16.extBut c o (fun q => hc (by rw [q]; exact .head _)) (hs15.extBut c o (fun q => hc (by rw [q]; exact .head _)) (k1314 c o e))
                have I16 := I13.loc (ex := [L]) (by simp) k1316 (fun x hx => by obtain ⟨o, _, _, e, _⟩ := hn16; rw [List.mem_singleton.mp hx]; exact ⟨_, e⟩)
                have F16 : Fr g L h16 _ := ⟨hn16', fun c o e => I16.hb _ _ (gb _ _ e), FKk.1.above⟩
                have F16k := And.intro F16 True.intro
                obtain ⟨oT16, eT16, dT16⟩ := cell_keep (cell_keep cT12 (keep_but hs13) (Ne.symm i3T)) k1316 cTL
                have N16 : News g L h16 [((L + 1 : Nat), oT16), ((L + 1 + 1 : Nat), oN9)] := fun q hq => by
                  simp only [List.mem_cons, List.not_mem_nil, or_false] at hq
                  rcases hq with hq | hq <;> rw [hq]
                  · exact ⟨eT16, gT⟩
                  · exact ⟨I16.hb _ _ eN9, gN⟩
                have N16r := rest_news (ex := [L]) N16 (by simp)
                have SI : ∀ {x y : Heap}, Keep [L] x y → Slots [it3, it2, E6] x y := fun k => Slots.of_keep fun c hc o e => k c o (by
                  intro q
                  rw [List.mem_singleton.mp q] at hc
                  simp only [List.mem_cons, List.not_mem_nil, or_false] at hc
                  rcases hc with q | q | q
                  · exact i3L q.symm
                  · exact itL q.symm
                  · exact EL q.symm) e
                have S13 : Slots [it2, E6] h12 h13 := Slots.of_keep fun c hc o e => keep_but hs13 c o (by
                  intro q
                  rw [List.mem_singleton.mp q] at hc
                  simp only [List.mem_cons, List.not_mem_nil, or_false] at hc
                  rcases hc with q | q
                  · exact i3it q
                  · exact i3E q) e
                clear hn15 hn16
                walk_at "MY steps"
                refine outerF (fun i => (mkAd bk0 bk1 d0 d1 n0 n1 kp0 kp1 rn0 rn1 f0 f1 cd).ad i .bk) (j := j) rfl (O0.lb.at fun o e => I16.hb _ _ e) ?_ (by with_unfolding_all rfl)
                walk_at "MY steps"
                refine book_get T0 I16 (by omega) (by omega) (by show callerA.depth + 1 + 60 < _; omega) (by show callerA.units + 3 + 600 < _; omega) hA3 ?_ (by with_unfolding_all rfl)
                intro h17 tk17 l17 st17 B17 I17 S17
                obtain ⟨q17, ml17, me17, hc17, hnt17⟩ := told_hit I16 Sy4 hem B17
                subst q17
                have F17 := frL F16k.1 gb I17 (by simp) S17
                have F17k := And.intro F17 True.intro
                obtain ⟨oT17, eT17, dT17⟩ := cell_next (⟨oT16, eT16, dT16⟩ : h16.IsCell (L + 1 : Nat) _) S17 (by simp)
                have N17 : News g L h17 [((L + 1 : Nat), oT17), ((L + 1 + 1 : Nat), oN9)] := fun q hq => by
                  simp only [List.mem_cons, List.not_mem_nil, or_false] at hq
                  rcases hq with hq | hq <;> rw [hq]
                  · exact ⟨eT17, gT⟩
                  · exact ⟨I17.hb _ _ eN9, gN⟩
                have rne : ∀ {G h : Heap} {ex : List Addr} {z : Addr}, z ∈ ex → ∀ q ∈ rest G h ex, q.1 ≠ z := fun hz q hq e => by
                  obtain ⟨x, o⟩ := q
                  exact (mem_rest.mp hq).1 (by have e2 : x = _ := e; rw [e2]; exact hz)
                have N17r := rest_news (ex := [L, (L + 1 : Nat), (L + 1 + 1 : Nat)]) N17 (by simp)
                try dsimp only
                refine storeX_C (c := (L + 1 : Nat)) F17 N17r (by rfl) (.head (fun q hq => by
                  rcases List.mem_cons.mp hq with rfl | hq
                  · exact Nat.ne_of_gt (Nat.lt_succ_self _)
                  · exact rne (by simp) q hq)) dT17 ?_
                intro h18 oT18 F18 N18r dT18
                have F18k := And.intro F18 True.intro
                have eT18 := (N18r _ (.head _)).1
                have eN18 := (N18r _ (.tail _ (.head _))).1
                have k1718 : Keep [L, (L + 1 : Nat)] h17 h18 := fun c o hc e => by
                  by_cases q : c = (L + 1 + 1 : Nat)
                  · subst q; have e2 := I17.hb _ _ eN9; rw [e] at e2; cases e2; exact eN18
                  · exact rest_keep F17k.1 F18k.1 N18r (fun z hz => .tail _ (.tail _ hz)) c o (by
                      simp only [List.mem_cons, List.not_mem_nil, or_false, not_or] at hc ⊢
                      exact ⟨hc.1, hc.2, q⟩) e
                have I18 := I17.loc (ex := [L, (L + 1 : Nat)]) (by simp) k1718 (fun x hx => by
                  rcases List.mem_cons.mp hx with hx | hx
                  · obtain ⟨o, _, _, e, _⟩ := F18k.1.ns; rw [hx]; exact ⟨_, e⟩
                  · rw [List.mem_singleton.mp hx]; exact ⟨_, eT18⟩)
                have N18 : News g L h18 [((L + 1 : Nat), oT18), ((L + 1 + 1 : Nat), oN9)] := fun q hq => by
                  simp only [List.mem_cons, List.not_mem_nil, or_false] at hq
                  rcases hq with hq | hq <;> rw [hq]
                  · exact ⟨eT18, gT⟩
                  · exact ⟨eN18, gN⟩
                have N18r2 := rest_news (ex := [L]) N18 (by simp)
                clear N18r
                try dsimp only
                walk_at "MY steps"
                have hx18 := I18.ls l17 ml17
                rw [hc17] at hx18
                refine wpAny_call (same_call T0 I18.hb hx18 (I18.ls e.l me17) (lenb _ me17) (by show callerA.depth + 1 + 3 < _; omega) (by show callerA.units + 3 + 200 < _; omega) hA3 ?_)
                intro h19 tk19 k19
                have F19 := F18k.1.keeps fun c o e => k19 c o (by simp) e
                have I19 := I18.same k19
                have N19 := news_keep0 N18 k19
                have F19k := And.intro F19 True.intro
                have N19k := And.intro N19 True.intro
                have N19r := rest_news (ex := [L]) N19 (by simp)
                try dsimp only
                walk_at "MY steps"
                refine comp_any (by with_unfolding_all rfl) (by decide) (by rfl) (by decide) loop_one ?_
                walk_at "MY steps"
                refine outerF (fun i => (mkAd bk0 bk1 d0 d1 n0 n1 kp0 kp1 rn0 rn1 f0 f1 cd).ad i .nt) (j := j) rfl (iln.at fun o e => I19.hb _ _ e) ?_ (by with_unfolding_all rfl)
                have hnt19 : h19.IsList ((mkAd bk0 bk1 d0 d1 n0 n1 kp0 kp1 rn0 rn1 f0 f1 cd).ad j .nt) (st17.nts j).toArray := ⟨_, I19.sl j .nt, rfl, _, rfl⟩
                refine wpAny_pyIter_list hnt19 ?_
                have ntI : ((mkAd bk0 bk1 d0 d1 n0 n1 kp0 kp1 rn0 rn1 f0 f1 cd).ad j .nt) ≠ h19.objs.size := Nat.ne_of_lt (by obtain ⟨o, e, _⟩ := hnt19; exact Heap.lt_size e)
                refine ⟨_, _, _, (st17.nts j).toArray.size, _, _, _, fun i => isR l17 ((st17.nts j)[i]?), fun i => ((st17.nts j)[i]?).getD .none, rfl, KTurns.ofWalks (Walks.list (A := callerA.deeper _) hA3 _ _ ntI _) (fun i v s Q E hst hq => wpAny_of_eq rfl hq), (Walks.list (A := callerA.deeper _) hA3 _ _ ntI _).self, ?hn4, ⟨⟨_, Heap.get?_push_size _ rfl, rfl, rfl⟩, hnt19.at fun o e => Heap.get?_push_of_some _ e⟩, ?fp4, ?turn4, ?fin4⟩
                case hn4 => have := sizeLine_eq; simp; omega
                case fp4 =>
                  intro q hq
                  simp only [List.mem_cons, List.not_mem_nil, or_false] at hq
                  rcases hq with rfl | rfl
                  · simp only [Heap.size_push]; exact Nat.lt_succ_self _
                  · simp only [Heap.size_push]; obtain ⟨o, e, _⟩ := hnt19; exact Nat.lt_succ_of_lt (Heap.lt_size e)
                case turn4 =>
                  rintro C i4 v s₃ m₃ E' hC hi4 hP hns hk ⟨h20, tk20, rfl⟩
                  try dsimp only at hC hk hns ⊢
                  have hvm : (st17.nts j)[i4]? = some v := by simpa using hP
                  obtain ⟨x, hxl, rfl⟩ := Sy4.ntr j v (List.mem_of_getElem? hvm)
                  have k1920 : ∀ c o, h19.get? c = some o → h20.get? c = some o := fun c o e => hk c o (fun q => absurd (Heap.lt_size e) (by rw [List.mem_singleton.mp q]; exact Nat.lt_irrefl _)) (Heap.get?_push_of_some _ e)
                  have ltC : ∀ {c : Addr} {o : Obj}, h19.get? c = some o → c ≠ C := fun e q => by
                    have h1 := Heap.lt_size e
                    rw [q] at h1
                    simp only [Heap.size_push] at hC
                    exact absurd h1 (Nat.not_lt.mpr (Nat.le_of_succ_le hC))
                  refine wpAny_assign_Name (wpAny_storeName_local (lookup_relabel_local (by rfl)) hns (fun h21 hn21 hs21 => ?_) (by rfl))
                  refine testW_one ?_
                  have k1921 : ∀ c o, h19.get? c = some o → h21.get? c = some o := fun c o e => hs21.extBut c o (ltC e) (k1920 _ _ e)
                  have kc : ∀ tk, KeepsC C { s1 with heap := h20, toks := tk20 } { s1 with heap := h21, toks := tk } := fun tk => ⟨h21, tk, rfl, fun c o hc e => hs21.extBut _ _ hc e, _, hn21⟩
                  have hT21 : h21.IsCell (L + 1 : Nat) (some (.ref l17)) := ⟨_, k1921 _ _ (N19k.1 _ (.head _)).1, dT18⟩
                  refine wpAny_isTrue_Compare1 (cname (by rfl) (by rfl) hn21 (by rfl) (ccell (by rfl) (by rfl) (by rfl) hT21 ?_))
                  by_cases hxx : x = l17
                  · subst hxx
                    refine wpAny_is_ref_self (wpAny_truthy_bool ⟨by simp [isR, hvm], ?_⟩)
                    rw [if_pos rfl]
                    exact cname (by rfl) (by rfl) hn21 (by rfl) ⟨by simp [hvm], kc _⟩
                  · refine wpAny_is_ref_other hxx (k1921 _ _ (I19.ls x hxl)) (k1921 _ _ (I19.ls l17 ml17)) (by show Value.type "list" ≠ Value.type "tuple"; decide) (wpAny_truthy_bool ⟨by simp [isR, hvm, hxx], ?_⟩)
                    rw [if_neg (by decide)]
                    exact kc _
                case fin4 =>
                  intro D22 h22 tk22 c22 hD22 hl22 hk22
                  try dsimp only at hD22 hk22
                  have k1922 : ∀ c o, h19.get? c = some o → h22.get? c = some o := fun c o e => hk22 c o (fun q => absurd (Heap.lt_size e) (by rw [List.mem_singleton.mp q]; exact Nat.lt_irrefl _)) (Heap.get?_push_of_some _ e)
                  have hD220 : h19.get? D22 = none := by
                    cases q : h19.get? D22 with
                    | none => rfl
                    | some o => rw [Heap.get?_push_of_some _ q] at hD22; cases hD22
                  have F22 := F19k.1.keeps k1922
                  have I22 := I19.same (h' := h22) (fun c o _ e => k1922 c o e)
                  have N22 := news_fresh F19k.1 hD220 hl22 (PyProof.Rows.News.grown N19k.1 k1922)
                  have F22k := And.intro F22 True.intro
                  have N22k := And.intro N22 True.intro
                  have N22r := rest_news (ex := [L]) N22 (by simp)
                  try dsimp only
                  walk_at "MY steps"
                  (rename Fr _ _ _ _ => F23); (rename News _ _ _ _ => N23r)
                  refine eq_list_lengthsAt (N23r.isList (.tail _ (.head _))) (N23r.isList (.head _)) (noned hnt17) (by show callerA.units + 3 < _; omega) ?_
                  have F23k := And.intro F23 True.intro
                  obtain ⟨I23, _, k23⟩ := segL F22k.1 F23 (fun q hq => N23r q (.tail _ hq)) N22k.1 I22 exL (by simp)
                  walk_at "MY steps"
                  try dsimp only
                  have SE : Slots [it3, it2, E6] h13 _ := ((((SI k1316).trans (S17.sub fun x hx => by
                    simp only [List.mem_cons, List.not_mem_nil, or_false] at hx
                    rcases hx with rfl | rfl | rfl <;> simp)).trans (Slots.of_keep fun c hc o e => k1718 c o (by
                      simp only [List.mem_cons, List.not_mem_nil, or_false] at hc
                      simp only [List.mem_cons, List.not_mem_nil, or_false, not_or]
                      rcases hc with rfl | rfl | rfl
                      · exact ⟨i3L, i3T⟩
                      · exact ⟨itL, itT⟩
                      · exact ⟨EL, ET⟩) e)).trans (Slots.of_keep fun c hc o e => k1922 c o (k19 c o (by simp) e))).trans (SI k23)
                  refine ⟨(st17.ks j).length + 1 - (i + 1), by omega, _, _, i + 1, _, _, _, rfl, rfl, by omega, listIter_slots hit13 SE (by simp), F23k.1.ns, I23, ⟨_, cell_keep ⟨_, k1922 _ _ (k19 _ _ (by simp) eT18), dT18⟩ k23 cTL⟩, tupleIter_slots hit12 (S13.trans (SE.sub fun x hx => .tail _ hx)) (by simp), tuple_slots htp12 (S13.trans (SE.sub fun x hx => .tail _ hx)) (by simp)⟩
              · have hie3 : i = (st4.ks j).length := by omega
                refine wpAny_pyNext_list_end hA3 hit3 hkp12 (by simp [tups, hie3]) fun h13 he13 => ?_
                refine wpAny_execs_nil ?_
                try dsimp only
                refine wpAny_execs_nil ?_
                try dsimp only
                have k13 : Keep [it3] h12 h13 := fun c o hc e => he13 c o (by simpa using hc) e
                have J13 := I12'.drop (by
                  intro q
                  simp only [List.mem_cons, List.not_mem_nil, or_false] at q
                  rcases q with q | q | q | q
                  · exact i3it q
                  · exact i3E q
                  · exact i3L q
                  · exact i3T q) k13
                have S13 : Slots [it2, E6] h12 h13 := Slots.of_keep fun c hc o e => k13 c o (by
                  intro q
                  rw [List.mem_singleton.mp q] at hc
                  simp only [List.mem_cons, List.not_mem_nil, or_false] at hc
                  rcases hc with q | q
                  · exact i3it q
                  · exact i3E q) e
                exact ⟨3 - (jN j + 1), by omega, _, _, jN j + 1, _, _, _, _, rfl, rfl, by omega, tupleIter_slots hit12 S13 (by simp), tuple_slots htp12 S13 (by simp), hns12.at' (fun o e => k13 L o (by simpa using Ne.symm i3L) e), J13, _, cell_keep cT12 k13 (Ne.symm i3T)⟩
        · obtain rfl : i2 = 2 := by omega
          refine wpAny_pyNext_tuple_end hA3 hit2 htp2 (by rfl) fun h8 he8 => ?_
          refine wpAny_execs_nil ?_
          try dsimp only
          have k8 : Keep [it2] h7 h8 := fun c o hc e => he8 c o (by simpa using hc) e
          have J8 := (I7.drop (by
            intro q
            simp only [List.mem_cons, List.not_mem_nil, or_false] at q
            rcases q with q | q | q
            · exact itE q
            · exact itL q
            · exact itT q) k8).unframe (fr' := [L, (L + 1 : Nat)]) (fun x hx => .tail _ hx)
          have F8 : Fr g L h8 _ := ⟨hns7.at' (fun o e => k8 L o (by simpa using Ne.symm itL) e), fun c o e => J8.hb _ _ (gb _ _ e), FKk.1.above⟩
          have F8k := And.intro F8 True.intro
          have N8 : News g L h8 [(50, tabObj st4.ps), (102, _)] := fun q hq => by
            simp only [List.mem_cons, List.not_mem_nil, or_false] at hq
            rcases hq with hq | hq <;> rw [hq]
            · exact ⟨J8.tab, g50.2, g50.1⟩
            · exact ⟨J8.hb _ _ n102, g102.2, g102.1⟩
          have N8k := And.intro N8 True.intro
          walk_at "MY steps")
end Mine
end
end
theorem PySem.Challenge.cw_in0002_01_holds : PySem.Challenge.rw_in0002_01.Holds :=
  Mine.law_holds

import PyProof.Rows.All
import Wide.All
import OpenK.AllK
import Wide.FinOn
import PySem.Challenge.RW_mq0133_01
open PySem PySem.W PyProof.Rows
set_option Elab.async false
set_option maxRecDepth 100000
set_option linter.unusedVariables false
section
namespace Mine

/-! ### The frame's state -/
abbrev lst (vs : List Value) (n : Nat) : Obj := { cls := .type "list", data := .seq vs.toArray n }
abbrev tup (vs : List Value) (n : Nat) : Obj := { cls := .type "tuple", data := .seq vs.toArray n }
def Keep (h h' : Heap) : Prop := ∀ b o, h.get? b = some o → h'.get? b = some o
def ExtS (S : List Addr) (h h' : Heap) : Prop := ∀ b o, b ∉ S → h.get? b = some o → h'.get? b = some o
def upd (m : Str → Option Value) (x : Str) (v : Value) : Str → Option Value := fun y => if y = x then some v else m y

theorem Keep.refl (h : Heap) : Keep h h := fun _ _ e => e
theorem Keep.trans {h h' h'' : Heap} (x : Keep h h') (y : Keep h' h'') : Keep h h'' := fun b o e => y b o (x b o e)
theorem ExtS.of {a : Addr} {h h' : Heap} (x : Heap.ExtBut a h h') : ExtS [a] h h' := fun b o hb e => x b o (fun q => hb (by rw [q]; exact .head _)) e
theorem ExtS.trans {S : List Addr} {h h' h'' : Heap} (x : ExtS S h h') (y : ExtS S h' h'') : ExtS S h h'' := fun b o hb e => y b o hb (x b o hb e)
theorem ExtS.keep {S : List Addr} {g h h' : Heap} (x : ExtS S h h') (k : Keep g h) (hS : ∀ a ∈ S, g.get? a = none) : Keep g h' := fun b o e =>
  x b o (fun q => by rw [hS b q] at e; cases e) (k b o e)
theorem Keep.ext {S : List Addr} {h h' : Heap} (x : Keep h h') : ExtS S h h' := fun b o _ e => x b o e
theorem ExtS.none {h h' : Heap} (x : ExtS [] h h') : Keep h h' := fun b o e => x b o (by simp) e

structure St (g h : Heap) (L : Addr) (m : Str → Option Value) (mu : List (Addr × Obj)) : Prop where
  ns : h.Ns L m
  keep : Keep g h
  out : g.get? L = none
  mob : ∀ p ∈ mu, h.get? p.1 = some p.2 ∧ p.1 ≠ L ∧ g.get? p.1 = none
  nd : (mu.map (·.1)).Nodup

namespace St
variable {g h h' : Heap} {L : Addr} {m m' : Str → Option Value} {mu : List (Addr × Obj)}
theorem store (F : St g h L m mu) (hn : h'.Ns L m') (hs : Heap.SameBut L h h') : St g h' L m' mu :=
  ⟨hn, fun b o e => (hs.2 b (fun q => by rw [q, F.out] at e; cases e)).trans (F.keep b o e), F.out,
    fun p hp => ⟨(hs.2 _ (F.mob p hp).2.1).trans (F.mob p hp).1, (F.mob p hp).2⟩, F.nd⟩
theorem get (F : St g h L m mu) (i : Nat) {a : Addr} {o : Obj} (hi : mu[i]? = some (a, o) := by rfl) : h.get? a = some o :=
  (F.mob (a, o) (List.mem_of_getElem? hi)).1
theorem fresh (F : St g h L m mu) (i : Nat) {a : Addr} {o : Obj} (hi : mu[i]? = some (a, o) := by rfl) : g.get? a = none :=
  (F.mob (a, o) (List.mem_of_getElem? hi)).2.2
theorem notL (F : St g h L m mu) (i : Nat) {a : Addr} {o : Obj} (hi : mu[i]? = some (a, o) := by rfl) : a ≠ L :=
  (F.mob (a, o) (List.mem_of_getElem? hi)).2.1
theorem push (F : St g h L m mu) (o : Obj) (hf : o.isFreed = false := by rfl) : St g (h.push o) L m ((h.objs.size, o) :: mu) := by
  refine ⟨F.ns.push o, fun b o' e => Heap.get?_push_of_some _ (F.keep b o' e), F.out, fun p hp => ?_, ?_⟩
  · rcases List.mem_cons.mp hp with rfl | hp
    · refine ⟨Heap.get?_push_size _ hf, Nat.ne_of_gt F.ns.lt, ?_⟩
      cases q : g.get? h.objs.size with
      | none => rfl
      | some o' => exact absurd (Heap.lt_size (F.keep _ _ q)) (Nat.lt_irrefl _)
    · exact ⟨Heap.get?_push_of_some _ (F.mob p hp).1, (F.mob p hp).2⟩
  · rw [List.map_cons]
    refine List.nodup_cons.mpr ⟨fun q => ?_, F.nd⟩
    obtain ⟨p, hp, e⟩ := List.mem_map.mp q
    have := Heap.lt_size (F.mob p hp).1
    rw [e] at this
    exact Nat.lt_irrefl _ this
/-- the objects at the addresses S have turned, the others stand -/
theorem turn (F : St g h L m mu) (i : Nat) {a : Addr} {o o' : Obj} (hi : mu[i]? = some (a, o)) (hx : ExtS [a] h h') (ho : h'.get? a = some o') : St g h' L m (mu.set i (a, o')) := by
  have hia := List.mem_of_getElem? hi
  have D := F.mob _ hia
  obtain ⟨oL, es, ep, hL, r⟩ := F.ns
  have hlt : i < mu.length := (List.getElem?_eq_some_iff.mp hi).1
  have hmap : (mu.set i (a, o')).map (·.1) = mu.map (·.1) := by
    rw [List.map_set]
    apply List.ext_getElem?
    intro j
    rw [List.getElem?_set]
    by_cases hj : i = j
    · subst hj
      have e := (List.getElem?_eq_some_iff.mp hi).2
      simp [hlt, e]
    · simp [hj]
  refine ⟨⟨oL, es, ep, hx L oL (fun q => D.2.1 (List.mem_singleton.mp q).symm) hL, r⟩, fun b x q => hx b x (fun z => ?_) (F.keep b x q), F.out, fun p hp => ?_, by rw [hmap]; exact F.nd⟩
  · have : b = a := by simpa using z
    rw [this, D.2.2] at q; cases q
  · obtain ⟨j, hj⟩ := List.mem_iff_getElem?.mp hp
    rw [List.getElem?_set] at hj
    by_cases hij : i = j
    · subst hij
      rw [if_pos rfl, if_pos hlt] at hj
      cases hj
      exact ⟨ho, D.2⟩
    · rw [if_neg hij] at hj
      have hpm := F.mob p (List.mem_of_getElem? hj)
      refine ⟨hx _ _ (fun z => ?_) hpm.1, hpm.2⟩
      have hpa : p.1 = a := by simpa using z
      have hjl : j < mu.length := (List.getElem?_eq_some_iff.mp hj).1
      have e1 : (mu.map (·.1))[i]? = some a := by rw [List.getElem?_map, hi]; rfl
      have e2 : (mu.map (·.1))[j]? = some a := by rw [List.getElem?_map, hj, ← hpa]; rfl
      exact hij ((List.getElem?_inj (by simpa using hlt) F.nd).mp (e1.trans e2.symm))
/-- everything else stands, the mutable ones too -/
theorem all (F : St g h L m mu) (k : Keep h h') : St g h' L m mu :=
  ⟨F.ns.keeps k, F.keep.trans k, F.out, fun p hp => ⟨k _ _ (F.mob p hp).1, (F.mob p hp).2⟩, F.nd⟩
/-- fewer mutable ones -/
theorem drop (F : St g h L m mu) (mu' : List (Addr × Obj)) (hs : mu'.Sublist mu) : St g h L m mu' :=
  ⟨F.ns, F.keep, F.out, fun p hp => F.mob p (hs.subset hp), F.nd.sublist (hs.map _)⟩
end St

/-- a frozen part that holds all but the frame and the mutable ones -/
theorem St.rebase {g h : Heap} {L : Addr} {m : Str → Option Value} {mu : List (Addr × Obj)} (F : St g h L m mu) (mu' : List (Addr × Obj)) (hs : mu'.Sublist mu) :
    ∃ g', St g' h L m mu' ∧ Keep g g' ∧ (∀ b o, h.get? b = some o → b ≠ L → b ∉ mu'.map (·.1) → g'.get? b = some o) := by
  refine ⟨hideAll h (L :: mu'.map (·.1)), ⟨F.ns, fun b o e => of_hideAll _ e, hideAll_none _ (.head _), fun p hp => ⟨(F.mob p (hs.subset hp)).1, (F.mob p (hs.subset hp)).2.1, hideAll_none _ (.tail _ (List.mem_map_of_mem hp))⟩, F.nd.sublist (hs.map _)⟩, fun b o e => ?_, fun b o e h1 h2 => ?_⟩
  · refine hideAll_get _ (F.keep b o e) fun q => ?_
    rcases List.mem_cons.mp q with rfl | q
    · rw [F.out] at e; cases e
    · obtain ⟨p, hp, rfl⟩ := List.mem_map.mp q
      rw [(F.mob p (hs.subset hp)).2.2] at e; cases e
  · refine hideAll_get _ e fun q => ?_
    rcases List.mem_cons.mp q with rfl | q
    · exact h1 rfl
    · exact h2 q

/-- room for more calls -/
structure Rm (A : Around) (k : Nat) : Prop where
  handled : A.handled = none
  d : A.depth + k ≤ 500
  u : A.units + 5 * k ≤ 500
theorem Rm.deeper {A : Around} {k : Nat} {env : Env} (x : Rm A (k + 1)) : Rm (A.deeper env) k :=
  ⟨x.handled, by have := x.d; show A.depth + 1 + k ≤ 500; omega, by have := x.u; show A.units + 3 + 5 * k ≤ 500; omega⟩
theorem Rm.in1 {A : Around} {k : Nat} (x : Rm A (k + 1)) : Rm A.in1 k :=
  ⟨x.handled, by have := x.d; show A.depth + k ≤ 500; omega, by have := x.u; show A.units + 1 + 5 * k ≤ 500; omega⟩
theorem Rm.le {A : Around} {k j : Nat} (x : Rm A k) (h : j ≤ k) : Rm A j :=
  ⟨x.handled, by have := x.d; omega, by have := x.u; omega⟩
theorem Rm.depth {A : Around} {k : Nat} (x : Rm A k) : A.depth < recursionLimit := by have := x.d; show A.depth < 1000; omega
theorem Rm.units {A : Around} {k : Nat} (x : Rm A k) : A.units < cLine := by have := x.u; show A.units < 9900; omega

section
variable {M : Model} {A : Around} {E : Value → Shared → Prop} {s : Shared} {env : Env} {g : Heap} {L : Addr} {m : Str → Option Value} {mu : List (Addr × Obj)} {x : Str} {pos : Pos} {v : Value}
theorem St.ld {Q : Value → Shared → Prop} (F : St g s.heap L m mu) (hv : m x = some v) (h : Q v s) (hL : env.locals = L := by rfl) (hk : env.scope.kind = .function := by rfl)
    (hl : env.kindOf x = some .local := by rfl) (hd : (x == ("__debug__" : Str)) = false := by decide) : wpAny M A (eval (.Name x pos) env) Q E s :=
  wpAny_Name (wpAny_loadName_local hk hl (by rw [hL]; exact F.ns) hv h) hd
theorem St.st {Q : Unit → Shared → Prop} (F : St g s.heap L m mu) (h : ∀ h', St g h' L (upd m x v) mu → Q () { s with heap := h', toks := s.toks + 1 })
    (hL : env.locals = L := by rfl) (hl : env.kindOf x = some .local := by rfl) (hp : (env.scope.kind == .class || (env.scope.kind == .module && env.locals != env.globals)) = false := by rfl) :
    wpAny M A (storeName env x v) Q E s := by
  subst hL
  exact wpAny_storeName_local hl F.ns (fun h' hn hs => h h' (F.store hn hs)) hp
end
end Mine

end
section
namespace Mine

/-! ### The text's defs -/
abbrev pw : Program := PySem.Challenge.pw_mq0133_01
def defAt (i : Nat) : Stmt := pw.main.body.getD i (.Pass default)
def sBody : Stmt → List Stmt
  | .FunctionDef _ _ b .. => b
  | _ => []
def sParams : Stmt → Arguments
  | .FunctionDef _ p .. => p
  | _ => default
def sScope : Stmt → Scope
  | .FunctionDef _ _ _ _ _ _ sc .. => sc
  | _ => default

/-- the heap bears the def i of the text at f -/
def FnIs (h : Heap) (f : Addr) (name : Str) (i : Nat) : Prop :=
  ∃ o pm cd doc, h.get? f = some o ∧ o.data = .func (Calls.docDef name (sParams (defAt i)) (sBody (defAt i)) (sScope (defAt i)) pm cd doc) ∧ h.CodeRec cd name
theorem FnIs.keeps {h h' : Heap} {f : Addr} {name : Str} {i : Nat} (x : FnIs h f name i) (k : Keep h h') : FnIs h' f name i :=
  let ⟨o, pm, cd, doc, h1, h2, h3⟩ := x; ⟨o, pm, cd, doc, k _ _ h1, h2, h3.keeps k⟩

def fnNames : List (Nat × Str) := [(1, "search_reverse"), (3, "heappush"), (4, "heappop"), (5, "heapify"), (6, "_siftdown"), (7, "_siftup"), (9, "_law_nails"), (11, "_law_rest")]
def biNames : List Str := ["len", "max", "range", "reversed", "sorted"]
structure Glb (h : Heap) (mg mb : Str → Option Value) : Prop where
  g : h.Ns mainGlobals mg
  b : h.Ns builtinsNs mb
  nolimit : h.NoLimit
  fn : ∀ p ∈ fnNames, ∃ f, mg p.2 = some (.ref f) ∧ FnIs h f p.2 p.1
  free : ∀ x ∈ biNames, mg x = none
  builtins : ∀ x : Str, x ≠ "__name__" → mb x = bootBuiltins x
  bmain : ∃ bm ob, mg "__builtins__" = some (.ref bm) ∧ bm ≠ builtinsNs ∧ h.get? bm = some ob ∧ ob.cls = .type "module" ∧ ob.dict = some builtinsNs ∧ ob.data = .plain
theorem Glb.keeps {h h' : Heap} {mg mb : Str → Option Value} (G : Glb h mg mb) (k : Keep h h') : Glb h' mg mb :=
  ⟨G.g.keeps k, G.b.keeps k, G.nolimit.keeps k, fun p hp => let ⟨f, h1, h2⟩ := G.fn p hp; ⟨f, h1, h2.keeps k⟩, G.free, G.builtins, let ⟨bm, ob, h1, h2, h3, r⟩ := G.bmain; ⟨bm, ob, h1, h2, k _ _ h3, r⟩⟩

section
variable {M : Model} {prog : Program} {w : World} {A : Around} {E : Value → Shared → Prop} {R : Result → Shared → Prop} {s : Shared} {env : Env} {mg mb : Str → Option Value} {x : Str} {pos : Pos} {v : Value}
theorem Glb.ldG {Q : Value → Shared → Prop} (G : Glb s.heap mg mb) (hv : mg x = some v) (h : Q v s) (hg : env.globals = mainGlobals := by rfl)
    (hk : env.scope.kind = .function := by rfl) (hl : env.kindOf x = some .globalImplicit := by rfl) (hd : (x == ("__debug__" : Str)) = false := by decide) :
    wpAny M A (eval (.Name x pos) env) Q E s := Calls.Name_function_global hk hl (Calls.loadGlobal_global (by rw [hg]; exact G.g) hv h) hd
theorem Glb.ldB {Q : Value → Shared → Prop} (G : Glb s.heap mg mb) (hv : bootBuiltins x = some v) (h : Q v s) (hx : x ∈ biNames := by decide) (hg : env.globals = mainGlobals := by rfl) (hb : env.builtins = builtinsNs := by rfl)
    (hk : env.scope.kind = .function := by rfl) (hl : env.kindOf x = some .globalImplicit := by rfl) (hd : (x == ("__debug__" : Str)) = false := by decide) (hn : x ≠ "__name__" := by decide) :
    wpAny M A (eval (.Name x pos) env) Q E s :=
  Calls.Name_function_global hk hl (Calls.loadGlobal_builtin (by rw [hg]; exact G.g) (G.free x hx) (by rw [hb]; exact G.b) ((G.builtins x hn).trans hv) h) hd

/-- a call of the text's def i -/
theorem callF {f : Addr} {name : Str} {i k : Nat} {args : List Value} {binds : List (Str × Value)} (mu : List (Addr × Obj)) (hA : Rm A (k + 1)) (hf : FnIs s.heap f name i) (hlim : s.heap.NoLimit)
    (hbind : ∀ pm cd doc, bindArgs (Calls.docDef name (sParams (defAt i)) (sBody (defAt i)) (sScope (defAt i)) pm cd doc) ⟨args, []⟩ = pure binds)
    (hloc : ((binds.map (·.1)).all fun y => (sScope (defAt i)).names.lookup y == some .local) = true)
    (hmu : ∀ p ∈ mu, s.heap.get? p.1 = some p.2) (hnd : (mu.map (·.1)).Nodup)
    (h : ∀ g h₁ L cd, St g h₁ L (fun y => binds.reverse.lookup y) mu → (∀ b o, b ∉ mu.map (·.1) → s.heap.get? b = some o → g.get? b = some o) → Keep g s.heap → Rm (A.deeper (envOf name (sScope (defAt i)) L f cd)) k →
      wpAny (model prog w) (A.deeper (envOf name (sScope (defAt i)) L f cd)) (execs (sBody (defAt i)) (envOf name (sScope (defAt i)) L f cd))
        (fun fl s' => R (.ok (.ret (match fl with | .ret v => v | _ => .none))) s') (fun _ _ => False) { s with heap := h₁, toks := s.toks + binds.length })
    (hco : (sScope (defAt i)).isCoroutine = false := by rfl) (hgen : (sScope (defAt i)).isGenerator = false := by rfl) (hk : (sScope (defAt i)).kind = .function := by rfl)
    (hcell : ∀ x ∈ (sScope (defAt i)).names, x.2 ≠ .cell := by decide) :
    codeAny (model prog w) A (.call (.ref f) ⟨args, []⟩) R s := by
  obtain ⟨o, pm, cd, doc, h1, h2, h3⟩ := hf
  refine call_plain_ret hA.depth h1 h2 hlim h3 (hbind _ _ _) (fun y hy => by simpa using List.all_eq_true.mp hloc y.1 (List.mem_map_of_mem hy)) (fun h₁ F => ?_) hco hgen hk hcell
  refine h (hideAll s.heap (mu.map (·.1))) h₁ _ cd ⟨F.ns, fun b o e => F.keep b o (of_hideAll _ e), ?_, fun p hp => ⟨F.keep _ _ (hmu p hp), ?_, hideAll_none _ (List.mem_map_of_mem hp)⟩, hnd⟩
    (fun b o hb e => hideAll_get _ e hb) (fun b o e => of_hideAll _ e) hA.deeper
  · cases q : (hideAll s.heap (mu.map (·.1))).get? s.heap.objs.size with
    | none => rfl
    | some o' => exact absurd (Heap.lt_size (of_hideAll _ q)) (Nat.lt_irrefl _)
  · exact Nat.ne_of_lt (Heap.lt_size (hmu p hp))
end

/-! ### Kinds of items -/
def KeepT (h h' : Heap) : Prop := ∀ b vs n, h.get? b = some (tup vs n) → h'.get? b = some (tup vs n)
theorem Keep.t {h h' : Heap} (k : Keep h h') : KeepT h h' := fun b _ _ e => k b _ e
theorem KeepT.trans {h h' h'' : Heap} (x : KeepT h h') (y : KeepT h' h'') : KeepT h h'' := fun b vs n e => y b vs n (x b vs n e)
theorem KeepT.but {h h' : Heap} {a : Addr} {o : Obj} (ho : h.get? a = some o) (hc : ∀ vs n, o ≠ tup vs n) (x : Heap.ExtBut a h h') : KeepT h h' := fun b vs n e =>
  x b _ (fun q => by rw [q, ho] at e; exact hc _ _ (Option.some.inj e)) e
theorem KeepT.ns {h h' : Heap} {a : Addr} {m : Str → Option Value} (hn : h.Ns a m) (x : Heap.ExtBut a h h') : KeepT h h' := by
  obtain ⟨o, es, ep, ho, hd, _⟩ := hn
  exact KeepT.but ho (fun vs n q => by rw [q] at hd; cases hd) x
structure Kind (α : Type) where
  R : Heap → Value → α → Prop
  lt : α → α → Bool
  stab : ∀ {h h' v x}, R h v x → KeepT h h' → R h' v x
  cmp : ∀ {prog : Program} {w : World} {A : Around} {E : Value → Shared → Prop} {s : Shared} {u v : Value} {x y : α} {Q : Value → Shared → Prop}, Rm A 2 → R s.heap u x → R s.heap v y →
    (∀ tk, Q (.bool (lt x y)) { s with toks := tk }) → wpAny (model prog w) A (compareOp .Lt u v) Q E s
def Kind.lt2 {α : Type} (K : Kind α) (p q : Value × α) : Bool := K.lt p.2 q.2
def Kind.All {α : Type} (K : Kind α) (h : Heap) (ps : List (Value × α)) : Prop := ∀ p ∈ ps, K.R h p.1 p.2
theorem Kind.All.stab {α : Type} {K : Kind α} {h h' : Heap} {ps : List (Value × α)} (x : K.All h ps) (k : KeepT h h') : K.All h' ps := fun p hp => K.stab (x p hp) k

/-! ### Pure functions -/
section
variable {β : Type} (lt : β → β → Bool)
def sdLoop (start : Nat) (x : β) (l : List β) (pos : Nat) : List β :=
  if h : start < pos then
    match l[(pos - 1) / 2]? with
    | some p => if lt x p then sdLoop start x (l.set pos p) ((pos - 1) / 2) else l.set pos x
    | none => l
  else l.set pos x
termination_by pos
def siftdown (l : List β) (start pos : Nat) : List β := match l[pos]? with
  | some x => sdLoop lt start x l pos
  | none => l
end
end Mine

end
section
namespace Mine
section
variable {prog : Program} {w : World} {A : Around} {R : Result → Shared → Prop} {s : Shared} {E : Value → Shared → Prop}

/-- an item of a list -/
theorem getL {value slice : Expr} {a : Addr} {vs : List Value} {n : Nat} {k : Nat} {i : Int} {u : Tok} {x : Value} {Q : Value → Shared → Prop} (ho : s.heap.get? a = some (lst vs n)) (hi : i = (k : Int)) (hx : vs[k]? = some x) (hk : k < 2 ^ 62) (h : Q x s)
    (hs : subscripted slice false (.ref a) (.int i u) = operate [.ref a, .int i u] (getItem (.ref a) (.int i u)) := by with_unfolding_all rfl) (hg : ∀ r, letTemporaryGo value (.ref a) r = pure () := by intro _; with_unfolding_all rfl) :
    wpAny (model prog w) A (subscriptTail value slice (.ref a) (.int i u)) Q E s := by
  subst hi
  exact item_listL ⟨_, ho, rfl, n, rfl⟩ (Int.natCast_nonneg _) (by omega) (by simpa using hx) h hs hg

theorem setL {a : Addr} {vs : List Value} {n : Nat} {k : Nat} {i : Int} {u : Tok} {x : Value} {Q : Unit → Shared → Prop} (ho : s.heap.get? a = some (lst vs n)) (hi : i = (k : Int)) (hk : k < vs.length) (hk2 : k < 2 ^ 62)
    (h : ∀ h', Heap.SameBut a s.heap h' → h'.get? a = some (lst (vs.set k x) n) → Q () { s with heap := h' }) :
    wpAny (model prog w) A (setItem (.ref a) (.int i u) x) Q E s := by
  subst hi
  refine ki_setAt ho (Int.natCast_nonneg _) (by omega) (by simpa using hk) (h _ (Heap.SameBut.update ..) ?_)
  rw [Heap.get?_update_self _ ho (by simp [Obj.mapSeq, Obj.isFreed])]
  simp [Obj.mapSeq]

theorem fdiv2 (pos : Nat) (h : 0 < pos) : ((pos : Int) - 1).fdiv (2 ^ (1 : Int).toNat) = (((pos - 1) / 2 : Nat) : Int) := by
  have e : ((pos : Int) - 1) = ((pos - 1 : Nat) : Int) := by omega
  rw [e]
  show ((pos - 1 : Nat) : Int).fdiv 2 = _
  rw [Int.fdiv_eq_ediv_of_nonneg _ (by decide)]
  omega

theorem siftdown_ok {α : Type} (K : Kind α) {h₀ : Heap} {mg mb : Str → Option Value} {f a : Addr} {ps : List (Value × α)} {n start pos : Nat} {t1 t2 : Tok} (G : Glb h₀ mg mb) (B : Keep h₀ s.heap) (hf : FnIs h₀ f "_siftdown" 6)
    (hA : Rm A 4) (hl : s.heap.get? a = some (lst (ps.map (·.1)) n)) (hR : K.All s.heap ps) (hpos : pos < ps.length) (hsz : ps.length < 2 ^ 30)
    (h : ∀ h' tk n', ExtS [a] s.heap h' → h'.get? a = some (lst ((siftdown K.lt2 ps start pos).map (·.1)) n') → R (.ok (.ret .none)) { s with heap := h', toks := tk }) :
    codeAny (model prog w) A (.call (.ref f) ⟨[.ref a, .int start t1, .int pos t2], []⟩) R s := by
  refine callF [(a, lst (ps.map (·.1)) n)] hA (hf.keeps B) (G.nolimit.keeps B) (binds := [("heap", .ref a), ("startpos", .int start t1), ("pos", .int pos t2)]) (fun _ _ _ => rfl) rfl (by simpa using hl) (by simp) ?_
  intro g h₁ L cd F hg hgs hA'
  have hgT : KeepT s.heap g := fun b vs n e => hg b _ (fun q => by
    have : b = a := by simpa using q
    rw [this, hl] at e; simp at e) e
  have hRg : K.All g ps := hR.stab hgT
  obtain ⟨x, hx⟩ : ∃ x, ps[pos]? = some x := ⟨_, List.getElem?_eq_getElem hpos⟩
  have hsd : siftdown K.lt2 ps start pos = sdLoop K.lt2 start x ps pos := by unfold siftdown; rw [hx]
  have hxR : K.R g x.1 x.2 := hRg x (List.mem_of_getElem? hx)
  -- newitem = heap[pos]
  refine wpAny_execs_cons (wpAny_Assign_Name (Subscript_ (F.ld rfl (F.ld rfl (getL (F.get 0) rfl (x := x.1) (by rw [List.getElem?_map, hx]; rfl) (by omega) ?_)))))
  refine F.st fun h₂ F₂ => ?_
  dsimp only
  -- the loop
  refine wpAny_execs_cons (wpAny_While (codeAny_whileLoop (fun k s' => ∃ h' tk m l p t n', s' = { s with heap := h', toks := tk } ∧ St g h' L m [(a, lst (l.map (·.1)) n')] ∧ m "heap" = some (.ref a) ∧ m "startpos" = some (.int start t1) ∧
    m "pos" = some (.int (p : Nat) t) ∧ m "newitem" = some x.1 ∧ l.length = ps.length ∧ p < l.length ∧ K.All g l ∧ sdLoop K.lt2 start x l p = siftdown K.lt2 ps start pos ∧ p = k) ?_ pos
    ⟨h₂, _, _, ps, pos, t2, n, rfl, F₂, rfl, rfl, rfl, rfl, rfl, hpos, hRg, hsd.symm, rfl⟩))
  rintro k s' ⟨h', tk, m, l, p, t, n', rfl, F', m1, m2, m3, m4, hlen, hp, hRl, hgoal, rfl⟩
  refine wpAny_isTrue_Compare1 (F'.ld m3 (F'.ld m2 (gt_int (wpAny_truthy_bool ?_))))
  rw [sdLoop] at hgoal
  by_cases hgt : start < p
  · have hgt' : (start : Int) < (p : Int) := by omega
    simp only [hgt', decide_true, if_true]
    simp only [hgt, dite_true] at hgoal
    have hppl : (p - 1) / 2 < l.length := by omega
    obtain ⟨par, hpar⟩ : ∃ par, l[(p - 1) / 2]? = some par := ⟨_, List.getElem?_eq_getElem hppl⟩
    rw [hpar] at hgoal
    dsimp only at hgoal
    have hparR : K.R g par.1 par.2 := hRl par (List.mem_of_getElem? hpar)
    -- parentpos = pos - 1 >> 1
    refine wpAny_execs_cons (wpAny_Assign_Name (wpAny_BinOp (wpAny_BinOp (F'.ld m3 (wpAny_Constant_int (sub_int (wpAny_Constant_int (rshift_int (by decide) ?_))))))))
    refine St.st F' fun h₃ F₃ => ?_
    dsimp only
    rw [fdiv2 p (by omega)] at F₃
    -- parent = heap[parentpos]
    refine wpAny_execs_cons (wpAny_Assign_Name (Subscript_ (St.ld F₃ m1 (St.ld F₃ rfl (getL (F₃.get 0) rfl (x := par.1) (by rw [List.getElem?_map, hpar]; rfl) (by omega) ?_)))))
    refine St.st F₃ fun h₄ F₄ => ?_
    dsimp only
    -- if newitem < parent
    refine wpAny_execs_cons (wpAny_If (wpAny_isTrue_Compare1 (St.ld F₄ m4 (St.ld F₄ rfl (K.cmp (hA'.le (by omega)) (K.stab hxR F₄.keep.t) (K.stab hparR F₄.keep.t) fun tk' => wpAny_truthy_bool ?_)))))
    cases hc : K.lt x.2 par.2 with
    | true =>
      have hc2 : K.lt2 x par = true := hc
      simp only [hc2, if_true] at hgoal
      simp only [if_true]
      -- heap[pos] = parent
      refine wpAny_execs_cons (wpAny_Assign_Subscript (St.ld F₄ rfl (St.ld F₄ m1 (St.ld F₄ m3 (setL (F₄.get 0) rfl (by simpa using hp) (by omega) fun h₅ hs₅ ho₅ => ?_)))))
      have F₅ := F₄.turn 0 rfl (ExtS.of hs₅.extBut) ho₅
      dsimp only
      -- pos = parentpos
      refine wpAny_execs_cons (wpAny_Assign_Name (St.ld F₅ rfl (St.st F₅ fun h₆ F₆ => ?_)))
      dsimp only
      refine wpAny_execs_cons (wpAny_Continue ?_)
      have e₆ : (l.set p par).map (·.1) = (l.map (·.1)).set p par.1 := List.map_set ..
      have F₆' := F₆
      rw [List.set_cons_zero, ← e₆] at F₆'
      refine ⟨(p - 1) / 2, by omega, h₆, _, _, l.set p par, (p - 1) / 2, _, n', rfl, F₆', m1, m2, rfl, m4, by simpa using hlen, by simpa using hppl, ?_, hgoal, rfl⟩
      · intro q hq
        rcases List.mem_or_eq_of_mem_set hq with hq | rfl
        · exact hRl q hq
        · exact hparR
    | false =>
      have hc2 : K.lt2 x par = false := hc
      simp only [hc2, Bool.false_eq_true, if_false] at hgoal
      simp only [Bool.false_eq_true, if_false]
      refine wpAny_execs_nil ?_
      refine wpAny_execs_cons (wpAny_Break ?_)
      refine wpAny_execs_cons (wpAny_Assign_Subscript (St.ld F₄ m4 (St.ld F₄ m1 (St.ld F₄ m3 (setL (F₄.get 0) rfl (by simpa using hp) (by omega) fun h₅ hs₅ ho₅ => ?_)))))
      refine wpAny_execs_nil ?_
      have F₅ := F₄.turn 0 rfl (ExtS.of hs₅.extBut) ho₅
      refine h h₅ _ n' (fun b o hb e => F₅.keep b o (hg b o hb e)) ?_
      rw [← hgoal, List.map_set]
      exact ho₅
  · have hgt' : ¬ (start : Int) < (p : Int) := by omega
    simp only [hgt', decide_false, Bool.false_eq_true, if_false]
    simp only [hgt, dite_false] at hgoal
    refine wpAny_execs_nil ?_
    dsimp only
    refine wpAny_execs_cons (wpAny_Assign_Subscript (F'.ld m4 (F'.ld m1 (F'.ld m3 (setL (F'.get 0) rfl (by simpa using hp) (by omega) fun h₅ hs₅ ho₅ => ?_)))))
    refine wpAny_execs_nil ?_
    have F₅ := F'.turn 0 rfl (ExtS.of hs₅.extBut) ho₅
    refine h h₅ _ n' (fun b o hb e => F₅.keep b o (hg b o hb e)) ?_
    rw [← hgoal, List.map_set]
    exact ho₅
end
end Mine

end
section
namespace Mine
section
variable {prog : Program} {w : World} {A : Around} {R : Result → Shared → Prop} {s : Shared} {E : Value → Shared → Prop} {env : Env} {mg mb : Str → Option Value}

/-- a call of the text's own def by its name, one argument or more -/
theorem callG {x : Str} {np pos : Pos} {e : Expr} {rest : List Expr} {f : Addr} {nm : Str} {i : Nat} {Q : Value → Shared → Prop} (G : Glb s.heap mg mb) (hm : mg x = some (.ref f)) (hf : FnIs s.heap f nm i)
    (h : wpAny (model prog w) A (spliced (backTo pos (starEach (e :: rest) env))) (fun vs s₁ => Keep s.heap s₁.heap ∧
      codeAny (model prog w) A (.call (.ref f) ⟨vs, []⟩) (fun r s' => match r with | .ok (.ret v) => Q v s' | .ok _ => False | .error e => E e s') s₁) E s)
    (he : starEach (e :: rest) env = (false, eval e env) :: starEach rest env := by rfl) (hg : env.globals = mainGlobals := by rfl)
    (hk : env.scope.kind = .function := by rfl) (hl : env.kindOf x = some .globalImplicit := by rfl) (hd : (x == ("__debug__" : Str)) = false := by decide) :
    wpAny (model prog w) A (eval (.Call (.Name x np) (e :: rest) [] pos) env) Q E s := by
  obtain ⟨o, pm, cd, doc, h1, h2, h3⟩ := hf
  refine Call_ (G.ldG hm ?_ hg hk hl hd) 
  exact callWith_def h2 (wpAny_mono h (fun vs s₁ h₁ => ⟨h₁.1 _ _ h1, wpAny_call h₁.2⟩) fun _ _ x => x) he
theorem callB {x : Str} {id : String} {np pos : Pos} {e : Expr} {rest : List Expr} {Q : Value → Shared → Prop} (G : Glb s.heap mg mb) (hb : bootBuiltins x = some (.builtin id))
    (h : wpAny (model prog w) A (spliced (backTo pos (starEach (e :: rest) env))) (fun vs s₁ => wpAny (model prog w) A (call (.builtin id) vs) Q E s₁) E s)
    (hx : x ∈ biNames := by decide) (he : starEach (e :: rest) env = (false, eval e env) :: starEach rest env := by rfl) (hplain : (backTo pos (starEach rest env)).any (·.1) = false := by rfl)
    (hg : env.globals = mainGlobals := by rfl) (hbn : env.builtins = builtinsNs := by rfl)
    (hk : env.scope.kind = .function := by rfl) (hl : env.kindOf x = some .globalImplicit := by rfl) (hd : (x == ("__debug__" : Str)) = false := by decide) (hn : x ≠ "__name__" := by decide) :
    wpAny (model prog w) A (eval (.Call (.Name x np) (e :: rest) [] pos) env) Q E s :=
  Call_ (G.ldB hb (PyProof.Rows.callWith_builtin1 h he hplain) hx hg hbn hk hl hd hn)

theorem boot_len : bootBuiltins "len" = some (.builtin "len") := by decide +kernel
theorem boot_max : bootBuiltins "max" = some (.builtin "max") := by decide +kernel
theorem boot_sorted : bootBuiltins "sorted" = some (.builtin "sorted") := by decide +kernel
theorem boot_reversed : bootBuiltins "reversed" = some (.type "reversed") := by decide +kernel

theorem lenL {a : Addr} {vs : List Value} {n : Nat} {Q : Value → Shared → Prop} (ho : s.heap.get? a = some (lst vs n)) (hsz : vs.length < 2 ^ 62) (h : ∀ t tk, Q (.int vs.length t) { s with toks := tk }) :
    wpAny (model prog w) A (call (.builtin "len") [.ref a]) Q E s := by
  have := h (s.toks + 1) (s.toks + 1 + 1)
  exact PyProof.Rows.len_list ⟨_, ho, rfl, n, rfl⟩ (by simp; omega) (by simpa using this)
theorem popL {a : Addr} {vs : List Value} {y : Value} {n : Nat} {Q : Value → Shared → Prop} (ho : s.heap.get? a = some (lst (vs ++ [y]) n)) (hsz : vs.length < 2 ^ 22)
    (h : ∀ h', Heap.SameBut a s.heap h' → h'.get? a = some (lst vs (n + 1)) → Q y { s with heap := h' }) : wpAny (model prog w) A (call (.builtin "list.pop") [.ref a]) Q E s := by
  have hk : (vs ++ [y]).toArray.size - 1 = vs.length := by rw [List.size_toArray, List.length_append]; rfl
  have hy : (vs ++ [y]).toArray[(vs ++ [y]).toArray.size - 1]? = some y := by rw [hk]; simp
  refine call_meets PySem.F.slot_list_pop ⟨_, ho, rfl⟩ PySem.F.entry_list_pop (PySem.F.args_list_pop_1 _) (PySem.MeetsSeq.list_pop_last a _ n y hy (by rw [sizeLine_eq]; simp; omega)) ⟨ho, h _ (Heap.SameBut.update ..) ?_⟩
  have q := PySem.IsL.update ho (fun xs => xs.eraseIdxIfInBounds ((vs ++ [y]).toArray.size - 1))
  rw [hk] at q ⊢
  have e2 : (vs ++ [y]).toArray.eraseIdxIfInBounds vs.length = vs.toArray := by rw [kl_erase, List.append_nil]
  simp only [e2] at q
  rw [if_neg (by simp)] at q
  exact q
theorem appendL {a : Addr} {vs : List Value} {y : Value} {n : Nat} {Q : Value → Shared → Prop} (ho : s.heap.get? a = some (lst vs n)) (hsz : vs.length < 2 ^ 22)
    (h : ∀ h', Heap.SameBut a s.heap h' → h'.get? a = some (lst (vs ++ [y]) (n + 1)) → Q .none { s with heap := h' }) : wpAny (model prog w) A (call (.builtin "list.append") [.ref a, y]) Q E s :=
  append_at ho (fun h' hs ho' => h h' hs (by simpa using ho')) (by rw [sizeLine_eq]; simp; omega)
/-- a list's method -/
theorem methL {o : Expr} {name : Str} {apos pos : Pos} {args : List Expr} {id : String} {Q : Value → Shared → Prop} (slot : Slot "list" name id) (hty : typeOf (.builtin id) = pure (.type "method_descriptor"))
    (h : wpAny (model prog w) A (eval o env) (fun ov s₁ => ∃ a vs n, ov = .ref a ∧ s₁.heap.get? a = some (lst vs n) ∧
      wpAny (model prog w) A (callWith pos (.builtin id) [ov] (backTo pos (starEach args env)) []) Q E s₁) E s)
    (hbase : attributeBase o name env (eval o env) = eval o env := by rfl) (hline : (apos.endLine == pos.line) = true := by rfl)
    (hfew : ((backTo pos (starEach args env)).all (fun x => !x.1) && (backToKw pos (keywordEach [] env)).all (fun x => x.1.isSome)
      && decide (args.length + ([] : List Keyword).length + (if ([] : List Keyword).isEmpty then 0 else 1) < 30)) = true := by rfl) :
    wpAny (model prog w) A (eval (.Call (.Attribute o name apos) args [] pos) env) Q E s := by
  refine wpAny_Call_method hbase hfew hline PySem.F.plainAttrs_list slot hty (wpAny_mono h (fun ov s₁ h₁ => ?_) fun _ _ x => x)
  obtain ⟨a, vs, n, rfl, ho, hq⟩ := h₁
  exact ⟨⟨_, ho, rfl⟩, fun b e => by cases e; exact ⟨_, ho, rfl⟩, hq⟩
theorem callWithB1 {pos : Pos} {id : String} {ov : Value} {e : Expr} {Q : Value → Shared → Prop} (h : wpAny (model prog w) A (eval e env) (fun v s₁ => wpAny (model prog w) A (call (.builtin id) [ov, v]) Q E s₁) E s)
    (he : starEach [e] env = [(false, eval e env)] := by rfl) : wpAny (model prog w) A (callWith pos (.builtin id) [ov] (backTo pos (starEach [e] env)) []) Q E s := by
  rw [he]
  exact Calls.callWith_builtin rfl (Calls.evalArgs_plain (Calls.spliced_cons (wpAny_mono h (fun _ _ h₁ => Calls.spliced_nil h₁) fun _ _ e => e)))
theorem callWithB0 {pos : Pos} {id : String} {ov : Value} {Q : Value → Shared → Prop} (h : wpAny (model prog w) A (call (.builtin id) [ov]) Q E s) : wpAny (model prog w) A (callWith pos (.builtin id) [ov] (backTo pos (starEach [] env)) []) Q E s :=
  Calls.callWith_builtin rfl (PySem.evalArgs_none h)
end

section
variable {β : Type} (lt : β → β → Bool)
/-- the lesser child's place -/
def child (l : List β) (pos : Nat) : Nat := match l[2 * pos + 1]?, l[2 * pos + 2]? with
  | some x, some y => if lt x y then 2 * pos + 1 else 2 * pos + 2
  | _, _ => 2 * pos + 1
theorem child_gt (l : List β) (pos : Nat) : pos < child lt l pos := by unfold child; split <;> (try split) <;> omega
theorem child_cases (l : List β) (pos : Nat) : child lt l pos = 2 * pos + 1 ∨ child lt l pos = 2 * pos + 2 := by unfold child; split <;> (try split) <;> omega
def suLoop (l : List β) (pos : Nat) : List β × Nat :=
  if h : child lt l pos < l.length then suLoop (l.set pos l[child lt l pos]) (child lt l pos)
  else (l, pos)
termination_by l.length - pos
decreasing_by have := child_gt lt l pos; simp; omega
def siftup (l : List β) (pos : Nat) : List β := match l[pos]? with
  | some x => siftdown lt ((suLoop lt l pos).1.set (suLoop lt l pos).2 x) pos (suLoop lt l pos).2
  | none => l
end
end Mine

end
section
namespace Mine
section
variable {prog : Program} {w : World} {A : Around} {R : Result → Shared → Prop} {s : Shared} {E : Value → Shared → Prop} {env : Env} {mg mb : Str → Option Value}

theorem keepT_of {a : Addr} {h g : Heap} {vs : List Value} {n : Nat} (hl : h.get? a = some (lst vs n)) (hg : ∀ b o, b ∉ [a] → h.get? b = some o → g.get? b = some o) : KeepT h g := fun b vs' n' e =>
  hg b _ (fun q => by
    have : b = a := by simpa using q
    rw [this, hl] at e; simp at e) e
theorem keep_hide {a : Addr} {h₀ h g : Heap} (B : Keep h₀ h) (ha : h₀.get? a = none) (hg : ∀ b o, b ∉ [a] → h.get? b = some o → g.get? b = some o) : Keep h₀ g := fun b o e =>
  hg b o (fun q => by
    have : b = a := by simpa using q
    rw [this, ha] at e; cases e) (B b o e)

theorem child_left {β : Type} {lt : β → β → Bool} {l : List β} {p : Nat} (h : ¬ 2 * p + 2 < l.length) : child lt l p = 2 * p + 1 := by
  unfold child
  rw [show l[2 * p + 2]? = none from List.getElem?_eq_none (by omega)]
  split
  · rename_i h2; cases h2
  · rfl

theorem siftup_ok {α : Type} (K : Kind α) {h₀ : Heap} {mg mb : Str → Option Value} {f a : Addr} {ps : List (Value × α)} {n pos : Nat} {t1 : Tok} (G : Glb h₀ mg mb) (B : Keep h₀ s.heap) (ha : h₀.get? a = none) (hf : FnIs h₀ f "_siftup" 7)
    (hA : Rm A 6) (hl : s.heap.get? a = some (lst (ps.map (·.1)) n)) (hR : K.All s.heap ps) (hpos : pos < ps.length) (hsz : ps.length < 2 ^ 20)
    (h : ∀ h' tk n', ExtS [a] s.heap h' → h'.get? a = some (lst ((siftup K.lt2 ps pos).map (·.1)) n') → R (.ok (.ret .none)) { s with heap := h', toks := tk }) :
    codeAny (model prog w) A (.call (.ref f) ⟨[.ref a, .int pos t1], []⟩) R s := by
  refine callF [(a, lst (ps.map (·.1)) n)] hA (hf.keeps B) (G.nolimit.keeps B) (binds := [("heap", .ref a), ("pos", .int pos t1)]) (fun _ _ _ => rfl) rfl (by simpa using hl) (by simp) ?_
  intro g h₁ L cd F hg hgs hA'
  have hRg : K.All g ps := hR.stab (keepT_of hl hg)
  have Bg : Keep h₀ g := keep_hide B ha hg
  obtain ⟨fsd, hsd1, hsd2⟩ := G.fn (6, "_siftdown") (by decide)
  obtain ⟨x, hx⟩ : ∃ x, ps[pos]? = some x := ⟨_, List.getElem?_eq_getElem hpos⟩
  have hsu : siftup K.lt2 ps pos = siftdown K.lt2 ((suLoop K.lt2 ps pos).1.set (suLoop K.lt2 ps pos).2 x) pos (suLoop K.lt2 ps pos).2 := by unfold siftup; rw [hx]
  have hxR : K.R g x.1 x.2 := hRg x (List.mem_of_getElem? hx)
  -- endpos = len(heap)
  refine wpAny_execs_cons (wpAny_Assign_Name (callB (G.keeps (Bg.trans F.keep)) boot_len (args_cons (F.ld rfl (args_nil (lenL (F.get 0) (by simp; omega) fun t2 tk2 => ?_))))))
  refine St.st F fun h₂ F₂ => ?_
  dsimp only
  -- startpos = pos
  refine wpAny_execs_cons (wpAny_Assign_Name (St.ld F₂ rfl (St.st F₂ fun h₃ F₃ => ?_)))
  dsimp only
  -- newitem = heap[pos]
  refine wpAny_execs_cons (wpAny_Assign_Name (Subscript_ (St.ld F₃ rfl (St.ld F₃ rfl (getL (F₃.get 0) rfl (x := x.1) (by rw [List.getElem?_map, hx]; rfl) (by omega) ?_)))))
  refine St.st F₃ fun h₄ F₄ => ?_
  dsimp only
  -- childpos = 2 * pos + 1
  refine wpAny_execs_cons (wpAny_Assign_Name (wpAny_BinOp (wpAny_BinOp (wpAny_Constant_int (St.ld F₄ rfl (mul_int (wpAny_Constant_int (add_int ?_)) (IntMulOk.of_left (by decide))))))))
  refine St.st F₄ fun h₅ F₅ => ?_
  dsimp only
  -- the loop
  refine wpAny_execs_cons (wpAny_While (codeAny_whileLoop (fun k s' => ∃ h' tk m l p t t' t'' n', s' = { s with heap := h', toks := tk } ∧ St g h' L m [(a, lst (l.map (·.1)) n')] ∧ m "heap" = some (.ref a) ∧ m "startpos" = some (.int pos t'') ∧
    m "endpos" = some (.int ps.length t2) ∧ m "pos" = some (.int (p : Nat) t) ∧ m "childpos" = some (.int ((2 * p + 1 : Nat) : Int) t') ∧ m "newitem" = some x.1 ∧ l.length = ps.length ∧ p < l.length ∧ K.All g l ∧ suLoop K.lt2 l p = suLoop K.lt2 ps pos ∧ l.length - p = k) ?_ (ps.length - pos)
    ⟨h₅, _, _, ps, pos, _, _, _, n, rfl, F₅, rfl, rfl, by show some (Value.int ((ps.map (·.1)).length : Nat) t2) = _; rw [List.length_map], rfl, by show some _ = some _; congr 2, rfl, rfl, hpos, hRg, rfl, rfl⟩))
  rintro k s' ⟨h', tk, m, l, p, t, t', t'', n', rfl, F', m1, m2, m3, m4, m5, m6, hlen, hp, hRl, hgoal, rfl⟩
  refine wpAny_isTrue_Compare1 (F'.ld m5 (F'.ld m3 (lt_int (wpAny_truthy_bool ?_))))
  by_cases hlt : 2 * p + 1 < l.length
  · have hlt' : ((2 * p + 1 : Nat) : Int) < (ps.length : Int) := by omega
    simp only [hlt', decide_true, if_true]
    obtain ⟨x1, hx1⟩ : ∃ x1, l[2 * p + 1]? = some x1 := ⟨_, List.getElem?_eq_getElem hlt⟩
    -- rightpos = childpos + 1
    refine wpAny_execs_cons (wpAny_Assign_Name (wpAny_BinOp (St.ld F' m5 (wpAny_Constant_int (add_int ?_)))))
    refine St.st F' fun h₆ F₆ => ?_
    dsimp only
    have body : ∀ (h₇ : Heap) (tk₇ : Nat) (m₇ : Str → Option Value) (t₇ : Tok), St g h₇ L m₇ [(a, lst (l.map (·.1)) n')] → m₇ "heap" = some (.ref a) → m₇ "startpos" = some (.int pos t'') → m₇ "endpos" = some (.int ps.length t2) →
        m₇ "pos" = some (.int (p : Nat) t) → m₇ "newitem" = some x.1 → m₇ "childpos" = some (.int (child K.lt2 l p : Nat) t₇) →
        wpAny (model prog w) (A.deeper (envOf "_siftup" (sScope (defAt 7)) L f cd)) (execs (match (sBody (defAt 7)) with | [_, _, _, _, .While _ (_ :: _ :: r) _ _, _, _] => r | _ => []) (envOf "_siftup" (sScope (defAt 7)) L f cd))
          (fun f s₃ => match f with
            | .next | .cont => ∃ k', k' < l.length - p ∧ ∃ h' tk m l p t t' t'' n', s₃ = { s with heap := h', toks := tk } ∧ St g h' L m [(a, lst (l.map (·.1)) n')] ∧ m "heap" = some (.ref a) ∧ m "startpos" = some (.int pos t'') ∧
              m "endpos" = some (.int ps.length t2) ∧ m "pos" = some (.int (p : Nat) t) ∧ m "childpos" = some (.int ((2 * p + 1 : Nat) : Int) t') ∧ m "newitem" = some x.1 ∧ l.length = ps.length ∧ p < l.length ∧ K.All g l ∧ suLoop K.lt2 l p = suLoop K.lt2 ps pos ∧ l.length - p = k'
            | _ => False) (fun _ _ => False) { s with heap := h₇, toks := tk₇ } := by
      intro h₇ tk₇ m₇ t₇ F₇ q1 q2 q3 q4 q5 q6
      have hcl : child K.lt2 l p < l.length := by
        by_cases h2 : 2 * p + 2 < l.length
        · have := child_cases K.lt2 l p; omega
        · rw [child_left h2]; exact hlt
      have hxc : l[child K.lt2 l p]? = some l[child K.lt2 l p] := List.getElem?_eq_getElem hcl
      -- heap[pos] = heap[childpos]
      refine wpAny_execs_cons (wpAny_Assign_Subscript (Subscript_ (St.ld F₇ q1 (St.ld F₇ q6 (getL (F₇.get 0) rfl (x := l[child K.lt2 l p].1) (by rw [List.getElem?_map, hxc]; rfl) (by omega)
        (St.ld F₇ q1 (St.ld F₇ q4 (setL (F₇.get 0) rfl (by simpa using hp) (by omega) fun h₈ hs₈ ho₈ => ?_))))))))
      have F₈ := F₇.turn 0 rfl (ExtS.of hs₈.extBut) ho₈
      dsimp only
      -- pos = childpos
      refine wpAny_execs_cons (wpAny_Assign_Name (St.ld F₈ q6 (St.st F₈ fun h₉ F₉ => ?_)))
      dsimp only
      -- childpos = 2 * pos + 1
      refine wpAny_execs_cons (wpAny_Assign_Name (wpAny_BinOp (wpAny_BinOp (wpAny_Constant_int (St.ld F₉ rfl (mul_int (wpAny_Constant_int (add_int ?_)) (IntMulOk.of_left (by decide))))))))
      refine St.st F₉ fun h₁₀ F₁₀ => ?_
      dsimp only
      have e₁₀ : (l.set p l[child K.lt2 l p]).map (·.1) = (l.map (·.1)).set p l[child K.lt2 l p].1 := List.map_set ..
      rw [List.set_cons_zero, ← e₁₀] at F₁₀
      have hsu' : suLoop K.lt2 (l.set p l[child K.lt2 l p]) (child K.lt2 l p) = suLoop K.lt2 ps pos := by
        rw [← hgoal, suLoop.eq_def K.lt2 l p, dif_pos hcl]
      have hcg := child_gt K.lt2 l p
      refine wpAny_execs_nil ⟨_, ?_, h₁₀, _, _, l.set p l[child K.lt2 l p], child K.lt2 l p, _, _, _, n', rfl, F₁₀, q1, q2, q3, rfl, by show some _ = some _; congr 2, q5, by simpa using hlen, by simpa using hcl, ?_, hsu', rfl⟩
      · simp; omega
      · intro q hq
        rcases List.mem_or_eq_of_mem_set hq with hq | rfl
        · exact hRl q hq
        · exact hRl _ (List.getElem_mem hcl)
    -- if rightpos < endpos and not heap[childpos] < heap[rightpos]: childpos = rightpos
    refine wpAny_execs_cons (wpAny_If (isTrue_and (wpAny_isTrue_Compare1 (St.ld F₆ rfl (St.ld F₆ m3 (lt_int (wpAny_truthy_bool ?_)))))))
    by_cases hr : 2 * p + 2 < l.length
    · have hr' : ((2 * p + 1 : Nat) : Int) + 1 < (ps.length : Int) := by omega
      simp only [hr', decide_true, if_true]
      obtain ⟨x2, hx2⟩ : ∃ x2, l[2 * p + 2]? = some x2 := ⟨_, List.getElem?_eq_getElem hr⟩
      refine isTrue_and (isTrue_not (wpAny_isTrue_Compare1 (Subscript_ (St.ld F₆ m1 (St.ld F₆ m5 (getL (F₆.get 0) rfl (x := x1.1) (by rw [List.getElem?_map, hx1]; rfl) (by omega)
        (Subscript_ (St.ld F₆ m1 (St.ld F₆ rfl (getL (F₆.get 0) (k := 2 * p + 2) (by omega) (x := x2.1) (by rw [List.getElem?_map, hx2]; rfl) (by omega)
        (K.cmp (hA'.le (by omega)) (K.stab (hRl x1 (List.mem_of_getElem? hx1)) F₆.keep.t) (K.stab (hRl x2 (List.mem_of_getElem? hx2)) F₆.keep.t) fun tk' => wpAny_truthy_bool ?_)))))))))))
      have hch : child K.lt2 l p = if K.lt x1.2 x2.2 then 2 * p + 1 else 2 * p + 2 := by unfold child; rw [hx1, hx2]; rfl
      cases hc : K.lt x1.2 x2.2 with
      | true =>
        simp only [Bool.not_true, Bool.false_eq_true, if_false]
        refine wpAny_execs_nil ?_
        refine wpAny_mono (body h₆ _ _ t' F₆ m1 m2 m3 m4 m6 ?_) (fun fl s₃ hq => ?_) fun _ _ e => e.elim
        · rw [hch, hc]; exact m5
        · cases fl <;> first | exact hq | exact hq.elim
      | false =>
        simp only [Bool.not_false, if_true]
        refine isTrue_and_nil ?_
        simp only [if_true]
        refine wpAny_execs_cons (wpAny_Assign_Name (St.ld F₆ rfl (St.st F₆ fun h₇ F₇ => ?_)))
        dsimp only
        refine wpAny_execs_nil ?_
        refine wpAny_mono (body h₇ _ _ _ F₇ m1 m2 m3 m4 m6 (by rw [hch, hc]; exact (show some (Value.int (((2 * p + 1 : Nat) : Int) + 1) _) = some (Value.int ((2 * p + 2 : Nat) : Int) _) from rfl))) (fun fl s₃ hq => ?_) fun _ _ e => e.elim
        · cases fl <;> first | exact hq | exact hq.elim
    · have hr' : ¬ ((2 * p + 1 : Nat) : Int) + 1 < (ps.length : Int) := by omega
      simp only [hr', decide_false, Bool.false_eq_true, if_false]
      refine wpAny_execs_nil ?_
      refine wpAny_mono (body h₆ _ _ t' F₆ m1 m2 m3 m4 m6 ?_) (fun fl s₃ hq => ?_) fun _ _ e => e.elim
      · rw [child_left hr]; exact m5
      · cases fl <;> first | exact hq | exact hq.elim
  · have hlt' : ¬ ((2 * p + 1 : Nat) : Int) < (ps.length : Int) := by omega
    simp only [hlt', decide_false, Bool.false_eq_true, if_false]
    refine wpAny_execs_nil ?_
    dsimp only
    have hend : suLoop K.lt2 l p = (l, p) := by
      rw [suLoop.eq_def, dif_neg]
      have := child_cases K.lt2 l p
      omega
    rw [hend] at hgoal
    rw [← hgoal] at hsu
    dsimp only at hsu
    -- heap[pos] = newitem
    refine wpAny_execs_cons (wpAny_Assign_Subscript (F'.ld m6 (F'.ld m1 (F'.ld m4 (setL (F'.get 0) rfl (by simpa using hp) (by omega) fun h₆ hs₆ ho₆ => ?_)))))
    have F₆ := F'.turn 0 rfl (ExtS.of hs₆.extBut) ho₆
    dsimp only
    have e₆ : (l.set p x).map (·.1) = (l.map (·.1)).set p x.1 := List.map_set ..
    rw [List.set_cons_zero, ← e₆] at F₆
    -- _siftdown(heap, startpos, pos)
    refine wpAny_execs_cons (wpAny_Expr (callG (G.keeps (Bg.trans F₆.keep)) hsd1 (hsd2.keeps (Bg.trans F₆.keep)) (args_cons (St.ld F₆ m1 (args_cons (St.ld F₆ m2 (args_cons (St.ld F₆ m4 (args_nil ⟨Keep.refl _, ?_⟩)))))))))
    refine siftdown_ok K G (Bg.trans F₆.keep) hsd2 (hA'.le (by omega)) (F₆.get 0) (Kind.All.stab (K := K) (h := g) ?_ F₆.keep.t) (by simpa using hp) (by simp; omega) fun h₇ tk₇ n₇ hx₇ ho₇ => ?_
    · intro q hq
      rcases List.mem_or_eq_of_mem_set hq with hq | rfl
      · exact hRl q hq
      · exact hxR
    · dsimp only
      refine wpAny_execs_nil ?_
      rw [hsu] at h
      exact h h₇ _ n₇ (fun b o hb e => hx₇ b o hb (F₆.keep b o (hg b o hb e))) ho₇
end
end Mine

end
section
namespace Mine
section
variable {prog : Program} {w : World} {A : Around} {R : Result → Shared → Prop} {s : Shared} {E : Value → Shared → Prop} {env : Env} {mg mb : Str → Option Value}

/-! ### reversed(range(k)) -/
theorem meets_range_reversed (r : Addr) (a b c : Int) (t u v : Tok) : Meets (Builtin.«range.__reversed__» ⟨[.ref r], []⟩) (fun _ R s => s.heap.get? r = some { cls := .type "range", dict := none, data := .fields #[.int a t, .int b u, .int c v], slots := #[] } ∧
    (Builtin.Range.rangeFitsLong a && Builtin.Range.rangeFitsLong b && Builtin.Range.rangeFitsLong c && Builtin.Range.rangeFitsLong (-c) && Builtin.Range.rangeFitsLong (a - c) && Builtin.Range.rangeFitsLong (Builtin.Range.rangeSize a b c)) = true ∧
    R (.ok (.ret (Value.ref s.heap.objs.size))) { s with heap := s.heap.push { cls := .type "range_iterator", data := Data.fields #[rawInt (a + (Builtin.Range.rangeSize a b c - 1) * c), rawInt (Builtin.Range.rangeSize a b c), rawInt (-c)] } }) :=
  .of_wp fun prog w A R s h => by
    obtain ⟨hl, hs, h⟩ := h
    unfold Builtin.«range.__reversed__»
    refine wpAny_bind (wpAny_of_eq (a := Value.ref r) rfl ?_)
    refine wpAny_bind ?_
    unfold Builtin.Range.rangeFields
    refine wpAny_bind (wpAny_field hl rfl (x := .int a t) rfl (wpAny_bind (wpAny_of_eq (a := some a) rfl ?_)))
    refine wpAny_bind (wpAny_field hl rfl (x := .int b u) rfl (wpAny_bind (wpAny_of_eq (a := some b) rfl ?_)))
    refine wpAny_bind (wpAny_field hl rfl (x := .int c v) rfl (wpAny_bind (wpAny_of_eq (a := some c) rfl ?_)))
    refine wpAny_pure ?_
    dsimp only
    rw [hs]
    simp only [Bool.not_true, Bool.false_eq_true, if_false, if_true]
    exact wpAny_bind (wpAny_newObj_type (wpAny_pure ⟨_, rfl, h⟩) (by size_fits))
theorem sub_rangeiter_reversed : isSubtype (.type "range_iterator") (.type "reversed") = pure false := by rw [isSubtype_type]; kernel_rfl
theorem small_rev {k : Nat} (hk : k < 2 ^ 30) : (Builtin.Range.rangeFitsLong 0 && Builtin.Range.rangeFitsLong k && Builtin.Range.rangeFitsLong 1 && Builtin.Range.rangeFitsLong (-1) && Builtin.Range.rangeFitsLong (0 - 1) && Builtin.Range.rangeFitsLong (Builtin.Range.rangeSize 0 k 1)) = true := by
  rw [rangeSize_one]
  simp only [Builtin.Range.rangeFitsLong, Bool.and_eq_true, decide_eq_true_eq]
  split <;> omega

theorem reversed_range {r : Addr} {k : Nat} {t u v : Tok} {Q : Value → Shared → Prop} (hr : IsRange s.heap r 0 k 1 t u v) (hk : k < 2 ^ 30)
    (h : Q (.ref s.heap.objs.size) { s with heap := s.heap.push { cls := .type "range_iterator", data := Data.fields #[rawInt ((k : Int) - 1), rawInt k, rawInt (-1)] } }) :
    wpAny (model prog w) A (call (.type "reversed") [.ref r]) Q E s := by
  have hT : s.TypeIs (.ref r) "range" := ⟨_, hr, rfl⟩
  have hz : Builtin.Range.rangeSize 0 k 1 = (k : Int) := by rw [rangeSize_one]; split <;> omega
  have e0 : (0 : Int) + (Builtin.Range.rangeSize 0 k 1 - 1) * 1 = (k : Int) - 1 := by rw [hz]; omega
  refine callType_other (U := "range_iterator") (Q₁ := fun obj s₁ => obj = .ref s.heap.objs.size ∧ s₁ = { s with heap := s.heap.push { cls := .type "range_iterator", data := Data.fields #[rawInt ((k : Int) - 1), rawInt k, rawInt (-1)] } })
    (by decide +kernel) F.create_reversed ⟨_, _, F.mro_reversed⟩ F.made_reversed sub_rangeiter_reversed (F.typeCall_reversed_1 _) ?_ (by rintro obj s₁ ⟨rfl, rfl⟩; exact ⟨⟨_, Heap.get?_push_size _ rfl, rfl⟩, h⟩)
  refine codeAny_of_tree ?_
  show wpAny _ A.in1.in1 (do checkBuiltinCall "reversed.__new__" ⟨[.type "reversed", .ref r], []⟩; again (.builtin "reversed.__new__" ⟨[.type "reversed", .ref r], []⟩)) _ _ s
  refine wpAny_bind (wpAny_of_eq (F.newCall_reversed_1 _) (wpAny_pure ⟨plainId_quiet F.plain_reversed_new _, codeAny_builtin F.entry_reversed_new ?_⟩))
  rw [Around.under_plainId F.plain_reversed_new _]
  unfold Builtin.«reversed.__new__»
  refine wpAny_bind (wpAny_of_eq (newClass_reversed _) ?_)
  try dsimp only
  refine wpAny_bind (wpAny_of_eq (a := ()) (by first | rfl | kernel_rfl) ?_)
  refine wpAny_bind (wpAny_of_eq (a := ()) (by first | rfl | kernel_rfl) ?_)
  try dsimp only
  refine wpAny_bind (wpAny_specialOf hT F.slot_range_reversed.lookup ?_)
  try dsimp only
  refine wpAny_bind (wpAny_of_eq (F.slot_range_reversed.bind _) ?_)
  try dsimp only
  first
  | rw [if_neg (show ¬ ((Value.builtin "range.__reversed__" == Value.none) = true) from Bool.false_ne_true)]
  | (show wpAny _ _ (if (Value.builtin "range.__reversed__" == Value.none) = true then _ else _) _ _ _; rw [if_neg (show ¬ ((Value.builtin "range.__reversed__" == Value.none) = true) from Bool.false_ne_true)])
  refine wpAny_bind (wpAny_rule ?_)
  refine wpAny_bind (m := runValue (.call (.builtin "range.__reversed__") ⟨[.ref r], []⟩)) (show wpAny _ _ (call (.builtin "range.__reversed__") [.ref r]) _ _ _ from
    call_meets F.slot_range_reversed hT F.entry_range_reversed (F.args_range_reversed_1 _) (meets_range_reversed r 0 k 1 t u v) ⟨hr, small_rev hk, ?_⟩)
  rw [e0, hz]
  first
  | exact wpAny_pure ⟨rfl, rfl⟩
  | exact wpAny_bind (wpAny_pure (wpAny_pure ⟨rfl, rfl⟩))
end
end Mine

end
section
namespace Mine
section
variable {β : Type} (lt : β → β → Bool)
def hpush (l : List β) (x : β) : List β := siftdown lt (l ++ [x]) 0 l.length
def hpop (l : List β) (h : l ≠ []) : β × List β := match l.dropLast with
  | [] => (l.getLast h, [])
  | y :: r => (y, siftup lt (l.getLast h :: r) 0)
def hify (l : List β) : Nat → List β
  | 0 => l
  | k + 1 => hify (siftup lt l k) k
def heapifyF (l : List β) : List β := hify lt l (l.length / 2)

theorem sdLoop_perm_aux (start : Nat) (x : β) : ∀ (n : Nat) (l : List β) (pos : Nat), pos = n → pos < l.length → (sdLoop lt start x l pos).length = l.length := by
  intro n
  induction n using Nat.strongRecOn with
  | _ n ih =>
    intro l pos hn hp
    rw [sdLoop]
    split
    · split
      · split
        · rename_i hlt p hpe hl
          rw [ih ((pos - 1) / 2) (by omega) _ _ rfl (by simp; omega)]
          simp
        · simp
      · rfl
    · simp
theorem siftdown_length (l : List β) (start pos : Nat) : (siftdown lt l start pos).length = l.length := by
  unfold siftdown
  split
  · rename_i x hx
    exact sdLoop_perm_aux lt start x pos l pos rfl (List.getElem?_eq_some_iff.mp hx).1
  · rfl
theorem suLoop_length : ∀ (n : Nat) (l : List β) (pos : Nat), l.length - pos = n → (suLoop lt l pos).1.length = l.length := by
  intro n
  induction n using Nat.strongRecOn with
  | _ n ih =>
    intro l pos hn
    rw [suLoop]
    split
    · rename_i h
      have := child_gt lt l pos
      rw [ih (l.length - child lt l pos) (by omega) _ _ (by simp)]
      simp
    · rfl
theorem siftup_length (l : List β) (pos : Nat) : (siftup lt l pos).length = l.length := by
  unfold siftup
  split
  · rw [siftdown_length, List.length_set, suLoop_length lt _ l pos rfl]
  · rfl
/-- membership: no new items -/
theorem sdLoop_mem (start : Nat) (x : β) : ∀ (n : Nat) (l : List β) (pos : Nat), pos = n → ∀ y ∈ sdLoop lt start x l pos, y ∈ l ∨ y = x := by
  intro n
  induction n using Nat.strongRecOn with
  | _ n ih =>
    intro l pos hn y hy
    rw [sdLoop] at hy
    split at hy
    · split at hy
      · rename_i p hpe
        split at hy
        · rcases ih ((pos - 1) / 2) (by omega) _ _ rfl y hy with h | h
          · rcases List.mem_or_eq_of_mem_set h with h | rfl
            · exact .inl h
            · exact .inl (List.mem_of_getElem? hpe)
          · exact .inr h
        · rcases List.mem_or_eq_of_mem_set hy with h | h
          · exact .inl h
          · exact .inr h
      · exact .inl hy
    · rcases List.mem_or_eq_of_mem_set hy with h | h
      · exact .inl h
      · exact .inr h
theorem siftdown_mem {l : List β} {start pos : Nat} {y : β} (hy : y ∈ siftdown lt l start pos) : y ∈ l := by
  unfold siftdown at hy
  split at hy
  · rename_i x hx
    rcases sdLoop_mem lt start x pos l pos rfl y hy with h | rfl
    · exact h
    · exact List.mem_of_getElem? hx
  · exact hy
theorem suLoop_mem : ∀ (n : Nat) (l : List β) (pos : Nat), l.length - pos = n → ∀ y ∈ (suLoop lt l pos).1, y ∈ l := by
  intro n
  induction n using Nat.strongRecOn with
  | _ n ih =>
    intro l pos hn y hy
    rw [suLoop] at hy
    split at hy
    · rename_i h
      have := child_gt lt l pos
      have h2 := ih (l.length - child lt l pos) (by omega) _ _ (by simp) y hy
      rcases List.mem_or_eq_of_mem_set h2 with h3 | rfl
      · exact h3
      · exact List.getElem_mem h
    · exact hy
theorem siftup_mem {l : List β} {pos : Nat} {y : β} (hy : y ∈ siftup lt l pos) : y ∈ l := by
  unfold siftup at hy
  split at hy
  · rename_i x hx
    rcases List.mem_or_eq_of_mem_set (siftdown_mem lt hy) with h | rfl
    · exact suLoop_mem lt _ l pos rfl y h
    · exact List.mem_of_getElem? hx
  · exact hy
end

section
variable {prog : Program} {w : World} {A : Around} {R : Result → Shared → Prop} {s : Shared} {E : Value → Shared → Prop} {env : Env}

theorem heappush_ok {α : Type} (K : Kind α) {h₀ : Heap} {mg mb : Str → Option Value} {f a : Addr} {ps : List (Value × α)} {x : Value × α} {n : Nat} (G : Glb h₀ mg mb) (B : Keep h₀ s.heap) (ha : h₀.get? a = none) (hf : FnIs h₀ f "heappush" 3)
    (hA : Rm A 8) (hl : s.heap.get? a = some (lst (ps.map (·.1)) n)) (hR : K.All s.heap ps) (hxR : K.R s.heap x.1 x.2) (hsz : ps.length < 2 ^ 18)
    (h : ∀ h' tk n', ExtS [a] s.heap h' → h'.get? a = some (lst ((hpush K.lt2 ps x).map (·.1)) n') → R (.ok (.ret .none)) { s with heap := h', toks := tk }) :
    codeAny (model prog w) A (.call (.ref f) ⟨[.ref a, x.1], []⟩) R s := by
  refine callF [(a, lst (ps.map (·.1)) n)] hA (hf.keeps B) (G.nolimit.keeps B) (binds := [("heap", .ref a), ("item", x.1)]) (fun _ _ _ => rfl) rfl (by simpa using hl) (by simp) ?_
  intro g h₁ L cd F hg hgs hA'
  have hRg : K.All g ps := hR.stab (keepT_of hl hg)
  have hxg : K.R g x.1 x.2 := K.stab hxR (keepT_of hl hg)
  have Bg : Keep h₀ g := keep_hide B ha hg
  obtain ⟨fsd, hsd1, hsd2⟩ := G.fn (6, "_siftdown") (by decide)
  -- heap.append(item)
  refine wpAny_execs_cons (wpAny_Expr (methL PySem.F.slot_list_append PySem.F.type_list_append (F.ld rfl ⟨a, _, n, rfl, F.get 0, callWithB1 (F.ld rfl (appendL (F.get 0) (by simp; omega) fun h₂ hs₂ ho₂ => ?_))⟩)))
  have F₂ := F.turn 0 rfl (ExtS.of hs₂.extBut) ho₂
  dsimp only
  have e₂ : (ps ++ [x]).map (·.1) = ps.map (·.1) ++ [x.1] := by simp
  rw [List.set_cons_zero, ← e₂] at F₂
  -- _siftdown(heap, 0, len(heap) - 1)
  refine wpAny_execs_cons (wpAny_Expr (callG (G.keeps (Bg.trans F₂.keep)) hsd1 (hsd2.keeps (Bg.trans F₂.keep)) (args_cons (St.ld F₂ rfl (args_cons (wpAny_Constant_int (args_cons (wpAny_BinOp
    (callB (G.keeps (Bg.trans F₂.keep)) boot_len (args_cons (St.ld F₂ rfl (args_nil (lenL (F₂.get 0) (by simp; omega) fun t2 tk2 => wpAny_Constant_int (sub_int (args_nil ⟨Keep.refl _, ?_⟩)))))))))))))))
  have e3 : (((ps ++ [x]).map (·.1)).length : Int) - 1 = (ps.length : Nat) := by simp
  rw [e3]
  refine siftdown_ok K (start := 0) (pos := ps.length) G (Bg.trans F₂.keep) hsd2 (hA'.le (by omega)) (F₂.get 0) (Kind.All.stab (K := K) (h := g) ?_ F₂.keep.t) (by simp) (by simp; omega) fun h₃ tk₃ n₃ hx₃ ho₃ => ?_
  · intro q hq
    rcases List.mem_append.mp hq with hq | hq
    · exact hRg q hq
    · rw [List.mem_singleton.mp hq]; exact hxg
  · dsimp only
    refine wpAny_execs_nil ?_
    exact h h₃ _ n₃ (fun b o hb e => hx₃ b o hb (F₂.keep b o (hg b o hb e))) ho₃

theorem heappop_ok {α : Type} (K : Kind α) {h₀ : Heap} {mg mb : Str → Option Value} {f a : Addr} {ps : List (Value × α)} {n : Nat} (G : Glb h₀ mg mb) (B : Keep h₀ s.heap) (ha : h₀.get? a = none) (hf : FnIs h₀ f "heappop" 4)
    (hA : Rm A 8) (hl : s.heap.get? a = some (lst (ps.map (·.1)) n)) (hR : K.All s.heap ps) (hne : ps ≠ []) (hsz : ps.length < 2 ^ 18)
    (h : ∀ h' tk n', ExtS [a] s.heap h' → h'.get? a = some (lst ((hpop K.lt2 ps hne).2.map (·.1)) n') → R (.ok (.ret (hpop K.lt2 ps hne).1.1)) { s with heap := h', toks := tk }) :
    codeAny (model prog w) A (.call (.ref f) ⟨[.ref a], []⟩) R s := by
  refine callF [(a, lst (ps.map (·.1)) n)] hA (hf.keeps B) (G.nolimit.keeps B) (binds := [("heap", .ref a)]) (fun _ _ _ => rfl) rfl (by simpa using hl) (by simp) ?_
  intro g h₁ L cd F hg hgs hA'
  have hRg : K.All g ps := hR.stab (keepT_of hl hg)
  have Bg : Keep h₀ g := keep_hide B ha hg
  obtain ⟨fsu, hsu1, hsu2⟩ := G.fn (7, "_siftup") (by decide)
  have hps : ps = ps.dropLast ++ [ps.getLast hne] := (List.dropLast_concat_getLast hne).symm
  have hpm : ps.map (·.1) = ps.dropLast.map (·.1) ++ [(ps.getLast hne).1] := by
    conv => lhs; rw [hps]
    simp
  have hdl : ps.dropLast.length = ps.length - 1 := List.length_dropLast ..
  have F0 := F
  rw [hpm] at F0
  -- lastelt = heap.pop()
  refine wpAny_execs_cons (wpAny_Assign_Name (methL PySem.F.slot_list_pop PySem.F.type_list_pop (F.ld rfl ⟨a, _, n, rfl, F.get 0, callWithB0 (popL (F0.get 0) (by simp; omega) fun h₂ hs₂ ho₂ => ?_)⟩)))
  have F₂ := F0.turn 0 rfl (ExtS.of hs₂.extBut) ho₂
  rw [List.set_cons_zero] at F₂
  refine St.st F₂ fun h₃ F₃ => ?_
  dsimp only
  -- if heap
  refine wpAny_execs_cons (wpAny_If (isTrue_plain (St.ld F₃ rfl ?_)))
  refine wpAny_truthy_list ⟨_, F₃.get 0, rfl, _, rfl⟩ (by simp; omega) ?_
  have hmemd : ∀ q ∈ ps.dropLast, q ∈ ps := fun q hq => List.dropLast_subset _ hq
  rcases hdrop : ps.dropLast with _ | ⟨y, r⟩
  · have hpe : hpop K.lt2 ps hne = (ps.getLast hne, []) := by unfold hpop; rw [hdrop]
    rw [hdrop] at F₃
    simp only [List.map_nil, List.size_toArray, List.length_nil]
    refine wpAny_execs_nil ?_
    refine wpAny_execs_cons (wpAny_Return_some (St.ld F₃ rfl ?_))
    rw [hpe] at h
    exact h h₃ _ _ (fun b o hb e => F₃.keep b o (hg b o hb e)) (F₃.get 0)
  · have hpe : hpop K.lt2 ps hne = (y, siftup K.lt2 (ps.getLast hne :: r) 0) := by unfold hpop; rw [hdrop]
    rw [hdrop] at F₃
    have hlen : (y :: r).length = ps.length - 1 := by rw [← hdrop]; exact hdl
    have htrue : (((List.map (·.1) (y :: r)).toArray.size : Int) != 0) = true := by simp; omega
    simp only [htrue, if_true]
    -- returnitem = heap[0]
    refine wpAny_execs_cons (wpAny_Assign_Name (Subscript_ (St.ld F₃ rfl (wpAny_Constant_int (getL (F₃.get 0) (k := 0) rfl (x := y.1) rfl (by omega) ?_)))))
    refine St.st F₃ fun h₄ F₄ => ?_
    dsimp only
    -- heap[0] = lastelt
    refine wpAny_execs_cons (wpAny_Assign_Subscript (St.ld F₄ rfl (St.ld F₄ rfl (wpAny_Constant_int (setL (F₄.get 0) (k := 0) rfl (by simp) (by omega) fun h₅ hs₅ ho₅ => ?_)))))
    have F₅ := F₄.turn 0 rfl (ExtS.of hs₅.extBut) ho₅
    rw [List.set_cons_zero] at F₅
    dsimp only
    have F₅' : St g h₅ L _ [(a, lst ((ps.getLast hne :: r).map (·.1)) _)] := F₅
    -- _siftup(heap, 0)
    refine wpAny_execs_cons (wpAny_Expr (callG (G.keeps (Bg.trans F₅.keep)) hsu1 (hsu2.keeps (Bg.trans F₅.keep)) (args_cons (St.ld F₅ rfl (args_cons (wpAny_Constant_int (args_nil ⟨Keep.refl _, ?_⟩)))))))
    refine siftup_ok K (pos := 0) G (Bg.trans F₅.keep) (by exact F₅.fresh 0 ▸ ha) hsu2 (hA'.le (by omega)) (F₅'.get 0) (Kind.All.stab (K := K) (h := g) ?_ F₅.keep.t) (by simp) (by simp at hlen ⊢; omega) fun h₆ tk₆ n₆ hx₆ ho₆ => ?_
    · intro q hq
      rcases List.mem_cons.mp hq with rfl | hq
      · exact hRg _ (List.getLast_mem hne)
      · exact hRg _ (hmemd q (by rw [hdrop]; exact .tail _ hq))
    · dsimp only
      have F₆ := F₅'.turn 0 rfl hx₆ ho₆
      refine wpAny_execs_cons (wpAny_Return_some (St.ld F₆ rfl ?_))
      rw [hpe] at h
      exact h h₆ _ n₆ (fun b o hb e => F₆.keep b o (hg b o hb e)) ho₆
end
end Mine

end
section
namespace Mine
section
variable {prog : Program} {w : World} {A : Around} {R : Result → Shared → Prop} {s : Shared} {E : Value → Shared → Prop} {env : Env} {mg mb : Str → Option Value}
theorem callT {x : Str} {T : String} {np pos : Pos} {e : Expr} {rest : List Expr} {Q : Value → Shared → Prop} (G : Glb s.heap mg mb) (hb : bootBuiltins x = some (.type T))
    (h : wpAny (model prog w) A (spliced (backTo pos (starEach (e :: rest) env))) (fun vs s₁ => wpAny (model prog w) A (call (.type T) vs) Q E s₁) E s)
    (hx : x ∈ biNames := by decide) (he : starEach (e :: rest) env = (false, eval e env) :: starEach rest env := by rfl) (hplain : (backTo pos (starEach rest env)).any (·.1) = false := by rfl)
    (hg : env.globals = mainGlobals := by rfl) (hbn : env.builtins = builtinsNs := by rfl)
    (hk : env.scope.kind = .function := by rfl) (hl : env.kindOf x = some .globalImplicit := by rfl) (hd : (x == ("__debug__" : Str)) = false := by decide) (hn : x ≠ "__name__" := by decide) :
    wpAny (model prog w) A (eval (.Call (.Name x np) (e :: rest) [] pos) env) Q E s :=
  Call_ (G.ldB hb (PyProof.Rows.callWith_type1 h he hplain) hx hg hbn hk hl hd hn)
theorem boot_range : bootBuiltins "range" = some (.type "range") := by decide +kernel

abbrev rit (x left step : Int) : Obj := { cls := .type "range_iterator", data := .fields #[rawInt x, rawInt left, rawInt step] }
abbrev rng (k : Nat) (t u v : Tok) : Obj := { cls := .type "range", data := .fields #[.int 0 t, .int k u, .int 1 v] }
section
variable {g : Heap} {L : Addr} {m : Str → Option Value} {mu : List (Addr × Obj)}
theorem St.range1 {n : Int} {k : Nat} {t : Tok} {Q : Value → Shared → Prop} (F : St g s.heap L m mu) (hn : n = (k : Int)) (h : ∀ r h' tk t u v, St g h' L m ((r, rng k t u v) :: mu) → Q (.ref r) { s with heap := h', toks := tk }) :
    wpAny (model prog w) A (call (.type "range") [.int n t]) Q E s := by
  subst hn
  exact call_range_1 (h _ _ _ _ _ _ (F.push (rng k _ _ _)))
theorem St.revRange {r : Addr} {k : Nat} {t u v : Tok} {Q : Value → Shared → Prop} (F : St g s.heap L m ((r, rng k t u v) :: mu)) (hk : k < 2 ^ 30) (h : ∀ it h', St g h' L m ((it, rit ((k : Int) - 1) k (-1)) :: mu) → Q (.ref it) { s with heap := h' }) :
    wpAny (model prog w) A (call (.type "reversed") [.ref r]) Q E s :=
  reversed_range (F.get 0) hk (h _ _ ((F.push (rit ((k : Int) - 1) k (-1))).drop _ (.cons_cons _ (.cons _ (List.Sublist.refl _)))))
theorem St.iterRange {r : Addr} {k : Nat} {t u v : Tok} {Q : Value → Shared → Prop} (F : St g s.heap L m ((r, rng k t u v) :: mu)) (hk : k < 2 ^ 30) (h : ∀ it h', St g h' L m ((it, rit 0 k 1) :: mu) → Q (.ref it) { s with heap := h' }) :
    wpAny (model prog w) A (pyIter (.ref r)) Q E s := by
  have hz : Builtin.Range.rangeSize 0 k 1 = (k : Int) := by rw [rangeSize_one]; split <;> omega
  refine wpAny_pyIter_range (F.get 0) (small_one (by omega) (by omega) (by omega) (by omega)) ?_
  rw [hz]
  exact h _ _ ((F.push (rit 0 k 1)).drop _ (.cons_cons _ (.cons _ (List.Sublist.refl _))))
end
theorem hify_length {β : Type} (lt : β → β → Bool) : ∀ (k : Nat) (l : List β), (hify lt l k).length = l.length
  | 0, _ => rfl
  | k + 1, l => by rw [hify, hify_length lt k, siftup_length]

theorem heapify_ok {α : Type} (K : Kind α) {h₀ : Heap} {mg mb : Str → Option Value} {f a : Addr} {ps : List (Value × α)} {n : Nat} (G : Glb h₀ mg mb) (B : Keep h₀ s.heap) (ha : h₀.get? a = none) (hf : FnIs h₀ f "heapify" 5)
    (hA : Rm A 8) (hl : s.heap.get? a = some (lst (ps.map (·.1)) n)) (hR : K.All s.heap ps) (hsz : ps.length < 2 ^ 18)
    (h : ∀ h' tk n', ExtS [a] s.heap h' → h'.get? a = some (lst ((heapifyF K.lt2 ps).map (·.1)) n') → R (.ok (.ret .none)) { s with heap := h', toks := tk }) :
    codeAny (model prog w) A (.call (.ref f) ⟨[.ref a], []⟩) R s := by
  refine callF [(a, lst (ps.map (·.1)) n)] hA (hf.keeps B) (G.nolimit.keeps B) (binds := [("x", .ref a)]) (fun _ _ _ => rfl) rfl (by simpa using hl) (by simp) ?_
  intro g h₁ L cd F hg hgs hA'
  have hRg : K.All g ps := hR.stab (keepT_of hl hg)
  have Bg : Keep h₀ g := keep_hide B ha hg
  obtain ⟨fsu, hsu1, hsu2⟩ := G.fn (7, "_siftup") (by decide)
  -- n = len(x)
  refine wpAny_execs_cons (wpAny_Assign_Name (callB (G.keeps (Bg.trans F.keep)) boot_len (args_cons (F.ld rfl (args_nil (lenL (F.get 0) (by simp; omega) fun t2 tk2 => ?_))))))
  refine St.st F fun h₂ F₂ => ?_
  dsimp only
  have e1 : (((ps.map (·.1)).length : Nat) : Int).fdiv 2 = ((ps.length / 2 : Nat) : Int) := by
    rw [List.length_map, Int.fdiv_eq_ediv_of_nonneg _ (by decide)]; omega
  -- for i in reversed(range(n // 2))
  refine wpAny_execs_cons (wpAny_For (callT (G.keeps (Bg.trans F₂.keep)) boot_reversed (args_cons (callT (G.keeps (Bg.trans F₂.keep)) boot_range (args_cons (wpAny_BinOp (St.ld F₂ rfl (wpAny_Constant_int (floordiv_int (by decide) (args_nil (St.range1 F₂ e1 fun r h₃ tk₃ t₃ u₃ v₃ F₃ => args_nil (St.revRange F₃ (by omega) fun it h₄ F₄ => wpAny_pyIter_rangeiter (F₄.get 0) ?_))) (Or.inl (PyProof.noPylong_small (by decide))))))))))))
  dsimp only
  refine codeAny_forLoop (fun k s' => ∃ h' tk m l j n', s' = { s with heap := h', toks := tk } ∧ St g h' L m [(it, rit ((j : Nat) - 1) (j : Nat) (-1)), (a, lst (l.map (·.1)) n')] ∧ m "x" = some (.ref a) ∧ l.length = ps.length ∧ j ≤ l.length / 2 ∧ K.All g l ∧
    hify K.lt2 l j = heapifyF K.lt2 ps ∧ j + 1 = k) ?_ (ps.length / 2 + 1) ⟨_, _, _, ps, ps.length / 2, n, rfl, F₄, rfl, rfl, Nat.le_refl _, hRg, rfl, rfl⟩
  rintro k s' ⟨h', tk, m, l, j, n', rfl, F', m1, hlen, hj, hRl, hgoal, rfl⟩
  cases j with
  | zero =>
    refine wpAny_pyNext_range_end hA'.handled (F'.get 0) (by simp) fun h₄ he₄ => ?_
    refine wpAny_execs_nil ?_
    dsimp only
    refine wpAny_execs_nil ?_
    have ne : a ≠ it := fun q => absurd F'.nd (by simp [q])
    refine h h₄ _ n' (fun b o hb e => he₄ b o (fun q => ?_) (F'.keep b o (hg b o hb e))) ?_
    · have e2 := hg b o hb e
      rw [q, F'.fresh 0] at e2; cases e2
    · rw [← hgoal]
      exact he₄ _ _ ne (F'.get 1)
  | succ j =>
    refine wpAny_pyNext_range_item (F'.get 0) (by omega) fun h₄ hit₄ hs₄ => ?_
    have F₄ := F'.turn 0 rfl (ExtS.of hs₄.extBut) hit₄
    rw [List.set_cons_zero] at F₄
    refine wpAny_assign_Name (St.st F₄ fun h₅ F₅ => ?_)
    dsimp only
    refine wpAny_execs_cons (wpAny_Expr (callG (G.keeps (Bg.trans F₅.keep)) hsu1 (hsu2.keeps (Bg.trans F₅.keep)) (args_cons (St.ld F₅ m1 (args_cons (St.ld F₅ rfl (args_nil ⟨Keep.refl _, ?_⟩)))))))
    have e2 : ((j + 1 : Nat) : Int) - 1 = (j : Nat) := by omega
    rw [e2]
    refine siftup_ok K (pos := j) G (Bg.trans F₅.keep) ha hsu2 (hA'.le (by omega)) (F₅.get 1) (hRl.stab F₅.keep.t) (by omega) (by omega) fun h₆ tk₆ n₆ hx₆ ho₆ => ?_
    have F₆ := F₅.turn 1 rfl hx₆ ho₆
    dsimp only
    have e3 : ((j + 1 : Nat) : Int) - 1 + -1 = (j : Nat) - 1 := by omega
    rw [e3, e2] at F₆
    refine wpAny_execs_nil ⟨j + 1, by omega, h₆, _, _, siftup K.lt2 l j, j, n₆, rfl, F₆, m1, by rw [siftup_length]; exact hlen, by rw [siftup_length]; omega, fun q hq => hRl q (siftup_mem _ hq), hgoal, rfl⟩
end
end Mine

end
section
namespace Mine
section
variable {prog : Program} {w : World} {A : Around} {R : Result → Shared → Prop} {s : Shared} {E : Value → Shared → Prop} {env : Env} {mg mb : Str → Option Value}

theorem tup2_lt_tree {x y : Addr} {u1 u2 v1 v2 : Value} {nx ny : Nat} {b1 b2 l1 l2 : Bool} {P : Fin → Shared → Prop} (hx : s.heap.get? x = some (tup [u1, u2] nx)) (hy : s.heap.get? y = some (tup [v1, v2] ny))
    (he1 : ∀ {Q : Bool → Shared → Prop} {E : Value → Shared → Prop}, Q b1 s → wpAny (model prog w) A (eqBool u1 v1) Q E s) (he2 : ∀ {Q : Bool → Shared → Prop} {E : Value → Shared → Prop}, Q b2 s → wpAny (model prog w) A (eqBool u2 v2) Q E s)
    (hl1 : ∀ {Q : Value → Shared → Prop} {E : Value → Shared → Prop}, Q (.bool l1) s → wpAny (model prog w) A (richCompare .Lt u1 v1) Q E s) (hl2 : ∀ {Q : Value → Shared → Prop} {E : Value → Shared → Prop}, Q (.bool l2) s → wpAny (model prog w) A (richCompare .Lt u2 v2) Q E s)
    (h : P (.done (.ret (.bool (if b1 then (if b2 then false else l2) else l1)))) s) :
    wpAny (model prog w) A (Builtin.«tuple.__lt__» ⟨[.ref x, .ref y], []⟩) P E s := by
  show wpAny _ _ (isInstance (.ref y) (.type "tuple") >>= _) _ _ s
  refine wpAny_bind (wpAny_isInstance ⟨_, hy, rfl⟩ isSubtype_tuple_tuple ?_)
  simp only [Bool.not_true, Bool.false_eq_true, if_false]
  refine wpAny_bind (wpAny_tupleItemsOf hx rfl ?_)
  refine wpAny_bind (wpAny_tupleItemsOf hy rfl ?_)
  refine wpAny_bind ?_
  show wpAny _ _ (forIn [(u1, v1), (u2, v2)] _ _) _ _ s
  rw [List.forIn_cons]
  refine wpAny_bind (wpAny_bind (he1 ?_))
  cases b1 with
  | false =>
    simp only [Bool.not_false, if_true]
    refine wpAny_bind (wpAny_rule (wpAny_bind (hl1 ?_)))
    exact wpAny_bind (wpAny_pure (wpAny_pure (wpAny_pure (wpAny_pure h))))
  | true =>
    simp only [Bool.not_true, Bool.false_eq_true, if_false]
    refine wpAny_pure ?_
    dsimp only
    rw [List.forIn_cons]
    refine wpAny_bind (wpAny_bind (he2 ?_))
    cases b2 with
    | false =>
      simp only [Bool.not_false, if_true]
      refine wpAny_bind (wpAny_rule (wpAny_bind (hl2 ?_)))
      exact wpAny_bind (wpAny_pure (wpAny_pure (wpAny_pure (wpAny_pure h))))
    | true =>
      simp only [Bool.not_true, Bool.false_eq_true, if_false]
      refine wpAny_pure ?_
      dsimp only
      rw [List.forIn_nil]
      exact wpAny_pure (wpAny_pure h)

theorem tup2_lt {x y : Addr} {u1 u2 v1 v2 : Value} {nx ny : Nat} {b1 b2 l1 l2 : Bool} {Q : Value → Shared → Prop} (hu : A.units < cLine) (hx : s.heap.get? x = some (tup [u1, u2] nx)) (hy : s.heap.get? y = some (tup [v1, v2] ny))
    (he1 : ∀ {A : Around} {Q : Bool → Shared → Prop} {E : Value → Shared → Prop}, Q b1 s → wpAny (model prog w) A (eqBool u1 v1) Q E s) (he2 : ∀ {A : Around} {Q : Bool → Shared → Prop} {E : Value → Shared → Prop}, Q b2 s → wpAny (model prog w) A (eqBool u2 v2) Q E s)
    (hl1 : ∀ {A : Around} {Q : Value → Shared → Prop} {E : Value → Shared → Prop}, Q (.bool l1) s → wpAny (model prog w) A (richCompare .Lt u1 v1) Q E s) (hl2 : ∀ {A : Around} {Q : Value → Shared → Prop} {E : Value → Shared → Prop}, Q (.bool l2) s → wpAny (model prog w) A (richCompare .Lt u2 v2) Q E s)
    (h : Q (.bool (if b1 then (if b2 then false else l2) else l1)) s) :
    wpAny (model prog w) A (compareOp .Lt (.ref x) (.ref y)) Q E s := by
  show wpAny _ _ (richCompare .Lt (.ref x) (.ref y)) Q E s
  exact wpAny_richCompare_same_room (op := .Lt) (T := "tuple") ⟨_, hx, rfl⟩ ⟨_, hy, rfl⟩ F.slot_tuple_lt
    (wpAny_call_entry F.slot_tuple_lt ⟨_, hx, rfl⟩ F.entry_tuple_lt (tup2_lt_tree hx hy he1 he2 hl1 hl2 ⟨_, rfl, (fun e => nomatch e), h⟩) (F.args_tuple_lt_2 _ _)) hu
end

/-! ### The kinds -/
def intKd : Kind Int where
  R := fun _ v i => ∃ t, v = .int i t
  lt := fun a b => decide (a < b)
  stab := fun h _ => h
  cmp := by
    rintro prog w A E s u v x y Q _ ⟨t, rfl⟩ ⟨t', rfl⟩ h
    exact lt_int (by have := h s.toks; exact this)
def plt (p q : Int × Int) : Bool := if p.1 == q.1 then (if p.2 == q.2 then false else decide (p.2 < q.2)) else decide (p.1 < q.1)
def prKd : Kind (Int × Int) where
  R := fun h v p => ∃ a n t u, v = .ref a ∧ h.get? a = some (tup [.int p.1 t, .int p.2 u] n)
  lt := plt
  stab := by
    rintro h h' v x ⟨a, n, t, u, rfl, e⟩ k
    exact ⟨a, n, t, u, rfl, k _ _ _ e⟩
  cmp := by
    rintro prog w A E s u v x y Q hA ⟨a, n, t1, t2, rfl, e⟩ ⟨b, n', u1, u2, rfl, e'⟩ h
    exact tup2_lt hA.units e e' (fun h => wpAny_eqBool_int h) (fun h => wpAny_eqBool_int h) (fun h => lt_int h) (fun h => lt_int h) (h s.toks)
end Mine

end
section
namespace Mine

theorem St.lose {g h h' : Heap} {L I : Addr} {m : Str → Option Value} {oI : Obj} {mu : List (Addr × Obj)} (F : St g h L m ((I, oI) :: mu)) (hx : Heap.ExtBut I h h') : St g h' L m mu := by
  have D := F.mob (I, oI) (.head _)
  refine ⟨F.ns.extBut hx (Ne.symm D.2.1), fun b o e => hx b o (fun q => by rw [q, D.2.2] at e; cases e) (F.keep b o e), F.out, fun p hp => ⟨hx _ _ (fun q => ?_) (F.mob p (.tail _ hp)).1, (F.mob p (.tail _ hp)).2⟩, (List.nodup_cons.mp F.nd).2⟩
  exact (List.nodup_cons.mp F.nd).1 (List.mem_map.mpr ⟨p, hp, q⟩)

/-- what an iterator at I hands out -/
structure Src (prog : Program) (w : World) (A : Around) (I : Addr) (g : Heap) (n : Nat) (P : Nat → Value → Prop) (It : Nat → Obj → Prop) : Prop where
  item : ∀ i (s : Shared) (oI : Obj) (Q : Option Value → Shared → Prop) (E : Value → Shared → Prop), i < n → s.heap.get? I = some oI → It i oI → Keep g s.heap →
    (∀ v h' tk oI', P i v → Heap.ExtBut I s.heap h' → h'.get? I = some oI' → It (i + 1) oI' → Q (some v) { s with heap := h', toks := tk }) → wpAny (model prog w) A (pyNext (.ref I)) Q E s
  done : ∀ (s : Shared) (oI : Obj) (Q : Option Value → Shared → Prop) (E : Value → Shared → Prop), s.heap.get? I = some oI → It n oI → Keep g s.heap →
    (∀ h', Heap.ExtBut I s.heap h' → Q none { s with heap := h' }) → wpAny (model prog w) A (pyNext (.ref I)) Q E s
  self : ∀ i (s : Shared) (oI : Obj) (Q : Value → Shared → Prop) (E : Value → Shared → Prop), s.heap.get? I = some oI → It i oI → Q (.ref I) s → wpAny (model prog w) A (pyIter (.ref I)) Q E s
  owned : ∀ i (s : Shared) (oI : Obj) (t : Expr) (v : Value) (Q : Unit → Shared → Prop) (E : Value → Shared → Prop), s.heap.get? I = some oI → It i oI → Q () s → wpAny (model prog w) A (letOwnedTupleGo t (.ref I) v) Q E s
  ntup : ∀ i oI, It i oI → ∀ vs k, oI ≠ tup vs k

section
variable {prog : Program} {w : World} {A : Around} {E : Value → Shared → Prop} {s : Shared} {env : Env}
theorem owned_of {I : Addr} {oI : Obj} {c : String} {fs : Array Value} {t : Expr} {v : Value} {Q : Unit → Shared → Prop} (ho : s.heap.get? I = some oI) (hc : oI.cls = .type c) (hd : oI.data = .fields fs)
    (hn : ["enumerate", "zip", "dict_itemiterator", "dict_reverseitemiterator", "odict_iterator", "itertools.zip_longest", "itertools.pairwise"].contains c = false) (h : Q () s) : wpAny (model prog w) A (letOwnedTupleGo t (.ref I) v) Q E s := by
  have key : wpAny (model prog w) A (do
      let (.ref r, .ref a) := (Value.ref I, v) | return
      let o ← load r
      match o.cls, o.data with
      | .type n, .fields vs =>
        if ["enumerate", "zip", "dict_itemiterator", "dict_reverseitemiterator", "odict_iterator", "itertools.zip_longest", "itertools.pairwise"].contains n && vs[0]? == some (rawInt a) then
          rule "for.unpacks-the-owned-tuple"
          updateField r 0 .none
      | _, _ => pure ()) Q E s := by
    cases v with
    | ref a =>
      refine wpAny_bind (wpAny_load ho ?_)
      obtain ⟨oc, od, odt, osl⟩ := oI
      cases hc
      cases hd
      show wpAny _ _ (if (List.contains _ c && _) = true then _ else _) _ _ _
      rw [hn, Bool.false_and]
      exact wpAny_pure h
    | _ => exact wpAny_pure h
  cases t <;> first | exact key | exact wpAny_pure h

def ItL (b : Addr) (i : Nat) (o : Obj) : Prop := o.cls = .type "list_iterator" ∧ o.data = .fields #[.ref b, .int i 0]
theorem Src.list {I b : Addr} {vs : List Value} {n : Nat} {g : Heap} (hh : A.handled = none) (hb : g.get? b = some (lst vs n)) : Src prog w A I g vs.length (fun i v => vs[i]? = some v) (ItL b) where
  item := fun i s oI Q E hi ho hit hk h => by
    refine wpAny_pyNext_list_item (x := vs[i]) ⟨oI, ho, hit.1, hit.2⟩ ⟨_, hk _ _ hb, rfl, n, rfl⟩ (by simp [hi]) fun h' hit' hs' => ?_
    obtain ⟨o', e1, e2, e3⟩ := hit'
    exact h _ h' s.toks o' (by simp [hi]) hs'.extBut e1 ⟨e2, e3⟩
  done := fun s oI Q E ho hit hk h => wpAny_pyNext_list_end hh ⟨oI, ho, hit.1, hit.2⟩ ⟨_, hk _ _ hb, rfl, n, rfl⟩ (by simp) fun h' he => h h' he
  self := fun i s oI Q E ho hit h => wpAny_pyIter_listiter ⟨oI, ho, hit.1, hit.2⟩ h
  owned := fun i s oI t v Q E ho hit h => owned_of ho hit.1 hit.2 (by decide) h
  ntup := fun i oI hit vs k q => by have := hit.2; rw [q] at this; cases this
def ItR (k i : Nat) (o : Obj) : Prop := o = rit i ((k : Int) - i) 1
theorem Src.range {I : Addr} {k : Nat} {g : Heap} (hh : A.handled = none) : Src prog w A I g k (fun i v => ∃ t, v = .int (i : Nat) t) (ItR k) where
  item := fun i s oI Q E hi ho hit hk h => by
    obtain rfl := hit
    refine wpAny_pyNext_range_item ho (by omega) fun h' hit' hs' => ?_
    refine h _ h' _ _ ⟨_, rfl⟩ hs'.extBut hit' ?_
    show rit _ _ _ = rit _ _ _
    congr 1 <;> omega
  done := fun s oI Q E ho hit hk h => by
    obtain rfl := hit
    exact wpAny_pyNext_range_end hh ho (by omega) h
  self := fun i s oI Q E ho hit h => by
    obtain rfl := hit
    exact wpAny_pyIter_rangeiter ho h
  owned := fun i s oI t v Q E ho hit h => by
    obtain rfl := hit
    exact owned_of ho rfl rfl (by decide) h
  ntup := fun i oI hit vs k q => by rw [show oI = _ from hit] at q; simp [rit] at q

abbrev testsOf (ifs : List Expr) (env : Env) : Sem Bool := forIn ifs true fun c r => if r = true then do let ok ← isTrue c env (eval c env); pure (ForInStep.yield ok) else pure (ForInStep.yield r)

theorem compLoop_gen {elt target iter : Expr} {ifs : List Expr} {scope : Scope} {pos : Pos} {it acc : Value} {env : Env} {R : Result → Shared → Prop} (I : Nat → Shared → Prop)
    (turn : ∀ n s, I n s → wpAny (model prog w) A (pyNext it) (fun r s₁ => match r with
      | none => R (.ok .next) s₁
      | some v => wpAny (model prog w) A (letOwnedTupleGo target it v) (fun _ s₀ => wpAny (model prog w) A (assign target env v) (fun _ s₂ =>
          wpAny (model prog w) A (testsOf ifs env) (fun ok s₃ =>
            if ok = true then wpAny (model prog w) A (eval elt env) (fun x s₄ =>
              wpAny (model prog w) A (call (.builtin "list.append") [acc, x]) (fun _ s₅ => ∃ m, m < n ∧ I m s₅) (notedBy (model prog w) A env fun e s' => R (.error e) s') s₄) (notedBy (model prog w) A env fun e s' => R (.error e) s') s₃
            else ∃ m, m < n ∧ I m s₃) (notedBy (model prog w) A env fun e s' => R (.error e) s') s₂)
          (notedBy (model prog w) A env fun e s' => R (.error e) s') s₀) (notedBy (model prog w) A env fun e s' => R (.error e) s') s₁) (notedBy (model prog w) A env fun e s' => R (.error e) s') s)
    (n : Nat) (h : I n s) : codeAny (model prog w) A (.compLoop (.ListComp elt [⟨target, iter, ifs, 0⟩] scope pos) 0 it acc env) R s := by
  refine codeAny_loop rfl I (fun n s hI => ?_) n h
  show wpAny _ A ((compTurn (.ListComp elt [⟨target, iter, ifs, 0⟩] scope pos) 0 it acc env).onRaise (fun x => do noteFrame x env; theTreesLotGoes x)) _ _ s
  refine wpAny_noted ?_
  rw [compTurn_list]
  refine wpAny_bind (wpAny_standAt (wpAny_bind (wpAny_mono (turn n s hI) (fun r s₁ h₁ => ?_) fun _ _ h' => h')))
  cases r with
  | none => exact wpAny_pure h₁
  | some v =>
    refine wpAny_bind (wpAny_mono h₁ (fun _ s₀ h₀' => ?_) fun _ _ h' => h')
    refine wpAny_bind (wpAny_mono h₀' (fun _ s₂ h₂ => wpAny_bind (wpAny_mono h₂ (fun ok s₃ h₃ => ?_) fun _ _ h' => h')) fun _ _ h' => h')
    cases ok with
    | false => exact wpAny_pure ⟨rfl, h₃⟩
    | true =>
      exact wpAny_bind (wpAny_bind (wpAny_mono h₃ (fun x s₄ h₄ => wpAny_bind (wpAny_mono h₄ (fun _ s₅ h₅ => wpAny_pure (wpAny_pure ⟨rfl, h₅⟩)) fun _ _ h' => h')) fun _ _ h' => h'))

/-- a turn's end in a comprehension: the frame C, the iterator I, the list D stand as said, the rest is kept -/
def TurnEnd (s : Shared) (g : Heap) (C I D : Addr) (oI : Obj) (ys : List Value) (n : Nat) (Z : Heap → Prop) (s' : Shared) : Prop :=
  ∃ g' h' tk m', s' = { s with heap := h', toks := tk } ∧ St g' h' C m' [(I, oI), (D, lst ys n)] ∧ Keep g g' ∧ Z g'

theorem comp_core {elt target iter : Expr} {ifs : List Expr} {scope : Scope} {cl : List (Str × Addr)} {pos : Pos} {I : Addr} {oI : Obj} {g₀ : Heap} {n : Nat} {P : Nat → Value → Prop} {It : Nat → Obj → Prop} {RR : Value → Addr → Result → Shared → Prop}
    (S : Src prog w A I g₀ n P It) (hsz : n < 2 ^ 20) (J : Nat → List Value → Heap → Prop)
    (hI : s.heap.get? I = some oI) (hIt : It 0 oI) (hg₀ : Keep g₀ s.heap) (hg₀I : g₀.get? I = none)
    (hcell : ∀ y ∈ scope.names, y.2 ≠ .cell) (hkind : scope.kind = .function) (J0 : ∀ g, J 0 [] g)
    (step : ∀ i v ys C D n' oI' g₁ h₁ tk m₁ (E' : Value → Shared → Prop), P i v → i < n → ys.length ≤ i → J i ys g₁ → Keep g₀ g₁ → (∀ b o, b ≠ I → s.heap.get? b = some o → g₁.get? b = some o) → St g₁ h₁ C m₁ [(I, oI'), (D, lst ys n')] →
      wpAny (model prog w) A (assign target (compEnvC scope cl C env) v) (fun _ s₂ => wpAny (model prog w) A (testsOf ifs (compEnvC scope cl C env)) (fun ok s₃ =>
        if ok = true then wpAny (model prog w) A (eval elt (compEnvC scope cl C env)) (fun y s₄ => TurnEnd s g₁ C I D oI' ys n' (J (i + 1) (ys ++ [y])) s₄) E' s₃
        else TurnEnd s g₁ C I D oI' ys n' (J (i + 1) ys) s₃) E' s₂) E' { s with heap := h₁, toks := tk })
    (hRR : ∀ D C h' tk g₁ m' ys n', St g₁ h' C m' [(D, lst ys n')] → (∀ b o, b ≠ I → s.heap.get? b = some o → g₁.get? b = some o) → s.heap.get? D = none → s.heap.get? C = none → D ≠ C → ys.length ≤ n → J n ys g₁ → RR (.ref D) C (.ok .next) { s with heap := h', toks := tk }) :
    wpAny (model prog w) A (newList []) (fun acc s₃ => wpAny (model prog w) A (newFunctionEnv scope env.globals cl [] env.qual none .none (some env)) (fun cenv s₄ =>
      codeAny (model prog w) A (.compStart (.ListComp elt [⟨target, iter, ifs, 0⟩] scope pos) 0 (.ref I) acc { cenv with scope := relabel scope env }) (RR acc cenv.locals) s₄) E s₃) E s := by
  refine wpAny_newObj_type (wpAny_newFunctionEnv hcell (by intro y hy; simp at hy) (fun h₁ hns₁ hsb₁ => ?_) hkind) (by size_fits)
  dsimp only at hns₁ hsb₁ ⊢
  generalize hH2 : s.heap.push { cls := .type "list", dict := none, data := .seq ([] : List Value).toArray } = H2 at hns₁ hsb₁ ⊢
  have hC : H2.objs.size = s.heap.objs.size + 1 := by rw [← hH2, Heap.size_push]
  have hDC : s.heap.objs.size ≠ H2.objs.size := by rw [hC]; exact Nat.ne_of_lt (Nat.lt_succ_self _)
  have hIs : I < s.heap.objs.size := Heap.lt_size hI
  have below : ∀ b, b < s.heap.objs.size → b ≠ H2.objs.size ∧ b ≠ s.heap.objs.size := fun b hb => ⟨by rw [hC]; exact Nat.ne_of_lt (Nat.lt_succ_of_lt hb), Nat.ne_of_lt hb⟩
  have old : ∀ b o, s.heap.get? b = some o → h₁.get? b = some o := fun b o e => hsb₁.extBut b o (below b (Heap.lt_size e)).1 (Heap.get?_push_of_some _ (hH2 ▸ Heap.get?_push_of_some _ e))
  have hacc : h₁.get? s.heap.objs.size = some (lst [] 0) := hsb₁.extBut _ _ hDC (Heap.get?_push_of_some _ (hH2 ▸ Heap.get?_push_size _ rfl))
  have fresh : ∀ a, s.heap.objs.size ≤ a → s.heap.get? a = none := fun a ha => by
    cases e : s.heap.get? a with
    | none => rfl
    | some o' => exact absurd (Heap.lt_size e) (Nat.not_lt.mpr ha)
  have hDf : s.heap.get? s.heap.objs.size = none := fresh _ (Nat.le_refl _)
  have hCf : s.heap.get? H2.objs.size = none := fresh _ (by rw [hC]; exact Nat.le_succ _)
  have F₁ : St (hideAll s.heap [I]) h₁ H2.objs.size (fun x => ([] : List (Str × Value)).reverse.lookup x) [(I, oI), (s.heap.objs.size, lst [] 0)] := by
    refine ⟨hns₁, fun b o e => old b o (of_hideAll _ e), ?_, fun p hp => ?_, ?_⟩
    · cases q : (hideAll s.heap [I]).get? H2.objs.size with
      | none => rfl
      | some o => rw [of_hideAll _ q] at hCf; cases hCf
    · rcases List.mem_cons.mp hp with rfl | hp
      · exact ⟨old _ _ hI, (below I hIs).1, hideAll_none _ (.head _)⟩
      · rcases List.mem_cons.mp hp with rfl | hp
        · refine ⟨hacc, hDC, ?_⟩
          cases q : (hideAll s.heap [I]).get? s.heap.objs.size with
          | none => rfl
          | some o => rw [of_hideAll _ q] at hDf; cases hDf
        · cases hp
    · simp [Nat.ne_of_lt hIs]
  have hgI : ∀ b o, b ≠ I → s.heap.get? b = some o → (hideAll s.heap [I]).get? b = some o := fun b o hb e => hideAll_get _ e (by simpa using hb)
  have hg₁ : Keep g₀ (hideAll s.heap [I]) := fun b o e => hgI b o (fun q => by rw [q, hg₀I] at e; cases e) (hg₀ b o e)
  have loop : ∀ s₂ : Shared, s₂ = { s with heap := h₁, toks := s.toks + ([] : List (Str × Value)).length } →
      codeAny (model prog w) A (.compLoop (.ListComp elt [⟨target, iter, ifs, 0⟩] scope pos) 0 (.ref I) (.ref s.heap.objs.size) (compEnvC scope cl H2.objs.size env)) (RR (.ref s.heap.objs.size) H2.objs.size) s₂ := by
    rintro s₂ rfl
    refine compLoop_gen (fun k s' => ∃ g₁ h' tk m' ys n' oI' i, s' = { s with heap := h', toks := tk } ∧ St g₁ h' H2.objs.size m' [(I, oI'), (s.heap.objs.size, lst ys n')] ∧ It i oI' ∧ Keep g₀ g₁ ∧ (∀ b o, b ≠ I → s.heap.get? b = some o → g₁.get? b = some o) ∧
      J i ys g₁ ∧ ys.length ≤ i ∧ i ≤ n ∧ n + 1 - i = k) ?_ (n + 1) ⟨_, h₁, _, _, [], 0, oI, 0, rfl, F₁, hIt, hg₁, hgI, J0 _, Nat.le_refl _, Nat.zero_le _, rfl⟩
    rintro k s' ⟨g₁, h', tk, m', ys, n', oI', i, rfl, F', hIt', hk₁, hk₂, hJ, hyl, hi, rfl⟩
    by_cases hlt : i < n
    · refine S.item i _ oI' _ _ hlt (F'.get 0) hIt' (hk₁.trans F'.keep) fun v h₂ tk₂ oI₂ hPv hx₂ ho₂ hIt₂ => ?_
      have F₂ := F'.turn 0 rfl (ExtS.of hx₂) ho₂
      rw [List.set_cons_zero] at F₂
      refine S.owned (i + 1) _ oI₂ _ _ _ _ (F₂.get 0) hIt₂ ?_
      refine wpAny_mono (step i v ys _ _ n' oI₂ g₁ h₂ tk₂ m' _ hPv hlt hyl hJ hk₁ hk₂ F₂) (fun _ s₂ h₂ => ?_) fun _ _ e => e
      refine wpAny_mono h₂ (fun ok s₃ h₃ => ?_) fun _ _ e => e
      cases ok with
      | false =>
        simp only [Bool.false_eq_true, if_false] at h₃ ⊢
        obtain ⟨g₃, h₃, tk₃, m₃, rfl, F₃, hk₃, hZ⟩ := h₃
        exact ⟨n + 1 - (i + 1), by omega, g₃, h₃, tk₃, m₃, ys, n', oI₂, i + 1, rfl, F₃, hIt₂, hk₁.trans hk₃, fun b o hb e => hk₃ b o (hk₂ b o hb e), hZ, by omega, by omega, rfl⟩
      | true =>
        simp only [if_true] at h₃ ⊢
        refine wpAny_mono h₃ (fun y s₄ h₄ => ?_) fun _ _ e => e
        obtain ⟨g₄, h₄, tk₄, m₄, rfl, F₄, hk₄, hZ⟩ := h₄
        refine appendL (F₄.get 1) (by omega) fun h₅ hs₅ ho₅ => ?_
        have F₅ := F₄.turn 1 rfl (ExtS.of hs₅.extBut) ho₅
        exact ⟨n + 1 - (i + 1), by omega, g₄, h₅, tk₄, m₄, ys ++ [y], n' + 1, oI₂, i + 1, rfl, F₅, hIt₂, hk₁.trans hk₄, fun b o hb e => hk₄ b o (hk₂ b o hb e), hZ, by simp; omega, by omega, rfl⟩
    · have hin : i = n := by omega
      subst hin
      refine S.done _ oI' _ _ (F'.get 0) hIt' (hk₁.trans F'.keep) fun h₂ hx₂ => ?_
      exact hRR _ _ h₂ tk g₁ m' ys n' (F'.lose hx₂) hk₂ hDf hCf hDC hyl hJ
  exact codeAny_compStart_list (loop _ rfl) (S.self 0 _ oI _ _ (old _ _ hI) hIt (loop _ rfl))
end
end Mine

end
section
namespace Mine
theorem St.add {g h : Heap} {L D : Addr} {m : Str → Option Value} {o : Obj} {mu : List (Addr × Obj)} (F : St g h L m mu) (ho : h.get? D = some o) (hg : g.get? D = none) (hL : D ≠ L) (hm : D ∉ mu.map (·.1)) : St g h L m ((D, o) :: mu) := by
  refine ⟨F.ns, F.keep, F.out, fun p hp => ?_, ?_⟩
  · rcases List.mem_cons.mp hp with rfl | hp
    · exact ⟨ho, hL, hg⟩
    · exact F.mob p hp
  · rw [List.map_cons]; exact List.nodup_cons.mpr ⟨hm, F.nd⟩
def NoTup (mu : List (Addr × Obj)) : Prop := ∀ p ∈ mu, ∀ vs n, p.2 ≠ tup vs n
theorem NoTup.nil : NoTup [] := fun _ h => nomatch h
theorem NoTup.cons {a : Addr} {o : Obj} {mu : List (Addr × Obj)} (h : ∀ vs n, o ≠ tup vs n) (r : NoTup mu) : NoTup ((a, o) :: mu) := fun p hp => by
  rcases List.mem_cons.mp hp with rfl | hp
  · exact h
  · exact r p hp
theorem NoTup.lst {a : Addr} {vs : List Value} {n : Nat} {mu : List (Addr × Obj)} (r : NoTup mu) : NoTup ((a, lst vs n) :: mu) := .cons (fun vs n q => by simp at q) r

/-- a frozen part with all new tuples -/
theorem St.freeze {g g₁ h : Heap} {L : Addr} {m : Str → Option Value} {mu : List (Addr × Obj)} (F : St g h L m mu) (hT : NoTup mu) (k : Keep g₁ h) : ∃ g₂, St g₂ h L m mu ∧ Keep g g₂ ∧ KeepT g₁ g₂ := by
  obtain ⟨g₂, F₂, k₂, r⟩ := F.rebase mu (List.Sublist.refl _)
  refine ⟨g₂, F₂, k₂, fun b vs n e => r b _ (k _ _ e) (fun q => ?_) (fun q => ?_)⟩
  · obtain ⟨o, es, ep, ho, hd, _⟩ := F.ns
    rw [← q, k _ _ e] at ho; cases ho; cases hd
  · obtain ⟨p, hp, e2⟩ := List.mem_map.mp q
    have e3 := (F.mob p hp).1
    rw [e2, k _ _ e] at e3
    exact hT p hp vs n (Option.some.inj e3).symm

section
variable {prog : Program} {w : World} {A : Around} {E : Value → Shared → Prop} {s : Shared} {env : Env} {g : Heap} {L : Addr} {m : Str → Option Value} {mu : List (Addr × Obj)}
/-- one element of a comprehension (elt, target, ifs) -/
def CompStep (prog : Program) (w : World) (A : Around) (env : Env) (scope : Scope) (cl : List (Str × Addr)) (elt target : Expr) (ifs : List Expr) (s : Shared) (n : Nat) (P : Nat → Value → Prop) (J : Nat → List Value → Heap → Prop) : Prop :=
  ∀ i v ys C D I n' oI' g₁ h₁ tk m₁ (E' : Value → Shared → Prop), P i v → i < n → ys.length ≤ i → J i ys g₁ → Keep s.heap g₁ → St g₁ h₁ C m₁ [(I, oI'), (D, lst ys n')] →
      wpAny (model prog w) A (assign target (compEnvC scope cl C env) v) (fun _ s₂ => wpAny (model prog w) A (testsOf ifs (compEnvC scope cl C env)) (fun ok s₃ =>
        if ok = true then wpAny (model prog w) A (eval elt (compEnvC scope cl C env)) (fun y s₄ => TurnEnd s g₁ C I D oI' ys n' (J (i + 1) (ys ++ [y])) s₄) E' s₃
        else TurnEnd s g₁ C I D oI' ys n' (J (i + 1) ys) s₃) E' s₂) E' { s with heap := h₁, toks := tk }

section
variable {elt target iter : Expr} {ifs : List Expr} {scope : Scope} {cl : List (Str × Addr)} {pos : Pos} {b : Addr} {vs : List Value} {n : Nat}
theorem compE_list {Q : Value → Shared → Prop} (F : St g s.heap L m mu) (hT : NoTup mu) (J : Nat → List Value → Heap → Prop) (hit : ∀ {Q : Value → Shared → Prop} {E : Value → Shared → Prop}, Q (.ref b) s → wpAny (model prog w) A (eval iter env) Q E s)
    (hb : s.heap.get? b = some (lst vs n)) (hsz : vs.length < 2 ^ 20) (hh : A.handled = none) (J0 : ∀ g, J 0 [] g) (Jk : ∀ i ys h h', J i ys h → KeepT h h' → J i ys h')
    (step : CompStep prog w A env scope cl elt target ifs s vs.length (fun i v => vs[i]? = some v) J)
    (h : ∀ D h' tk g₂ ys n', St g₂ h' L m ((D, lst ys n') :: mu) → Keep g g₂ → Keep s.heap h' → ys.length ≤ vs.length → J vs.length ys g₂ → Q (.ref D) { s with heap := h', toks := tk })
    (hclos : closureFor scope env = pure cl := by rfl) (hcell : ∀ y ∈ scope.names, y.2 ≠ .cell := by decide) (hkind : scope.kind = .function := by rfl) (hnames : ∀ x ∈ scope.names, x.2 = .local → scope.names.lookup x.1 = some .local := by decide)
    (hs : ∀ x, foldedSetIterable iter env x = pure x := by intro _; rfl) :
    wpAny (model prog w) A (eval (.ListComp elt [⟨target, iter, ifs, 0⟩] scope pos) env) Q E s := by
  rw [eval_ListComp]
  refine wpAny_comprehension_free (use := none) rfl hs hclos hkind hnames (hit (wpAny_pyIter_list ⟨_, hb, rfl, n, rfl⟩ ?_))
  have hsb : s.heap.get? s.heap.objs.size = none := by
    cases q : s.heap.get? s.heap.objs.size with
    | none => rfl
    | some o => exact absurd (Heap.lt_size q) (Nat.lt_irrefl _)
  have up : ∀ c o, s.heap.get? c = some o → c ≠ s.heap.objs.size := fun c o e q => by rw [q, hsb] at e; cases e
  refine comp_core (RR := fun acc C => compPost (model prog w) A E none Q acc C) (g₀ := s.heap) (Src.list hh hb) hsz J (Heap.get?_push_size _ rfl) ⟨rfl, rfl⟩ (fun b o e => Heap.get?_push_of_some _ e) hsb hcell hkind J0
    (fun i v ys C D n' oI' g₁ h₁ tk m₁ E' hP hi hyl hJ hk₁ hk₂ F₁ => step i v ys C D _ n' oI' g₁ h₁ tk m₁ E' hP hi hyl hJ hk₁ F₁) ?_
  intro D C h' tk g₁ m' ys n' F' hk hD hC hDC hyl hJ
  refine ⟨m', F'.ns, fun h'' hs'' => ?_⟩
  have k1 : Keep s.heap h'' := fun c o e => hs''.extBut c o (fun q => by
    have := Heap.get?_push_of_some { cls := .type "list_iterator", data := .fields #[.ref b, .int 0 0] } e
    rw [q, hC] at this; cases this) (F'.keep _ _ (hk c o (up c o e) (Heap.get?_push_of_some _ e)))
  have hD' : s.heap.get? D = none := by
    cases q : s.heap.get? D with
    | none => rfl
    | some o => rw [Heap.get?_push_of_some _ q] at hD; cases hD
  have k2 : Keep g₁ h'' := fun c o e => hs''.extBut c o (fun q => by rw [q, F'.out] at e; cases e) (F'.keep _ _ e)
  have F₁ := (F.all k1).add (D := D) (hs''.extBut _ _ hDC (F'.get 0)) (by
    cases q : g.get? D with
    | none => rfl
    | some o => rw [F.keep _ _ q] at hD'; cases hD') (fun q => by
    obtain ⟨o, _, _, ho, _⟩ := F.ns
    rw [q, ho] at hD'; cases hD') (fun q => by
    obtain ⟨p, hp, e⟩ := List.mem_map.mp q
    rw [← e, (F.mob p hp).1] at hD'; cases hD')
  obtain ⟨g₂, F₂, k3, k4⟩ := F₁.freeze hT.lst k2
  exact h D h'' tk g₂ ys n' F₂ k3 k1 hyl (Jk _ _ _ _ hJ k4)

theorem compA_list {y : Str} {py spos : Pos} {Q : Flow → Shared → Prop} (F : St g s.heap L m mu) (hT : NoTup mu) (J : Nat → List Value → Heap → Prop) (hit : ∀ {Q : Value → Shared → Prop} {E : Value → Shared → Prop}, Q (.ref b) s → wpAny (model prog w) A (eval iter env) Q E s)
    (hb : s.heap.get? b = some (lst vs n)) (hsz : vs.length < 2 ^ 20) (hh : A.handled = none) (J0 : ∀ g, J 0 [] g) (Jk : ∀ i ys h h', J i ys h → KeepT h h' → J i ys h')
    (step : CompStep prog w A env scope cl elt target ifs s vs.length (fun i v => vs[i]? = some v) J)
    (h : ∀ D h' tk g₂ ys n', St g₂ h' L (upd m y (.ref D)) ((D, lst ys n') :: mu) → Keep g g₂ → ys.length ≤ vs.length → J vs.length ys g₂ → Q .next { s with heap := h', toks := tk })
    (hL : env.locals = L := by rfl) (hsw : swapsWith (.ListComp elt [⟨target, iter, ifs, 0⟩] scope pos) (some (.Name y py)) spos.line env = pure true := by rfl)
    (hy : env.kindOf y = some .local := by rfl) (hp : (env.scope.kind == .class || (env.scope.kind == .module && env.locals != env.globals)) = false := by rfl)
    (hclos : closureFor scope env = pure cl := by rfl) (hcell : ∀ y ∈ scope.names, y.2 ≠ .cell := by decide) (hkind : scope.kind = .function := by rfl) (hnames : ∀ x ∈ scope.names, x.2 = .local → scope.names.lookup x.1 = some .local := by decide)
    (hs : ∀ x, foldedSetIterable iter env x = pure x := by intro _; rfl) :
    wpAny (model prog w) A (exec (.Assign [.Name y py] (.ListComp elt [⟨target, iter, ifs, 0⟩] scope pos) spos) env) Q E s := by
  subst hL
  rw [exec_Assign_Name_used _ _ _ _ hsw]
  refine wpAny_bind (wpAny_standAt (wpAny_bind ?_))
  show wpAny _ A (do let _ ← comprehension (.ListComp elt [⟨target, iter, ifs, 0⟩] scope pos) scope env _ (newList []) false (eval iter env) (some (assign (.Name y py) env))) _ _ s
  refine wpAny_bind (wpAny_mono (wpAny_comprehension_free (use := some (assign (.Name y py) env)) (Q := fun _ s' => Q .next s') rfl hs hclos hkind hnames (hit (wpAny_pyIter_list ⟨_, hb, rfl, n, rfl⟩ ?_))) (fun _ s' hq => wpAny_pure (wpAny_pure hq)) fun _ _ e => e)
  have hsb : s.heap.get? s.heap.objs.size = none := by
    cases q : s.heap.get? s.heap.objs.size with
    | none => rfl
    | some o => exact absurd (Heap.lt_size q) (Nat.lt_irrefl _)
  have up : ∀ c o, s.heap.get? c = some o → c ≠ s.heap.objs.size := fun c o e q => by rw [q, hsb] at e; cases e
  refine comp_core (RR := fun acc C => compPost (model prog w) A E (some (assign (.Name y py) env)) (fun _ s' => Q .next s') acc C) (g₀ := s.heap) (Src.list hh hb) hsz J (Heap.get?_push_size _ rfl) ⟨rfl, rfl⟩ (fun b o e => Heap.get?_push_of_some _ e) hsb hcell hkind J0
    (fun i v ys C D n' oI' g₁ h₁ tk m₁ E' hP hi hyl hJ hk₁ hk₂ F₁ => step i v ys C D _ n' oI' g₁ h₁ tk m₁ E' hP hi hyl hJ hk₁ F₁) ?_
  intro D C h' tk g₁ m' ys n' F' hk hD hC hDC hyl hJ
  have k1 : Keep s.heap h' := fun c o e => F'.keep _ _ (hk c o (up c o e) (Heap.get?_push_of_some _ e))
  have hD' : s.heap.get? D = none := by
    cases q : s.heap.get? D with
    | none => rfl
    | some o => rw [Heap.get?_push_of_some _ q] at hD; cases hD
  have hC' : s.heap.get? C = none := by
    cases q : s.heap.get? C with
    | none => rfl
    | some o => rw [Heap.get?_push_of_some _ q] at hC; cases hC
  have F₁ := (F.all k1).add (D := D) (F'.get 0) (by
    cases q : g.get? D with
    | none => rfl
    | some o => rw [F.keep _ _ q] at hD'; cases hD') (fun q => by
    obtain ⟨o, _, _, ho, _⟩ := F.ns
    rw [q, ho] at hD'; cases hD') (fun q => by
    obtain ⟨p, hp, e⟩ := List.mem_map.mp q
    rw [← e, (F.mob p hp).1] at hD'; cases hD')
  have hLC : env.locals ≠ C := fun q => by
    obtain ⟨o, _, _, ho, _⟩ := F.ns
    rw [q, hC'] at ho; cases ho
  show wpAny _ A (assign (.Name y py) env (.ref D)) _ _ _
  refine wpAny_assign_Name (wpAny_storeName_local hy F₁.ns (fun h₂ hn₂ hs₂ => ?_) hp)
  have F₂ : St g h₂ env.locals (upd m y (.ref D)) ((D, lst ys n') :: mu) := F₁.store hn₂ hs₂
  refine ⟨m', F'.ns.sameBut hs₂ (Ne.symm hLC), fun h₃ hs₃ => ?_⟩
  -- C is no object of ours
  have F₃ : St g h₃ env.locals (upd m y (.ref D)) ((D, lst ys n') :: mu) := by
    refine ⟨F₂.ns.sameBut hs₃ hLC, fun c o e => hs₃.extBut c o (fun q => by rw [q] at e; rw [F.keep _ _ e] at hC'; cases hC') (F₂.keep _ _ e), F₂.out, fun p hp => ⟨hs₃.extBut _ _ (fun q => ?_) (F₂.mob p hp).1, (F₂.mob p hp).2⟩, F₂.nd⟩
    rcases List.mem_cons.mp hp with rfl | hp
    · exact hDC q
    · rw [← q, (F.mob p hp).1] at hC'; cases hC'
  have k2 : KeepT g₁ h₃ := fun c vs n e => hs₃.extBut c _ (fun q => by rw [q, F'.out] at e; cases e) (hs₂.extBut c _ (fun q => by
    obtain ⟨o, es, ep, ho, hd, _⟩ := F₁.ns
    rw [← q, F'.keep _ _ e] at ho; cases ho; cases hd) (F'.keep _ _ e))
  obtain ⟨g₂, F₄, k3, k4⟩ := F₃.freeze hT.lst (Keep.refl h₃)
  exact h D h₃ _ g₂ ys n' F₄ k3 hyl (Jk _ _ _ _ hJ (k2.trans k4))
end
end
end Mine

end
section
namespace Mine

/-! ### The pure heap functions go with a map -/
section
variable {β γ : Type} {lt : β → β → Bool} {lt' : γ → γ → Bool} {f : β → γ} (hf : ∀ a b, lt' (f a) (f b) = lt a b)
include hf
theorem sdLoop_map (start : Nat) (x : β) : ∀ (n : Nat) (l : List β) (pos : Nat), pos = n → (sdLoop lt start x l pos).map f = sdLoop lt' start (f x) (l.map f) pos := by
  intro n
  induction n using Nat.strongRecOn with
  | _ n ih =>
    intro l pos hn
    rw [sdLoop, sdLoop]
    by_cases h : start < pos
    · simp only [h, dite_true]
      rw [List.getElem?_map]
      rcases hp : l[(pos - 1) / 2]? with _ | p
      · rfl
      · simp only [Option.map_some]
        rw [hf]
        by_cases hc : lt x p = true
        · simp only [hc, if_true]
          rw [ih ((pos - 1) / 2) (by omega) _ _ rfl, List.map_set]
        · simp only [hc, if_false, List.map_set, Bool.false_eq_true]
    · simp only [h, dite_false, List.map_set]
theorem siftdown_map (l : List β) (start pos : Nat) : (siftdown lt l start pos).map f = siftdown lt' (l.map f) start pos := by
  unfold siftdown
  rw [List.getElem?_map]
  rcases l[pos]? with _ | x
  · rfl
  · exact sdLoop_map hf start x pos l pos rfl
theorem child_map (l : List β) (pos : Nat) : child lt' (l.map f) pos = child lt l pos := by
  unfold child
  rw [List.getElem?_map, List.getElem?_map]
  rcases l[2 * pos + 1]? with _ | x <;> rcases l[2 * pos + 2]? with _ | y <;> simp [hf]
theorem suLoop_map : ∀ (n : Nat) (l : List β) (pos : Nat), l.length - pos = n → suLoop lt' (l.map f) pos = ((suLoop lt l pos).1.map f, (suLoop lt l pos).2) := by
  intro n
  induction n using Nat.strongRecOn with
  | _ n ih =>
    intro l pos hn
    rw [suLoop, suLoop]
    simp only [child_map hf, List.length_map]
    by_cases h : child lt l pos < l.length
    · simp only [h, dite_true]
      have := child_gt lt l pos
      rw [← ih (l.length - child lt l pos) (by omega) (l.set pos l[child lt l pos]) _ (by simp), List.map_set]
      congr 1
      simp
    · simp only [h, dite_false]
theorem siftup_map (l : List β) (pos : Nat) : (siftup lt l pos).map f = siftup lt' (l.map f) pos := by
  unfold siftup
  rw [List.getElem?_map]
  rcases hx : l[pos]? with _ | x
  · rfl
  · simp only [Option.map_some]
    rw [siftdown_map hf, List.map_set, suLoop_map hf _ l pos rfl]
theorem hify_map : ∀ (k : Nat) (l : List β), (hify lt l k).map f = hify lt' (l.map f) k
  | 0, _ => rfl
  | k + 1, l => by rw [hify, hify, hify_map k, siftup_map hf]
theorem heapifyF_map (l : List β) : (heapifyF lt l).map f = heapifyF lt' (l.map f) := by
  unfold heapifyF; rw [hify_map hf, List.length_map]
theorem hpush_map (l : List β) (x : β) : (hpush lt l x).map f = hpush lt' (l.map f) (f x) := by
  unfold hpush; rw [siftdown_map hf]; simp
theorem hpop_map (l : List β) (h : l ≠ []) (h' : l.map f ≠ []) : hpop lt' (l.map f) h' = (f (hpop lt l h).1, (hpop lt l h).2.map f) := by
  unfold hpop
  rw [← List.map_dropLast]
  have e : (l.map f).getLast h' = f (l.getLast h) := List.getLast_map ..
  rcases hd : l.dropLast with _ | ⟨y, r⟩
  · simp [e]
  · simp only [List.map_cons, e]
    rw [siftup_map hf]; simp
end

/-! ### Lists that hold data -/
def Items {α : Type} (K : Kind α) (h : Heap) (vs : List Value) (xs : List α) : Prop := ∃ ps : List (Value × α), ps.map (·.1) = vs ∧ ps.map (·.2) = xs ∧ K.All h ps
namespace Items
variable {α : Type} {K : Kind α} {h h' : Heap} {vs us : List Value} {xs ys : List α}
theorem nil : Items K h [] [] := ⟨[], rfl, rfl, fun _ h => nomatch h⟩
theorem stab (x : Items K h vs xs) (k : KeepT h h') : Items K h' vs xs := let ⟨ps, a, b, c⟩ := x; ⟨ps, a, b, c.stab k⟩
theorem length (x : Items K h vs xs) : vs.length = xs.length := by obtain ⟨ps, rfl, rfl, _⟩ := x; simp
theorem snoc (x : Items K h vs xs) {v : Value} {y : α} (r : K.R h v y) : Items K h (vs ++ [v]) (xs ++ [y]) := by
  obtain ⟨ps, rfl, rfl, c⟩ := x
  refine ⟨ps ++ [(v, y)], by simp, by simp, fun p hp => ?_⟩
  rcases List.mem_append.mp hp with hp | hp
  · exact c p hp
  · rw [List.mem_singleton.mp hp]; exact r
theorem get (x : Items K h vs xs) {i : Nat} {v : Value} (hv : vs[i]? = some v) : ∃ y, xs[i]? = some y ∧ K.R h v y := by
  obtain ⟨ps, rfl, rfl, c⟩ := x
  rw [List.getElem?_map] at hv
  rcases hp : ps[i]? with _ | p
  · rw [hp] at hv; cases hv
  · rw [hp] at hv; cases hv
    exact ⟨p.2, by rw [List.getElem?_map, hp]; rfl, c p (List.mem_of_getElem? hp)⟩
theorem get' (x : Items K h vs xs) {i : Nat} {y : α} (hy : xs[i]? = some y) : ∃ v, vs[i]? = some v ∧ K.R h v y := by
  obtain ⟨ps, rfl, rfl, c⟩ := x
  rw [List.getElem?_map] at hy
  rcases hp : ps[i]? with _ | p
  · rw [hp] at hy; cases hy
  · rw [hp] at hy; cases hy
    exact ⟨p.1, by rw [List.getElem?_map, hp]; rfl, c p (List.mem_of_getElem? hp)⟩
end Items

section
variable {prog : Program} {w : World} {A : Around} {R : Result → Shared → Prop} {s : Shared} {E : Value → Shared → Prop} {env : Env} {h₀ : Heap} {mg mb : Str → Option Value}
variable {α : Type} (K : Kind α)
theorem lt2_snd (p q : Value × α) : K.lt p.2 q.2 = K.lt2 p q := rfl

theorem heapify_D {f a : Addr} {vs : List Value} {xs : List α} {n : Nat} (G : Glb h₀ mg mb) (B : Keep h₀ s.heap) (ha : h₀.get? a = none) (hf : FnIs h₀ f "heapify" 5)
    (hA : Rm A 8) (hl : s.heap.get? a = some (lst vs n)) {g : Heap} (hgT : KeepT g s.heap) (hI : Items K g vs xs) (hsz : xs.length < 2 ^ 18)
    (h : ∀ h' tk n' vs', ExtS [a] s.heap h' → h'.get? a = some (lst vs' n') → Items K g vs' (heapifyF K.lt xs) → R (.ok (.ret .none)) { s with heap := h', toks := tk }) :
    codeAny (model prog w) A (.call (.ref f) ⟨[.ref a], []⟩) R s := by
  obtain ⟨ps, rfl, rfl, hR⟩ := hI
  refine heapify_ok K G B ha hf hA hl (hR.stab hgT) (by simpa using hsz) fun h' tk n' hx ho => ?_
  refine h h' tk n' _ hx ho ⟨heapifyF K.lt2 ps, rfl, heapifyF_map (f := Prod.snd) (lt2_snd K) ps, fun q hq => hR q ?_⟩
  unfold heapifyF at hq
  have : ∀ (k : Nat) (l : List (Value × α)), q ∈ hify K.lt2 l k → q ∈ l := by
    intro k
    induction k with
    | zero => intro l h; exact h
    | succ k ih => intro l h; exact siftup_mem _ (ih _ h)
  exact this _ _ hq
theorem hpop_mem {β : Type} (lt : β → β → Bool) (l : List β) (h : l ≠ []) : (hpop lt l h).1 ∈ l ∧ ∀ q ∈ (hpop lt l h).2, q ∈ l := by
  unfold hpop
  rcases hd : l.dropLast with _ | ⟨y, r⟩
  · exact ⟨List.getLast_mem h, fun q hq => nomatch hq⟩
  · have hsub : ∀ q ∈ y :: r, q ∈ l := fun q hq => List.dropLast_subset l (by rw [hd]; exact hq)
    refine ⟨hsub _ (.head _), fun q hq => ?_⟩
    have hq' : q ∈ siftup lt (l.getLast h :: r) 0 := hq
    rcases List.mem_cons.mp (siftup_mem _ hq') with rfl | h2
    · exact List.getLast_mem h
    · exact hsub _ (.tail _ h2)
theorem heappop_D {f a : Addr} {vs : List Value} {xs : List α} {n : Nat} (G : Glb h₀ mg mb) (B : Keep h₀ s.heap) (ha : h₀.get? a = none) (hf : FnIs h₀ f "heappop" 4)
    (hA : Rm A 8) (hl : s.heap.get? a = some (lst vs n)) {g : Heap} (hgT : KeepT g s.heap) (hI : Items K g vs xs) (hne : xs ≠ []) (hsz : xs.length < 2 ^ 18)
    (h : ∀ h' tk n' v vs', ExtS [a] s.heap h' → h'.get? a = some (lst vs' n') → Items K g vs' (hpop K.lt xs hne).2 → K.R g v (hpop K.lt xs hne).1 → R (.ok (.ret v)) { s with heap := h', toks := tk }) :
    codeAny (model prog w) A (.call (.ref f) ⟨[.ref a], []⟩) R s := by
  obtain ⟨ps, rfl, rfl, hR⟩ := hI
  have hne' : ps ≠ [] := fun q => hne (by rw [q]; rfl)
  have hm := hpop_map (f := Prod.snd) (lt2_snd K) ps hne' hne
  have hmem := hpop_mem K.lt2 ps hne'
  refine heappop_ok K G B ha hf hA hl (hR.stab hgT) hne' (by simpa using hsz) fun h' tk n' hx ho => ?_
  refine h h' tk n' _ _ hx ho ⟨(hpop K.lt2 ps hne').2, rfl, by rw [hm], fun q hq => hR q (hmem.2 q hq)⟩ ?_
  rw [hm]
  exact hR _ hmem.1
theorem heappush_D {f a : Addr} {vs : List Value} {xs : List α} {v : Value} {y : α} {n : Nat} (G : Glb h₀ mg mb) (B : Keep h₀ s.heap) (ha : h₀.get? a = none) (hf : FnIs h₀ f "heappush" 3)
    (hA : Rm A 8) (hl : s.heap.get? a = some (lst vs n)) {g : Heap} (hgT : KeepT g s.heap) (hI : Items K g vs xs) (hy : K.R g v y) (hsz : xs.length < 2 ^ 18)
    (h : ∀ h' tk n' vs', ExtS [a] s.heap h' → h'.get? a = some (lst vs' n') → Items K g vs' (hpush K.lt xs y) → R (.ok (.ret .none)) { s with heap := h', toks := tk }) :
    codeAny (model prog w) A (.call (.ref f) ⟨[.ref a, v], []⟩) R s := by
  obtain ⟨ps, rfl, rfl, hR⟩ := hI
  refine heappush_ok K (x := (v, y)) G B ha hf hA hl (hR.stab hgT) (K.stab hy hgT) (by simpa using hsz) fun h' tk n' hx ho => ?_
  refine h h' tk n' _ hx ho ⟨hpush K.lt2 ps (v, y), rfl, hpush_map (f := Prod.snd) (lt2_snd K) ps (v, y), fun q hq => ?_⟩
  unfold hpush at hq
  rcases List.mem_append.mp (siftdown_mem _ hq) with h1 | h1
  · exact hR q h1
  · rw [List.mem_singleton.mp h1]; exact hy
end

/-! ### More rules -/
section
variable {prog : Program} {w : World} {A : Around} {s : Shared} {E : Value → Shared → Prop} {env : Env} {g : Heap} {L : Addr} {m : Str → Option Value} {mu : List (Addr × Obj)}
theorem St.newL {vs : List Value} {Q : Value → Shared → Prop} (F : St g s.heap L m mu) (h : ∀ a h', St g h' L m ((a, lst vs 0) :: mu) → Q (.ref a) { s with heap := h' }) (hsz : vs.length < 2 ^ 20 := by simp) :
    wpAny (model prog w) A (newList vs) Q E s := wpAny_newObj_type (h _ _ (F.push (lst vs 0))) (by show vs.toArray.size ≤ sizeLine; rw [sizeLine_eq, List.size_toArray]; omega)
theorem St.newT {vs : List Value} {Q : Value → Shared → Prop} (F : St g s.heap L m mu) (h : ∀ a h', St g h' L m ((a, tup vs 0) :: mu) → Q (.ref a) { s with heap := h' }) (hsz : vs.length < 2 ^ 20 := by simp) :
    wpAny (model prog w) A (newTuple vs) Q E s := wpAny_newObj_type (h _ _ (F.push (tup vs 0))) (by show vs.toArray.size ≤ sizeLine; rw [sizeLine_eq, List.size_toArray]; omega)
theorem St.unpack2 {a b : Str} {pa pb tp : Pos} {k : Nat} {T : Addr} {x y : Value} {n : Nat} {Q : Unit → Shared → Prop} (F : St g s.heap L m mu) (hh : A.handled = none) (hT : s.heap.get? T = some (tup [x, y] n))
    (h : ∀ h' tk, St g h' L (upd (upd m a x) b y) mu → Q () { s with heap := h', toks := tk }) (hL : env.locals = L := by rfl) (ha : env.kindOf a = some .local := by rfl) (hb : env.kindOf b = some .local := by rfl)
    (hp : (env.scope.kind == .class || (env.scope.kind == .module && env.locals != env.globals)) = false := by rfl) :
    wpAny (model prog w) A (assign (.Tuple [.Name a pa, .Name b pb] k tp) env (.ref T)) Q E s := by
  subst hL
  refine kcp_assign hh ⟨_, hT, rfl, n, rfl⟩ ha hb hp F.ns fun h' tk hn hk => h h' tk ⟨hn, fun c o e => hk c o (fun q => by rw [q, F.out] at e; cases e) (F.keep c o e), F.out, fun p hp => ⟨hk _ _ (F.mob p hp).2.1 (F.mob p hp).1, (F.mob p hp).2⟩, F.nd⟩
theorem neNil {a b : Addr} {vs : List Value} {n n' : Nat} {Q : Value → Shared → Prop} (hu : A.units < cLine) (ha : s.heap.get? a = some (lst vs n)) (hb : s.heap.get? b = some (lst [] n')) (h : Q (.bool (!vs.isEmpty)) s) :
    wpAny (model prog w) A (compareOp .NotEq (.ref a) (.ref b)) Q E s := by
  show wpAny _ _ (richCompare .NotEq _ _) _ _ _
  cases vs with
  | nil => exact PySem.SeqAt.RcNeAt.lists (e := fun _ => true) ⟨_, ha, rfl, n, rfl⟩ ⟨_, hb, rfl, n', rfl⟩ rfl hu (fun j h1 _ => by simp at h1) prog w E Q (by simpa using h)
  | cons v r => exact PySem.SeqAt.RcNeAt.lists_lengths ⟨_, ha, rfl, n, rfl⟩ ⟨_, hb, rfl, n', rfl⟩ (by simp) hu prog w E Q (by simpa using h)
theorem eqNil {a b : Addr} {vs : List Value} {n n' : Nat} {Q : Value → Shared → Prop} (hu : A.units < cLine) (ha : s.heap.get? a = some (lst vs n)) (hb : s.heap.get? b = some (lst [] n')) (h : Q (.bool vs.isEmpty) s) :
    wpAny (model prog w) A (compareOp .Eq (.ref a) (.ref b)) Q E s := by
  show wpAny _ _ (richCompare .Eq _ _) _ _ _
  cases vs with
  | nil => exact PySem.SeqAt.RcAt.lists (e := fun _ => true) ⟨_, ha, rfl, n, rfl⟩ ⟨_, hb, rfl, n', rfl⟩ rfl hu (fun j h1 _ => by simp at h1) prog w E Q (by simpa using h)
  | cons v r => exact PySem.SeqAt.RcAt.lists_lengths ⟨_, ha, rfl, n, rfl⟩ ⟨_, hb, rfl, n', rfl⟩ (by simp) hu prog w E Q (by simpa using h)
theorem max2 {a b : Int} {t u : Tok} {Q : Value → Shared → Prop} (hh : A.handled = none) (h : ∀ h' tk t', Keep s.heap h' → Q (.int (max a b) t') { s with heap := h', toks := tk }) :
    wpAny (model prog w) A (call (.builtin "max") [.int a t, .int b u]) Q E s := by
  refine PySem.Flt.max_two_num hh (.int _ _) (.int _ _) fun h' tk k => ?_
  have e : (if PySem.Flt.ltV (.int a t) (.int b u) then Value.int b u else Value.int a t) = Value.int (max a b) (if a < b then u else t) := by
    show (if decide (a < b) = true then _ else _) = _
    by_cases hc : a < b
    · rw [if_pos (by simpa using hc), if_pos hc, Int.max_eq_right (by omega)]
    · rw [if_neg (by simpa using hc), if_neg hc, Int.max_eq_left (by omega)]
  rw [e]
  exact h h' tk _ k
end
end Mine

end
section
namespace Mine
theorem TurnEnd.plain {s : Shared} {g₁ h' : Heap} {C I D : Addr} {oI : Obj} {ys : List Value} {n : Nat} {Z : Heap → Prop} {tk : Nat} {m' : Str → Option Value} (F : St g₁ h' C m' [(I, oI), (D, lst ys n)]) (hZ : Z g₁) : TurnEnd s g₁ C I D oI ys n Z { s with heap := h', toks := tk } :=
  ⟨g₁, h', tk, m', rfl, F, Keep.refl _, hZ⟩
theorem TurnEnd.tup {s : Shared} {g₁ h' : Heap} {C I D t : Addr} {oI : Obj} {ys vs : List Value} {n k : Nat} {Z : Heap → Prop} {tk : Nat} {m' : Str → Option Value} (F : St g₁ h' C m' [(t, Mine.tup vs k), (I, oI), (D, lst ys n)])
    (hZ : ∀ g', Keep g₁ g' → g'.get? t = some (Mine.tup vs k) → Z g') : TurnEnd s g₁ C I D oI ys n Z { s with heap := h', toks := tk } := by
  obtain ⟨g', F', k', r⟩ := F.rebase [(I, oI), (D, lst ys n)] (.cons _ (List.Sublist.refl _))
  have hnd := F.nd
  simp only [List.map_cons, List.map_nil, List.nodup_cons, List.mem_cons, List.not_mem_nil, or_false, not_or] at hnd
  exact ⟨g', h', tk, m', rfl, F', k', hZ g' k' (r t _ (F.get 0) (F.notL 0) (by simpa using hnd.1))⟩

theorem St.swap {g h : Heap} {L : Addr} {m : Str → Option Value} {p q : Addr × Obj} {mu : List (Addr × Obj)} (F : St g h L m (p :: q :: mu)) : St g h L m (q :: p :: mu) :=
  ⟨F.ns, F.keep, F.out, fun x hx => F.mob x (by
    simp only [List.mem_cons] at hx ⊢
    rcases hx with h | h | h
    · exact .inr (.inl h)
    · exact .inl h
    · exact .inr (.inr h)), by
    have := F.nd
    simp only [List.map_cons, List.nodup_cons, List.mem_cons, not_or] at this ⊢
    exact ⟨⟨fun e => this.1.1 e.symm, this.2.1⟩, this.1.2, this.2.2⟩⟩

/-! ### _law_nails -/
def stay1 (p : Int × Int) : Int × Int := (p.1, max p.2 (p.1 + 1))
theorem hpop_length {β : Type} (lt : β → β → Bool) (l : List β) (h : l ≠ []) : (hpop lt l h).2.length + 1 = l.length := by
  have : l.dropLast.length = l.length - 1 := List.length_dropLast ..
  have h0 := List.length_pos_iff.mpr h
  unfold hpop
  rcases hd : l.dropLast with _ | ⟨y, r⟩
  · rw [hd] at this; simp at this ⊢; omega
  · rw [hd] at this
    simp only [siftup_length]
    simp at this ⊢; omega
abbrev ilt (a b : Int) : Bool := decide (a < b)
def nailsL (coming : List (Int × Int)) (overs nails : List Int) : List Int :=
  if h : coming = [] then nails ++ [overs.headD 0 - 1]
  else if overs ≠ [] ∧ overs.headD 0 ≤ (hpop plt coming h).1.1 then nailsL (hpop plt coming h).2 (hpush ilt [] (hpop plt coming h).1.2) (nails ++ [overs.headD 0 - 1])
  else nailsL (hpop plt coming h).2 (hpush ilt overs (hpop plt coming h).1.2) nails
termination_by coming.length
decreasing_by all_goals (have := hpop_length plt coming h; omega)
def nailsF (xs : List (Int × Int)) : List Int := nailsL (heapifyF plt (xs.map stay1)) [] []

def NailsInv (s : Shared) (g₂ : Heap) (L ca na : Addr) (xs : List (Int × Int)) (k : Nat) (s' : Shared) : Prop :=
  ∃ h' tk m cs nc os no ns nn oa xs' ys' zs', s' = { s with heap := h', toks := tk } ∧ St g₂ h' L m [(na, lst ns nn), (oa, lst os no), (ca, lst cs nc)] ∧
    m "coming" = some (.ref ca) ∧ m "overs" = some (.ref oa) ∧ m "nails" = some (.ref na) ∧ Items prKd g₂ cs xs' ∧ Items intKd g₂ os ys' ∧ Items intKd g₂ ns zs' ∧ (xs' ≠ [] ∨ ys' ≠ []) ∧
    nailsL xs' ys' zs' = nailsF xs ∧ xs'.length + ys'.length ≤ xs.length ∧ xs'.length + zs'.length ≤ xs.length ∧ xs'.length = k
theorem hpush_length {β : Type} (lt : β → β → Bool) (l : List β) (x : β) : (hpush lt l x).length = l.length + 1 := by unfold hpush; rw [siftdown_length]; simp

section
variable {prog : Program} {w : World} {A : Around} {R : Result → Shared → Prop} {s : Shared} {E : Value → Shared → Prop} {env : Env} {h₀ : Heap} {mg mb : Str → Option Value}

theorem nails_ok {f b : Addr} {vs : List Value} {xs : List (Int × Int)} {n : Nat} (G : Glb h₀ mg mb) (B : Keep h₀ s.heap) (hf : FnIs h₀ f "_law_nails" 9)
    (hA : Rm A 12) (hl : s.heap.get? b = some (lst vs n)) (hI : Items prKd s.heap vs xs) (hne : xs ≠ []) (hsz : xs.length < 2 ^ 16)
    (h : ∀ h' tk nl us n', Keep s.heap h' → s.heap.get? nl = none → h'.get? nl = some (lst us n') → Items intKd h' us (nailsF xs) → R (.ok (.ret (.ref nl))) { s with heap := h', toks := tk }) :
    codeAny (model prog w) A (.call (.ref f) ⟨[.ref b], []⟩) R s := by
  refine callF [] hA (hf.keeps B) (G.nolimit.keeps B) (binds := [("stays", .ref b)]) (fun _ _ _ => rfl) rfl (by simp) (by simp) ?_
  intro g h₁ L cd F hg hgs hA'
  have ks : Keep s.heap g := fun b o e => hg b o (by simp) e
  have Bg : Keep h₀ g := B.trans ks
  have hlen : vs.length = xs.length := hI.length
  obtain ⟨fhy, hy1, hy2⟩ := G.fn (5, "heapify") (by decide)
  obtain ⟨fpo, hpo1, hpo2⟩ := G.fn (4, "heappop") (by decide)
  obtain ⟨fpu, hpu1, hpu2⟩ := G.fn (3, "heappush") (by decide)
  -- coming = [(first, max(behind, first + 1)) for first, behind in stays]
  refine wpAny_execs_cons (compA_list F NoTup.nil (fun i ys g => Items prKd g ys ((xs.take i).map stay1)) (fun hq => F.ld rfl hq) (F.keep _ _ (ks _ _ hl)) (by omega) hA'.handled (fun _ => Items.nil) (fun i ys h h' x k => x.stab k) ?_ ?_)
  · intro i v ys C D I n' oI' g₁ h₂ tk m₁ E' hP hi hyl hJ hk F₁
    obtain ⟨⟨p1, p2⟩, hx, a, na, t, u, rfl, ha⟩ := hI.get hP
    have hk1 : Keep s.heap h₂ := ks.trans (F.keep.trans (hk.trans F₁.keep))
    refine F₁.unpack2 hA'.handled (hk1 _ _ ha) fun h₃ tk₃ F₂ => ?_
    refine wpAny_tests_nil ?_
    simp only [if_true]
    have kB : Keep h₀ h₃ := Bg.trans (F.keep.trans (hk.trans F₂.keep))
    refine Tuple_ (args_cons (St.ld F₂ rfl (args_cons (callB (G.keeps kB) boot_max (args_cons (St.ld F₂ rfl (args_cons (wpAny_BinOp (St.ld F₂ rfl (wpAny_Constant_int (add_int (args_nil (max2 hA'.handled fun h₄ tk₄ t₄ k₄ => args_nil ?_)))))))))))))
    refine St.newT (F₂.all k₄) fun T h₅ F₅ => ?_
    refine TurnEnd.tup F₅ fun g' k' hT => ?_
    have e : (xs.take (i + 1)).map stay1 = (xs.take i).map stay1 ++ [stay1 (p1, p2)] := by rw [List.take_add_one, hx]; simp
    rw [e]
    exact (hJ.stab k'.t).snoc ⟨T, _, _, _, rfl, hT⟩
  intro ca h₂ tk₂ g₂ cs nc F₂ k₂ hcl hJ
  dsimp only
  rw [hlen, List.take_length] at hJ
  have none_of : ∀ {a : Addr}, g₂.get? a = none → h₀.get? a = none := fun {a} e => by
    cases q : h₀.get? a with
    | none => rfl
    | some o => rw [k₂ _ _ (Bg _ _ q)] at e; cases e
  have B₂ : Keep h₀ g₂ := Bg.trans k₂
  have hmaplen : (xs.map stay1).length = xs.length := List.length_map ..
  -- heapify(coming)
  refine wpAny_execs_cons (wpAny_Expr (callG (G.keeps (B₂.trans F₂.keep)) hy1 (hy2.keeps (B₂.trans F₂.keep)) (args_cons (St.ld F₂ rfl (args_nil ⟨Keep.refl _, ?_⟩)))))
  refine heapify_D prKd G (B₂.trans F₂.keep) (none_of (F₂.fresh 0)) hy2 (hA'.le (by omega)) (F₂.get 0) F₂.keep.t hJ (by omega) fun h₃ tk₃ n₃ cs₃ hx₃ ho₃ hI₃ => ?_
  have F₃ := F₂.turn 0 rfl hx₃ ho₃
  rw [List.set_cons_zero] at F₃
  dsimp only
  -- overs = []
  refine wpAny_execs_cons (wpAny_Assign_Name (List_ (args_nil (St.newL F₃ fun oa h₄ F₄ => St.st F₄ fun h₅ F₅ => ?_))))
  dsimp only
  -- nails = []
  refine wpAny_execs_cons (wpAny_Assign_Name (List_ (args_nil (St.newL F₅ fun na h₆ F₆ => St.st F₆ fun h₇ F₇ => ?_))))
  dsimp only
  have hh3 : (heapifyF plt (xs.map stay1)).length = xs.length := by unfold heapifyF; rw [hify_length, hmaplen]
  have hne3 : heapifyF plt (xs.map stay1) ≠ [] := fun q => by rw [q] at hh3; exact hne (List.length_eq_zero_iff.mp hh3.symm)
  -- the loop
  refine wpAny_execs_cons (wpAny_While (codeAny_whileLoop (NailsInv s g₂ L ca na xs) ?_ xs.length
    ⟨h₇, _, _, cs₃, n₃, [], 0, [], 0, oa, _, [], [], rfl, F₇, rfl, rfl, rfl, hI₃, Items.nil, Items.nil, .inl hne3, rfl, by simp [prKd, hh3], by simp [prKd, hh3], hh3⟩))
  rintro k s' ⟨h', tk, m, cs, nc, os, no, ns, nn, oa, xs', ys', zs', rfl, F', m1, m2, m3, i1, i2, i3, hor, hgoal, hs1, hs2, rfl⟩
  have l1 := i1.length
  have l2 := i2.length
  have l3 := i3.length
  refine wpAny_isTrue_Compare1 (St.ld F' m1 (List_ (args_nil (St.newL F' fun e₁ h₈ F₈ => neNil hA'.units (F₈.get 3) (F₈.get 0) (wpAny_truthy_bool ?_)))))
  have F₈' := F₈.drop _ (.cons _ (List.Sublist.refl _))
  rw [nailsL] at hgoal
  by_cases hxe : xs' = []
  · subst hxe
    have hcs : cs = [] := List.length_eq_zero_iff.mp (by simpa using l1)
    subst hcs
    simp only [List.isEmpty_nil, Bool.not_true, Bool.false_eq_true, if_false]
    simp only [dite_true] at hgoal
    have hy0 : ys' ≠ [] := hor.resolve_left (fun q => q rfl)
    obtain ⟨y0, yr, rfl⟩ := List.exists_cons_of_ne_nil hy0
    obtain ⟨ov, hov, t₀, rfl⟩ := i2.get' (i := 0) (y := y0) rfl
    refine wpAny_execs_nil ?_
    dsimp only
    -- nails.append(overs[0] - 1)
    refine wpAny_execs_cons (wpAny_Expr (methL PySem.F.slot_list_append PySem.F.type_list_append (St.ld F₈' m3 ⟨na, _, nn, rfl, F₈'.get 0, callWithB1 (wpAny_BinOp (Subscript_ (St.ld F₈' m2 (wpAny_Constant_int (getL (F₈'.get 1) (k := 0) rfl hov (by omega)
      (wpAny_Constant_int (sub_int (appendL (F₈'.get 0) (by omega) fun h₉ hs₉ ho₉ => ?_))))))))⟩)))
    have F₉ := F₈'.turn 0 rfl (ExtS.of hs₉.extBut) ho₉
    dsimp only
    refine wpAny_execs_cons (wpAny_Return_some (St.ld F₉ m3 ?_))
    refine h h₉ _ na _ _ (ks.trans (k₂.trans F₉.keep)) ?_ ho₉ ?_
    · cases q : s.heap.get? na with
      | none => rfl
      | some o => have := k₂ _ _ (ks _ _ q); rw [F₉.fresh 0] at this; cases this
    · rw [← hgoal]
      exact (i3.stab F₉.keep.t).snoc ⟨_, rfl⟩
  · have hcs : cs ≠ [] := fun q => hxe (List.length_eq_zero_iff.mp (by rw [← l1, q]; rfl))
    have hcs2 : cs.isEmpty = false := by simpa using hcs
    simp only [hcs2, Bool.not_false, if_true]
    simp only [hxe, dite_false] at hgoal
    -- first, over = heappop(coming)
    refine wpAny_execs_cons (Assign_Tuple (callG (G.keeps (B₂.trans F₈'.keep)) hpo1 (hpo2.keeps (B₂.trans F₈'.keep)) (args_cons (St.ld F₈' m1 (args_nil ⟨Keep.refl _, ?_⟩)))))
    refine heappop_D prKd G (B₂.trans F₈'.keep) (none_of (F₈'.fresh 2)) hpo2 (hA'.le (by omega)) (F₈'.get 2) F₈'.keep.t i1 hxe (by omega) fun h₉ tk₉ n₉ v₉ cs₉ hx₉ ho₉ hI₉ hR₉ => ?_
    have F₉ := F₈'.turn 2 rfl hx₉ ho₉
    generalize hp : hpop prKd.lt xs' hxe = p at hI₉ hR₉
    have hplen := hpop_length prKd.lt xs' hxe
    rw [hp] at hplen
    have hp' : hpop plt xs' hxe = p := hp
    rw [hp'] at hgoal
    obtain ⟨⟨p1, p2⟩, xr⟩ := p
    obtain ⟨T, nT, t₁, u₁, rfl, hT⟩ := hR₉
    dsimp only at hT hI₉ hgoal hplen
    refine St.unpack2 F₉ hA'.handled (F₉.keep _ _ hT) fun h₁₀ tk₁₀ F₁₀ => ?_
    dsimp only
    have tail : ∀ (h₁₁ : Heap) (tk₁₁ : Nat) (m₁₁ : Str → Option Value) (os no' ns' : _) (nn' : Nat) (oa : Addr) (ys zs : List Int), St g₂ h₁₁ L m₁₁ [(na, lst ns' nn'), (oa, lst os no'), (ca, lst cs₉ n₉)] → m₁₁ "coming" = some (.ref ca) → m₁₁ "overs" = some (.ref oa) →
        m₁₁ "nails" = some (.ref na) → m₁₁ "over" = some (.int p2 u₁) → Items intKd g₂ os ys → Items intKd g₂ ns' zs → nailsL xr (hpush ilt ys p2) zs = nailsF xs → ys.length + xr.length < xs.length → zs.length + xr.length ≤ xs.length →
        wpAny (model prog w) (A.deeper (envOf "_law_nails" (sScope (defAt 9)) L f cd)) (execs (match (sBody (defAt 9)) with | [_, _, _, _, .While _ (_ :: _ :: r) _ _, _, _] => r | _ => []) (envOf "_law_nails" (sScope (defAt 9)) L f cd))
          (fun f s₃ => match f with | .next | .cont => ∃ k', k' < xs'.length ∧ NailsInv s g₂ L ca na xs k' s₃ | _ => False) (fun _ _ => False) { s with heap := h₁₁, toks := tk₁₁ } := by
      intro h₁₁ tk₁₁ m₁₁ os no' ns' nn' oa ys zs F₁₁ q1 q2 q3 q4 j2 j3 hgl hs3 hs4
      refine wpAny_execs_cons (wpAny_Expr (callG (G.keeps (B₂.trans F₁₁.keep)) hpu1 (hpu2.keeps (B₂.trans F₁₁.keep)) (args_cons (St.ld F₁₁ q2 (args_cons (St.ld F₁₁ q4 (args_nil ⟨Keep.refl _, ?_⟩)))))))
      refine heappush_D intKd (y := p2) G (B₂.trans F₁₁.keep) (none_of (F₁₁.fresh 1)) hpu2 (hA'.le (by omega)) (F₁₁.get 1) F₁₁.keep.t j2 ⟨_, rfl⟩ (by omega) fun h₁₂ tk₁₂ n₁₂ os₁₂ hx₁₂ ho₁₂ hI₁₂ => ?_
      have F₁₂ := F₁₁.turn 1 rfl hx₁₂ ho₁₂
      dsimp only
      have hpl := hpush_length intKd.lt ys p2
      refine wpAny_execs_nil ⟨xr.length, by omega, h₁₂, _, _, cs₉, n₉, os₁₂, n₁₂, ns', nn', oa, xr, _, zs, rfl, F₁₂, q1, q2, q3, hI₉, hI₁₂, j3, .inr ?_, hgl, by omega, by omega, rfl⟩
      intro q
      rw [q] at hpl
      simp at hpl
    -- if overs != [] and overs[0] <= first
    refine wpAny_execs_cons (wpAny_If (isTrue_and (wpAny_isTrue_Compare1 (St.ld F₁₀ m2 (List_ (args_nil (St.newL F₁₀ fun e₂ h₁₁ F₁₁ => neNil hA'.units (F₁₁.get 2) (F₁₁.get 0) (wpAny_truthy_bool ?_))))))))
    have F₁₁' := F₁₁.drop _ (.cons _ (List.Sublist.refl _))
    rcases ys' with _ | ⟨y0, yr⟩
    · have hos : os = [] := List.length_eq_zero_iff.mp (by simpa using l2)
      subst hos
      simp only [List.isEmpty_nil, Bool.not_true, Bool.false_eq_true, if_false]
      refine wpAny_execs_nil ?_
      rw [if_neg (by simp)] at hgoal
      refine wpAny_mono (tail h₁₁ _ _ [] no ns nn oa [] zs' F₁₁' m1 m2 m3 rfl Items.nil i3 hgoal (by simp at hs1 ⊢; omega) (by omega)) (fun fl s₃ hq => ?_) fun _ _ e => e.elim
      cases fl <;> first | exact hq | exact hq.elim
    · have hos : os.isEmpty = false := by
        cases os with
        | nil => simp at l2
        | cons _ _ => rfl
      simp only [hos, Bool.not_false, if_true]
      obtain ⟨ov, hov, t₀, rfl⟩ := i2.get' (i := 0) (y := y0) rfl
      refine isTrue_and (wpAny_isTrue_Compare1 (Subscript_ (St.ld F₁₁' m2 (wpAny_Constant_int (getL (F₁₁'.get 1) (k := 0) rfl hov (by omega) (St.ld F₁₁' rfl (le_int (wpAny_truthy_bool ?_))))))))
      simp only [ne_eq, reduceCtorEq, not_false_eq_true, true_and, List.headD_cons] at hgoal
      by_cases hle : y0 ≤ p1
      · simp only [hle, decide_true, if_true] at hgoal ⊢
        refine isTrue_and_nil ?_
        simp only [if_true]
        -- nails.append(overs[0] - 1)
        refine wpAny_execs_cons (wpAny_Expr (methL PySem.F.slot_list_append PySem.F.type_list_append (St.ld F₁₁' m3 ⟨na, _, nn, rfl, F₁₁'.get 0, callWithB1 (wpAny_BinOp (Subscript_ (St.ld F₁₁' m2 (wpAny_Constant_int (getL (F₁₁'.get 1) (k := 0) rfl hov (by omega)
          (wpAny_Constant_int (sub_int (appendL (F₁₁'.get 0) (by omega) fun h₁₂ hs₁₂ ho₁₂ => ?_))))))))⟩)))
        have F₁₂ := F₁₁'.turn 0 rfl (ExtS.of hs₁₂.extBut) ho₁₂
        dsimp only
        -- overs = []
        refine wpAny_execs_cons (wpAny_Assign_Name (List_ (args_nil (St.newL F₁₂ fun oa₂ h₁₃ F₁₃ => St.st F₁₃ fun h₁₄ F₁₄ => ?_))))
        dsimp only
        refine wpAny_execs_nil ?_
        have F₁₅ := (F₁₄.drop _ (.cons_cons _ (.cons_cons _ (.cons _ (List.Sublist.refl _))))).swap
        refine wpAny_mono (tail h₁₄ _ _ [] 0 _ _ oa₂ [] _ F₁₅ m1 rfl m3 rfl Items.nil (i3.snoc ⟨_, rfl⟩) hgoal (by simp at hs1 ⊢; omega) (by simp; omega)) (fun fl s₃ hq => ?_) fun _ _ e => e.elim
        cases fl <;> first | exact hq | exact hq.elim
      · simp only [hle, decide_false, Bool.false_eq_true, if_false] at hgoal ⊢
        refine wpAny_execs_nil ?_
        refine wpAny_mono (tail h₁₁ _ _ os no ns nn oa (y0 :: yr) zs' F₁₁' m1 m2 m3 rfl i2 i3 hgoal (by simp at hs1 ⊢; omega) (by omega)) (fun fl s₃ hq => ?_) fun _ _ e => e.elim
        cases fl <;> first | exact hq | exact hq.elim
end
end Mine

end
section
namespace Mine
section
variable {prog : Program} {w : World} {A : Around} {R : Result → Shared → Prop} {s : Shared} {E : Value → Shared → Prop} {env : Env} {h₀ : Heap} {mg mb : Str → Option Value} {g : Heap} {L : Addr} {m : Str → Option Value} {mu : List (Addr × Obj)}
theorem St.sliceEnd {lo hi : Option Int} {vl vu : Value} {vs zs : List Value} {Q : Value → Shared → Prop} (F : St g s.heap L m mu) (e : slicePick vs.toArray lo hi none = zs.toArray) (h : ∀ D h', St g h' L m ((D, lst zs 0) :: mu) → Q (.ref D) { s with heap := h' }) :
    Q (.ref (s.heap.objs.size + 1)) { s with heap := (s.heap.push { cls := .type "slice", data := .fields #[vl, vu, .none] }).push { cls := .type "list", data := .seq (slicePick vs.toArray lo hi none) } } := by
  rw [e]
  have F' := ((F.push { cls := .type "slice", data := .fields #[vl, vu, .none] }).push (lst zs 0)).drop _ (.cons_cons _ (.cons _ (List.Sublist.refl _)))
  rw [Heap.size_push] at F'
  exact h _ _ F'
theorem sliceR {value : Expr} {lower upper : Option Expr} {p pos : Pos} {Q : Value → Shared → Prop}
    (h : wpAny (model prog w) A (eval value env) (fun o s₁ => wpAny (model prog w) A (evalPart lower env) (fun vl s₂ => wpAny (model prog w) A (evalPart upper env) (fun vu s₃ =>
      ∃ l vs n lo hi zs g L m mu, o = .ref l ∧ St g s₃.heap L m mu ∧ s₃.heap.IsList l (List.toArray vs) ∧ vs.length < 2 ^ 20 ∧ n = vs.length ∧ IsPart vl lo ∧ IsPart vu hi ∧ slicePick vs.toArray lo hi none = List.toArray zs ∧
        ∀ D h', St g h' L m ((D, lst zs 0) :: mu) → Q (.ref D) { s₃ with heap := h' }) E s₂) E s₁) E s)
    (ht : ∀ o r, letTemporaryGo value o r = pure () := by intro _ _; rfl) :
    wpAny (model prog w) A (eval (.Subscript value (.Slice lower upper none p) pos) env) Q E s := by
  refine wpAny_Subscript_list_slice (wpAny_mono h (fun o s₁ h₁ => wpAny_mono h₁ (fun vl s₂ h₂ => wpAny_mono h₂ (fun vu s₃ h₃ => ?_) fun _ _ e => e) fun _ _ e => e) fun _ _ e => e) ht
  obtain ⟨l, vs, n, lo, hi, zs, g, L, m, mu, rfl, F, hl, hsz, _, pl, pu, e, hq⟩ := h₃
  exact ⟨l, _, lo, hi, rfl, hl, by rw [sizeLine_eq]; simp; omega, pl, pu, St.sliceEnd F e hq⟩
/-- xs[k] of a tuple -/
theorem getT {value slice : Expr} {a : Addr} {vs : List Value} {n : Nat} {k : Nat} {i : Int} {u : Tok} {x : Value} {Q : Value → Shared → Prop} (ho : s.heap.get? a = some (tup vs n)) (hi : i = (k : Int)) (hx : vs[k]? = some x) (hk : k < 2 ^ 62) (h : Q x s)
    (hs : subscripted slice false (.ref a) (.int i u) = operate [.ref a, .int i u] (getItem (.ref a) (.int i u)) := by with_unfolding_all rfl) :
    wpAny (model prog w) A (subscriptTail value slice (.ref a) (.int i u)) Q E s := by
  subst hi
  have hkl : k < vs.length := (List.getElem?_eq_some_iff.mp hx).1
  exact item_tupleT ⟨_, ho, rfl, n, rfl⟩ (by omega) (by omega) (j := k) (by unfold seqIndex?; simp; omega) hx h hs

def restF (xs : List (Int × Int)) (place : Int) : List (Int × Int) := xs.dropWhile fun p => decide (p.2 < place)

theorem rest_ok {f b : Addr} {vs : List Value} {xs : List (Int × Int)} {n : Nat} {place : Int} {t0 : Tok} (G : Glb h₀ mg mb) (B : Keep h₀ s.heap) (hf : FnIs h₀ f "_law_rest" 11)
    (hA : Rm A 12) (hl : s.heap.get? b = some (lst vs n)) (hI : Items prKd s.heap vs xs) (hsz : xs.length < 2 ^ 16)
    (h : ∀ h' tk nl us n', Keep s.heap h' → s.heap.get? nl = none → h'.get? nl = some (lst us n') → Items prKd h' us (restF xs place) → R (.ok (.ret (.ref nl))) { s with heap := h', toks := tk }) :
    codeAny (model prog w) A (.call (.ref f) ⟨[.ref b, .int place t0], []⟩) R s := by
  refine callF [] hA (hf.keeps B) (G.nolimit.keeps B) (binds := [("order", .ref b), ("place", .int place t0)]) (fun _ _ _ => rfl) rfl (by simp) (by simp) ?_
  intro g h₁ L cd F hg hgs hA'
  have ks : Keep s.heap g := fun b o e => hg b o (by simp) e
  have Bg : Keep h₀ g := B.trans ks
  have hlen : vs.length = xs.length := hI.length
  have hb : ∀ {h}, Keep g h → h.get? b = some (lst vs n) := fun {h} k => k _ _ (ks _ _ hl)
  -- k = 0
  refine wpAny_execs_cons (wpAny_Assign_Name (wpAny_Constant_int (F.st fun h₂ F₂ => ?_)))
  dsimp only
  refine wpAny_execs_cons (wpAny_While (codeAny_whileLoop (fun k s' => ∃ h' tk m j t, s' = { s with heap := h', toks := tk } ∧ St g h' L m [] ∧ m "order" = some (.ref b) ∧ m "place" = some (.int place t0) ∧ m "k" = some (.int (j : Nat) t) ∧
    j ≤ xs.length ∧ restF (xs.drop j) place = restF xs place ∧ xs.length - j = k) ?_ xs.length ⟨h₂, _, _, 0, _, rfl, F₂, rfl, rfl, rfl, Nat.zero_le _, rfl, rfl⟩))
  rintro k s' ⟨h', tk, m, j, t, rfl, F', m1, m2, m3, hj, hgoal, rfl⟩
  -- the end: return order[k:]
  have fin : ∀ (h₃ : Heap) (tk₃ : Nat), St g h₃ L m [] → restF xs place = xs.drop j → wpAny (model prog w) (A.deeper (envOf "_law_rest" (sScope (defAt 11)) L f cd)) (execs (match (sBody (defAt 11)) with | [_, _, r] => [r] | _ => []) (envOf "_law_rest" (sScope (defAt 11)) L f cd))
      (fun fl s' => R (.ok (.ret (match fl with | .ret v => v | _ => .none))) s') (fun _ _ => False) { s with heap := h₃, toks := tk₃ } := by
    intro h₃ tk₃ F₃ he
    refine wpAny_execs_cons (wpAny_Return_some (sliceR (St.ld F₃ m1 (St.ld F₃ m3 (wpAny_pure ⟨b, vs, _, some (j : Int), none, vs.drop j, _, _, _, _, rfl, F₃, ⟨_, hb F₃.keep, rfl, n, rfl⟩, by omega, rfl, .int _ _, .none, by rw [slicePick_from'], fun D h₄ F₄ => ?_⟩)))))
    refine h h₄ _ D _ 0 (ks.trans F₄.keep) ?_ (F₄.get 0) ?_
    · cases q : s.heap.get? D with
      | none => rfl
      | some o => have := ks _ _ q; rw [F₄.fresh 0] at this; cases this
    · rw [he]
      obtain ⟨ps, rfl, rfl, hR⟩ := hI.stab (ks.trans F₄.keep).t
      exact ⟨ps.drop j, by simp, by simp, fun p hp => hR p (List.mem_of_mem_drop hp)⟩
  refine isTrue_and (wpAny_isTrue_Compare1 (St.ld F' m3 (callB (G.keeps (Bg.trans F'.keep)) boot_len (args_cons (St.ld F' m1 (args_nil (lenL (hb F'.keep) (by omega) fun t2 tk2 => lt_int (wpAny_truthy_bool ?_))))))))
  by_cases hlt : j < xs.length
  · have hlt' : ((j : Nat) : Int) < (vs.length : Nat) := by omega
    simp only [hlt', decide_true, if_true]
    obtain ⟨p, hp⟩ : ∃ p, xs[j]? = some p := ⟨_, List.getElem?_eq_getElem hlt⟩
    obtain ⟨v, hv, T, nT, ta, tb, rfl, hT⟩ := hI.get' hp
    have hdrop : xs.drop j = p :: xs.drop (j + 1) := by
      rw [List.drop_eq_getElem_cons hlt]
      congr 1
      exact (List.getElem?_eq_some_iff.mp hp).2
    refine isTrue_and (wpAny_isTrue_Compare1 (Subscript_ (Subscript_ (St.ld F' m1 (St.ld F' m3 (getL (hb F'.keep) rfl hv (by omega) (wpAny_Constant_int (getT (F'.keep _ _ (ks _ _ hT)) (k := 1) rfl rfl (by omega) (St.ld F' m2 (lt_int (wpAny_truthy_bool ?_)))))))))))
    by_cases hpl : p.2 < place
    · simp only [hpl, decide_true, if_true]
      refine isTrue_and_nil ?_
      simp only [if_true]
      refine wpAny_execs_cons (wpAny_AugAssign_Name (wpAny_loadName_local rfl rfl F'.ns m3 (wpAny_Constant_int (iadd_int (St.st F' fun h₃ F₃ => ?_)))))
      dsimp only
      refine wpAny_execs_nil ⟨xs.length - (j + 1), by omega, h₃, _, _, j + 1, _, rfl, F₃, m1, m2, rfl, by omega, ?_, rfl⟩
      rw [← hgoal, hdrop]
      unfold restF
      rw [List.dropWhile_cons]
      simp [hpl]
    · simp only [hpl, decide_false, Bool.false_eq_true, if_false]
      refine wpAny_execs_nil ?_
      dsimp only
      refine fin h' _ F' ?_
      rw [← hgoal, hdrop]
      unfold restF
      rw [List.dropWhile_cons]
      simp [hpl]
  · have hlt' : ¬ ((j : Nat) : Int) < (vs.length : Nat) := by omega
    simp only [hlt', decide_false, Bool.false_eq_true, if_false]
    refine wpAny_execs_nil ?_
    dsimp only
    refine fin h' _ F' ?_
    rw [← hgoal, List.drop_eq_nil_of_le (by omega)]
    rfl
end
end Mine

end
section
namespace Mine
open Builtin Builtin.ObjectAttr
/-! ### Attributes of functions -/
theorem slot_fn_setattr : Slot "function" "__setattr__" "object.__setattr__" :=
  .of (owner := "object") (n := "__setattr__") (by rw [typeLookup_type, builtinLookup_eq_fast]; kernel_rfl) (by decide +kernel) (by decide +kernel) (by decide +kernel)
    (by first | exact .inl (by decide +kernel) | exact .inr (by decide +kernel)) (by rw [isSubtype_type]; kernel_rfl)
theorem entry_fn_setattr : entryFor table "object.__setattr__" = some Builtin.«object.__setattr__» := entryFor_of_tree (by kernel_rfl)
theorem args_fn_setattr (a b c : Value) : argsOk "object.__setattr__" ⟨[a, b, c], []⟩ := by unfold argsOk; kernel_rfl
theorem mro_fn : mroOf (.type "function") = pure [.type "function", .type "object"] := by rw [mroOf_type]; kernel_rfl
theorem passes_fn (self : Value) : refuseLoop self "__setattr__" [.type "function", .type "object"] = pure () := by kernel_rfl
theorem hasDict_fn : typeHasDict (.type "function") = true := by decide +kernel
theorem look_search : typeLookup (.type "function") "search" = pure none := by rw [typeLookup_type, builtinLookup_eq_fast]; kernel_rfl
theorem look_span : typeLookup (.type "function") "span" = pure none := by rw [typeLookup_type, builtinLookup_eq_fast]; kernel_rfl
theorem look_getattr : typeLookup (.type "function") "__getattr__" = pure none := by rw [typeLookup_type, builtinLookup_eq_fast]; kernel_rfl
theorem look_ga : typeLookup (.type "function") "__getattribute__" = pure (some (.builtin "object.__getattribute__")) := by rw [typeLookup_type, builtinLookup_eq_fast]; kernel_rfl
theorem slot_fn_ga : Slot "function" "__getattribute__" "object.__getattribute__" :=
  .of (owner := "object") (n := "__getattribute__") (by rw [typeLookup_type, builtinLookup_eq_fast]; kernel_rfl) (by decide +kernel) (by decide +kernel) (by decide +kernel)
    (by first | exact .inl (by decide +kernel) | exact .inr (by decide +kernel)) (by rw [isSubtype_type]; kernel_rfl)
theorem entry_fn_ga : entryFor table "object.__getattribute__" = some Builtin.«object.__getattribute__» := entryFor_of_tree (by kernel_rfl)
theorem args_fn_ga (a b : Value) : argsOk "object.__getattribute__" ⟨[a, b], []⟩ := by unfold argsOk; kernel_rfl
section
variable {prog : Program} {w : World} {A : Around} {s : Shared} {E : Value → Shared → Prop}
theorem fn_setattr {a : Addr} {o : Obj} {fd : FuncData} {name : Str} {v : Value} {Q : Unit → Shared → Prop} (ho : s.heap.get? a = some o) (hc : o.cls = .type "function") (hd : o.dict = none) (hdat : o.data = .func fd) (hT : typeLookup (.type "function") name = pure none)
    (h : ∀ d h' tk, h'.Ns d (upd (fun _ => none) name v) → h'.get? a = some { o with dict := some d } → (∀ b o, b ≠ a → s.heap.get? b = some o → h'.get? b = some o) → s.heap.get? d = none → Q () { s with heap := h', toks := tk }) :
    wpAny (model prog w) A (setAttr (.ref a) name v) Q E s := by
  obtain ⟨hp, gn, dr, tk0, os⟩ := s
  dsimp only at ho
  have hTy : ∀ tk, Shared.TypeIs ⟨hp, gn, dr, tk, os⟩ (.ref a) "function" := fun tk => ⟨o, ho, hc⟩
  unfold setAttr
  refine wpAny_bind (wpAny_mkText ?_)
  refine wpAny_bind (wpAny_callSpecial?_slot (name := Str.ofString "__setattr__") (hTy _) slot_fn_setattr (wpAny_call_entry slot_fn_setattr (hTy _) entry_fn_setattr ?_ (args_fn_setattr _ _ _)))
  unfold Builtin.«object.__setattr__»
  show wpAny _ _ (refuseIfOverridden (.ref a) "__setattr__" >>= _) _ _ _
  rw [refuse_eq]
  refine wpAny_bind (wpAny_bind (wpAny_typeOf (hTy _) (wpAny_bind (wpAny_of_eq mro_fn (wpAny_of_eq (passes_fn _) ?_)))))
  refine wpAny_bind (wpAny_of_eq (a := name) rfl ?_)
  refine wpAny_bind (wpAny_typeOf (hTy _) (wpAny_bind (wpAny_of_eq hT ?_)))
  refine wpAny_bind (wpAny_of_eq (a := (none : Option Value)) rfl ?_)
  show wpAny _ _ (storeInOwnDict (.ref a) (.type "function") _ name v false) _ _ _
  unfold storeInOwnDict
  refine wpAny_bind (wpAny_of_eq (a := ()) rfl ?_)
  rw [if_neg (by decide)]
  refine wpAny_bind ?_
  show wpAny _ _ (instanceDict a true) _ _ _
  unfold instanceDict
  refine wpAny_bind (wpAny_loadPart ho ?_)
  obtain ⟨oc, od, odt, osl⟩ := o
  cases hc
  cases hd
  cases hdat
  dsimp only
  rw [if_neg (by rw [hasDict_fn]; decide)]
  have hxs : a ≠ hp.objs.size := Nat.ne_of_lt (Heap.lt_size ho)
  have hx₁ : (hp.push { cls := .type "dict", data := .dict #[] }).get? a = some ⟨.type "function", none, .func fd, osl⟩ := Heap.get?_push_of_some _ ho
  refine wpAny_bind (wpAny_alloc ?_)
  refine wpAny_bind (wpAny_update hx₁ ?_)
  dsimp only
  refine wpAny_of_eq (a := some hp.objs.size) rfl ?_
  have hgd : ((hp.push { cls := .type "dict", data := .dict #[] }).update a fun o => { cls := o.cls, dict := some hp.objs.size, data := o.data, slots := o.slots }).get? hp.objs.size
      = some { cls := .type "dict", data := .dict #[] } :=
    (Heap.get?_update_ne _ _ _ _ hxs.symm).trans (Heap.get?_push_size _ rfl)
  have hnd : ((hp.push { cls := .type "dict", data := .dict #[] }).update a fun o => { cls := o.cls, dict := some hp.objs.size, data := o.data, slots := o.slots }).Ns hp.objs.size (fun _ => none) :=
    ⟨_, #[], _, hgd, rfl, fun e he => absurd he (by simp), fun _ => rfl⟩
  show wpAny _ _ (storeInDict hp.objs.size (.str name _) name v) _ _ _
  unfold storeInDict newKeyGuard
  refine wpAny_bind (wpAny_pure (wpAny_bind (wpAny_nsSet1 (Heap.Ns1.of_empty hnd) fun h' hn' hs => ?_)))
  obtain ⟨oD, esD, epD, hoD, hdD, hcD⟩ := hn'.count (Within.cons name v Within.nil)
  refine wpAny_bind (wpAny_lookBehind hoD (by rw [hdD]; exact pastItsLine_dict (Nat.le_trans hcD (by rw [List.length_cons, List.length_nil, sizeLine_eq]; omega))) ?_)
  refine wpAny_pure ⟨_, rfl, wpAny_pure ?_⟩
  refine h hp.objs.size h' _ ?_ ?_ (fun b ob hb e => (hs.2 b (Nat.ne_of_lt (Heap.lt_size e))).trans ((Heap.get?_update_ne _ _ _ _ hb).trans (Heap.get?_push_of_some _ e))) ?_
  · obtain ⟨o', es, ep, e1, e2, e3, eu, e4⟩ := hn'
    exact ⟨o', es, ep, e1, e2, e3, e4⟩
  · exact (hs.2 a hxs).trans (Heap.get?_update_self _ hx₁ rfl)
  · cases q : hp.get? hp.objs.size with
    | none => rfl
    | some o' => exact absurd (Heap.lt_size q) (Nat.lt_irrefl _)

theorem fn_getAttr {a d b : Addr} {o : Obj} {fd : FuncData} {name : Str} {mm : Str → Option Value} {Q : Value → Shared → Prop} (ho : s.heap.get? a = some o) (hc : o.cls = .type "function") (hd : o.dict = some d) (hdat : o.data = .func fd)
    (hT : typeLookup (.type "function") name = pure none) (hn : s.heap.Ns d mm) (hv : mm name = some (.ref b))
    (h : ∀ tk, Q (.ref b) { s with toks := tk }) : wpAny (model prog w) A (getAttr (.ref a) name) Q E s := by
  have hTy : ∀ tk, Shared.TypeIs { s with toks := tk } (.ref a) "function" := fun tk => ⟨o, ho, hc⟩
  unfold getAttr
  refine wpAny_bind (wpAny_mkText ?_)
  unfold getAttrBy
  refine wpAny_holding ?_
  refine wpAny_bind (wpAny_typeOf (hTy _) (wpAny_bind (wpAny_of_eq look_ga ?_)))
  show wpAny _ _ (getAttrByItsOwn (.ref a) _ (.type "function") (.builtin "object.__getattribute__") true false) _ _ _
  unfold getAttrByItsOwn
  refine wpAny_bind (wpAny_of_eq (a := (none : Option Value)) rfl ?_)
  refine wpAny_bind (wpAny_attempt (wpAny_holding ?_))
  show wpAny _ _ (boundAndCalled (.builtin "object.__getattribute__") (.ref a) _) _ _ _
  unfold boundAndCalled
  refine wpAny_bind (wpAny_of_eq (slot_fn_ga.bind _) ?_)
  show wpAny _ _ (call (.builtin "object.__getattribute__") [.ref a, .str name _]) _ _ _
  refine wpAny_call_entry slot_fn_ga (hTy _) entry_fn_ga ?_ (args_fn_ga _ _)
  unfold Builtin.«object.__getattribute__»
  refine wpAny_bind (wpAny_of_eq (a := (Value.ref a, [Value.str name s.toks])) rfl ?_)
  refine wpAny_bind (wpAny_of_eq (a := name) rfl ?_)
  refine wpAny_bind (wpAny_typeOf (hTy _) (wpAny_bind ?_))
  unfold find
  refine wpAny_bind (wpAny_of_eq hT (wpAny_bind (wpAny_of_eq (a := (none : Option Value)) rfl (wpAny_bind (wpAny_of_eq (a := (none : Option (Value × Value))) rfl ?_)))))
  show wpAny _ _ (ownThenClass (.ref a) name none none) _ _ _
  unfold ownThenClass
  refine wpAny_bind ?_
  show wpAny _ _ (ObjectAttr.ownDict a >>= fun x => inDict name x) _ _ _
  unfold ObjectAttr.ownDict loadHead
  refine wpAny_bind (wpAny_bind (wpAny_loadPart ho ?_))
  obtain ⟨oc, od, odt, osl⟩ := o
  cases hc
  cases hd
  cases hdat
  dsimp only
  unfold instanceDict
  refine wpAny_bind (wpAny_loadPart ho ?_)
  dsimp only
  refine wpAny_pure ?_
  show wpAny _ _ (nsGet d name) _ _ _
  refine wpAny_nsGet hn ?_
  rw [hv]
  refine wpAny_bind (wpAny_rule (wpAny_pure ?_))
  refine wpAny_pure ⟨_, rfl, ?_⟩
  exact wpAny_pure (h _)
theorem canon_ga : (Manifest.canonical "object.__getattribute__" != "object.__getattribute__") = false := by decide +kernel
theorem fn_getMethod {a d b : Addr} {o : Obj} {fd : FuncData} {name : Str} {pl : Sem Bool} {mm : Str → Option Value} {Q : Value × List Value → Shared → Prop} (ho : s.heap.get? a = some o) (hc : o.cls = .type "function") (hd : o.dict = some d) (hdat : o.data = .func fd)
    (hT : typeLookup (.type "function") name = pure none) (hn : s.heap.Ns d mm) (hv : mm name = some (.ref b))
    (h : ∀ tk, Q (.ref b, []) { s with toks := tk }) : wpAny (model prog w) A (getMethod (.ref a) name pl) Q E s := by
  have hTy : Shared.TypeIs s (.ref a) "function" := ⟨o, ho, hc⟩
  unfold getMethod
  refine wpAny_bind (wpAny_specialOf hTy look_ga ?_)
  dsimp only
  rw [canon_ga]
  simp only [Bool.false_eq_true, if_false]
  refine wpAny_bind (wpAny_specialOf hTy look_getattr ?_)
  simp only [Option.isSome_none, Bool.false_eq_true, if_false]
  refine wpAny_bind (wpAny_specialOf hTy hT ?_)
  dsimp only
  exact wpAny_bind (fn_getAttr ho hc hd hdat hT hn hv fun tk => wpAny_pure (h tk))
theorem look_bool : typeLookup (.type "function") "__bool__" = pure none := by rw [typeLookup_type, builtinLookup_eq_fast]; kernel_rfl
theorem look_len : typeLookup (.type "function") "__len__" = pure none := by rw [typeLookup_type, builtinLookup_eq_fast]; kernel_rfl
theorem fn_truthy {a : Addr} {o : Obj} {Q : Bool → Shared → Prop} (ho : s.heap.get? a = some o) (hc : o.cls = .type "function") (h : Q true s) : wpAny (model prog w) A (truthy (.ref a)) Q E s := by
  have hTy : Shared.TypeIs s (.ref a) "function" := ⟨o, ho, hc⟩
  unfold truthy
  dsimp only
  refine wpAny_bind ?_
  unfold callSpecial?
  refine wpAny_bind (wpAny_specialOf hTy look_bool (wpAny_pure ?_))
  dsimp only
  refine wpAny_bind (wpAny_specialOf hTy look_len ?_)
  exact wpAny_pure h
end
end Mine

end
section
namespace Mine
/-! ### Functions made in a call -/
section
variable {M : Model} {A : Around} {E : Value → Shared → Prop} {s : Shared} {name qual : Str} {params : Arguments} {body : FuncBody} {scope : Scope} {env : Env} {c P : Addr} {ps : Array Value} {pos : Pos} {firstLine : Nat} {mg mb : Str → Option Value}
  {clos : List (Str × Addr)} {Q : Value → Shared → Prop}
theorem mkFn {dV : Value} (hcl : closureFor scope env = pure clos) (hge0 : env.globals = mainGlobals) (hg : s.heap.Ns mainGlobals mg) (hcode : env.code = .ref c) (C : CodeHd s.heap c P) (hP : s.heap.get? P = some (tabObj ps)) (ht : TriplesOk ps.toList)
    (hnf : codeAmong pos ps.toList = none) (hgP : mainGlobals ≠ P) (hb : s.heap.BuiltinsAt mg P)
    (h : ∀ c' P' ctv doc h' tk, Heap.ExtBut P s.heap h' → s.heap.objs.size ≤ c' → s.heap.objs.size ≤ P' → h'.CodeRec (.ref c') qual → CodeHd h' c' P' → h'.get? P' = some (tabObj #[]) → h'.get? P = some (tabObj (ps ++ #[rawInt pos.line, rawInt pos.col, .ref c'])) →
      Q (.ref h'.objs.size) { s with heap := h'.push (kdv_obj name qual params body scope clos dV doc ((mg "__name__").getD .none) c' ctv), toks := tk }) :
    wpAny M A (makeTail name qual params body scope env dV .none none pos firstLine) Q E s := by
  obtain ⟨bm, ob, hbm, hne0, _, hneP, hbo, hcls, hdict, hdata⟩ := hb
  unfold makeTail
  rw [hcl, hge0]
  refine wpAny_bind (wpAny_pure ?_)
  cases clos with
  | nil =>
    simp only [List.isEmpty_nil, if_true]
    refine wpAny_bind (wpAny_pure ?_)
    refine wpAny_bind (wpAny_functionCodeX hcode (C.code hP ht) (C.tab hP) hnf fun c' h' tk hx hge hlt _ hrec htb hnew => ?_)
    obtain ⟨P', hgeP, hic, hit⟩ := hnew
    have hg' := hg.extBut hx hgP
    refine wpAny_bind (wpAny_builtinsFor hg' hbm hne0 (hx _ _ hneP hbo) hcls hdict hdata ?_)
    refine wpAny_bind (wpAny_nsGet hg' ?_)
    cases body with
    | expr e => exact wpAny_bind (wpAny_pure (wpAny_newObj_type (h c' P' .none .none h' tk hx hge hgeP hrec (CodeHd.of hic hit) hit.2 htb.2) (by size_fits)))
    | stmts b =>
      cases hdoc : docOf b with
      | none => exact wpAny_bind (by simp only [hdoc]; exact wpAny_pure (wpAny_newObj_type (h c' P' .none .none h' tk hx hge hgeP hrec (CodeHd.of hic hit) hit.2 htb.2) (by size_fits)))
      | some t => exact wpAny_bind (by simp only [hdoc]; exact wpAny_mkText (wpAny_newObj_type (h c' P' .none _ h' _ hx hge hgeP hrec (CodeHd.of hic hit) hit.2 htb.2) (by size_fits)))
  | cons q r =>
    simp only [List.isEmpty_cons, Bool.false_eq_true, if_false]
    refine wpAny_bind (wpAny_newTextTuple ?_)
    refine wpAny_bind (wpAny_functionCodeX hcode ((C.keeps fun b o e => Heap.get?_push_of_some _ e).code (Heap.get?_push_of_some _ hP) ht) ((C.keeps fun b o e => Heap.get?_push_of_some _ e).tab (Heap.get?_push_of_some _ hP)) hnf fun c' h' tk hx hge hlt _ hrec htb hnew => ?_)
    obtain ⟨P', hgeP, hic, hit⟩ := hnew
    have hg' := (hg.push _).extBut hx hgP
    have hx' : Heap.ExtBut P s.heap h' := fun b o hb' e => hx b o hb' (Heap.get?_push_of_some _ e)
    have hge' : s.heap.objs.size ≤ c' := Nat.le_trans (by rw [Heap.size_push]; omega) hge
    have hgeP' : s.heap.objs.size ≤ P' := Nat.le_trans (by rw [Heap.size_push]; omega) hgeP
    refine wpAny_bind (wpAny_builtinsFor hg' hbm hne0 (hx' _ _ hneP hbo) hcls hdict hdata ?_)
    refine wpAny_bind (wpAny_nsGet hg' ?_)
    cases body with
    | expr e => exact wpAny_bind (wpAny_pure (wpAny_newObj_type (h c' P' _ .none h' tk hx' hge' hgeP' hrec (CodeHd.of hic hit) hit.2 htb.2) (by size_fits)))
    | stmts b =>
      cases hdoc : docOf b with
      | none => exact wpAny_bind (by simp only [hdoc]; exact wpAny_pure (wpAny_newObj_type (h c' P' _ .none h' tk hx' hge' hgeP' hrec (CodeHd.of hic hit) hit.2 htb.2) (by size_fits)))
      | some t => exact wpAny_bind (by simp only [hdoc]; exact wpAny_mkText (wpAny_newObj_type (h c' P' _ _ h' _ hx' hge' hgeP' hrec (CodeHd.of hic hit) hit.2 htb.2) (by size_fits)))

variable {g : Heap} {L : Addr} {m : Str → Option Value} {mu : List (Addr × Obj)}
theorem Glb.notTab (G : Glb g mg mb) (hP : g.get? P = none) : mainGlobals ≠ P ∧ (∀ {h : Heap}, Keep g h → h.BuiltinsAt mg P) := by
  obtain ⟨bm, ob, b1, b2, b3, b4, b5, b6⟩ := G.bmain
  refine ⟨fun q => ?_, fun {h} k => ⟨bm, ob, b1, b2, fun q => ?_, fun q => ?_, k _ _ b3, b4, b5, b6⟩⟩
  · obtain ⟨o, es, ep, e, _⟩ := G.g
    rw [q, hP] at e; cases e
  · obtain ⟨o, es, ep, e, hd, _⟩ := G.g
    rw [q, e] at b3; cases b3; rw [hd] at b6; cases b6
  · rw [q, hP] at b3; cases b3

theorem St.mk' {dV : Value} {i : Nat} (F : St g s.heap L m mu) (G : Glb g mg mb) (hi : mu[i]? = some (P, tabObj ps)) (C : CodeHd g c P) (ht : TriplesOk ps.toList) (hnf : codeAmong pos ps.toList = none) (hcl : closureFor scope env = pure clos)
    (h : ∀ f c' P' ctv doc h' tk g', St g' h' L m ((f, kdv_obj name qual params body scope clos dV doc ((mg "__name__").getD .none) c' ctv) :: (P', tabObj #[]) :: mu.set i (P, tabObj (ps ++ #[rawInt pos.line, rawInt pos.col, .ref c']))) → Keep g g' →
      g'.CodeRec (.ref c') qual → CodeHd g' c' P' → Q (.ref f) { s with heap := h', toks := tk }) (hcode : env.code = .ref c := by rfl) (hge0 : env.globals = mainGlobals := by rfl) :
    wpAny M A (makeTail name qual params body scope env dV .none none pos firstLine) Q E s := by
  obtain ⟨hgP, hB⟩ := G.notTab (F.fresh i hi)
  refine mkFn (mg := mg) hcl hge0 (G.g.keeps F.keep) hcode (C.keeps F.keep) (F.get i hi) ht hnf hgP (hB F.keep) fun c' P' ctv doc h' tk hx hc' hP' hrec hCd ho' hoP => ?_
  have F₁ := F.turn i hi (ExtS.of hx) hoP
  have lt1 : ∀ p ∈ mu.set i (P, tabObj (ps ++ #[rawInt pos.line, rawInt pos.col, .ref c'])), p.1 < s.heap.objs.size := fun p hp => by
    rcases List.mem_or_eq_of_mem_set hp with hp | rfl
    · exact Heap.lt_size (F.mob p hp).1
    · exact Heap.lt_size (F.get i hi)
  have hgn : ∀ a, s.heap.objs.size ≤ a → g.get? a = none := fun a ha => by
    cases q : g.get? a with
    | none => rfl
    | some o => exact absurd (Heap.lt_size (F.keep _ _ q)) (Nat.not_lt.mpr ha)
  have F₂ := F₁.add (D := P') ho' (hgn _ hP') (fun q => Nat.not_lt.mpr hP' (q ▸ F.ns.lt)) (fun q => by
    obtain ⟨p, hp, e⟩ := List.mem_map.mp q
    exact Nat.not_lt.mpr hP' (e ▸ lt1 p hp))
  have F₃ := F₂.push (kdv_obj name qual params body scope clos dV doc ((mg "__name__").getD .none) c' ctv)
  obtain ⟨g', F₄, k₄, r⟩ := F₃.rebase _ (List.Sublist.refl _)
  have ne_c : ∀ {c₁ : Addr} {o : Obj}, h'.get? c₁ = some o → s.heap.objs.size ≤ c₁ → c₁ ≠ P' → g'.get? c₁ = some o := fun {c₁ o} e hge hne => by
    refine r c₁ o (Heap.get?_push_of_some _ e) (fun q => Nat.not_lt.mpr hge (q ▸ F.ns.lt)) (fun q => ?_)
    rcases List.mem_cons.mp q with q | q
    · have q : c₁ = h'.objs.size := q
      exact Nat.lt_irrefl _ (q ▸ Heap.lt_size e)
    · rcases List.mem_cons.mp q with q | q
      · exact hne q
      · obtain ⟨p, hp, e2⟩ := List.mem_map.mp q
        exact Nat.not_lt.mpr hge (e2 ▸ lt1 p hp)
  refine h h'.objs.size c' P' ctv doc _ tk g' F₄ k₄ ?_ ?_
  · obtain ⟨c₁, oc, vs, t, e1, e2, e3, e4⟩ := hrec
    cases e1
    exact ⟨c', oc, vs, t, rfl, ne_c e2 hc' (fun q => by rw [q, ho'] at e2; cases e2; cases e3; simp at e4), e3, e4⟩
  · obtain ⟨o, vs, file, tf, flags, tg, inF, text, tt, e1, e2, e3, e4, e5, e6, e7, e8, e9, e10⟩ := hCd
    exact ⟨o, vs, file, tf, flags, tg, inF, text, tt, ne_c e1 hc' e10, e2, e3, e4, e5, e6, e7, e8, e9, e10⟩

theorem St.mkHit {dV cv : Value} {i : Nat} (F : St g s.heap L m mu) (G : Glb g mg mb) (hi : mu[i]? = some (P, tabObj ps)) (C : CodeHd g c P) (ht : TriplesOk ps.toList) (hf : codeAmong pos ps.toList = some cv) (hcl : closureFor scope env = pure clos)
    (h : ∀ f ctv doc h' tk, St g h' L m ((f, { cls := .type "function", data := .func (kdv_fn name qual params body scope clos dV doc ((mg "__name__").getD .none) cv ctv) }) :: mu) → Q (.ref f) { s with heap := h', toks := tk })
    (hcode : env.code = .ref c := by rfl) (hge0 : env.globals = mainGlobals := by rfl) :
    wpAny M A (makeTail name qual params body scope env dV .none none pos firstLine) Q E s := by
  obtain ⟨hgP, hB⟩ := G.notTab (F.fresh i hi)
  refine kdv_makeTailHit (mg := mg) hcl hge0 (G.g.keeps F.keep) hcode (C.keeps F.keep) (F.get i hi) ht hf (hB F.keep) fun ctv doc h' tk hk hsz => ?_
  exact h _ ctv doc _ tk ((F.all hk).push _)
end

section
variable {prog : Program} {w : World} {A : Around} {s : Shared} {E : Value → Shared → Prop} {env : Env} {g : Heap} {L : Addr} {m : Str → Option Value} {mu : List (Addr × Obj)}
theorem St.setattr {i : Nat} {a : Addr} {fd : FuncData} {name : Str} {v : Value} {Q : Unit → Shared → Prop} (F : St g s.heap L m mu) (hi : mu[i]? = some (a, { cls := .type "function", data := .func fd })) (hT : typeLookup (.type "function") name = pure none)
    (h : ∀ d h' tk g', St g' h' L m (mu.set i (a, { cls := .type "function", dict := some d, data := .func fd })) → Keep g g' → g'.Ns d (upd (fun _ => none) name v) → Q () { s with heap := h', toks := tk }) :
    wpAny (model prog w) A (setAttr (.ref a) name v) Q E s := by
  refine fn_setattr (F.get i hi) rfl rfl rfl hT fun d h' tk hn ho hk hd => ?_
  have F₁ := F.turn i hi (ExtS.of hk) ho
  obtain ⟨g', F₂, k₂, r⟩ := F₁.rebase _ (List.Sublist.refl _)
  refine h d h' tk g' F₂ k₂ ?_
  obtain ⟨o, es, ep, e1, r1⟩ := hn
  refine ⟨o, es, ep, r d o e1 (fun q => ?_) (fun q => ?_), r1⟩
  · obtain ⟨oL, _, _, hL, _⟩ := F.ns
    rw [q, hL] at hd; cases hd
  · obtain ⟨p, hp, e2⟩ := List.mem_map.mp q
    rcases List.mem_or_eq_of_mem_set hp with hp | rfl
    · rw [← e2, (F.mob p hp).1] at hd; cases hd
    · rw [← e2, F.get i hi] at hd; cases hd
end
end Mine

end
section
namespace Mine
/-! ### Calls with cells -/
abbrev cellO (v : Option Value) : Obj := { cls := .type "cell", data := .cell v }
def cellMu (n : Nat) : List (Str × NameKind) → List (Addr × Obj) → List (Addr × Obj)
  | [], acc => acc
  | (_, kind) :: r, acc => if kind == .cell then cellMu (n + 1) r ((n, cellO none) :: acc) else cellMu n r acc
theorem St.cells {g : Heap} {L : Addr} {m : Str → Option Value} : ∀ (names : List (Str × NameKind)) {h : Heap} {mu : List (Addr × Obj)}, St g h L m mu → St g (pushCells h names) L m (cellMu h.objs.size names mu)
  | [], _, _, F => F
  | (_, kind) :: r, h, mu, F => by
    unfold pushCells cellMu
    split
    · have := St.cells r (F.push (cellO none))
      rw [Heap.size_push] at this
      exact this
    · exact St.cells r F

section
variable {M : Model} {A : Around} {E : Value → Shared → Prop} {s : Shared} {env : Env} {g : Heap} {L : Addr} {m : Str → Option Value} {mu : List (Addr × Obj)} {x : Str} {pos : Pos} {v : Value}
theorem ldF {c : Addr} {Q : Value → Shared → Prop} (ho : s.heap.get? c = some (cellO (some v))) (h : Q v s) (hc : env.cells.lookup x = some c) (hk : env.scope.kind = .function := by rfl)
    (hl : env.kindOf x = some .free := by rfl) (hd : (x == ("__debug__" : Str)) = false := by decide) (hn : (x == ("__classdict__" : Str)) = false := by decide) : wpAny M A (eval (.Name x pos) env) Q E s :=
  wpAny_Name (wpAny_loadName_free hk hl hc ⟨_, ho, rfl⟩ h hn) hd
theorem ldC {c : Addr} {Q : Value → Shared → Prop} (ho : s.heap.get? c = some (cellO (some v))) (h : Q v s) (hc : env.cells.lookup x = some c) (hk : env.scope.kind = .function := by rfl)
    (hl : env.kindOf x = some .cell := by rfl) (hd : (x == ("__debug__" : Str)) = false := by decide) : wpAny M A (eval (.Name x pos) env) Q E s :=
  wpAny_Name (wpAny_loadName_cell hk hl hc ⟨_, ho, rfl⟩ h) hd
theorem St.stC {c : Addr} {i : Nat} {v₀ : Option Value} {Q : Unit → Shared → Prop} (F : St g s.heap L m mu) (hi : mu[i]? = some (c, cellO v₀)) (h : ∀ h', St g h' L m (mu.set i (c, cellO (some v))) → Q () { s with heap := h' })
    (hc : env.cells.lookup x = some c) (hk : env.scope.kind = .function := by rfl) (hl : env.kindOf x = some .cell := by rfl) : wpAny M A (storeName env x v) Q E s := by
  have ho := F.get i hi
  unfold storeName
  simp only [hl, hk]
  refine wpAny_bind (wpAny_cellOf hc ?_)
  unfold cellSet
  refine wpAny_bind (wpAny_load ho ?_)
  refine wpAny_update ho (h _ (F.turn i hi (ExtS.of (Heap.SameBut.update ..).extBut) ?_))
  exact Heap.get?_update_self _ ho rfl

def bindLoop (env : Env) (binds : List (Str × Value)) : Sem PUnit := forIn binds ⟨⟩ fun p _ => do storeName env p.1 p.2; pure (.yield ⟨⟩)
theorem bind_nil {Q : PUnit → Shared → Prop} (h : Q ⟨⟩ s) : wpAny M A (bindLoop env []) Q E s := wpAny_pure h
theorem bind_cons {n : Str} {r : List (Str × Value)} {Q : PUnit → Shared → Prop} (h : wpAny M A (storeName env n v) (fun _ s' => wpAny M A (bindLoop env r) Q E s') E s) : wpAny M A (bindLoop env ((n, v) :: r)) Q E s := by
  unfold bindLoop
  rw [List.forIn_cons]
  exact wpAny_bind (wpAny_bind (wpAny_mono h (fun _ s' h' => wpAny_pure h') fun _ _ e => e))

theorem newEnvX {scope : Scope} {globals : Addr} {closure : List (Str × Addr)} {binds : List (Str × Value)} {qual : Str} {func : Option Addr} {code : Value} {builtins : Addr} {Q : Env → Shared → Prop} (mu : List (Addr × Obj))
    (hmu : ∀ p ∈ mu, s.heap.get? p.1 = some p.2) (hnd : (mu.map (·.1)).Nodup)
    (h : ∀ g h₁ L, St g h₁ L (fun _ => none) (cellMu (L + 1) scope.names mu) → (∀ b o, b ∉ mu.map (·.1) → s.heap.get? b = some o → g.get? b = some o) → Keep g s.heap →
      wpAny M A (bindLoop (newEnv scope L globals (cellsFrom (L + 1) scope.names closure) qual func code none builtins) binds) (fun _ s' => Q (newEnv scope L globals (cellsFrom (L + 1) scope.names closure) qual func code none builtins) s') E { s with heap := h₁ }) :
    wpAny M A (newFunctionEnv scope globals closure binds qual func code none builtins) Q E s := by
  simp only [newFunctionEnv, Option.isSome_none, Bool.false_eq_true, if_false]
  refine wpAny_bind (wpAny_alloc ?_)
  refine wpAny_bind (wpAny_layCells _ (fun name kind cells => by cases hkc : kind == NameKind.cell <;> simp [hkc]) _ _ _ _ ?_)
  rw [show ({ s with heap := s.heap.push { cls := .type "frame", data := .dict #[] } } : Shared).heap.objs.size = s.heap.objs.size + 1 from Heap.size_push ..]
  have F₀ : St (hideAll s.heap (mu.map (·.1))) (s.heap.push { cls := .type "frame", data := .dict #[] }) s.heap.objs.size (fun _ => none) mu := by
    refine ⟨Heap.Ns.new s.heap (.type "frame"), fun b o e => Heap.get?_push_of_some _ (of_hideAll _ e), ?_, fun p hp => ⟨Heap.get?_push_of_some _ (hmu p hp), Nat.ne_of_lt (Heap.lt_size (hmu p hp)), hideAll_none _ (List.mem_map_of_mem hp)⟩, hnd⟩
    cases q : (hideAll s.heap (mu.map (·.1))).get? s.heap.objs.size with
    | none => rfl
    | some o' => exact absurd (Heap.lt_size (of_hideAll _ q)) (Nat.lt_irrefl _)
  have F₁ := F₀.cells scope.names
  rw [Heap.size_push] at F₁
  refine wpAny_bind (wpAny_mono (h _ _ _ F₁ (fun b o hb e => hideAll_get _ e hb) (fun b o e => of_hideAll _ e)) (fun _ s' h' => wpAny_pure h') fun _ _ e => e)
end

section
variable {prog : Program} {w : World} {A : Around} {R : Result → Shared → Prop} {s : Shared}
theorem callX {f : Addr} {o : Obj} {fd : FuncData} {k : Nat} {args : Args} {binds : List (Str × Value)} {body : List Stmt} (mu : List (Addr × Obj)) (hA : Rm A (k + 1)) (ho : s.heap.get? f = some o) (hd : o.data = .func fd) (hcd : s.heap.CodeRec fd.code fd.qualname)
    (hbody : fd.body = .stmts body) (hbind : BindsTo s fd args binds) (hmu : ∀ p ∈ mu, s.heap.get? p.1 = some p.2) (hnd : (mu.map (·.1)).Nodup)
    (h : ∀ g h₁ L env, env = newEnv fd.scope L fd.globals (cellsFrom (L + 1) fd.scope.names fd.closure) (fd.qualname ++ ".<locals>.") (some f) fd.code none fd.builtins → St g h₁ L (fun _ => none) (cellMu (L + 1) fd.scope.names mu) →
      (∀ b o, b ∉ mu.map (·.1) → s.heap.get? b = some o → g.get? b = some o) → Keep g s.heap → Rm (A.deeper env) k →
      wpAny (model prog w) A.in1 (bindLoop env binds) (fun _ s' => s'.heap.NoLimit ∧ wpAny (model prog w) (A.deeper env) (execs body env) (fun fl s' => R (.ok (.ret (match fl with | .ret v => v | _ => .none))) s') (fun _ _ => False) s') (fun _ _ => False) { s with heap := h₁ })
    (hco : fd.scope.isCoroutine = false := by rfl) (hgen : fd.scope.isGenerator = false := by rfl) : codeAny (model prog w) A (.call (.ref f) args) R s := by
  refine codeAny_call_function hA.depth ho hd hco hgen hbody hcd (hbind _ _ _ _ ?_)
  refine newEnvX mu hmu hnd fun g h₁ L F k1 k2 => ?_
  refine wpAny_mono (h g h₁ L _ rfl F k1 k2 hA.deeper) (fun _ s' h' => ⟨h'.1, codeAny_func (wpAny_mono h'.2 (fun _ _ x => x) fun _ _ e => e.elim)⟩) fun _ _ e => e.elim
theorem callXE {f : Addr} {o : Obj} {fd : FuncData} {k : Nat} {args : Args} {binds : List (Str × Value)} {body : Expr} (mu : List (Addr × Obj)) (hA : Rm A (k + 1)) (ho : s.heap.get? f = some o) (hd : o.data = .func fd) (hcd : s.heap.CodeRec fd.code fd.qualname)
    (hbody : fd.body = .expr body) (hbind : BindsTo s fd args binds) (hmu : ∀ p ∈ mu, s.heap.get? p.1 = some p.2) (hnd : (mu.map (·.1)).Nodup)
    (h : ∀ g h₁ L env, env = newEnv fd.scope L fd.globals (cellsFrom (L + 1) fd.scope.names fd.closure) (fd.qualname ++ ".<locals>.") (some f) fd.code none fd.builtins → St g h₁ L (fun _ => none) (cellMu (L + 1) fd.scope.names mu) →
      (∀ b o, b ∉ mu.map (·.1) → s.heap.get? b = some o → g.get? b = some o) → Keep g s.heap → Rm (A.deeper env) k →
      wpAny (model prog w) A.in1 (bindLoop env binds) (fun _ s' => s'.heap.NoLimit ∧ wpAny (model prog w) (A.deeper env) (eval body env) (fun v s' => R (.ok (.ret v)) s') (fun _ _ => False) s') (fun _ _ => False) { s with heap := h₁ })
    (hco : fd.scope.isCoroutine = false := by rfl) (hgen : fd.scope.isGenerator = false := by rfl) : codeAny (model prog w) A (.call (.ref f) args) R s := by
  refine kla_callFunE hA.depth ho hd hco hgen hbody hcd (hbind _ _ _ _ ?_)
  refine newEnvX mu hmu hnd fun g h₁ L F k1 k2 => ?_
  refine wpAny_mono (h g h₁ L _ rfl F k1 k2 hA.deeper) (fun _ s' h' => ⟨h'.1, kla_codeExpr (wpAny_mono h'.2 (fun _ _ x => x) fun _ _ e => e.elim)⟩) fun _ _ e => e.elim
end
end Mine

end
section
namespace Mine
section
variable {M : Model} {A : Around} {E : Value → Shared → Prop} {s : Shared} {name qual : Str} {params : Arguments} {body : FuncBody} {scope : Scope} {env : Env} {pos : Pos} {firstLine : Nat}
  {g : Heap} {L : Addr} {m : Str → Option Value} {mu : List (Addr × Obj)} {Q : Value → Shared → Prop}
theorem St.mkDflt {dv : List Value} (F : St g s.heap L m mu) (hne : dv.isEmpty = false)
    (h : ∀ t h', St g h' L m ((t, tup dv 0) :: mu) → wpAny M A (makeTail name qual params body scope env (.ref t) .none none pos firstLine) Q E { s with heap := h' }) :
    wpAny M A (makeFunction name qual params body scope env dv [] [] pos firstLine) Q E s := by
  rw [makeFunction_eq]
  simp only [List.zip_nil_right, List.filterMap_nil, List.isEmpty_nil, if_true, pure_bind, hne, Bool.false_eq_true, if_false]
  exact wpAny_bind (wpAny_newTextTuple (h _ _ (F.push (tup dv 0))))
theorem mkNo (h : wpAny M A (makeTail name qual params body scope env .none .none none pos firstLine) Q E s) : wpAny M A (makeFunction name qual params body scope env [] [] [] pos firstLine) Q E s := by
  rw [makeFunction_eq]
  simp only [List.zip_nil_right, List.filterMap_nil, List.isEmpty_nil, if_true, pure_bind]
  exact h
end

/-! ### _law_prog -/
def searchSt : Stmt := match sBody (defAt 10) with
  | s :: _ => s
  | _ => .Pass default
def FnIsC (h : Heap) (f : Addr) (name : Str) (i : Nat) (c : Addr) : Prop :=
  ∃ o pm doc, h.get? f = some o ∧ o.data = .func (Calls.docDef name (sParams (defAt i)) (sBody (defAt i)) (sScope (defAt i)) pm (.ref c) doc) ∧ h.CodeRec (.ref c) name
theorem FnIsC.keeps {h h' : Heap} {f c : Addr} {name : Str} {i : Nat} (x : FnIsC h f name i c) (k : Keep h h') : FnIsC h' f name i c :=
  let ⟨o, pm, doc, h1, h2, h3⟩ := x; ⟨o, pm, doc, k _ _ h1, h2, h3.keeps k⟩
theorem FnIsC.is {h : Heap} {f c : Addr} {name : Str} {i : Nat} (x : FnIsC h f name i c) : FnIs h f name i :=
  let ⟨o, pm, doc, h1, h2, h3⟩ := x; ⟨o, pm, _, doc, h1, h2, h3⟩
abbrev srchQ : Str := ("_law_prog" : Str) ++ ".<locals>." ++ "search"

/-- search stands at sf, its two cells hold stays and kept, its own table is P' -/
def SearchAt (h : Heap) (sf b kl P' : Addr) (qual : Str) : Prop :=
  ∃ T₀ t₀ n₀ cS cK c' doc pm ctv, h.get? sf = some (kdv_obj "search" qual (sParams searchSt) (.stmts (sBody searchSt)) (sScope searchSt) [("stays", cS), ("kept", cK)] (.ref T₀) doc pm c' ctv) ∧
    h.get? T₀ = some (tup [.int 0 t₀] n₀) ∧ h.get? cS = some (cellO (some (.ref b))) ∧ h.get? cK = some (cellO (some (.ref kl))) ∧ h.CodeRec (.ref c') qual ∧ CodeHd h c' P'
theorem SearchAt.keeps {h h' : Heap} {sf b kl P' : Addr} {q : Str} (x : SearchAt h sf b kl P' q) (k : Keep h h') : SearchAt h' sf b kl P' q :=
  let ⟨T₀, t₀, n₀, cS, cK, c', doc, pm, ctv, h1, h2, h3, h4, h5, h6⟩ := x; ⟨T₀, t₀, n₀, cS, cK, c', doc, pm, ctv, k _ _ h1, k _ _ h2, k _ _ h3, k _ _ h4, h5.keeps k, h6.keeps k⟩
/-- a function whose own dict holds a function under a name -/
def AttrAt (h : Heap) (p : Addr) (name : Str) (sf : Addr) : Prop := ∃ o d fd mm, h.get? p = some o ∧ o.cls = .type "function" ∧ o.dict = some d ∧ o.data = .func fd ∧ h.Ns d mm ∧ mm name = some (.ref sf)
theorem AttrAt.keeps {h h' : Heap} {p sf : Addr} {name : Str} (x : AttrAt h p name sf) (k : Keep h h') : AttrAt h' p name sf :=
  let ⟨o, d, fd, mm, h1, h2, h3, h4, h5, h6⟩ := x; ⟨o, d, fd, mm, k _ _ h1, h2, h3, h4, h5.keeps k, h6⟩

section
variable {prog : Program} {w : World} {A : Around} {R : Result → Shared → Prop} {s : Shared} {E : Value → Shared → Prop} {h₀ : Heap} {mg mb : Str → Option Value}
theorem prog_ok {f b kl c P : Addr} (G : Glb h₀ mg mb) (B : Keep h₀ s.heap) (hf : FnIsC h₀ f "_law_prog" 10 c) (C : CodeHd h₀ c P) (hP₀ : h₀.get? P = none) (hP : s.heap.get? P = some (tabObj #[])) (hA : Rm A 12)
    (h : ∀ h' tk p sf P' ps g' q, Keep g' h' → AttrAt g' p "search" sf → SearchAt g' sf b kl P' q → g'.get? P' = none → h'.get? P' = some (tabObj #[]) → g'.get? P = none → h'.get? P = some (tabObj ps) → s.heap.get? P' = none →
      (∀ b o, b ≠ P → s.heap.get? b = some o → g'.get? b = some o) → R (.ok (.ret (.ref p))) { s with heap := h', toks := tk }) :
    codeAny (model prog w) A (.call (.ref f) ⟨[.ref b, .ref kl], []⟩) R s := by
  obtain ⟨o, pm, doc, ho, hd, hcd⟩ := hf.keeps B
  refine callX [(P, tabObj #[])] hA ho hd hcd rfl (BindsTo.of_eq (binds := [("stays", .ref b), ("kept", .ref kl)]) rfl) (by simpa using hP) (by simp) ?_
  intro g h₁ L env hE F hg hgs hA'
  have hgP : ∀ b o, b ≠ P → s.heap.get? b = some o → g.get? b = some o := fun b o hb e => hg b o (by simpa using hb) e
  have Bg : Keep h₀ g := fun b o e => hgP b o (fun q => by rw [q, hP₀] at e; cases e) (B _ _ e)
  subst hE
  refine bind_cons (St.stC F (i := 1) rfl (fun h₂ F₂ => ?_) rfl)
  refine bind_cons (St.stC F₂ (i := 0) rfl (fun h₃ F₃ => ?_) rfl)
  refine bind_nil ⟨G.nolimit.keeps (Bg.trans F₃.keep), ?_⟩
  dsimp only
  -- def search
  refine wpAny_execs_cons (kdv_def rfl rfl rfl (kdv_all1 (wpAny_Constant_int (kdv_all0 (St.mkDflt F₃ rfl fun T₀ h₄ F₄ => ?_)))))
  refine St.mk' (i := 3) F₄ (G.keeps Bg) rfl (C.keeps Bg) trivial rfl rfl fun sf c' P' ctv doc' h₅ tk₅ g₅ F₅ k₅ hrec hCd => ?_
  refine St.st F₅ fun h₆ F₆ => ?_
  dsimp only
  -- freeze search
  obtain ⟨g₆, F₇, k₆, r₆⟩ := F₆.rebase [(P', tabObj #[]), (P, tabObj (#[] ++ #[_, _, .ref c']))] (.cons _ (.cons_cons _ (.cons _ (.cons _ (.cons _ (List.Sublist.refl _))))))
  have nd : [sf, P', T₀, L + 2, L + 1, P].Nodup := F₆.nd
  simp only [List.nodup_cons, List.mem_cons, List.not_mem_nil, or_false, not_or] at nd
  obtain ⟨⟨n1, n2, n3, n4, n5⟩, ⟨n6, n7, n8, n9⟩, ⟨n10, n11, n12⟩, ⟨n13, n14⟩, n15, _⟩ := nd
  obtain ⟨q₆, S₆⟩ : ∃ q₆, SearchAt g₆ sf b kl P' q₆ := by
    refine ⟨_, T₀, _, 0, L + 1, L + 2, c', doc', _, ctv, r₆ sf _ (F₆.get 0) (F₆.notL 0) ?_, r₆ T₀ _ (F₆.get 2) (F₆.notL 2) ?_, r₆ (L + 1) _ (F₆.get 4) (F₆.notL 4) ?_, r₆ (L + 2) _ (F₆.get 3) (F₆.notL 3) ?_, hrec.keeps k₆, hCd.keeps k₆⟩
    · show sf ∉ [P', P]
      simp only [List.mem_cons, List.not_mem_nil, or_false, not_or]
      exact ⟨n1, n5⟩
    · show T₀ ∉ [P', P]
      simp only [List.mem_cons, List.not_mem_nil, or_false, not_or]
      exact ⟨fun q => n6 q.symm, n12⟩
    · show L + 1 ∉ [P', P]
      simp only [List.mem_cons, List.not_mem_nil, or_false, not_or]
      exact ⟨fun q => n8 q.symm, n15⟩
    · show L + 2 ∉ [P', P]
      simp only [List.mem_cons, List.not_mem_nil, or_false, not_or]
      exact ⟨fun q => n7 q.symm, n14⟩
  have hP'g : s.heap.get? P' = none := by
    cases q : s.heap.get? P' with
    | none => rfl
    | some o =>
      have e := k₅ _ _ (hgP P' o n9 q)
      rw [F₅.fresh 1] at e; cases e
  -- prog = lambda: None
  refine wpAny_execs_cons (wpAny_Assign_Name (kla_eval rfl (mkNo (St.mk' (i := 1) F₇ (G.keeps (Bg.trans (k₅.trans k₆))) rfl (C.keeps (Bg.trans (k₅.trans k₆))) trivial rfl rfl fun pf c₂ P₂ ctv₂ doc₂ h₈ tk₈ g₈ F₈ k₈ _ _ => St.st F₈ fun h₉ F₉ => ?_))))
  dsimp only
  -- prog.search = search
  refine wpAny_execs_cons (plainObj_wpAny_Assign_Attribute (St.ld F₉ rfl (St.ld F₉ rfl (St.setattr (i := 0) F₉ rfl look_search fun d h₁₀ tk₁₀ g₁₀ F₁₀ k₁₀ hn => ?_))))
  dsimp only
  refine wpAny_execs_cons (wpAny_Return_some (St.ld F₁₀ rfl ?_))
  obtain ⟨g₁₁, F₁₁, k₁₁, r₁₁⟩ := F₁₀.rebase [(P', tabObj #[]), (P, tabObj _)] (.cons _ (.cons _ (.cons_cons _ (.cons_cons _ .slnil))))
  have nd2 : [pf, P₂, P', P].Nodup := F₁₀.nd
  simp only [List.nodup_cons, List.mem_cons, List.not_mem_nil, or_false, not_or] at nd2
  have kk : Keep g g₁₁ := k₅.trans (k₆.trans (k₈.trans (k₁₀.trans k₁₁)))
  refine h h₁₀ _ pf sf P' _ g₁₁ _ F₁₁.keep ⟨_, d, _, _, r₁₁ pf _ (F₁₀.get 0) (F₁₀.notL 0) ?_, rfl, rfl, rfl, hn.keeps k₁₁, rfl⟩ (S₆.keeps (k₈.trans (k₁₀.trans k₁₁))) (F₁₁.fresh 0) (F₁₁.get 0) (F₁₁.fresh 1) (F₁₁.get 1) hP'g (fun b o hb e => kk _ _ (hgP b o hb e))
  show pf ∉ [P', P]
  simp only [List.mem_cons, List.not_mem_nil, or_false, not_or]
  exact ⟨nd2.1.2.1, nd2.1.2.2⟩
end
end Mine

end
section
namespace Mine
section
variable {prog : Program} {w : World} {A : Around} {s : Shared} {E : Value → Shared → Prop} {env : Env} {g : Heap} {L : Addr} {m : Str → Option Value} {mu : List (Addr × Obj)}
theorem St.unpackAny {elts : List Expr} {k : Nat} {tp : Pos} {T : Addr} {vs : List Value} {n : Nat} {Q : Unit → Shared → Prop} (F : St g s.heap L m mu) (hh : A.handled = none) (hT : s.heap.get? T = some (tup vs n))
    (h : ∀ h', St g h' L m mu → wpAny (model prog w) A (assignInOrder ((assignEach elts env).map (·.2)) vs) Q E { s with heap := h' }) (hn : (assignEach elts env).length = vs.length := by rfl) (hstar : (assignEach elts env).findIdx? (·.1) = none := by rfl) :
    wpAny (model prog w) A (assign (.Tuple elts k tp) env (.ref T)) Q E s := by
  refine assign_Tuple_tuple hh ⟨_, hT, rfl, n, rfl⟩ (by simpa using hn) hstar fun h' he => ?_
  refine h h' (F.all fun b o e => he b o (Nat.ne_of_lt (Heap.lt_size e)) e)
end

/-! ### What search hands out -/
def hitLam : Expr := match sBody searchSt with
  | [_, _, _, _, _, .Assign _ e _, _, _] => e
  | _ => .Constant .none 0 default
def spanLam : Expr := match sBody searchSt with
  | [_, _, _, _, _, _, .Assign _ e _, _] => e
  | _ => .Constant .none 0 default
def lParams : Expr → Arguments
  | .Lambda a .. => a
  | _ => default
def lBody : Expr → Expr
  | .Lambda _ b .. => b
  | e => e
def lScope : Expr → Scope
  | .Lambda _ _ s _ => s
  | _ => default
def lPos : Expr → Pos
  | .Lambda _ _ _ p => p
  | _ => default
def SpanAt (h : Heap) (sp : Addr) (i j : Int) : Prop :=
  ∃ cF cB c' doc pm ctv qual clos tF tB, h.get? sp = some { cls := .type "function", data := .func (kdv_fn "<lambda>" qual (lParams spanLam) (.expr (lBody spanLam)) (lScope spanLam) clos .none doc pm (.ref c') ctv) } ∧ h.CodeRec (.ref c') qual ∧
    clos.lookup ("first" : Str) = some cF ∧ clos.lookup ("behind" : Str) = some cB ∧ h.get? cF = some (cellO (some (.int i tF))) ∧ h.get? cB = some (cellO (some (.int j tB)))
theorem SpanAt.keeps {h h' : Heap} {sp : Addr} {i j : Int} (x : SpanAt h sp i j) (k : Keep h h') : SpanAt h' sp i j :=
  let ⟨cF, cB, c', doc, pm, ctv, qual, clos, tF, tB, h1, h2, h3, h4, h5, h6⟩ := x; ⟨cF, cB, c', doc, pm, ctv, qual, clos, tF, tB, k _ _ h1, h2.keeps k, h3, h4, k _ _ h5, k _ _ h6⟩
/-- the value is a match with that span, or None -/
def HitAt (h : Heap) (v : Value) : Option (Int × Int) → Prop
  | none => v = .none
  | some p => ∃ hf sp, v = .ref hf ∧ AttrAt h hf "span" sp ∧ SpanAt h sp p.1 p.2
theorem HitAt.keeps {h h' : Heap} {v : Value} : ∀ {p : Option (Int × Int)}, HitAt h v p → Keep h h' → HitAt h' v p
  | none, x, _ => x
  | some _, ⟨hf, sp, a, b, c⟩, k => ⟨hf, sp, a, b.keeps k, c.keeps k⟩

section
variable {prog : Program} {w : World} {A : Around} {R : Result → Shared → Prop} {s : Shared} {E : Value → Shared → Prop} {h₀ : Heap} {mg mb : Str → Option Value} {env : Env}
theorem span_ok {sp : Addr} {i j : Int} (hlim : s.heap.NoLimit) (hS : SpanAt s.heap sp i j) (hA : Rm A 4)
    (h : ∀ h' tk T n t u, Keep s.heap h' → s.heap.get? T = none → h'.get? T = some (tup [.int i t, .int j u] n) → R (.ok (.ret (.ref T))) { s with heap := h', toks := tk }) :
    codeAny (model prog w) A (.call (.ref sp) ⟨[], []⟩) R s := by
  obtain ⟨cF, cB, c', doc, pm, ctv, qual, clos, tF, tB, h1, h2, h3, h4, h5, h6⟩ := hS
  refine callXE [] hA h1 rfl h2 rfl (BindsTo.of_eq (binds := []) rfl) (by simp) (by simp) ?_
  intro g h₁ L env hE F hg hgs hA'
  have ks : Keep s.heap g := fun b o e => hg b o (by simp) e
  subst hE
  refine bind_nil ⟨hlim.keeps (ks.trans F.keep), ?_⟩
  refine Tuple_ (args_cons (ldF (F.keep _ _ (ks _ _ h5)) (args_cons (ldF (F.keep _ _ (ks _ _ h6)) (args_nil (St.newT F fun T h₂ F₂ => ?_)) h4)) h3))
  refine h h₂ _ T _ _ _ (ks.trans F₂.keep) ?_ (F₂.get 0)
  cases q : s.heap.get? T with
  | none => rfl
  | some o => have := ks _ _ q; rw [F₂.fresh 0] at this; cases this

/-- m.span() -/
theorem spanCall {pl : Sem Bool} {o : Expr} {apos pos : Pos} {p : Int × Int} {v : Value} {Q : Value → Shared → Prop} (hlim : s.heap.NoLimit) (hA : Rm A 4) (hH : HitAt s.heap v (some p)) (ho : ∀ {Q : Value → Shared → Prop} {E : Value → Shared → Prop}, Q v s → wpAny (model prog w) A (eval o env) Q E s)
    (h : ∀ h' tk T n t u, Keep s.heap h' → s.heap.get? T = none → h'.get? T = some (tup [.int p.1 t, .int p.2 u] n) → Q (.ref T) { s with heap := h', toks := tk }) 
    (he : eval (.Call (.Attribute o "span" apos) [] [] pos) env = (do
      let ov ← eval o env
      standAt apos.atName
      let (f, first) ← holding [ov] (getMethod ov "span" pl)
      callWith pos f first (backTo pos (starEach [] env)) []) := by rfl) :
    wpAny (model prog w) A (eval (.Call (.Attribute o "span" apos) [] [] pos) env) Q E s := by
  obtain ⟨hf, sp, rfl, ⟨ob, d, fd, mm, a1, a2, a3, a4, a5, a6⟩, hS⟩ := hH
  refine MethodCall_ (ho (fn_getMethod a1 a2 a3 a4 look_span a5 a6 fun tk => ?_)) he
  dsimp only
  have hS' := hS
  obtain ⟨cF, cB, c', doc, pm, ctv, qual, clos, tF, tB, h1, h2, h3, h4, h5, h6⟩ := hS'
  refine Calls.callWith_function (PySem.evalArgs_none ⟨⟨h1, rfl⟩, wpAny_call (span_ok hlim hS hA fun h' tk' T n t u k1 k2 k3 => ?_)⟩)
  exact h h' tk' T n t u k1 k2 k3
end
end Mine

end
section
namespace Mine
theorem St.sub {g h : Heap} {L : Addr} {m : Str → Option Value} {mu mu' : List (Addr × Obj)} (F : St g h L m mu) (hs : ∀ p ∈ mu', p ∈ mu) (hnd : (mu'.map (·.1)).Nodup) : St g h L m mu' :=
  ⟨F.ns, F.keep, F.out, fun p hp => F.mob p (hs p hp), hnd⟩

theorem St.perm {g h : Heap} {L : Addr} {m : Str → Option Value} {mu mu' : List (Addr × Obj)} (F : St g h L m mu) (hp : mu.Perm mu') : St g h L m mu' :=
  ⟨F.ns, F.keep, F.out, fun p h => F.mob p (hp.mem_iff.mpr h), ((hp.map _).nodup_iff).mp F.nd⟩
/-- objects that stand aside: neither frozen nor touched -/
def Aside (g h : Heap) (S : List Addr) (av : List (Addr × Obj)) : Prop := (∀ p ∈ av, h.get? p.1 = some p.2 ∧ g.get? p.1 = none) ∧ NoTup av ∧ (S ++ av.map (·.1)).Nodup
theorem nd_drop {l : List Addr} (h : l.Nodup) (i k : Nat) {a : Addr} (hi : l[i]? = some a) (hik : i < k) : a ∉ l.drop k := by
  intro hm
  obtain ⟨j, hj⟩ := List.mem_iff_getElem?.mp hm
  rw [List.getElem?_drop] at hj
  have := (List.getElem?_inj (List.getElem?_eq_some_iff.mp hi).1 h).mp (hi.trans hj.symm)
  omega

def popW (place : Int) (xs : List (Int × Int)) : List (Int × Int) :=
  if h : xs = [] then []
  else if (xs.headD (0, 0)).2 < place then popW place (hpop plt xs h).2
  else xs
termination_by xs.length
decreasing_by (have := hpop_length plt xs h; omega)
def srchY (xs ys : List (Int × Int)) (p : Int) : List (Int × Int) := popW p (if p = 0 then heapifyF plt (xs.map Prod.swap) else ys)

/-- the table of search's own code: nothing yet, or both lambdas -/
def TabOk (g : Heap) (q : Str) (ps : Array Value) : Prop :=
  ps = #[] ∨ ∃ c1 c2, ps = #[rawInt (lPos hitLam).line, rawInt (lPos hitLam).col, .ref c1, rawInt (lPos spanLam).line, rawInt (lPos spanLam).col, .ref c2] ∧ g.CodeRec (.ref c2) (q ++ ".<locals>." ++ "<lambda>")
theorem TabOk.keeps {g g' : Heap} {q : Str} {ps : Array Value} (x : TabOk g q ps) (k : Keep g g') : TabOk g' q ps :=
  x.elim .inl fun ⟨c1, c2, e, h⟩ => .inr ⟨c1, c2, e, h.keeps k⟩

def SW (h₀ g : Heap) (sf b kl P' : Addr) (q : Str) (xs : List (Int × Int)) (hl : Addr) (h : Heap) (ys : List (Int × Int)) : Prop :=
  ∃ n1 us n2 ps vs n, Keep g h ∧ Keep h₀ g ∧ SearchAt g sf b kl P' q ∧ g.get? b = some (lst vs n) ∧ Items prKd g vs xs ∧ g.get? kl = none ∧ g.get? hl = none ∧ g.get? P' = none ∧ [kl, hl, P'].Nodup ∧
    h.get? kl = some (lst [.ref hl] n1) ∧ h.get? hl = some (lst us n2) ∧ Items prKd g us ys ∧ h.get? P' = some (tabObj ps) ∧ TabOk g q ps

section
variable {prog : Program} {w : World} {A : Around} {R : Result → Shared → Prop} {s : Shared} {E : Value → Shared → Prop} {h₀ : Heap} {mg mb : Str → Option Value}
theorem search_core {sf b kl P' hl : Addr} {q : Str} {xs ys : List (Int × Int)} {p : Int} {chars : Value} {args : Args} {g₀ : Heap} {av : List (Addr × Obj)} (G : Glb h₀ mg mb) (hW : SW h₀ g₀ sf b kl P' q xs hl s.heap ys) (hav : Aside g₀ s.heap [kl, hl, P'] av) (hsz : xs.length < 2 ^ 16) (hsy : ys.length < 2 ^ 16) (hA : Rm A 12)
    (hbind : ∀ T₀ t₀ n₀ cS cK c' doc pm ctv, s.heap.get? T₀ = some (tup [.int 0 t₀] n₀) →
      ∃ u, BindsTo s (kdv_fn "search" q (sParams searchSt) (.stmts (sBody searchSt)) (sScope searchSt) [("stays", cS), ("kept", cK)] (.ref T₀) doc pm (.ref c') ctv) args [("chars", chars), ("pos", .int p u)])
    (h : ∀ h' tk hl' v g', ExtS [kl, hl, P'] s.heap h' → SW h₀ g' sf b kl P' q xs hl' h' (srchY xs ys p) → Aside g' h' [kl, hl', P'] av → Keep g₀ g' → (hl' = hl ∨ s.heap.get? hl' = none) →
      HitAt g' v ((srchY xs ys p).head?.map Prod.swap) → R (.ok (.ret v)) { s with heap := h', toks := tk }) :
    codeAny (model prog w) A (.call (.ref sf) args) R s := by
  obtain ⟨n1, us, n2, ps, vs, n, kg, k0, hS, hb, hI, f1, f2, f3, hnd, hkl, hhl, hJ, hP, hT⟩ := hW
  have hS' := hS
  obtain ⟨T₀, t₀, n₀, cS, cK, c', doc, pm, ctv, o1, o2, o3, o4, o5, o6⟩ := hS'
  obtain ⟨u, hbind⟩ := hbind T₀ t₀ n₀ cS cK c' doc pm ctv (kg _ _ o2)
  refine callX ((kl, lst [.ref hl] n1) :: (hl, lst us n2) :: (P', tabObj ps) :: av) hA (kg _ _ o1) rfl (o5.keeps kg) rfl hbind (by
    intro x hx
    simp only [List.mem_cons] at hx
    rcases hx with rfl | rfl | rfl | hx
    · exact hkl
    · exact hhl
    · exact hP
    · exact (hav.1 x hx).1) hav.2.2 ?_
  intro g h₁ L env hE F hg hgs hA'
  have k1 : Keep g₀ g := fun c o e => hg c o (fun hm => by
    simp only [List.map_cons, List.mem_cons] at hm
    rcases hm with rfl | rfl | rfl | hm
    · rw [f1] at e; cases e
    · rw [f2] at e; cases e
    · rw [f3] at e; cases e
    · obtain ⟨x, hx, rfl⟩ := List.mem_map.mp hm
      rw [(hav.1 x hx).2] at e; cases e) (kg _ _ e)
  have Bg : Keep h₀ g := k0.trans k1
  obtain ⟨fhy, hy1, hy2⟩ := G.fn (5, "heapify") (by decide)
  obtain ⟨fpo, hpo1, hpo2⟩ := G.fn (4, "heappop") (by decide)
  have hgE : ∀ c o, c ∉ [kl, hl, P'] → c ∉ av.map (·.1) → s.heap.get? c = some o → g.get? c = some o := fun c o h1 h2 e => hg c o (by
    simp only [List.map_cons, List.mem_cons, List.not_mem_nil, or_false, not_or] at h1 ⊢
    exact ⟨h1.1, h1.2.1, h1.2.2, h2⟩) e
  subst hE
  refine bind_cons (St.st F fun h₂ F₂ => ?_)
  refine bind_cons (St.st F₂ fun h₃ F₃ => ?_)
  refine bind_nil ⟨G.nolimit.keeps (Bg.trans F₃.keep), ?_⟩
  dsimp only
  -- the part behind the first if
  have tail : ∀ (g₄ h₄ : Heap) (tk₄ : Nat) (m₄ : Str → Option Value) (hx : Addr) (us₄ : List Value) (n₄ n₅ : Nat) (Y : List (Int × Int)), St g₄ h₄ L m₄ ((L + 2, cellO none) :: (L + 1, cellO none) :: (kl, lst [.ref hx] n₄) :: (hx, lst us₄ n₅) :: (P', tabObj ps) :: av) → Keep g g₄ →
      (hx = hl ∨ s.heap.get? hx = none) → m₄ "pos" = some (.int p u) → Items prKd g₄ us₄ Y → popW p Y = srchY xs ys p → Y.length < 2 ^ 17 →
      wpAny (model prog w) (A.deeper (newEnv (sScope searchSt) L mainGlobals (cellsFrom (L + 1) (sScope searchSt).names [("stays", cS), ("kept", cK)]) (q ++ ".<locals>.") (some sf) (.ref c') none builtinsNs))
        (execs ((sBody searchSt).drop 1) (newEnv (sScope searchSt) L mainGlobals (cellsFrom (L + 1) (sScope searchSt).names [("stays", cS), ("kept", cK)]) (q ++ ".<locals>.") (some sf) (.ref c') none builtinsNs))
        (fun fl s' => R (.ok (.ret (match fl with | .ret v => v | _ => .none))) s') (fun _ _ => False) { s with heap := h₄, toks := tk₄ } := by
    intro g₄ h₄ tk₄ m₄ hx us₄ n₄ n₅ Y F₄ k₄ hxf mp hIY hgl hYl
    have B₄ : Keep h₀ g₄ := Bg.trans k₄
    have none_of : ∀ {a : Addr}, g₄.get? a = none → h₀.get? a = none := fun {a} e => by
      cases q : h₀.get? a with
      | none => rfl
      | some o => rw [B₄ _ _ q] at e; cases e
    have cKg : g₄.get? cK = some (cellO (some (.ref kl))) := k₄ _ _ (k1 _ _ o4)
    -- heap = kept[0]
    refine wpAny_execs_cons (wpAny_Assign_Name (Subscript_ (ldF (F₄.keep _ _ cKg) (wpAny_Constant_int (getL (F₄.get 2) (k := 0) rfl rfl (by omega) (St.st F₄ fun h₅ F₅ => ?_))) rfl)))
    dsimp only
    -- the loop
    refine wpAny_execs_cons (wpAny_While (codeAny_whileLoop (fun k s' => ∃ h' tk m us' n' Y', s' = { s with heap := h', toks := tk } ∧ St g₄ h' L m ((L + 2, cellO none) :: (L + 1, cellO none) :: (kl, lst [.ref hx] n₄) :: (hx, lst us' n') :: (P', tabObj ps) :: av) ∧
      m "pos" = some (.int p u) ∧ m "heap" = some (.ref hx) ∧ Items prKd g₄ us' Y' ∧ popW p Y' = srchY xs ys p ∧ Y'.length < 2 ^ 17 ∧ Y'.length = k) ?_ Y.length ⟨h₅, _, _, us₄, n₅, Y, rfl, F₅, mp, rfl, hIY, hgl, hYl, rfl⟩))
    rintro k s' ⟨h', tk, m, us', n', Y', rfl, F', m1, m2, hI', hgoal, hY', rfl⟩
    have l1 := hI'.length
    -- behind the loop
    have fin : ∀ (h₆ : Heap) (tk₆ : Nat), St g₄ h₆ L m ((L + 2, cellO none) :: (L + 1, cellO none) :: (kl, lst [.ref hx] n₄) :: (hx, lst us' n') :: (P', tabObj ps) :: av) → srchY xs ys p = Y' →
        wpAny (model prog w) (A.deeper (newEnv (sScope searchSt) L mainGlobals (cellsFrom (L + 1) (sScope searchSt).names [("stays", cS), ("kept", cK)]) (q ++ ".<locals>.") (some sf) (.ref c') none builtinsNs))
        (execs ((sBody searchSt).drop 3) (newEnv (sScope searchSt) L mainGlobals (cellsFrom (L + 1) (sScope searchSt).names [("stays", cS), ("kept", cK)]) (q ++ ".<locals>.") (some sf) (.ref c') none builtinsNs))
        (fun fl s' => R (.ok (.ret (match fl with | .ret v => v | _ => .none))) s') (fun _ _ => False) { s with heap := h₆, toks := tk₆ } := by
      intro h₆ tk₆ F₆ hsY
      have done : ∀ {gg hh : Heap} {L' : Addr} {mm : Str → Option Value} {ps' : Array Value} {v : Value} {tk : Nat}, Keep g₄ gg → St gg hh L' mm ((kl, lst [.ref hx] n₄) :: (hx, lst us' n') :: (P', tabObj ps') :: av) → TabOk gg q ps' →
          HitAt gg v ((srchY xs ys p).head?.map Prod.swap) → R (.ok (.ret v)) { s with heap := hh, toks := tk } := fun {gg hh L' mm ps' v tk} ka FF ht hH => by
        refine h hh tk hx v gg (fun c o hc e => ?_) ⟨n₄, us', n', ps', vs, n, FF.keep, B₄.trans ka, hS.keeps (k1.trans (k₄.trans ka)), ka _ _ (k₄ _ _ (k1 _ _ hb)), hI.stab (k1.trans (k₄.trans ka)).t, FF.fresh 0, FF.fresh 1, FF.fresh 2, (by
          have := FF.nd
          simp only [List.map_cons, List.nodup_cons, List.mem_cons, not_or] at this
          simp only [List.nodup_cons, List.mem_cons, List.not_mem_nil, or_false, not_or]
          exact ⟨⟨this.1.1, this.1.2.1⟩, this.2.1.1, not_false, .nil⟩), FF.get 0, FF.get 1, hsY ▸ hI'.stab ka.t, FF.get 2, ht⟩
          ⟨fun x hx => ⟨(FF.mob x (.tail _ (.tail _ (.tail _ hx)))).1, (FF.mob x (.tail _ (.tail _ (.tail _ hx)))).2.2⟩, hav.2.1, FF.nd⟩ (k1.trans (k₄.trans ka)) hxf hH
        by_cases hca : c ∈ av.map (·.1)
        · obtain ⟨x, hxm, rfl⟩ := List.mem_map.mp hca
          have e1 := (hav.1 x hxm).1
          rw [e] at e1
          rw [Option.some.inj e1]
          exact (FF.mob x (.tail _ (.tail _ (.tail _ hxm)))).1
        · exact FF.keep _ _ (ka _ _ (k₄ _ _ (hgE c o hc hca e)))
      -- if heap == []
      refine wpAny_execs_cons (wpAny_If (wpAny_isTrue_Compare1 (St.ld F₆ m2 (List_ (args_nil (St.newL F₆ fun e₁ h₇ F₇ => eqNil hA'.units (F₇.get 4) (F₇.get 0) (wpAny_truthy_bool ?_)))))))
      have F₇' := F₇.drop _ (.cons _ (List.Sublist.refl _))
      have hT₄ : TabOk g₄ q ps := hT.keeps (k1.trans k₄)
      rcases Y' with _ | ⟨y, yr⟩
      · have hus : us' = [] := List.length_eq_zero_iff.mp (by simpa using l1)
        subst hus
        simp only [List.isEmpty_nil, if_true]
        refine wpAny_execs_cons (wpAny_Return_some (fun _ _ _ => ?_))
        have F₈ := F₇'.drop _ (.cons _ (.cons _ (List.Sublist.refl _)))
        refine done (Keep.refl _) F₈ hT₄ ?_
        rw [hsY]; rfl
      · have hus : us'.isEmpty = false := by
          cases us' with
          | nil => simp at l1
          | cons _ _ => rfl
        simp only [hus, Bool.false_eq_true, if_false]
        refine wpAny_execs_nil ?_
        dsimp only
        obtain ⟨v, hv, T, nT, ta, tb, rfl, hTT⟩ := hI'.get' (i := 0) (y := y) rfl
        -- behind, first = heap[0]
        refine wpAny_execs_cons (Assign_Tuple (Subscript_ (St.ld F₇' m2 (wpAny_Constant_int (getL (F₇'.get 3) (k := 0) rfl hv (by omega) (St.unpackAny F₇' hA'.handled (F₇'.keep _ _ hTT) fun h₈ F₈ => ?_))))))
        refine assignInOrder_cons (wpAny_assign_Name (St.stC F₈ (i := 1) rfl (fun h₉ F₉ => ?_) rfl))
        refine assignInOrder_cons (wpAny_assign_Name (St.stC F₉ (i := 0) rfl (fun h₁₀ F₁₀ => ?_) rfl))
        refine assignInOrder_nil ?_
        dsimp only
        have cg₄ : CodeHd g₄ c' P' := o6.keeps (k1.trans k₄)
        rcases hT₄ with hps | ⟨c1, c2, hps, hrc⟩
        · subst hps
          -- hit = lambda: None
          refine wpAny_execs_cons (wpAny_Assign_Name (kla_eval rfl (mkNo (St.mk' (i := 4) F₁₀ (G.keeps B₄) rfl cg₄ trivial rfl rfl fun hf c₁ P₁ ctv₁ doc₁ h₁₁ tk₁₁ g₁₁ F₁₁ k₁₁ _ _ => St.st F₁₁ fun h₁₂ F₁₂ => ?_))))
          dsimp only
          -- hit.span = lambda: (first, behind)
          refine wpAny_execs_cons (plainObj_wpAny_Assign_Attribute (kla_eval rfl (mkNo (St.mk' (i := 6) F₁₂ (G.keeps (B₄.trans k₁₁)) rfl (cg₄.keeps k₁₁) trivial rfl rfl fun sp c₂ P₂ ctv₂ doc₂ h₁₃ tk₁₃ g₁₃ F₁₃ k₁₃ hrc hcd₂ => St.ld F₁₃ rfl (St.setattr (i := 2) F₁₃ rfl look_span fun d h₁₄ tk₁₄ g₁₄ F₁₄ k₁₄ hn => ?_)))))
          dsimp only
          refine wpAny_execs_cons (wpAny_Return_some (St.ld F₁₄ rfl ?_))
          obtain ⟨g₁₅, F₁₅, k₁₅, r⟩ := F₁₄.rebase ((kl, lst [.ref hx] n₄) :: (hx, lst us' n') :: (P', tabObj _) :: av) (.cons _ (.cons _ (.cons _ (.cons _ (.cons _ (.cons _ (List.Sublist.refl _)))))))
          have ka : Keep g₄ g₁₅ := k₁₁.trans (k₁₃.trans (k₁₄.trans k₁₅))
          refine done ka F₁₅ (.inr ⟨c₁, c₂, rfl, hrc.keeps (k₁₄.trans k₁₅)⟩) ?_
          rw [hsY]
          exact ⟨hf, sp, rfl, ⟨_, d, _, _, r hf _ (F₁₄.get 2) (F₁₄.notL 2) (nd_drop F₁₄.nd 2 6 rfl (by decide)), rfl, rfl, rfl, hn.keeps k₁₅, rfl⟩,
            ⟨L + 2, L + 1, c₂, doc₂, _, ctv₂, _, _, tb, ta, r sp _ (F₁₄.get 0) (F₁₄.notL 0) (nd_drop F₁₄.nd 0 6 rfl (by decide)), hrc.keeps (k₁₄.trans k₁₅), rfl, rfl,
              r (L + 2) _ (F₁₄.get 4) (F₁₄.notL 4) (nd_drop F₁₄.nd 4 6 rfl (by decide)), r (L + 1) _ (F₁₄.get 5) (F₁₄.notL 5) (nd_drop F₁₄.nd 5 6 rfl (by decide))⟩⟩
        · subst hps
          -- hit = lambda: None
          refine wpAny_execs_cons (wpAny_Assign_Name (kla_eval rfl (mkNo (St.mkHit (i := 4) (cv := .ref c1) F₁₀ (G.keeps B₄) rfl cg₄ trivial rfl rfl fun hf ctv₁ doc₁ h₁₁ tk₁₁ F₁₁ => St.st F₁₁ fun h₁₂ F₁₂ => ?_))))
          dsimp only
          -- hit.span = lambda: (first, behind)
          refine wpAny_execs_cons (plainObj_wpAny_Assign_Attribute (kla_eval rfl (mkNo (St.mkHit (i := 5) (cv := .ref c2) F₁₂ (G.keeps B₄) rfl cg₄ trivial rfl rfl fun sp ctv₂ doc₂ h₁₃ tk₁₃ F₁₃ => St.ld F₁₃ rfl (St.setattr (i := 1) F₁₃ rfl look_span fun d h₁₄ tk₁₄ g₁₄ F₁₄ k₁₄ hn => ?_)))))
          dsimp only
          refine wpAny_execs_cons (wpAny_Return_some (St.ld F₁₄ rfl ?_))
          obtain ⟨g₁₅, F₁₅, k₁₅, r⟩ := F₁₄.rebase ((kl, lst [.ref hx] n₄) :: (hx, lst us' n') :: (P', tabObj _) :: av) (.cons _ (.cons _ (.cons _ (.cons _ (List.Sublist.refl _)))))
          have ka : Keep g₄ g₁₅ := k₁₄.trans k₁₅
          refine done ka F₁₅ (.inr ⟨c1, c2, rfl, hrc.keeps ka⟩) ?_
          rw [hsY]
          exact ⟨hf, sp, rfl, ⟨_, d, _, _, r hf _ (F₁₄.get 1) (F₁₄.notL 1) (nd_drop F₁₄.nd 1 4 rfl (by decide)), rfl, rfl, rfl, hn.keeps k₁₅, rfl⟩,
            ⟨L + 2, L + 1, c2, doc₂, _, ctv₂, _, _, tb, ta, r sp _ (F₁₄.get 0) (F₁₄.notL 0) (nd_drop F₁₄.nd 0 4 rfl (by decide)), hrc.keeps ka, rfl, rfl,
              r (L + 2) _ (F₁₄.get 2) (F₁₄.notL 2) (nd_drop F₁₄.nd 2 4 rfl (by decide)), r (L + 1) _ (F₁₄.get 3) (F₁₄.notL 3) (nd_drop F₁₄.nd 3 4 rfl (by decide))⟩⟩
    refine isTrue_and (wpAny_isTrue_Compare1 (St.ld F' m2 (List_ (args_nil (St.newL F' fun e₁ h₆ F₆ => neNil hA'.units (F₆.get 4) (F₆.get 0) (wpAny_truthy_bool ?_))))))
    have F₆' := F₆.drop _ (.cons _ (List.Sublist.refl _))
    rw [popW] at hgoal
    rcases Y' with _ | ⟨y, yr⟩
    · have hus : us' = [] := List.length_eq_zero_iff.mp (by simpa using l1)
      subst hus
      simp only [List.isEmpty_nil, Bool.not_true, Bool.false_eq_true, if_false]
      simp only [dite_true] at hgoal
      refine wpAny_execs_nil ?_
      dsimp only
      exact fin h₆ _ F₆' hgoal.symm
    · have hus : us'.isEmpty = false := by
        cases us' with
        | nil => simp at l1
        | cons _ _ => rfl
      simp only [hus, Bool.not_false, if_true]
      simp only [reduceCtorEq, dite_false, List.headD_cons] at hgoal
      obtain ⟨v, hv, T, nT, ta, tb, rfl, hTT⟩ := hI'.get' (i := 0) (y := y) rfl
      refine isTrue_and (wpAny_isTrue_Compare1 (Subscript_ (Subscript_ (St.ld F₆' m2 (wpAny_Constant_int (getL (F₆'.get 3) (k := 0) rfl hv (by omega) (wpAny_Constant_int (getT (F₆'.keep _ _ hTT) (k := 1) rfl rfl (by omega) (St.ld F₆' m1 (lt_int (wpAny_truthy_bool ?_)))))))))))
      by_cases hlt : y.2 < p
      · simp only [hlt, decide_true, if_true] at hgoal ⊢
        refine isTrue_and_nil ?_
        simp only [if_true]
        -- heappop(heap)
        refine wpAny_execs_cons (wpAny_Expr_any (callG (G.keeps (B₄.trans F₆'.keep)) hpo1 (hpo2.keeps (B₄.trans F₆'.keep)) (args_cons (St.ld F₆' m2 (args_nil ⟨Keep.refl _, ?_⟩)))))
        refine heappop_D prKd G (B₄.trans F₆'.keep) (none_of (F₆'.fresh 3)) hpo2 (hA'.le (by omega)) (F₆'.get 3) F₆'.keep.t hI' (by simp) (by omega) fun h₇ tk₇ n₇ v₇ us₇ hx₇ ho₇ hI₇ _ => ?_
        have F₇ := F₆'.turn 3 rfl hx₇ ho₇
        dsimp only
        have hpl := hpop_length prKd.lt (y :: yr) (by simp)
        refine wpAny_execs_nil ⟨_, ?_, h₇, _, _, us₇, n₇, _, rfl, F₇, m1, m2, hI₇, hgoal, ?_, rfl⟩
        · omega
        · omega
      · simp only [hlt, decide_false, Bool.false_eq_true, if_false] at hgoal ⊢
        refine wpAny_execs_nil ?_
        dsimp only
        exact fin h₆ _ F₆' hgoal.symm
  -- if pos == 0
  refine wpAny_execs_cons (wpAny_If (wpAny_isTrue_Compare1 (St.ld F₃ rfl (wpAny_Constant_int (eq_int (wpAny_truthy_bool ?_))))))
  by_cases hp0 : p = 0
  · subst hp0
    simp only [beq_self_eq_true, if_true]
    have hlen : vs.length = xs.length := hI.length
    -- kept[0] = [(end, start) for start, end in stays]
    refine wpAny_execs_cons (wpAny_Assign_Subscript (compE_list F₃ (.cons (fun _ _ e => by simp at e) (.cons (fun _ _ e => by simp at e) (.lst (.lst (.cons (fun _ _ e => by simp at e) hav.2.1))))) (fun i ys g => Items prKd g ys ((xs.take i).map Prod.swap))
      (fun hq => ldF (F₃.keep _ _ (k1 _ _ o3)) hq rfl) (F₃.keep _ _ (k1 _ _ hb)) (by omega) hA'.handled (fun _ => Items.nil) (fun i ys h h' x k => x.stab k) ?_ ?_))
    · intro i v zs C D I n' oI' g₅ h₅ tk₅ m₅ E' hPv hi hyl hJ₅ hk₅ F₅
      obtain ⟨⟨p1, p2⟩, hx, a, na, t1, t2, rfl, ha⟩ := hI.get hPv
      have hk1 : Keep g₀ h₅ := k1.trans (F₃.keep.trans (hk₅.trans F₅.keep))
      refine F₅.unpack2 hA'.handled (hk1 _ _ ha) fun h₆ tk₆ F₆ => ?_
      refine wpAny_tests_nil ?_
      simp only [if_true]
      refine Tuple_ (args_cons (St.ld F₆ rfl (args_cons (St.ld F₆ rfl (args_nil (St.newT F₆ fun T h₇ F₇ => ?_))))))
      refine TurnEnd.tup F₇ fun g' k' hT => ?_
      have e : (xs.take (i + 1)).map Prod.swap = (xs.take i).map Prod.swap ++ [(p2, p1)] := by rw [List.take_add_one, hx]; simp
      rw [e]
      exact (hJ₅.stab k'.t).snoc ⟨T, _, _, _, rfl, hT⟩
    intro D h₄ tk₄ g₄ zs nz F₄ k₄ _ hzl hJ₄
    rw [hlen, List.take_length] at hJ₄
    refine ldF (F₄.keep _ _ (k₄ _ _ (k1 _ _ o4))) (wpAny_Constant_int (setL (F₄.get 3) (k := 0) rfl (by simp) (by omega) fun h₅ hs₅ ho₅ => ?_)) rfl
    have F₅ := F₄.turn 3 rfl (ExtS.of hs₅.extBut) ho₅
    dsimp only
    have B₅ : Keep h₀ g₄ := Bg.trans k₄
    have none_of : ∀ {a : Addr}, g₄.get? a = none → h₀.get? a = none := fun {a} e => by
      cases q : h₀.get? a with
      | none => rfl
      | some o => rw [B₅ _ _ q] at e; cases e
    -- heapify(kept[0])
    refine wpAny_execs_cons (wpAny_Expr (callG (G.keeps (B₅.trans F₅.keep)) hy1 (hy2.keeps (B₅.trans F₅.keep)) (args_cons (Subscript_ (ldF (F₅.keep _ _ (k₄ _ _ (k1 _ _ o4))) (wpAny_Constant_int (getL (F₅.get 3) (k := 0) rfl rfl (by omega) (args_nil ⟨Keep.refl _, ?_⟩))) rfl)))))
    refine heapify_D prKd G (B₅.trans F₅.keep) (none_of (F₅.fresh 0)) hy2 (hA'.le (by omega)) (F₅.get 0) F₅.keep.t hJ₄ (by simp; omega) fun h₆ tk₆ n₆ us₆ hx₆ ho₆ hI₆ => ?_
    have F₆ := F₅.turn 0 rfl hx₆ ho₆
    dsimp only
    refine wpAny_execs_nil ?_
    have F₇ := (F₆.drop _ (.cons_cons _ (.cons_cons _ (.cons_cons _ (.cons_cons _ (.cons _ (List.Sublist.refl _))))))).perm (List.perm_middle (l₁ := [(L + 2, cellO none), (L + 1, cellO none), (kl, lst [.ref D] n1)]) (a := (D, lst us₆ n₆)) (l₂ := (P', tabObj ps) :: av)).symm
    have nd : (D :: (L + 2) :: (L + 1) :: kl :: hl :: P' :: av.map (·.1)).Nodup := F₆.nd
    simp only [List.nodup_cons, List.mem_cons, not_or] at nd
    refine tail g₄ h₆ _ _ D us₆ n1 n₆ _ F₇ k₄ (.inr ?_) rfl hI₆ rfl ?_
    · cases qq : s.heap.get? D with
      | none => rfl
      | some o =>
        have e := k₄ _ _ (hgE D o (by simp only [List.mem_cons, List.not_mem_nil, or_false, not_or]; exact ⟨nd.1.2.2.1, nd.1.2.2.2.1, nd.1.2.2.2.2.1⟩) nd.1.2.2.2.2.2 qq)
        rw [F₆.fresh 0] at e; cases e
    · show (heapifyF plt _).length < _
      unfold heapifyF
      rw [hify_length]; simp; omega
  · have hp0' : (p == 0) = false := by simpa using hp0
    simp only [hp0', Bool.false_eq_true, if_false]
    refine wpAny_execs_nil ?_
    refine tail g h₃ _ _ hl us n1 n2 ys F₃ (Keep.refl _) (.inl rfl) rfl (hJ.stab k1.t) ?_ (by omega)
    unfold srchY
    rw [if_neg hp0]
end
end Mine

end
section
namespace Mine
/-! ### search_reverse over any search -/
structure Sr (prog : Program) (w : World) (sf : Addr) (chars : Value) (σ : Type) where
  Ok : Heap → List (Addr × Obj) → Heap → σ → Prop
  V : σ → Prop
  nxt : σ → Int → Option (Int × Int) × σ
  keep : ∀ {g S h x}, Ok g S h x → Keep g h
  mob : ∀ {g S h x}, Ok g S h x → ∀ p ∈ S, h.get? p.1 = some p.2 ∧ g.get? p.1 = none ∧ ∀ vs n, p.2 ≠ tup vs n
  stab : ∀ {g S h x g' h'}, Ok g S h x → Keep g g' → Keep g' h' → (∀ p ∈ S, h'.get? p.1 = some p.2 ∧ g'.get? p.1 = none) → Ok g' S h' x
  fn : ∀ {g S h x}, Ok g S h x → ∃ o fd, g.get? sf = some o ∧ o.data = .func fd
  Vn : ∀ {x : σ} {p : Int}, V x → V (nxt x p).2 ∧ ∀ r, (nxt x p).1 = some r → p ≤ r.1 ∧ r.1 ≤ r.2
  call : ∀ {A : Around} {R : Result → Shared → Prop} {s : Shared} {g : Heap} {S : List (Addr × Obj)} {x : σ} {av : List (Addr × Obj)} {p : Int} {args : Args}, Rm A 12 → Ok g S s.heap x → V x → Aside g s.heap (S.map (·.1)) av →
    (args = ⟨[chars], []⟩ ∧ p = 0 ∨ ∃ t, args = ⟨[chars, .int p t], []⟩) →
    (∀ h' tk S' v g', Ok g' S' h' (nxt x p).2 → Aside g' h' (S'.map (·.1)) av → Keep g g' → HitAt g' v (nxt x p).1 → R (.ok (.ret v)) { s with heap := h', toks := tk }) →
    codeAny (model prog w) A (.call (.ref sf) args) R s

section
variable {σ : Type} (nxt : σ → Int → Option (Int × Int) × σ) (col : Int)
def srLoop : Nat → σ → Option (Int × Int) → Int × Int → Option (Int × Int) × σ
  | 0, x, found, _ => (found, x)
  | n + 1, x, found, (i, j) => if i < col ∧ j ≤ col then
      match nxt x (if i = j then j + 1 else j) with
      | (none, x') => (some (i, j), x')
      | (some p, x') => srLoop n x' (some (i, j)) p
    else (found, x)
def srF (x : σ) : Option (Int × Int) × σ := match nxt x 0 with
  | (none, x') => (none, x')
  | (some p, x') => srLoop nxt col ((col - p.1).toNat + 1) x' none p
end

theorem constNone {M : Model} {A : Around} {E : Value → Shared → Prop} {s : Shared} {env : Env} {k : Nat} {pos : Pos} {Q : Value → Shared → Prop} (h : Q .none s) : wpAny M A (eval (.Constant .none k pos) env) Q E s := fun _ _ _ => h

/-- the frame's state from what stands aside -/
theorem St.ofAside {g h : Heap} {L : Addr} {oL : Obj} {m : Str → Option Value} {S av : List (Addr × Obj)} (hn : ∀ {h' : Heap}, h'.get? L = some oL → h'.Ns L m) (k : Keep g h) (hS : ∀ p ∈ S, h.get? p.1 = some p.2 ∧ g.get? p.1 = none) (hav : Aside g h (S.map (·.1)) ((L, oL) :: av)) :
    St g h L m (S ++ av) := by
  obtain ⟨h1, h2, h3⟩ := hav
  have hL := h1 (L, oL) (.head _)
  rw [List.map_cons, List.nodup_append] at h3
  obtain ⟨n1, n2, n3⟩ := h3
  refine ⟨hn hL.1, k, hL.2, fun p hp => ?_, ?_⟩
  · rcases List.mem_append.mp hp with hp | hp
    · exact ⟨(hS p hp).1, fun q => n3 _ (List.mem_map_of_mem hp) L (.head _) q, (hS p hp).2⟩
    · exact ⟨(h1 p (.tail _ hp)).1, fun q => (List.nodup_cons.mp n2).1 (List.mem_map.mpr ⟨p, hp, q⟩), (h1 p (.tail _ hp)).2⟩
  · rw [List.map_append, List.nodup_append]
    exact ⟨n1, (List.nodup_cons.mp n2).2, fun a ha b hb => n3 a ha b (.tail _ hb)⟩
theorem St.toAside {g h : Heap} {L : Addr} {m : Str → Option Value} {S av : List (Addr × Obj)} (F : St g h L m (S ++ av)) (hT : NoTup av) : ∃ oL, Aside g h (S.map (·.1)) ((L, oL) :: av) ∧ (∀ {h' : Heap}, h'.get? L = some oL → h'.Ns L m) := by
  obtain ⟨oL, es, ep, ho, hd, r⟩ := F.ns
  refine ⟨oL, ⟨fun p hp => ?_, NoTup.cons (fun vs n q => by rw [q] at hd; cases hd) hT, ?_⟩, fun {h'} e => ⟨oL, es, ep, e, hd, r⟩⟩
  · rcases List.mem_cons.mp hp with rfl | hp
    · exact ⟨ho, F.out⟩
    · exact ⟨(F.mob p (List.mem_append_right _ hp)).1, (F.mob p (List.mem_append_right _ hp)).2.2⟩
  · have nd := F.nd
    rw [List.map_append, List.nodup_append] at nd
    rw [List.map_cons, List.nodup_append]
    refine ⟨nd.1, List.nodup_cons.mpr ⟨fun q => ?_, nd.2.1⟩, fun a ha b hb => ?_⟩
    · obtain ⟨p, hp, e⟩ := List.mem_map.mp q
      exact (F.mob p (List.mem_append_right _ hp)).2.1 e
    · rcases List.mem_cons.mp hb with rfl | hb
      · obtain ⟨p, hp, e⟩ := List.mem_map.mp ha
        rw [← e]; exact (F.mob p (List.mem_append_left _ hp)).2.1
      · exact nd.2.2 a ha b hb

section
variable {prog : Program} {w : World} {A : Around} {R : Result → Shared → Prop} {s : Shared} {E : Value → Shared → Prop} {h₀ : Heap} {mg mb : Str → Option Value} {env : Env} {σ : Type} {sf : Addr} {chars : Value}

/-- prog.search(..) from a frame -/
theorem srchCall (I : Sr prog w sf chars σ) {pl : Sem Bool} {g : Heap} {L pg : Addr} {m : Str → Option Value} {S av : List (Addr × Obj)} {x : σ} {p : Int} {o : Expr} {apos pos : Pos} {args : List Expr} {Q : Value → Shared → Prop}
    (F : St g s.heap L m (S ++ av)) (hO : I.Ok g S s.heap x) (hV : I.V x) (hT : NoTup av) (hp : AttrAt g pg "search" sf) (hA : Rm A 12)
    (ho : ∀ {Q : Value → Shared → Prop} {E : Value → Shared → Prop}, Q (.ref pg) s → wpAny (model prog w) A (eval o env) Q E s)
    (hargs : ∀ (s₁ : Shared) {Q : List Value → Shared → Prop} {E : Value → Shared → Prop}, s₁.heap = s.heap → (∀ vs, (Args.mk vs [] = ⟨[chars], []⟩ ∧ p = 0 ∨ ∃ t, Args.mk vs [] = ⟨[chars, .int p t], []⟩) → Q vs s₁) → wpAny (model prog w) A (spliced (backTo pos (starEach args env))) Q E s₁)
    (h : ∀ h' tk S' v g', St g' h' L m (S' ++ av) → I.Ok g' S' h' (I.nxt x p).2 → Keep g g' → HitAt g' v (I.nxt x p).1 → Q v { s with heap := h', toks := tk })
    (hst : ∃ e r, starEach args env = (false, eval e env) :: r)
    (he : eval (.Call (.Attribute o "search" apos) args [] pos) env = (do
      let ov ← eval o env
      standAt apos.atName
      let (f, first) ← holding [ov] (getMethod ov "search" pl)
      callWith pos f first (backTo pos (starEach args env)) []) := by rfl) :
    wpAny (model prog w) A (eval (.Call (.Attribute o "search" apos) args [] pos) env) Q E s := by
  obtain ⟨ob, d, fd, mm, a1, a2, a3, a4, a5, a6⟩ := hp
  refine MethodCall_ (ho (fn_getMethod (F.keep _ _ a1) a2 a3 a4 look_search (a5.keeps F.keep) a6 fun tk => ?_)) he
  dsimp only
  obtain ⟨of, fdf, hf1, hf2⟩ := I.fn hO
  obtain ⟨oL, hAs, hNs⟩ := F.toAside hT
  have key := hargs { s with toks := tk } (Q := fun vs s₁ => (s₁.heap.get? sf = some of ∧ of.data = .func fdf) ∧ wpAny (model prog w) A (call (.ref sf) vs) Q E s₁) (E := E) rfl (fun vs hvs => ⟨⟨F.keep _ _ hf1, hf2⟩, ?_⟩)
  · obtain ⟨e, r, hst⟩ := hst
    have hb : backTo pos (starEach args env) = (false, eval e env) :: backTo pos r := by rw [hst]; rfl
    rw [hb] at key ⊢
    exact Calls.callWith_function (Calls.evalArgs_plain key)
  · refine wpAny_call (I.call hA hO hV hAs hvs fun h' tk' S' v g' hO' hA' k' hH => ?_)
    exact h h' tk' S' v g' (St.ofAside hNs (I.keep hO') (fun p hp => ⟨(I.mob hO' p hp).1, (I.mob hO' p hp).2.1⟩) hA') hO' k' hH
end
end Mine

end
section
namespace Mine
section
variable {prog : Program} {w : World} {A : Around} {R : Result → Shared → Prop} {s : Shared} {E : Value → Shared → Prop} {h₀ : Heap} {mg mb : Str → Option Value} {env : Env} {σ : Type} {sf : Addr} {chars : Value}

theorem hit_truthy {v : Value} {p : Option (Int × Int)} {Q : Bool → Shared → Prop} (hH : HitAt s.heap v p) (h : Q p.isSome s) : wpAny (model prog w) A (truthy v) Q E s := by
  cases p with
  | none => rw [show v = .none from hH]; exact truthy_none h
  | some p =>
    obtain ⟨hf, sp, rfl, ⟨o, d, fd, mm, a1, a2, _⟩, _⟩ := hH
    exact fn_truthy a1 a2 h

theorem sr_ok (I : Sr prog w sf chars σ) {f pg : Addr} {g : Heap} {S av : List (Addr × Obj)} {x : σ} {col : Int} {t : Tok} (G : Glb h₀ mg mb) (B : Keep h₀ g) (hf : FnIs h₀ f "search_reverse" 1) (hO : I.Ok g S s.heap x) (hV : I.V x)
    (hav : Aside g s.heap (S.map (·.1)) av) (hp : AttrAt g pg "search" sf) (hA : Rm A 14)
    (h : ∀ h' tk S' v g', I.Ok g' S' h' (srF I.nxt col x).2 → I.V (srF I.nxt col x).2 → Aside g' h' (S'.map (·.1)) av → Keep g g' → HitAt g' v (srF I.nxt col x).1 → R (.ok (.ret v)) { s with heap := h', toks := tk }) :
    codeAny (model prog w) A (.call (.ref f) ⟨[.ref pg, chars, .int col t], []⟩) R s := by
  have kg := I.keep hO
  refine callF (S ++ av) hA (hf.keeps (B.trans kg)) (G.nolimit.keeps (B.trans kg)) (binds := [("prog", .ref pg), ("chars", chars), ("col", .int col t)]) (fun _ _ _ => rfl) rfl (fun p hp => ?_) (by rw [List.map_append]; exact hav.2.2) ?_
  · rcases List.mem_append.mp hp with hp | hp
    · exact (I.mob hO p hp).1
    · exact (hav.1 p hp).1
  intro g₁ h₁ L cd F hg hgs hA'
  have k1 : Keep g g₁ := fun b o e => hg b o (fun hm => by
    obtain ⟨p, hp, rfl⟩ := List.mem_map.mp hm
    rcases List.mem_append.mp hp with hp | hp
    · rw [(I.mob hO p hp).2.1] at e; cases e
    · rw [(hav.1 p hp).2] at e; cases e) (kg _ _ e)
  have re : ∀ {g' h' : Heap} {m : Str → Option Value} {S' : List (Addr × Obj)} {y : σ} {g'' h'' : Heap}, I.Ok g'' S' h'' y → Keep g'' g' → St g' h' L m (S' ++ av) → I.Ok g' S' h' y := fun hO' kk FF =>
    I.stab hO' kk FF.keep fun p hp => ⟨(FF.mob p (List.mem_append_left _ hp)).1, (FF.mob p (List.mem_append_left _ hp)).2.2⟩
  have out : ∀ {g' h' : Heap} {m : Str → Option Value} {S' : List (Addr × Obj)}, St g' h' L m (S' ++ av) → Aside g' h' (S'.map (·.1)) av := fun FF => by
    obtain ⟨oL, hAs, _⟩ := FF.toAside hav.2.1
    refine ⟨fun p hp => hAs.1 p (.tail _ hp), hav.2.1, ?_⟩
    have nd := FF.nd
    rw [List.map_append] at nd
    exact nd
  have lim : ∀ {g' h' : Heap} {m : Str → Option Value} {mu : List (Addr × Obj)}, Keep g₁ g' → St g' h' L m mu → h'.NoLimit := fun kk FF => G.nolimit.keeps (B.trans (k1.trans (kk.trans FF.keep)))
  -- m = prog.search(chars)
  refine wpAny_execs_cons (wpAny_Assign_Name (srchCall I (p := 0) F (re hO k1 F) hV hav.2.1 (hp.keeps k1) (hA'.le (by omega)) (fun hq => F.ld rfl hq) (fun s₁ Q E es hq => by
    have F' := F
    rw [← show s₁.heap = h₁ from es] at F'
    exact args_cons (St.ld F' rfl (args_nil (hq _ (.inl ⟨rfl, rfl⟩))))) ?_ ⟨_, _, rfl⟩))
  intro h₂ tk₂ S₂ v₂ g₂ F₂ hO₂ k₂ hH₂
  refine St.st F₂ fun h₃ F₃ => ?_
  dsimp only
  have hVn := @Sr.Vn _ _ _ _ _ I
  have hV₂ := (hVn (p := 0) hV).1
  have hb₂ := (hVn (p := 0) hV).2
  generalize hn0 : I.nxt x 0 = r0 at hO₂ hH₂ hV₂ hb₂
  obtain ⟨r0, x0⟩ := r0
  -- if not m
  refine wpAny_execs_cons (wpAny_If (isTrue_not (isTrue_plain (St.ld F₃ rfl (hit_truthy (hH₂.keeps F₃.keep) ?_)))))
  have hsr : srF I.nxt col x = match (r0, x0) with | (none, x') => (none, x') | (some p, x') => srLoop I.nxt col ((col - p.1).toNat + 1) x' none p := by unfold srF; rw [hn0]; try rfl
  cases r0 with
  | none =>
    simp only [Option.isSome_none, Bool.not_false, if_true]
    refine wpAny_execs_cons (wpAny_Return_some (constNone ?_))
    dsimp only at hsr
    rw [hsr] at h
    exact h h₃ _ S₂ .none g₂ (re hO₂ (Keep.refl _) F₃) hV₂ (out F₃) (k1.trans k₂) rfl
  | some p0 =>
    simp only [Option.isSome_some, Bool.not_true, Bool.false_eq_true, if_false]
    refine wpAny_execs_nil ?_
    dsimp only at hsr
    -- found = None
    refine wpAny_execs_cons (wpAny_Assign_Name (constNone (St.st F₃ fun h₄ F₄ => ?_)))
    dsimp only
    -- i, j = m.span()
    refine wpAny_execs_cons (Assign_Tuple (spanCall (lim k₂ F₄) (hA'.le (by omega)) (hH₂.keeps F₄.keep) (fun hq => St.ld F₄ rfl hq) fun h₅ tk₅ T nT ta tb k₅ hTn hT => St.unpack2 (F₄.all k₅) hA'.handled hT fun h₆ tk₆ F₆ => ?_))
    dsimp only
    -- the loop
    refine wpAny_execs_cons (wpAny_While (codeAny_whileLoop (fun k s' => ∃ g' h' tk m S' y found vf vm i j t1 t2, s' = { s with heap := h', toks := tk } ∧ St g' h' L m (S' ++ av) ∧ Keep g₁ g' ∧ I.Ok g' S' h' y ∧ I.V y ∧
      m "prog" = some (.ref pg) ∧ m "chars" = some chars ∧ m "col" = some (.int col t) ∧ m "found" = some vf ∧ m "m" = some vm ∧ m "i" = some (.int i t1) ∧ m "j" = some (.int j t2) ∧ HitAt g' vf found ∧ HitAt g' vm (some (i, j)) ∧ i ≤ j ∧
      srLoop I.nxt col k y found (i, j) = srF I.nxt col x ∧ col - i < k) ?_ ((col - p0.1).toNat + 1)
      ⟨g₂, h₆, _, _, S₂, x0, none, .none, v₂, p0.1, p0.2, _, _, rfl, F₆, k₂, re hO₂ (Keep.refl _) F₆, hV₂, rfl, rfl, rfl, rfl, rfl, rfl, rfl, rfl, hH₂, (hb₂ p0 rfl).2, hsr.symm, by omega⟩))
    rintro k s' ⟨g', h', tk, m, S', y, found, vf, vm, i, j, t1, t2, rfl, F', kk, hO', hV', m1, m2, m3, m4, m5, m6, m7, hHf, hHm, hij, hgoal, hk⟩
    -- return found
    have fin : ∀ (g₈ h₈ : Heap) (tk₈ : Nat) (m₈ : Str → Option Value) (S₈ : List (Addr × Obj)) (v₈ : Value), St g₈ h₈ L m₈ (S₈ ++ av) → Keep g₁ g₈ → m₈ "found" = some v₈ → I.Ok g₈ S₈ h₈ (srF I.nxt col x).2 → I.V (srF I.nxt col x).2 → HitAt g₈ v₈ (srF I.nxt col x).1 →
        wpAny (model prog w) (A.deeper (envOf "search_reverse" (sScope (defAt 1)) L f cd)) (execs ((sBody (defAt 1)).drop 5) (envOf "search_reverse" (sScope (defAt 1)) L f cd)) (fun fl s' => R (.ok (.ret (match fl with | .ret v => v | _ => .none))) s') (fun _ _ => False) { s with heap := h₈, toks := tk₈ } := by
      intro g₈ h₈ tk₈ m₈ S₈ v₈ F₈ k₈ q1 hO₈ hV₈ hH₈
      refine wpAny_execs_cons (wpAny_Return_some (St.ld F₈ q1 ?_))
      exact h h₈ _ S₈ v₈ g₈ hO₈ hV₈ (out F₈) (k1.trans k₈) hH₈
    refine isTrue_and (wpAny_isTrue_Compare1 (St.ld F' m6 (St.ld F' m3 (lt_int (wpAny_truthy_bool ?_)))))
    by_cases hic : i < col
    · simp only [hic, decide_true, if_true]
      refine isTrue_and (wpAny_isTrue_Compare1 (St.ld F' m7 (St.ld F' m3 (le_int (wpAny_truthy_bool ?_)))))
      by_cases hjc : j ≤ col
      · simp only [hjc, decide_true, if_true]
        refine isTrue_and_nil ?_
        simp only [if_true]
        obtain ⟨k', rfl⟩ : ∃ k', k = k' + 1 := ⟨k - 1, by omega⟩
        rw [srLoop, if_pos ⟨hic, hjc⟩] at hgoal
        -- found = m
        refine wpAny_execs_cons (wpAny_Assign_Name (St.ld F' m5 (St.st F' fun h₇ F₇ => ?_)))
        dsimp only
        have next : ∀ (h₈ : Heap) (tk₈ : Nat) (m₈ : Str → Option Value) (t₈ : Tok), St g' h₈ L m₈ (S' ++ av) → m₈ "prog" = some (.ref pg) → m₈ "chars" = some chars → m₈ "col" = some (.int col t) → m₈ "found" = some vm → m₈ "j" = some (.int (if i = j then j + 1 else j) t₈) →
            wpAny (model prog w) (A.deeper (envOf "search_reverse" (sScope (defAt 1)) L f cd)) (execs (match sBody (defAt 1) with | [_, _, _, _, .While _ (_ :: _ :: r) _ _, _] => r | _ => []) (envOf "search_reverse" (sScope (defAt 1)) L f cd))
              (fun fl s₃ => match fl with
                | .next | .cont => ∃ k₉, k₉ < k' + 1 ∧ ∃ g' h' tk m S' y found vf vm i j t1 t2, s₃ = { s with heap := h', toks := tk } ∧ St g' h' L m (S' ++ av) ∧ Keep g₁ g' ∧ I.Ok g' S' h' y ∧ I.V y ∧
                  m "prog" = some (.ref pg) ∧ m "chars" = some chars ∧ m "col" = some (.int col t) ∧ m "found" = some vf ∧ m "m" = some vm ∧ m "i" = some (.int i t1) ∧ m "j" = some (.int j t2) ∧ HitAt g' vf found ∧ HitAt g' vm (some (i, j)) ∧ i ≤ j ∧
                  srLoop I.nxt col k₉ y found (i, j) = srF I.nxt col x ∧ col - i < k₉
                | .brk => ∃ g₈ h₈ tk₈ m₈ S₈ v₈, s₃ = { s with heap := h₈, toks := tk₈ } ∧ St g₈ h₈ L m₈ (S₈ ++ av) ∧ Keep g₁ g₈ ∧ m₈ "found" = some v₈ ∧ I.Ok g₈ S₈ h₈ (srF I.nxt col x).2 ∧ I.V (srF I.nxt col x).2 ∧ HitAt g₈ v₈ (srF I.nxt col x).1
                | _ => False) (fun _ _ => False) { s with heap := h₈, toks := tk₈ } := by
          intro h₈ tk₈ m₈ t₈ F₈ q1 q2 q3 q4 q5
          -- m = prog.search(chars, j)
          refine wpAny_execs_cons (wpAny_Assign_Name (srchCall I (p := if i = j then j + 1 else j) F₈ (re hO' (Keep.refl _) F₈) hV' hav.2.1 (hp.keeps (k1.trans kk)) (hA'.le (by omega)) (fun hq => St.ld F₈ q1 hq) (fun s₁ Q E es hq => by
            have F' := F₈
            rw [← show s₁.heap = h₈ from es] at F'
            exact args_cons (St.ld F' q2 (args_cons (St.ld F' q5 (args_nil (hq _ (.inr ⟨_, rfl⟩))))))) ?_ ⟨_, _, rfl⟩))
          intro h₉ tk₉ S₉ v₉ g₉ F₉ hO₉ k₉ hH₉
          refine St.st F₉ fun h₁₀ F₁₀ => ?_
          dsimp only
          have hV₉ := (hVn (p := if i = j then j + 1 else j) hV').1
          have hb₉ := (hVn (p := if i = j then j + 1 else j) hV').2
          generalize hn9 : I.nxt y (if i = j then j + 1 else j) = r9 at hO₉ hH₉ hV₉ hb₉ hgoal
          obtain ⟨r9, x9⟩ := r9
          -- if not m: break
          refine wpAny_execs_cons (wpAny_If (isTrue_not (isTrue_plain (St.ld F₁₀ rfl (hit_truthy (hH₉.keeps F₁₀.keep) ?_)))))
          cases r9 with
          | none =>
            simp only [Option.isSome_none, Bool.not_false, if_true]
            refine wpAny_execs_cons (wpAny_Break ?_)
            dsimp only at hgoal
            refine ⟨g₉, h₁₀, _, _, S₉, vm, rfl, F₁₀, kk.trans k₉, q4, ?_, ?_, ?_⟩
            · rw [← hgoal]; exact re hO₉ (Keep.refl _) F₁₀
            · rw [← hgoal]; exact hV₉
            · rw [← hgoal]; exact hHm.keeps k₉
          | some p9 =>
            simp only [Option.isSome_some, Bool.not_true, Bool.false_eq_true, if_false]
            refine wpAny_execs_nil ?_
            dsimp only at hgoal
            -- i, j = m.span()
            refine wpAny_execs_cons (Assign_Tuple (spanCall (lim (kk.trans k₉) F₁₀) (hA'.le (by omega)) (hH₉.keeps F₁₀.keep) (fun hq => St.ld F₁₀ rfl hq) fun h₁₁ tk₁₁ T nT ta tb k₁₁ hTn hT => St.unpack2 (F₁₀.all k₁₁) hA'.handled hT fun h₁₂ tk₁₂ F₁₂ => ?_))
            dsimp only
            have hb := hb₉ p9 rfl
            refine wpAny_execs_nil ⟨k', by omega, g₉, h₁₂, _, _, S₉, x9, some (i, j), vm, v₉, p9.1, p9.2, _, _, rfl, F₁₂, kk.trans k₉, re hO₉ (Keep.refl _) F₁₂, hV₉, q1, q2, q3, q4, rfl, rfl, rfl, hHm.keeps k₉, hH₉, hb.2, hgoal, ?_⟩
            have := hb.1
            split at this <;> omega
        -- if i == j: j = j + 1
        refine wpAny_execs_cons (wpAny_If (wpAny_isTrue_Compare1 (St.ld F₇ m6 (St.ld F₇ m7 (eq_int (wpAny_truthy_bool ?_))))))
        by_cases hij2 : i = j
        · have : (i == j) = true := by simpa using hij2
          simp only [this, if_true]
          refine wpAny_execs_cons (wpAny_Assign_Name (wpAny_BinOp (St.ld F₇ m7 (wpAny_Constant_int (add_int (St.st F₇ fun h₈ F₈ => ?_))))))
          dsimp only
          refine wpAny_execs_nil ?_
          refine wpAny_mono (next h₈ _ _ _ F₈ m1 m2 m3 rfl (by rw [if_pos hij2]; rfl)) (fun fl s₃ hq => ?_) fun _ _ e => e.elim
          cases fl with
          | next => exact hq
          | cont => exact hq
          | brk =>
            obtain ⟨g₈, h₈, tk₈, m₈, S₈, v₈, rfl, F₈, kx, q1, q2, q3, q4⟩ := hq
            exact fin g₈ h₈ tk₈ m₈ S₈ v₈ F₈ kx q1 q2 q3 q4
          | ret v => exact hq.elim
        · have : (i == j) = false := by simpa using hij2
          simp only [this, Bool.false_eq_true, if_false]
          refine wpAny_execs_nil ?_
          refine wpAny_mono (next h₇ _ _ _ F₇ m1 m2 m3 rfl (by rw [if_neg hij2]; exact m7)) (fun fl s₃ hq => ?_) fun _ _ e => e.elim
          cases fl with
          | next => exact hq
          | cont => exact hq
          | brk =>
            obtain ⟨g₈, h₈, tk₈, m₈, S₈, v₈, rfl, F₈, kx, q1, q2, q3, q4⟩ := hq
            exact fin g₈ h₈ tk₈ m₈ S₈ v₈ F₈ kx q1 q2 q3 q4
          | ret v => exact hq.elim
      · simp only [hjc, decide_false, Bool.false_eq_true, if_false]
        refine wpAny_execs_nil ?_
        dsimp only
        have e : srLoop I.nxt col k y found (i, j) = (found, y) := by
          cases k with
          | zero => rfl
          | succ k => rw [srLoop, if_neg (fun q => hjc q.2)]
        rw [e] at hgoal
        exact fin g' h' _ m S' vf F' kk m4 (by rw [← hgoal]; exact hO') (by rw [← hgoal]; exact hV') (by rw [← hgoal]; exact hHf)
    · simp only [hic, decide_false, Bool.false_eq_true, if_false]
      refine wpAny_execs_nil ?_
      dsimp only
      have e : srLoop I.nxt col k y found (i, j) = (found, y) := by
        cases k with
        | zero => rfl
        | succ k => rw [srLoop, if_neg (fun q => hic q.1)]
      rw [e] at hgoal
      exact fin g' h' _ m S' vf F' kk m4 (by rw [← hgoal]; exact hO') (by rw [← hgoal]; exact hV') (by rw [← hgoal]; exact hHf)
end
end Mine

end
section
namespace Mine
theorem popW_spec (place : Int) : ∀ (k : Nat) (xs : List (Int × Int)), xs.length = k → (∀ y ∈ popW place xs, y ∈ xs) ∧ (popW place xs).length ≤ xs.length ∧ ∀ y, (popW place xs).head? = some y → ¬ y.2 < place := by
  intro k
  induction k using Nat.strongRecOn with
  | _ k ih =>
    intro xs hk
    rw [popW]
    by_cases h : xs = []
    · subst h; simp
    · simp only [h, dite_false]
      by_cases hc : (xs.headD (0, 0)).2 < place
      · simp only [hc, if_true]
        have hl := hpop_length plt xs h
        obtain ⟨a, b, c⟩ := ih (hpop plt xs h).2.length (by omega) _ rfl
        exact ⟨fun y hy => (hpop_mem plt xs h).2 y (a y hy), by omega, c⟩
      · simp only [hc, if_false]
        refine ⟨fun y hy => hy, Nat.le_refl _, fun y hy => ?_⟩
        cases xs with
        | nil => exact absurd rfl h
        | cons z zs => simp at hy; subst hy; simpa using hc
def Val (ys : List (Int × Int)) : Prop := (∀ p ∈ ys, p.2 ≤ p.1) ∧ ys.length < 2 ^ 16
theorem hify_mem {β : Type} (lt : β → β → Bool) {q : β} : ∀ (k : Nat) (l : List β), q ∈ hify lt l k → q ∈ l
  | 0, _, h => h
  | k + 1, _, h => siftup_mem _ (hify_mem lt k _ h)
theorem srchY_val {xs ys : List (Int × Int)} {p : Int} (hx : Val (xs.map Prod.swap)) (hy : Val ys) : Val (srchY xs ys p) ∧ ∀ r, (srchY xs ys p).head?.map Prod.swap = some r → p ≤ r.1 ∧ r.1 ≤ r.2 := by
  unfold srchY
  have hB : Val (if p = 0 then heapifyF plt (xs.map Prod.swap) else ys) := by
    split
    · refine ⟨fun q hq => hx.1 q (hify_mem plt _ _ hq), ?_⟩
      unfold heapifyF; rw [hify_length]; exact hx.2
    · exact hy
  obtain ⟨a, b, c⟩ := popW_spec p _ _ (rfl : (if p = 0 then heapifyF plt (xs.map Prod.swap) else ys).length = _)
  refine ⟨⟨fun q hq => hB.1 q (a q hq), Nat.lt_of_le_of_lt b hB.2⟩, fun r hr => ?_⟩
  rcases hh : (popW p (if p = 0 then heapifyF plt (xs.map Prod.swap) else ys)).head? with _ | y
  · rw [hh] at hr; cases hr
  · rw [hh] at hr
    simp only [Option.map_some, Option.some.injEq] at hr
    subst hr
    have h1 := c y hh
    have h2 := hB.1 y (a y (List.mem_of_mem_head? hh))
    exact ⟨by show p ≤ y.2; omega, h2⟩

section
variable {prog : Program} {w : World} {h₀ : Heap} {mg mb : Str → Option Value}
def sr1 (prog : Program) (w : World) {h₀ : Heap} {mg mb : Str → Option Value} (G : Glb h₀ mg mb) (sf b kl P' : Addr) (q : Str) (xs : List (Int × Int)) (hx : Val (xs.map Prod.swap)) (chars : Value) : Sr prog w sf chars (List (Int × Int)) where
  Ok := fun g S h ys => ∃ hl n1 us n2 ps, S = [(kl, lst [.ref hl] n1), (hl, lst us n2), (P', tabObj ps)] ∧ (∃ vs n, Keep g h ∧ Keep h₀ g ∧ SearchAt g sf b kl P' q ∧ g.get? b = some (lst vs n) ∧ Items prKd g vs xs ∧ g.get? kl = none ∧ g.get? hl = none ∧ g.get? P' = none ∧ [kl, hl, P'].Nodup ∧
    h.get? kl = some (lst [.ref hl] n1) ∧ h.get? hl = some (lst us n2) ∧ Items prKd g us ys ∧ h.get? P' = some (tabObj ps) ∧ TabOk g q ps)
  V := Val
  nxt := fun ys p => ((srchY xs ys p).head?.map Prod.swap, srchY xs ys p)
  keep := fun ⟨_, _, _, _, _, _, _, _, k, _⟩ => k
  mob := by
    rintro g S h x ⟨hl, n1, us, n2, ps, rfl, vs, n, a1, a2, a3, a4, a5, a6, a7, a8, a9, a10, a11, a12, a13, a14⟩ p hp
    simp only [List.mem_cons, List.not_mem_nil, or_false] at hp
    rcases hp with rfl | rfl | rfl
    · exact ⟨a10, a6, fun _ _ e => by simp at e⟩
    · exact ⟨a11, a7, fun _ _ e => by simp at e⟩
    · exact ⟨a13, a8, fun _ _ e => by simp at e⟩
  stab := by
    rintro g S h x g' h' ⟨hl, n1, us, n2, ps, rfl, vs, n, a1, a2, a3, a4, a5, a6, a7, a8, a9, a10, a11, a12, a13, a14⟩ k1 k2 hS
    have s1 := hS (kl, lst [.ref hl] n1) (by simp)
    have s2 := hS (hl, lst us n2) (by simp)
    have s3 := hS (P', tabObj ps) (by simp)
    exact ⟨hl, n1, us, n2, ps, rfl, vs, n, k2, a2.trans k1, a3.keeps k1, k1 _ _ a4, a5.stab k1.t, s1.2, s2.2, s3.2, a9, s1.1, s2.1, a12.stab k1.t, s3.1, a14.keeps k1⟩
  fn := by
    rintro g S h x ⟨hl, n1, us, n2, ps, rfl, vs, n, a1, a2, ⟨T₀, t₀, n₀, cS, cK, c', doc, pm, ctv, h1, _⟩, _⟩
    exact ⟨_, _, h1, rfl⟩
  Vn := fun {x p} hV => srchY_val hx hV
  call := by
    rintro A R s g S x av p args hA ⟨hl, n1, us, n2, ps, rfl, vs, n, hrest⟩ hV hav hargs h
    refine search_core (p := p) (chars := chars) G ⟨n1, us, n2, ps, vs, n, hrest⟩ hav (by simpa using hx.2) hV.2 hA ?_ ?_
    · intro T₀ t₀ n₀ cS cK c' doc pm ctv hT
      rcases hargs with ⟨rfl, rfl⟩ | ⟨t, rfl⟩
      · exact ⟨t₀, BindsTo.of_defaults rfl hT rfl rfl rfl⟩
      · exact ⟨t, BindsTo.of_defaults rfl hT rfl rfl rfl⟩
    · intro h' tk hl' v g' _ hW hA' kk _ hH
      obtain ⟨n1', us', n2', ps', vs', n', hr⟩ := hW
      exact h h' tk _ v g' ⟨hl', n1', us', n2', ps', rfl, vs', n', hr⟩ hA' kk hH
end
end Mine

end
section
namespace Mine
/-! ### The sort's tree, by an integer key -/
def TSpec (N : Nat) (key : Nat → Int) {α : Type} : KasT α → (α → Prop) → Prop
  | .ret a, P => P a
  | .ask i j k, P => i < N ∧ j < N ∧ TSpec N key (k (decide (key i < key j))) P
theorem TSpec.mono {N : Nat} {key : Nat → Int} {α : Type} {P P' : α → Prop} (hp : ∀ a, P a → P' a) : ∀ {t : KasT α}, TSpec N key t P → TSpec N key t P'
  | .ret _, h => hp _ h
  | .ask _ _ _, h => ⟨h.1, h.2.1, TSpec.mono hp h.2.2⟩
theorem TSpec.bind {N : Nat} {key : Nat → Int} {α β : Type} {f : α → KasT β} {P : β → Prop} : ∀ {t : KasT α}, TSpec N key t (fun a => TSpec N key (f a) P) → TSpec N key (t.bind f) P
  | .ret _, h => h
  | .ask _ _ k, h => ⟨h.1, h.2.1, TSpec.bind (t := k _) h.2.2⟩
theorem TSpec.wp {N : Nat} {key : Nat → Int} {α : Type} {P : α → Prop} {cmp : Nat → Nat → (Bool → Shared → Prop) → Shared → Prop} {Q : α → Shared → Prop} {s : Shared}
    (hc : ∀ i j C, i < N → j < N → C (decide (key i < key j)) s → cmp i j C s) (hq : ∀ a, P a → Q a s) : ∀ {t : KasT α}, TSpec N key t P → t.kasWp cmp Q s
  | .ret _, h => hq _ h
  | .ask _ _ _, h => hc _ _ _ h.1 h.2.1 (TSpec.wp hc hq h.2.2)

section
variable {N : Nat} {key : Nat → Int}
/-- a rearrangement of the first N numbers -/
def PermN (N : Nat) (p : Array Nat) : Prop := p.toList.Perm (List.range N)
theorem PermN.size {p : Array Nat} (h : PermN N p) : p.size = N := by have := h.length_eq; simpa using this
theorem PermN.lt {p : Array Nat} (h : PermN N p) (hN : 0 < N) (i : Nat) : p.getD i 0 < N := by
  by_cases hi : i < p.size
  · have e : p.getD i 0 = p[i] := by simp [Array.getD, hi]
    rw [e]
    have : p[i] ∈ p.toList := by simp
    simpa using h.mem_iff.mp this
  · have e : p.getD i 0 = 0 := by simp [Array.getD, hi]
    omega
theorem PermN.of {p q : Array Nat} (h : PermN N p) (hq : q.Perm p) : PermN N q := (Array.perm_iff_toList_perm.mp hq).trans h
def KY (key : Nat → Int) (p : Array Nat) (i : Nat) : Int := key (p.getD i 0)
theorem KY_congr {p q : Array Nat} {i j : Nat} (h : p[i]? = q[j]?) : KY key p i = KY key q j := by
  unfold KY
  rw [Array.getD_eq_getD_getElem?, Array.getD_eq_getD_getElem?, h]
def SoTo (key : Nat → Int) (p : Array Nat) (k : Nat) : Prop := ∀ i j, i ≤ j → j < k → KY key p i ≤ KY key p j
def NiTo (key : Nat → Int) (p : Array Nat) (k : Nat) : Prop := ∀ i j, i ≤ j → j < k → KY key p j ≤ KY key p i
theorem KY_rev {p : Array Nat} {i j : Nat} (hj : j ≤ p.size) (k : Nat) : KY key (kas_rev p i j) k = if i ≤ k ∧ k < j then KY key p (i + j - 1 - k) else KY key p k := by
  have e := getElem?_mirror_all (xs := p) (i := i) hj k
  split
  · next h => rw [if_pos h] at e; exact KY_congr e
  · next h => rw [if_neg h] at e; exact KY_congr e
theorem PermN.rev {p : Array Nat} (h : PermN N p) (i j : Nat) : PermN N (kas_rev p i j) := h.of (mirror_perm _ _ _ _)

theorem asc_spec (hN : 0 < N) {p : Array Nat} (hp : PermN N p) : ∀ (f n : Nat), 1 ≤ n → SoTo key p n → TSpec N key (kas_asc p f n) fun m => n ≤ m ∧ m ≤ n + f ∧ SoTo key p m ∧ (m = n + f ∨ KY key p m < KY key p (m - 1))
  | 0, n, _, h => ⟨Nat.le_refl _, Nat.le_refl _, h, .inl rfl⟩
  | f + 1, n, h1, h => by
    refine ⟨hp.lt hN _, hp.lt hN _, ?_⟩
    by_cases hc : key (p.getD n 0) < key (p.getD (n - 1) 0)
    · simp only [hc, decide_true, if_true]
      exact ⟨Nat.le_refl _, by omega, h, .inr hc⟩
    · simp only [hc, decide_false, Bool.false_eq_true, if_false]
      refine TSpec.mono (fun m hm => ⟨by omega, by omega, hm.2.2.1, ?_⟩) (asc_spec hN hp f (n + 1) (by omega) ?_)
      · rcases hm.2.2.2 with h | h
        · exact .inl (by omega)
        · exact .inr h
      · intro i j hij hj
        by_cases hjn : j < n
        · exact h i j hij hjn
        · have hjn : j = n := by omega
          subst hjn
          by_cases hi : i = j
          · subst hi; exact Int.le_refl _
          · have := h i (j - 1) (by omega) (by omega)
            unfold KY at this ⊢
            omega

theorem desc_spec (hN : 0 < N) : ∀ (f : Nat) (p : Array Nat) (n q : Nat), PermN N p → n + f ≤ N → NiTo key p n → q + 1 ≤ n → (∀ i, n - (q + 1) ≤ i → i < n → KY key p i = KY key p (n - 1)) →
    TSpec N key (kas_desc f p n q) fun r => PermN N r.1 ∧ n ≤ r.2.1 ∧ r.2.1 ≤ n + f ∧ NiTo key r.1 r.2.1 ∧ r.2.2 + 1 ≤ r.2.1 ∧ ∀ i, r.2.1 - (r.2.2 + 1) ≤ i → i < r.2.1 → KY key r.1 i = KY key r.1 (r.2.1 - 1)
  | 0, p, n, q, hp, _, h, hq, he => ⟨hp, Nat.le_refl _, Nat.le_refl _, h, hq, he⟩
  | f + 1, p, n, q, hp, hn, h, hq, he => by
    refine ⟨hp.lt hN _, hp.lt hN _, ?_⟩
    have hsz := hp.size
    by_cases hc : key (p.getD n 0) < key (p.getD (n - 1) 0)
    · simp only [hc, decide_true, if_true]
      have hc' : KY key p n < KY key p (n - 1) := hc
      have step1 : ∀ xs : Array Nat, (∀ k, KY key xs k = KY key p k) → NiTo key xs (n + 1) := by
        intro xs hk i j hij hj
        rw [hk, hk]
        by_cases hjx : j < n
        · exact h i j hij hjx
        · have hj' : j = n := by omega
          subst hj'
          by_cases hi' : i = j
          · subst hi'; exact Int.le_refl _
          · have := h i (j - 1) (by omega) (by omega)
            omega
      by_cases hq0 : q > 0
      · rw [if_pos hq0]
        refine TSpec.mono (fun r hr => ⟨hr.1, by omega, by omega, hr.2.2.2⟩) (desc_spec hN f _ (n + 1) 0 (hp.rev _ _) (by omega) (step1 _ fun k => ?_) (by omega) (fun i h1 h2 => by congr 1; omega))
        rw [KY_rev (by omega)]
        split
        · next hk => rw [he _ (by omega) (by omega), he k (by omega) (by omega)]
        · rfl
      · rw [if_neg hq0]
        exact TSpec.mono (fun r hr => ⟨hr.1, by omega, by omega, hr.2.2.2⟩) (desc_spec hN f _ (n + 1) 0 hp (by omega) (step1 _ fun _ => rfl) (by omega) (fun i h1 h2 => by congr 1; omega))
    · simp only [hc, decide_false, Bool.false_eq_true, if_false]
      refine ⟨hp.lt hN _, hp.lt hN _, ?_⟩
      by_cases hd : key (p.getD (n - 1) 0) < key (p.getD n 0)
      · simp only [hd, decide_true, if_true]
        exact ⟨hp, Nat.le_refl _, by show n ≤ n + (f + 1); omega, h, hq, he⟩
      · simp only [hd, decide_false, Bool.false_eq_true, if_false]
        have heq : KY key p n = KY key p (n - 1) := by unfold KY; omega
        refine TSpec.mono (fun r hr => ⟨hr.1, by omega, by omega, hr.2.2.2⟩) (desc_spec hN f p (n + 1) (q + 1) hp (by omega) (fun i j hij hj => ?_) (by omega) (fun i h1 h2 => ?_))
        · by_cases hjx : j < n
          · exact h i j hij hjx
          · have hj' : j = n := by omega
            subst hj'
            by_cases hi' : i = j
            · subst hi'; exact Int.le_refl _
            · rw [heq]; exact h i (j - 1) (by omega) (by omega)
        · rw [show n + 1 - 1 = n by omega]
          by_cases hix : i = n
          · subst hix; rfl
          · rw [heq]; exact he i (by omega) (by omega)

theorem tail3_spec (hN : 0 < N) {p : Array Nat} {n nrem : Nat} (hp : PermN N p) (h1 : 1 ≤ n) (hn : n ≤ nrem) (hr : nrem ≤ N) (h : NiTo key p n) :
    TSpec N key (kas_tail3 n nrem p) fun r => PermN N r.2 ∧ 1 ≤ r.1 ∧ r.1 ≤ nrem ∧ SoTo key r.2 r.1 := by
  have hsz := hp.size
  refine TSpec.bind (TSpec.mono (fun m hm => ?_) (asc_spec hN (hp.rev 0 n) (nrem - n) n h1 fun i j hij hj => ?_))
  · exact ⟨hp.rev _ _, by show 1 ≤ m; omega, by show m ≤ nrem; omega, hm.2.2.1⟩
  · rw [KY_rev (by omega), KY_rev (by omega), if_pos (by omega), if_pos (by omega)]
    exact h _ _ (by omega) (by omega)
theorem descPart_spec (hN : 0 < N) {p : Array Nat} {n nrem : Nat} (hp : PermN N p) (hn : n + 1 ≤ nrem) (hr : nrem ≤ N) (h : NiTo key p (n + 1)) :
    TSpec N key (kas_descPart n nrem p) fun r => PermN N r.2 ∧ 1 ≤ r.1 ∧ r.1 ≤ nrem ∧ SoTo key r.2 r.1 := by
  refine TSpec.bind (TSpec.mono (fun r hq => ?_) (desc_spec hN _ p (n + 1) 0 hp (by omega) h (by omega) (fun i h1 h2 => by congr 1; omega)))
  obtain ⟨a1, a2, a3, a4, a5, a6⟩ := hq
  have hsz := a1.size
  split
  · refine tail3_spec hN (a1.rev _ _) (by omega) (by omega) hr fun i j hij hj => ?_
    have hk : ∀ k, KY key (kas_rev r.1 (r.2.1 - (r.2.2 + 1)) r.2.1) k = KY key r.1 k := fun k => by
      rw [KY_rev (by omega)]
      split
      · next hk => rw [a6 _ (by omega) (by omega), a6 k (by omega) (by omega)]
      · rfl
    rw [hk, hk]
    exact a4 i j hij hj
  · exact tail3_spec hN a1 (by omega) (by omega) hr a4
theorem count_spec (hN : 0 < N) {p : Array Nat} (hp : PermN N p) : TSpec N key (kas_count N p) fun r => PermN N r.2 ∧ 1 ≤ r.1 ∧ r.1 ≤ N ∧ SoTo key r.2 r.1 := by
  have hsz := hp.size
  refine TSpec.bind (TSpec.mono (fun n hn => ?_) (asc_spec hN hp (N - 1) 1 (by omega) fun i j hij hj => ?_))
  · obtain ⟨a1, a2, a3, a4⟩ := hn
    by_cases hc : (n == N) = true
    · rw [if_pos hc]
      exact ⟨hp, a1, by show n ≤ N; omega, a3⟩
    · rw [if_neg hc]
      have hne : n ≠ N := by simpa using hc
      have hlt : KY key p n < KY key p (n - 1) := a4.resolve_left (by omega)
      by_cases hn1 : n > 1
      · rw [if_pos hn1]
        refine ⟨hp.lt hN _, hp.lt hN _, ?_⟩
        by_cases hd : key (p.getD 0 0) < key (p.getD (n - 1) 0)
        · simp only [hd, decide_true, if_true]
          exact ⟨hp, a1, by show n ≤ N; omega, a3⟩
        · simp only [hd, decide_false, Bool.false_eq_true, if_false]
          have hd' : ¬ KY key p 0 < KY key p (n - 1) := hd
          have heq : ∀ i, i < n → KY key p i = KY key p (n - 1) := fun i hi => by
            have h1 := a3 0 i (by omega) hi
            have h2 := a3 i (n - 1) (by omega) (by omega)
            omega
          have hk : ∀ k, KY key (kas_rev p 0 n) k = KY key p k := fun k => by
            rw [KY_rev (by omega)]
            split
            · next hk => rw [heq _ (by omega), heq k (by omega)]
            · rfl
          refine descPart_spec hN (hp.rev _ _) (by omega) (Nat.le_refl _) fun i j hij hj => ?_
          rw [hk, hk]
          by_cases hjn : j < n
          · rw [heq i (by omega), heq j hjn]; exact Int.le_refl _
          · have : j = n := by omega
            subst this
            by_cases hi : i = j
            · subst hi; exact Int.le_refl _
            · rw [heq i (by omega)]; omega
      · rw [if_neg hn1]
        have : n = 1 := by omega
        subst this
        refine descPart_spec hN hp (by omega) (Nat.le_refl _) fun i j hij hj => ?_
        by_cases hi : i = j
        · subst hi; exact Int.le_refl _
        · have h0 : i = 0 := by omega
          have h1 : j = 1 := by omega
          subst h0; subst h1
          exact Int.le_of_lt hlt
  · have : i = j := by omega
    subst this; exact Int.le_refl _
theorem place_spec (hN : 0 < N) {p : Array Nat} (hp : PermN N p) {k : Nat} (hs : SoTo key p k) : ∀ (f l r : Nat), l ≤ r → r ≤ k → r - l ≤ f → (∀ i, i < l → KY key p i ≤ KY key p k) → (∀ i, r ≤ i → i < k → KY key p k < KY key p i) →
    TSpec N key (kas_place p k f l r) fun m => m ≤ k ∧ (∀ i, i < m → KY key p i ≤ KY key p k) ∧ (∀ i, m ≤ i → i < k → KY key p k < KY key p i)
  | 0, l, r, h1, h2, h3, h4, h5 => ⟨by omega, h4, fun i hi => h5 i (by omega)⟩
  | f + 1, l, r, h1, h2, h3, h4, h5 => by
    unfold kas_place
    by_cases hc : l ≥ r
    · rw [if_pos hc]
      exact ⟨by omega, h4, fun i hi => h5 i (by omega)⟩
    · rw [if_neg hc]
      refine ⟨hp.lt hN _, hp.lt hN _, ?_⟩
      by_cases hd : key (p.getD k 0) < key (p.getD ((l + r) / 2) 0)
      · simp only [hd, decide_true, if_true]
        have hd' : KY key p k < KY key p ((l + r) / 2) := hd
        refine place_spec hN hp hs f l ((l + r) / 2) (by omega) (by omega) (by omega) h4 fun i hi hik => ?_
        have := hs ((l + r) / 2) i hi hik
        omega
      · simp only [hd, decide_false, Bool.false_eq_true, if_false]
        have hd' : ¬ KY key p k < KY key p ((l + r) / 2) := hd
        refine place_spec hN hp hs f ((l + r) / 2 + 1) r (by omega) h2 (by omega) (fun i hi => ?_) h5
        have := hs i ((l + r) / 2) (by omega) (by omega)
        omega
theorem bin_spec (hN : 0 < N) : ∀ (f : Nat) (p : Array Nat) (k : Nat), PermN N p → k + f = N → SoTo key p k → TSpec N key (kas_bin f p k) fun r => PermN N r ∧ SoTo key r N
  | 0, p, k, hp, hk, hs => ⟨hp, by rw [← hk]; exact hs⟩
  | f + 1, p, k, hp, hk, hs => by
    have hsz := hp.size
    refine TSpec.bind (TSpec.mono (fun l hl => ?_) (place_spec hN hp hs k 0 k (by omega) (Nat.le_refl _) (by omega) (fun i hi => by omega) (fun i h1 h2 => by omega)))
    obtain ⟨a1, a2, a3⟩ := hl
    have hb : ∀ i, KY key (bubble p k (k - l)) i = if i = l then KY key p k else if l < i ∧ i ≤ k then KY key p (i - 1) else KY key p i := fun i => by
      have e := getElem?_bubble (xs := p) (src := k) (by omega) (k - l) (by omega) i
      rw [show k - (k - l) = l by omega] at e
      split
      · next h => rw [if_pos h] at e; exact KY_congr e
      · next h =>
        rw [if_neg h] at e
        split
        · next h2 => rw [if_pos h2] at e; exact KY_congr e
        · next h2 => rw [if_neg h2] at e; exact KY_congr e
    refine bin_spec hN f _ (k + 1) (hp.of (bubble_perm _ _ _)) (by omega) fun i j hij hj => ?_
    rw [hb, hb]
    have c1 := fun i j h1 h2 => hs i j h1 h2
    by_cases e : i = j
    · subst e; exact Int.le_refl _
    · by_cases e1 : i = l
      · rw [if_pos e1, if_neg (by omega), if_pos (by omega)]
        have := a3 (j - 1) (by omega) (by omega)
        omega
      · rw [if_neg e1]
        by_cases e2 : j = l
        · rw [if_pos e2, if_neg (by omega)]
          exact a2 i (by omega)
        · rw [if_neg e2]
          by_cases e3 : l < i
          · rw [if_pos (by omega), if_pos (by omega)]
            exact hs _ _ (by omega) (by omega)
          · rw [if_neg (by omega)]
            split
            · exact hs _ _ (by omega) (by omega)
            · exact hs _ _ (by omega) (by omega)
theorem sort_spec (hN : 0 < N) : TSpec N key (kas_sort N) fun r => PermN N r ∧ SoTo key r N := by
  have hp : PermN N (List.toArray (List.range N)) := by unfold PermN; simp
  refine TSpec.bind (TSpec.mono (fun r hr => ?_) (count_spec hN hp))
  obtain ⟨a1, a2, a3, a4⟩ := hr
  split
  · rw [show max r.1 1 = r.1 by omega]
    exact bin_spec hN _ _ _ a1 (by omega) a4
  · exact ⟨a1, by rw [show N = r.1 by omega]; exact a4⟩
end
end Mine

end
section
namespace Mine
/-! ### sorted, of pairs -/
def pkey (p : Int × Int) : Int := p.1 * 1000 + p.2
def Small (xs : List (Int × Int)) : Prop := ∀ p ∈ xs, 0 ≤ p.2 ∧ p.2 < 1000
theorem plt_key {p q : Int × Int} (hp : 0 ≤ p.2 ∧ p.2 < 1000) (hq : 0 ≤ q.2 ∧ q.2 < 1000) : plt p q = decide (pkey p < pkey q) := by
  unfold plt pkey
  by_cases h1 : p.1 = q.1
  · have : (p.1 == q.1) = true := by simpa using h1
    simp only [this, if_true]
    by_cases h2 : p.2 = q.2
    · have : (p.2 == q.2) = true := by simpa using h2
      simp only [this, if_true]
      rw [eq_comm, decide_eq_false_iff_not]; omega
    · have : (p.2 == q.2) = false := by simpa using h2
      simp only [this, Bool.false_eq_true, if_false]
      rw [decide_eq_decide]; omega
  · have : (p.1 == q.1) = false := by simpa using h1
    simp only [this, Bool.false_eq_true, if_false]
    rw [decide_eq_decide]; omega
theorem map_getD {α : Type} (d : α) (l : List α) : (List.range l.length).map (fun i => l.getD i d) = l := by
  apply List.ext_getElem
  · simp
  · intro i h1 h2
    simp at h1 ⊢
    simp [h2]
section
variable {prog : Program} {w : World} {A : Around} {E : Value → Shared → Prop} {s : Shared}
theorem katTups_of {h : Heap} : ∀ (ps : List (Value × (Int × Int))), prKd.All h ps → ∃ fs, KatTups h (ps.map (·.1)) fs ∧ fs.length = ps.length ∧ ∀ v ∈ fs, ∃ (i : Int) (t : Tok), v = .int i t
  | [], _ => ⟨[], trivial, rfl, fun _ h => nomatch h⟩
  | p :: r, hp => by
    obtain ⟨fs, h1, h2, h3⟩ := katTups_of r fun q hq => hp q (.tail _ hq)
    obtain ⟨a, n, t, u, e, ho⟩ := hp p (.head _)
    refine ⟨.int p.2.1 t :: fs, ?_, by simp [h2], fun v hv => ?_⟩
    · rw [List.map_cons, e]
      exact KatTups.cons ho rfl rfl rfl h1
    · rcases List.mem_cons.mp hv with rfl | hv
      · exact ⟨_, _, rfl⟩
      · exact h3 v hv
theorem looks_int {M : Model} {h : Heap} {i : Int} {t : Tok} : Looks M h (typeOf (.int i t)) (.type "int") := .now
theorem pair_keyLt {u v : Value} {p q : Int × Int} {Q : Bool → Shared → Prop} (hu : prKd.R s.heap u p) (hv : prKd.R s.heap v q) (h : Q (plt p q) s) : wpAny (model prog w) A (keyLt' (tuples' true) u v) Q E s := by
  obtain ⟨a, n, t, u, rfl, ha⟩ := hu
  obtain ⟨b, n', t', u', rfl, hb⟩ := hv
  refine kat_lt ha rfl hb rfl ?_
  refine kat_cons (wpAny_eqBool_int ?_)
  unfold plt at h
  cases e1 : p.1 == q.1 with
  | false =>
    rw [e1] at h
    exact kat_no (oneLt_int h)
  | true =>
    rw [e1] at h
    refine kat_yes (kat_cons (wpAny_eqBool_int ?_))
    cases e2 : p.2 == q.2 with
    | false =>
      rw [e2] at h
      exact kat_no (kat_one _ _ (lt_int h))
    | true =>
      rw [e2] at h
      exact kat_yes (kat_nil h)

/-- what sorted gives -/
def SortOut (ps : List (Value × (Int × Int))) (out : Array Value) : Prop := ∃ ps' : List (Value × (Int × Int)), out = (ps'.map (·.1)).toArray ∧ ps'.Perm ps ∧ (ps'.map (·.2)).Pairwise fun x y => pkey x ≤ pkey y
theorem pairs_sort_tree {a : Addr} {ps : List (Value × (Int × Int))} {n : Nat} {P : PySem.Fin → Shared → Prop} (ho : s.heap.get? a = some (seqObj "list" (ps.map (·.1)).toArray n)) (hR : prKd.All s.heap ps) (hS : Small (ps.map (·.2))) (h64 : ps.length < 64)
    (h : ∀ out, SortOut ps out → P (.done (.ret .none)) { s with heap := sortedHeap s.heap a (ps.map (·.1)) out }) :
    wpAny (model prog w) A (Builtin.«list.sort» ⟨[.ref a], []⟩) P E s := by
  rw [list_sort_plain]
  generalize hvs : ps.map (·.1) = vs at ho h
  have hvl : vs.length = ps.length := by rw [← hvs]; simp
  have ha : a < s.heap.objs.size := Heap.lt_size ho
  refine wpAny_bind (listItems_at ho rfl ?_)
  refine wpAny_bind (listUpdate_at ho rfl ?_ (by rw [List.size_toArray, sizeLine_eq]; omega) (Nat.zero_le _))
  obtain ⟨e1, ho1⟩ : ∃ e1, (s.heap.update a (Obj.mapSeq fun _ => #[])).get? a = some (seqObj "list" #[] e1) := ⟨_, get?_update_seq ho (fun _ => #[])⟩
  refine wpAny_bind (seqEpoch_at ho1 rfl ?_)
  refine wpAny_bind (wpAny_newTuple ?_ (by show vs.length ≤ _; rw [sizeLine_eq]; omega))
  refine wpAny_bind (wpAny_newList ?_ (Nat.zero_le _))
  refine wpAny_holding ?_
  have ho6 : (((s.heap.update a (Obj.mapSeq fun _ => #[])).push (seqObj "tuple" vs.toArray 0)).push (seqObj "list" #[] 0)).get? a = some (seqObj "list" #[] e1) := by
    rw [Heap.get?_push_ne _ _ _ (by rw [size_push', Heap.size_update]; exact Nat.ne_of_lt (Nat.lt_succ_of_lt ha)), Heap.get?_push_ne _ _ _ (by rw [Heap.size_update]; exact Nat.ne_of_lt ha)]
    exact ho1
  have kT : KeepT s.heap (((s.heap.update a (Obj.mapSeq fun _ => #[])).push (seqObj "tuple" vs.toArray 0)).push (seqObj "list" #[] 0)) := by
    intro b us k e
    have hba : b ≠ a := fun q => by rw [q, ho] at e; simp [seqObj] at e
    exact Heap.get?_push_of_some _ (Heap.get?_push_of_some _ ((Heap.SameBut.update s.heap a _).extBut b _ hba e))
  have hR6 := hR.stab kT
  show wpAny (model prog w) A _ P E { s with heap := ((s.heap.update a (Obj.mapSeq fun _ => #[])).push (seqObj "tuple" vs.toArray 0)).push (seqObj "list" #[] 0) }
  generalize hH : ((s.heap.update a (Obj.mapSeq fun _ => #[])).push (seqObj "tuple" vs.toArray 0)).push (seqObj "list" #[] 0) = H at ho6 hR6
  dsimp only
  have hsz : vs.toArray.size = vs.length := by simp
  have hfin : ∀ out, SortOut ps out → P (.done (.ret .none)) { s with heap := H.update a (Obj.mapSeq fun _ => out) } := fun out ho => by
    have := h out ho
    unfold sortedHeap at this
    rw [hH] at this
    exact this
  by_cases h2 : vs.toArray.size < 2
  · rw [if_pos h2, if_pos h2]
    refine wpAny_bind (wpAny_pure ?_)
    rw [StateT.run_pure]
    refine wpAny_bind (wpAny_pure ?_)
    dsimp only
    refine wpAny_bind (seqEpoch_at ho6 rfl ?_)
    refine wpAny_bind (listUpdate_at ho6 rfl ?_ (Nat.zero_le _) (hsz2 := by rw [Array.size_map]; show (pairsOf vs).size ≤ _; rw [pairsOf_size, sizeLine_eq]; omega))
    simp only [bne_self_eq_false, Bool.false_eq_true, if_false]
    refine wpAny_pure (hfin _ ⟨ps, ?_, List.Perm.refl _, ?_⟩)
    · show ((vs.toArray.zip vs.toArray).map (·.2)) = _
      rw [hvs]
      apply Array.toList_inj.mp
      rw [Array.toList_map, Array.toList_zip]
      simp
      rw [List.map_snd_zip]; exact Nat.le_refl _
    · have : ps.length < 2 := by omega
      match ps, this with
      | [], _ => exact .nil
      | [p], _ => simp
  · rw [if_neg h2, if_neg h2]
    have h2' : 2 ≤ vs.length := by omega
    obtain ⟨fs, k1, k2, k3⟩ := katTups_of ps hR6
    rw [hvs] at k1
    refine wpAny_bind (kat_kind k1 (by omega) (T := .type "int") (fun v hv => by obtain ⟨i, t, rfl⟩ := k3 v hv; exact looks_int) (by decide) ?_)
    refine wpAny_bind (wpAny_mono (kat_run (E := E) (s := { s with heap := H }) (Q := fun st' s' => s' = { s with heap := H } ∧ failedOf st' = none ∧ (arrOf st').size = vs.length ∧ SortOut ps ((arrOf st').map (·.2)))
      (G := fun p s' => s' = { s with heap := H } ∧ PermN vs.length p ∧ SoTo (fun i => pkey (ps.getD i (.none, (0, 0))).2) p vs.length) rfl h2' (by omega) (fun p st' s' a1 a2 a3 a4 => ⟨a4.1, a3, by rw [a2]; simp [a1], ?_⟩) ?_) ?_ fun _ _ e => e)
    · rw [kat_snds rfl a2]
      have hgv : ∀ i, vs.getD i Value.none = (ps.getD i (.none, (0, 0))).1 := fun i => by rw [← hvs, List.getD_eq_getElem?_getD, List.getD_eq_getElem?_getD, List.getElem?_map]; cases ps[i]? <;> rfl
      refine ⟨p.toList.map fun i => ps.getD i (.none, (0, 0)), ?_, ?_, ?_⟩
      · congr 1
        rw [List.map_map]
        exact List.map_congr_left fun i _ => hgv i
      · have e := map_getD (Value.none, ((0 : Int), (0 : Int))) ps
        have hp := a4.2.1
        rw [hvl] at hp
        have := List.Perm.map (fun i => ps.getD i (Value.none, ((0 : Int), (0 : Int)))) hp
        rw [e] at this
        exact this
      · rw [List.map_map, List.pairwise_iff_getElem]
        intro i j hi hj hij
        have hs := a4.2.2
        have hpz := a4.2.1.size
        simp only [List.length_map, Array.length_toList] at hi hj
        have := hs i j (by omega) (by omega)
        unfold KY at this
        rw [show p.getD i 0 = p[i] by simp [Array.getD, hi], show p.getD j 0 = p[j] by simp [Array.getD, hj]] at this
        simpa using this
    · refine TSpec.wp (N := vs.length) (key := fun i => pkey (ps.getD i (.none, (0, 0))).2) (P := fun p => PermN vs.length p ∧ SoTo (fun i => pkey (ps.getD i (.none, (0, 0))).2) p vs.length) (fun i j C hi hj hC => ?_) (fun p hp => ⟨rfl, hp⟩) (sort_spec (by omega))
      have hgv : ∀ i, i < vs.length → prKd.R H (vs.getD i Value.none) (ps.getD i (.none, (0, 0))).2 ∧ (0 ≤ (ps.getD i (.none, (0, 0))).2.2 ∧ (ps.getD i (.none, (0, 0))).2.2 < 1000) := fun i hi => by
        have hi' : i < ps.length := by omega
        have e1 : vs.getD i Value.none = ps[i].1 := by rw [← hvs]; simp [hi']
        have e2 : ps.getD i (.none, (0, 0)) = ps[i] := by simp [hi']
        rw [e1, e2]
        exact ⟨hR6 _ (List.getElem_mem hi'), hS _ (List.mem_map_of_mem (List.getElem_mem hi'))⟩
      refine pair_keyLt (hgv i hi).1 (hgv j hj).1 ?_
      rw [plt_key (hgv i hi).2 (hgv j hj).2]
      exact hC
    · rintro ⟨⟨⟩, st'⟩ s' ⟨rfl, hf, hz, hso⟩
      dsimp only
      refine wpAny_bind (seqEpoch_at ho6 rfl ?_)
      refine wpAny_bind (listUpdate_at ho6 rfl ?_ (Nat.zero_le _) (hsz2 := by rw [Array.size_map, hz, sizeLine_eq]; omega))
      rw [hf]
      simp only [bne_self_eq_false, Bool.false_eq_true, if_false]
      exact wpAny_pure (hfin _ hso)
theorem sortedP {l : Addr} {vs : List Value} {n : Nat} {xs : List (Int × Int)} {Q : Value → Shared → Prop} (hl : s.heap.get? l = some (lst vs n)) (hI : Items prKd s.heap vs xs) (hS : Small xs) (h64 : xs.length < 64)
    (h : ∀ D h' vs' n' xs', Keep s.heap h' → s.heap.get? D = none → h'.get? D = some (lst vs' n') → Items prKd h' vs' xs' → xs'.Perm xs → xs'.Pairwise (fun x y => pkey x ≤ pkey y) → Q (.ref D) { s with heap := h' }) :
    wpAny (model prog w) A (call (.builtin "sorted") [.ref l]) Q E s := by
  obtain ⟨ps, rfl, rfl, hR⟩ := hI
  have hpl : (ps.map (·.1)).length = ps.length := by simp
  have h64' : ps.length < 64 := by simpa using h64
  refine Calls.call_function_entry kind_sorted plain_sorted entry_sorted (args_sorted1 _) ?_
  unfold Builtin.«sorted»
  refine wpAny_bind (m := checkCount "sorted" 1 1 _) (wpAny_pure ?_)
  refine wpAny_bind (collect_list ⟨_, hl, rfl, n, rfl⟩ ?_ (by rw [sizeLine_eq]; simp; omega))
  refine wpAny_bind (wpAny_newList ?_ (by rw [sizeLine_eq]; simp; omega))
  have hsz : ((s.heap.push (seqObj "list" #[] 0)).update s.heap.objs.size (Obj.mapSeq (· ++ (ps.map (·.1)).toArray))).objs.size = s.heap.objs.size + 1 := by
    rw [Heap.size_update, size_push']
  have hoL : (((s.heap.push (seqObj "list" #[] 0)).update s.heap.objs.size (Obj.mapSeq (· ++ (ps.map (·.1)).toArray))).push (seqObj "list" (ps.map (·.1)).toArray 0)).get? (s.heap.objs.size + 1) = some (seqObj "list" (ps.map (·.1)).toArray 0) := by
    rw [← hsz]; exact Heap.get?_push_size _ rfl
  have keep : Keep s.heap (((s.heap.push (seqObj "list" #[] 0)).update s.heap.objs.size (Obj.mapSeq (· ++ (ps.map (·.1)).toArray))).push (seqObj "list" (ps.map (·.1)).toArray 0)) := fun b o q => by
    have hlt : b < s.heap.objs.size := Heap.lt_size q
    rw [Heap.get?_push_ne _ _ _ (by rw [hsz]; exact Nat.ne_of_lt (Nat.lt_succ_of_lt hlt)), Heap.get?_update_ne _ _ _ _ (Nat.ne_of_lt hlt), Heap.get?_push_ne _ _ _ (Nat.ne_of_lt hlt)]
    exact q
  show wpAny _ _ _ _ _ { s with heap := ((s.heap.push (seqObj "list" #[] 0)).update s.heap.objs.size (Obj.mapSeq (· ++ (ps.map (·.1)).toArray))).push (seqObj "list" (ps.map (·.1)).toArray 0) }
  rw [hsz]
  refine wpAny_bind (wpAny_holding (wpAny_call_entry slot_list_sort ⟨_, hoL, rfl⟩ entry_list_sort (pairs_sort_tree hoL (hR.stab keep.t) hS h64' fun out hso => ⟨_, rfl, ?_⟩) (args_list_sort _)))
  refine wpAny_pure ⟨_, rfl, ?_⟩
  obtain ⟨ps', rfl, hp, hs⟩ := hso
  obtain ⟨e, he⟩ := sortedAll_at s.heap (ps.map (·.1)) (ps'.map (·.1)).toArray
  have kA : Keep s.heap (sortedAll s.heap (ps.map (·.1)) (ps'.map (·.1)).toArray) := fun _ _ => sortedAll_old
  refine h _ _ _ e _ kA (Heap.get?_none_of_le (Nat.le_succ _)) he ⟨ps', rfl, rfl, fun p hq => (hR.stab kA.t) p (hp.mem_iff.mp hq)⟩ (hp.map _) hs
end
end Mine

end
section
namespace Mine
def numsF (ns : List Int) : List Int := if ns = [] then [18, 7, 2, 20, 15] else ns.take 8
def stayF (x : Int) : Int × Int := (x.fmod 6, x.fmod 6 + (x.fmod 24).fdiv 6)
abbrev lawE (L f : Addr) (cd : Value) : Env := envOfC "law" (sScope (defAt 12)) L f cd
abbrev lawB : List Stmt := sBody (defAt 12)
theorem items_ints {h : Heap} : ∀ {vs : List Value} {ns : List Int}, IntsAre vs ns → Items intKd h vs ns
  | _, _, .nil => Items.nil
  | _, _, .cons n t r => by
    obtain ⟨ps, rfl, rfl, c⟩ := items_ints (h := h) r
    exact ⟨(.int n t, n) :: ps, rfl, rfl, fun p hp => by
      rcases List.mem_cons.mp hp with rfl | hp
      · exact ⟨t, rfl⟩
      · exact c p hp⟩
section
variable {prog : Program} {w : World} {A : Around} {s : Shared} {E : Value → Shared → Prop} {h₀ : Heap} {mg mb : Str → Option Value} {g : Heap} {L f : Addr} {cd : Value} {m : Str → Option Value} {mu : List (Addr × Obj)}
theorem neNilI {a b : Addr} {vs : List Value} {n' : Nat} {Q : Value → Shared → Prop} (hu : A.units < cLine) (ha : s.heap.IsList a vs.toArray) (hb : s.heap.get? b = some (lst [] n')) (h : Q (.bool (!vs.isEmpty)) s) :
    wpAny (model prog w) A (compareOp .NotEq (.ref a) (.ref b)) Q E s := by
  show wpAny _ _ (richCompare .NotEq _ _) _ _ _
  cases vs with
  | nil => exact PySem.SeqAt.RcNeAt.lists (e := fun _ => true) ha ⟨_, hb, rfl, n', rfl⟩ rfl hu (fun j h1 _ => by simp at h1) prog w E Q (by simpa using h)
  | cons v r => exact PySem.SeqAt.RcNeAt.lists_lengths ha ⟨_, hb, rfl, n', rfl⟩ (by simp) hu prog w E Q (by simpa using h)

/-- numbers, stays, nails -/
theorem law_p1 {b : Addr} {vs : List Value} {ns : List Int} {Q : Flow → Shared → Prop} (G : Glb h₀ mg mb) (k0 : Keep h₀ g) (hA : Rm A 20) (F : St g s.heap L m mu) (hT : NoTup mu) (hm : m "script" = some (.ref b)) (hb : g.IsList b vs.toArray) (hI : IntsAre vs ns) (hlen : ns.length ≤ 63)
    (h : ∀ h' tk g' m' b vs n nb us n', Keep g g' → St g' h' L m' mu → m' "stays" = some (.ref b) → m' "nails" = some (.ref nb) → g'.get? b = some (lst vs n) → Items prKd g' vs ((numsF ns).map stayF) → g'.get? nb = some (lst us n') → Items intKd g' us (nailsF ((numsF ns).map stayF)) →
      wpAny (model prog w) A (execs (lawB.drop 3) (lawE L f cd)) Q E { s with heap := h', toks := tk }) :
    wpAny (model prog w) A (execs lawB (lawE L f cd)) Q E s := by
  have hl := hI.length
  have hvl : vs.isEmpty = ns.isEmpty := by cases hI <;> rfl
  have hbI : ∀ {h}, Keep g h → h.IsList b vs.toArray := fun k => let ⟨o, a, r⟩ := hb; ⟨o, k _ _ a, r⟩
  -- behind numbers
  have tail : ∀ (h₁ : Heap) (tk₁ : Nat) (m₁ : Str → Option Value) (nl : Addr) (us : List Value) (n₁ : Nat), St g h₁ L m₁ ((nl, lst us n₁) :: mu) → m₁ "numbers" = some (.ref nl) → Items intKd g us (numsF ns) →
      wpAny (model prog w) A (execs (lawB.drop 1) (lawE L f cd)) Q E { s with heap := h₁, toks := tk₁ } := by
    intro h₁ tk₁ m₁ nl us n₁ F₁ m1 hU
    have hul := hU.length
    have hnl : (numsF ns).length ≤ 63 := by unfold numsF; split <;> simp; omega
    have hne : (numsF ns) ≠ [] := by
      unfold numsF
      split
      · simp
      · next q => simpa using q
    refine wpAny_execs_cons (compA_list F₁ hT.lst (fun i ys g => Items prKd g ys (((numsF ns).take i).map stayF)) (fun hq => F₁.ld m1 hq) (F₁.get 0) (by omega) hA.handled (fun _ => Items.nil) (fun i ys h h' x k => x.stab k) ?_ ?_)
    · intro i v ys C D I n' oI' g₁ h₂ tk m₂ E' hP hi hyl hJ hk F₂
      obtain ⟨x, hx, t, rfl⟩ := hU.get hP
      refine wpAny_assign_Name (St.st F₂ fun h₃ F₃ => ?_)
      refine wpAny_tests_nil ?_
      simp only [if_true]
      refine Tuple_ (args_cons (wpAny_BinOp (St.ld F₃ rfl (wpAny_Constant_int (mod_int' (by decide) (args_cons (wpAny_BinOp (wpAny_BinOp (St.ld F₃ rfl (wpAny_Constant_int (mod_int' (by decide) (wpAny_BinOp (wpAny_BinOp (St.ld F₃ rfl (wpAny_Constant_int (mod_int' (by decide) (wpAny_Constant_int (floordiv_int (by decide) (add_int (args_nil ?_))))))))))))))))))))
      refine St.newT F₃ fun T h₅ F₅ => ?_
      refine TurnEnd.tup F₅ fun g' k' hT => ?_
      have e : ((numsF ns).take (i + 1)).map stayF = ((numsF ns).take i).map stayF ++ [stayF x] := by rw [List.take_add_one, hx]; simp
      rw [e]
      exact (hJ.stab k'.t).snoc ⟨T, _, _, _, rfl, hT⟩
    intro D h₂ tk₂ g₂ ys n₂ F₂ k₂ hyl hJ
    rw [hul, List.take_length] at hJ
    -- freeze stays
    obtain ⟨g₃, F₃, k₃, r₃⟩ := F₂.rebase mu (.cons _ (.cons _ (List.Sublist.refl _)))
    have hD : g₃.get? D = some (lst ys n₂) := r₃ D _ (F₂.get 0) (F₂.notL 0) (fun hm => (List.nodup_cons.mp F₂.nd).1 (by simp at hm ⊢; exact .inr hm))
    have hJ₃ := hJ.stab k₃.t
    have B₃ : Keep h₀ g₃ := k0.trans (k₂.trans k₃)
    obtain ⟨fn, hn1, hn2⟩ := G.fn (9, "_law_nails") (by decide)
    -- nails = _law_nails(stays)
    refine wpAny_execs_cons (wpAny_Assign_Name (callG (G.keeps (B₃.trans F₃.keep)) hn1 (hn2.keeps (B₃.trans F₃.keep)) (args_cons (St.ld F₃ rfl (args_nil ⟨Keep.refl _, ?_⟩)))))
    refine nails_ok G (B₃.trans F₃.keep) hn2 (hA.le (by omega)) (F₃.keep _ _ hD) (hJ₃.stab F₃.keep.t) (by simpa using hne) (by simp; omega) ?_
    intro h₄ tk₄ nl' us' n₄ k₄ hno ho hI₄
    have F₄ := (F₃.all k₄).add ho (by
      cases q : g₃.get? nl' with
      | none => rfl
      | some o => rw [F₃.keep _ _ q] at hno; cases hno) (fun q => by
        obtain ⟨o, es, ep, hL, _⟩ := F₃.ns
        rw [q, hL] at hno; cases hno) (fun hm => by
        obtain ⟨p, hp, rfl⟩ := List.mem_map.mp hm
        rw [(F₃.mob p hp).1] at hno; cases hno)
    refine St.st F₄ fun h₅ F₅ => ?_
    obtain ⟨g₆, F₆, k₆, r₆⟩ := F₅.rebase mu (.cons _ (List.Sublist.refl _))
    have hN : g₆.get? nl' = some (lst us' n₄) := r₆ nl' _ (F₅.get 0) (F₅.notL 0) (List.nodup_cons.mp F₅.nd).1
    have hI₆ : Items intKd g₆ us' (nailsF ((numsF ns).map stayF)) := by
      obtain ⟨ps, a, b, c⟩ := hI₄
      exact ⟨ps, a, b, fun p hp => c p hp⟩
    exact h h₅ _ g₆ _ D ys n₂ nl' us' n₄ (k₂.trans (k₃.trans k₆)) F₆ rfl rfl (k₆ _ _ hD) (hJ₃.stab k₆.t) hN hI₆
  -- numbers
  refine wpAny_execs_cons (wpAny_Assign_Name (wpAny_IfExp (wpAny_isTrue_Compare1 (St.ld F hm (List_ (args_nil (St.newL F fun e₁ h₁ F₁ => neNilI hA.units (hbI F₁.keep) (F₁.get 0) (wpAny_truthy_bool ?_))))))))
  have F₁' := F₁.drop _ (.cons _ (List.Sublist.refl _))
  cases ns with
  | nil =>
    rw [hvl]
    simp only [List.isEmpty_nil, Bool.not_true, Bool.false_eq_true, if_false]
    refine List_ (args_cons (wpAny_Constant_int (args_cons (wpAny_Constant_int (args_cons (wpAny_Constant_int (args_cons (wpAny_Constant_int (args_cons (wpAny_Constant_int (args_nil ?_)))))))))))
    refine St.newL F₁' fun nl h₂ F₂ => St.st F₂ fun h₃ F₃ => ?_
    refine tail h₃ _ _ nl _ _ F₃ rfl ?_
    exact items_ints (.cons _ _ (.cons _ _ (.cons _ _ (.cons _ _ (.cons _ _ .nil)))))
  | cons x r =>
    rw [hvl]
    simp only [List.isEmpty_cons, Bool.not_false, if_true]
    refine sliceR (St.ld F₁' hm (wpAny_pure (wpAny_Constant_int (k := 0) (pos := ⟨96, 22, 96, 23⟩) ⟨b, vs, _, none, some ((8 : Nat) : Int), vs.take 8, _, _, _, _, rfl, F₁', hbI F₁'.keep, by omega, rfl, .none, .int _ _, by rw [slicePick_upto'], fun D h₂ F₂ => St.st F₂ fun h₃ F₃ => ?_⟩)))
    refine tail h₃ _ _ D _ _ F₃ rfl ?_
    unfold numsF
    rw [if_neg (by simp)]
    obtain ⟨ps, rfl, hps, c⟩ := items_ints (h := g) hI
    exact ⟨ps.take 8, by simp, by rw [← hps]; simp, fun p hp => c p (List.mem_of_mem_take hp)⟩
end
end Mine

end
section
namespace Mine
theorem Keep.none {g h : Heap} (k : Keep g h) {a : Addr} (e : h.get? a = none) : g.get? a = none := by
  cases q : g.get? a with
  | none => rfl
  | some o => rw [k _ _ q] at e; cases e
theorem St.weak {g g' h : Heap} {L : Addr} {m : Str → Option Value} {mu : List (Addr × Obj)} (F : St g' h L m mu) (k : Keep g g') : St g h L m mu :=
  ⟨F.ns, k.trans F.keep, k.none F.out, fun p hp => ⟨(F.mob p hp).1, (F.mob p hp).2.1, k.none (F.mob p hp).2.2⟩, F.nd⟩
theorem NoTup.cell {a : Addr} {v : Option Value} {mu : List (Addr × Obj)} (r : NoTup mu) : NoTup ((a, cellO v) :: mu) := .cons (fun vs n q => by simp at q) r
theorem NoTup.tail {p : Addr × Obj} {mu : List (Addr × Obj)} (r : NoTup (p :: mu)) : NoTup mu := fun q hq => r q (.tail _ hq)
theorem ItL.noTup {b : Addr} {i : Nat} {o : Obj} (h : ItL b i o) : ∀ vs n, o ≠ tup vs n := fun vs n q => by have := h.2; rw [q] at this; cases this
section
variable {prog : Program} {w : World} {A : Around} {s : Shared} {E : Value → Shared → Prop} {h₀ : Heap} {mg mb : Str → Option Value} {g : Heap} {L f : Addr} {cd : Value} {m : Str → Option Value} {mu : List (Addr × Obj)}
def holdF (p : Int × Int) (n : Int) : Bool := decide (p.1 ≤ n) && decide (n < max p.2 (p.1 + 1))
/-- each stay holds a nail -/
theorem law_p2 {c3 : Obj} {v1 v2 : Option Value} {b nb : Addr} {vs us : List Value} {n n' : Nat} {xs : List (Int × Int)} {zs : List Int} {Q : Flow → Shared → Prop} (G : Glb h₀ mg mb) (k0 : Keep h₀ g) (hA : Rm A 20)
    (F : St g s.heap L m ((L + 3, c3) :: (L + 2, cellO v2) :: (L + 1, cellO v1) :: mu)) (hc3 : ∀ vs n, c3 ≠ tup vs n) (hT : NoTup mu)
    (hm1 : m "stays" = some (.ref b)) (hm2 : m "nails" = some (.ref nb)) (hb : g.get? b = some (lst vs n)) (hI : Items prKd g vs xs) (hnb : g.get? nb = some (lst us n')) (hJ : Items intKd g us zs) (hx : xs.length ≤ 63) (hz : zs.length < 2 ^ 16)
    (hP : ∀ p ∈ xs, ∃ z ∈ zs, holdF p z = true)
    (h : ∀ h' tk v1 v2, St g h' L m ((L + 3, c3) :: (L + 2, cellO v2) :: (L + 1, cellO v1) :: mu) → wpAny (model prog w) A (execs (lawB.drop 4) (lawE L f cd)) Q E { s with heap := h', toks := tk }) :
    wpAny (model prog w) A (execs (lawB.drop 3) (lawE L f cd)) Q E s := by
  have hvl := hI.length
  have hul := hJ.length
  have S : ∀ I, Src prog w A I g vs.length (fun i v => vs[i]? = some v) (ItL b) := fun I => Src.list hA.handled hb
  refine wpAny_execs_cons (wpAny_For (St.ld F hm1 (wpAny_pyIter_list ⟨_, F.keep _ _ hb, rfl, n, rfl⟩ ?_)))
  have F₁ := F.push { cls := .type "list_iterator", data := .fields #[.ref b, .int 0 0] }
  generalize hIa : s.heap.objs.size = I at F₁
  generalize hH : s.heap.push { cls := .type "list_iterator", data := .fields #[.ref b, .int 0 0] } = H at F₁
  refine codeAny_forLoop_any (fun k s' => ∃ h' tk oI i v1 v2, s' = { s with heap := h', toks := tk } ∧ St g h' L m ((I, oI) :: (L + 3, c3) :: (L + 2, cellO v2) :: (L + 1, cellO v1) :: mu) ∧ ItL b i oI ∧ i ≤ vs.length ∧ vs.length + 1 - i = k) ?_ (vs.length + 1)
    ⟨H, s.toks, _, 0, v1, v2, rfl, F₁, ⟨rfl, rfl⟩, Nat.zero_le _, rfl⟩
  rintro k s' ⟨h', tk, oI, i, v1, v2, rfl, F', hit, hi, rfl⟩
  by_cases hlt : i < vs.length
  · refine (S I).item i _ oI _ _ hlt (F'.get 0) hit F'.keep fun v h₂ tk₂ oI₂ hPv hx₂ ho₂ hIt₂ => ?_
    have F₂ := F'.turn 0 rfl (ExtS.of hx₂) ho₂
    rw [List.set_cons_zero] at F₂
    refine (S I).owned (i + 1) _ oI₂ _ _ _ _ (F₂.get 0) hIt₂ ?_
    obtain ⟨p, hp, T, nT, ta, tb, rfl, hTT⟩ := hI.get hPv
    refine St.unpackAny F₂ hA.handled (F₂.keep _ _ hTT) fun h₃ F₃ => ?_
    refine assignInOrder_cons (wpAny_assign_Name (St.stC F₃ (i := 3) rfl (fun h₄ F₄ => ?_) rfl))
    refine assignInOrder_cons (wpAny_assign_Name (St.stC F₄ (i := 2) rfl (fun h₅ F₅ => ?_) rfl))
    refine assignInOrder_nil ?_
    dsimp only
    simp only [List.set_cons_succ, List.set_cons_zero] at F₅
    have T₅ : NoTup ((I, oI₂) :: (L + 3, c3) :: (L + 2, cellO (some (.int p.2 tb))) :: (L + 1, cellO (some (.int p.1 ta))) :: mu) := .cons hIt₂.noTup (.cons hc3 hT.cell.cell)
    refine wpAny_execs_cons (wpAny_If (wpAny_isTrue_Compare1 (compE_list F₅ T₅ (fun i ys g => Items intKd g ys ((zs.take i).filter (holdF p))) (fun hq => F₅.ld hm2 hq) (F₅.keep _ _ hnb) (by omega) hA.handled (fun _ => Items.nil) (fun i ys h h' x k => x.stab k) ?_ ?_)))
    · intro i' v' ys C D I' n₁ oI' g₁ h₆ tk₆ m₁ E' hP' hi' hyl hJ' hk F₆
      obtain ⟨z, hz', t, rfl⟩ := hJ.get hP'
      have kk : Keep h₅ h₆ := hk.trans F₆.keep
      refine wpAny_assign_Name (St.st F₆ fun h₇ F₇ => ?_)
      have k7 : Keep h₅ h₇ := hk.trans F₇.keep
      have kB : Keep h₀ h₇ := k0.trans (F₅.keep.trans k7)
      have e : (zs.take (i' + 1)).filter (holdF p) = (zs.take i').filter (holdF p) ++ (if holdF p z = true then [z] else []) := by rw [List.take_add_one, hz']; simp [List.filter_cons]
      refine wpAny_tests_one (isTrue_chain (ldC (k7 _ _ (F₅.get 3)) (test_link (St.ld F₇ rfl (le_int (wpAny_truthy_bool ?_)))) rfl))
      by_cases h1 : p.1 ≤ z
      · simp only [h1, decide_true, if_true]
        refine test_last (callB (G.keeps kB) boot_max (args_cons (ldC (hc := rfl) (k7 _ _ (F₅.get 2)) (args_cons (wpAny_BinOp (ldC (hc := rfl) (k7 _ _ (F₅.get 3)) (wpAny_Constant_int (add_int (args_nil (max2 hA.handled fun h₈ tk₈ t₈ k₈ => lt_int (wpAny_truthy_bool ?_)))))))))))
        have F₈ := F₇.all k₈
        by_cases h2 : z < max p.2 (p.1 + 1)
        · simp only [h2, decide_true, if_true]
          refine St.ld F₈ rfl (TurnEnd.plain F₈ ?_)
          rw [e, if_pos (by simp [holdF, h1, h2])]
          exact hJ'.snoc ⟨_, rfl⟩
        · simp only [h2, decide_false, Bool.false_eq_true, if_false]
          refine TurnEnd.plain F₈ ?_
          rw [e, if_neg (by simp [holdF, h2]), List.append_nil]
          exact hJ'
      · simp only [h1, decide_false, Bool.false_eq_true, if_false]
        refine TurnEnd.plain F₇ ?_
        rw [e, if_neg (by simp [holdF, h1]), List.append_nil]
        exact hJ'
    intro D h₆ tk₆ g₆ ys n₆ F₆ k₆ _ hyl hJ₆
    rw [hul, List.take_length] at hJ₆
    refine List_ (args_nil (St.newL F₆ fun e₁ h₇ F₇ => eqNil hA.units (F₇.get 1) (F₇.get 0) (wpAny_truthy_bool ?_)))
    have hne : ys.isEmpty = false := by
      obtain ⟨z, hz1, hz2⟩ := hP p (List.mem_of_getElem? hp)
      have hl := hJ₆.length
      have : 0 < (zs.filter (holdF p)).length := List.length_pos_of_mem (List.mem_filter.mpr ⟨hz1, hz2⟩)
      cases ys with
      | nil => simp at hl; omega
      | cons _ _ => rfl
    simp only [hne, Bool.false_eq_true, if_false]
    refine wpAny_execs_nil (wpAny_execs_nil ⟨vs.length + 1 - (i + 1), by omega, h₇, _, oI₂, i + 1, _, _, rfl, (F₇.drop _ (.cons _ (.cons _ (List.Sublist.refl _)))).weak k₆, hIt₂, by omega, rfl⟩)
  · have hin : i = vs.length := by omega
    subst hin
    refine (S I).done _ oI _ _ (F'.get 0) hit F'.keep fun h₂ hx₂ => ?_
    refine wpAny_execs_nil ?_
    exact h h₂ tk v1 v2 (F'.lose hx₂)
end
end Mine

end
section
namespace Mine
theorem nd_ne {l : List Addr} (h : l.Nodup) (i j : Nat) {a b : Addr} (hi : l[i]? = some a) (hj : l[j]? = some b) (hij : i ≠ j) : a ≠ b := by
  intro q
  subst q
  exact hij ((List.getElem?_inj (List.getElem?_eq_some_iff.mp hi).1 h).mp (hi.trans hj.symm))
section
variable {prog : Program} {w : World} {A : Around} {R : Result → Shared → Prop} {s : Shared} {E : Value → Shared → Prop} {h₀ : Heap} {mg mb : Str → Option Value}
theorem prog_ok2 {f b kl c P : Addr} {av : List (Addr × Obj)} (G : Glb h₀ mg mb) (B : Keep h₀ s.heap) (hf : FnIsC h₀ f "_law_prog" 10 c) (C : CodeHd h₀ c P) (hP₀ : h₀.get? P = none) (hP : s.heap.get? P = some (tabObj #[]))
    (hav : ∀ p ∈ av, s.heap.get? p.1 = some p.2 ∧ h₀.get? p.1 = none) (hnd : (P :: av.map (·.1)).Nodup) (hA : Rm A 12)
    (h : ∀ h' tk p sf P' ps g' q, Keep g' h' → AttrAt g' p "search" sf → SearchAt g' sf b kl P' q → (∀ x ∈ (P', tabObj #[]) :: (P, tabObj ps) :: av, h'.get? x.1 = some x.2 ∧ g'.get? x.1 = none) → (P' :: P :: av.map (·.1)).Nodup →
      (∀ b o, b ≠ P → b ∉ av.map (·.1) → s.heap.get? b = some o → g'.get? b = some o) → R (.ok (.ret (.ref p))) { s with heap := h', toks := tk }) :
    codeAny (model prog w) A (.call (.ref f) ⟨[.ref b, .ref kl], []⟩) R s := by
  obtain ⟨o, pm, doc, ho, hd, hcd⟩ := hf.keeps B
  refine callX ((P, tabObj #[]) :: av) hA ho hd hcd rfl (BindsTo.of_eq (binds := [("stays", .ref b), ("kept", .ref kl)]) rfl) (fun p hp => ?_) hnd ?_
  · rcases List.mem_cons.mp hp with rfl | hp
    · exact hP
    · exact (hav p hp).1
  intro g h₁ L env hE F hg hgs hA'
  have hgP : ∀ b o, b ≠ P → b ∉ av.map (·.1) → s.heap.get? b = some o → g.get? b = some o := fun b o hb hb2 e => hg b o (fun hm => (List.mem_cons.mp hm).elim hb hb2) e
  have Bg : Keep h₀ g := fun b o e => hgP b o (fun q => by rw [q, hP₀] at e; cases e) (fun hm => by
    obtain ⟨x, hx, rfl⟩ := List.mem_map.mp hm
    rw [(hav x hx).2] at e; cases e) (B _ _ e)
  subst hE
  refine bind_cons (St.stC F (i := 1) rfl (fun h₂ F₂ => ?_) rfl)
  refine bind_cons (St.stC F₂ (i := 0) rfl (fun h₃ F₃ => ?_) rfl)
  refine bind_nil ⟨G.nolimit.keeps (Bg.trans F₃.keep), ?_⟩
  dsimp only
  -- def search
  refine wpAny_execs_cons (kdv_def rfl rfl rfl (kdv_all1 (wpAny_Constant_int (kdv_all0 (St.mkDflt F₃ rfl fun T₀ h₄ F₄ => ?_)))))
  refine St.mk' (i := 3) F₄ (G.keeps Bg) rfl (C.keeps Bg) trivial rfl rfl fun sf c' P' ctv doc' h₅ tk₅ g₅ F₅ k₅ hrec hCd => ?_
  refine St.st F₅ fun h₆ F₆ => ?_
  dsimp only
  -- freeze search
  obtain ⟨g₆, F₇, k₆, r₆⟩ := F₆.rebase ((P', tabObj #[]) :: (P, tabObj (#[] ++ #[_, _, .ref c'])) :: av) (.cons _ (.cons_cons _ (.cons _ (.cons _ (.cons _ (List.Sublist.refl _))))))
  have out : ∀ {a : Addr} (i : Nat), ((sf :: P' :: T₀ :: (L + 2) :: (L + 1) :: P :: av.map (·.1)) : List Addr)[i]? = some a → i ≠ 1 → i < 5 → a ∉ (P' :: P :: av.map (·.1)) := fun {a} i hi h1 h5 hm => by
    have nd : (sf :: P' :: T₀ :: (L + 2) :: (L + 1) :: P :: av.map (·.1)).Nodup := F₆.nd
    rcases List.mem_cons.mp hm with e | hm
    · exact nd_ne nd i 1 hi rfl h1 e
    · exact nd_drop nd i 5 hi h5 hm
  obtain ⟨q₆, S₆⟩ : ∃ q₆, SearchAt g₆ sf b kl P' q₆ :=
    ⟨_, T₀, _, 0, L + 1, L + 2, c', doc', _, ctv, r₆ sf _ (F₆.get 0) (F₆.notL 0) (out 0 rfl (by decide) (by decide)), r₆ T₀ _ (F₆.get 2) (F₆.notL 2) (out 2 rfl (by decide) (by decide)), r₆ (L + 1) _ (F₆.get 4) (F₆.notL 4) (out 4 rfl (by decide) (by decide)), r₆ (L + 2) _ (F₆.get 3) (F₆.notL 3) (out 3 rfl (by decide) (by decide)), hrec.keeps k₆, hCd.keeps k₆⟩
  -- prog = lambda: None
  refine wpAny_execs_cons (wpAny_Assign_Name (kla_eval rfl (mkNo (St.mk' (i := 1) F₇ (G.keeps (Bg.trans (k₅.trans k₆))) rfl (C.keeps (Bg.trans (k₅.trans k₆))) trivial rfl rfl fun pf c₂ P₂ ctv₂ doc₂ h₈ tk₈ g₈ F₈ k₈ _ _ => St.st F₈ fun h₉ F₉ => ?_))))
  dsimp only
  -- prog.search = search
  refine wpAny_execs_cons (plainObj_wpAny_Assign_Attribute (St.ld F₉ rfl (St.ld F₉ rfl (St.setattr (i := 0) F₉ rfl look_search fun d h₁₀ tk₁₀ g₁₀ F₁₀ k₁₀ hn => ?_))))
  dsimp only
  refine wpAny_execs_cons (wpAny_Return_some (St.ld F₁₀ rfl ?_))
  obtain ⟨g₁₁, F₁₁, k₁₁, r₁₁⟩ := F₁₀.rebase ((P', tabObj #[]) :: (P, tabObj _) :: av) (.cons _ (.cons _ (.cons_cons _ (.cons_cons _ (List.Sublist.refl _)))))
  have kk : Keep g g₁₁ := k₅.trans (k₆.trans (k₈.trans (k₁₀.trans k₁₁)))
  exact h h₁₀ _ pf sf P' _ g₁₁ _ F₁₁.keep ⟨_, d, _, _, r₁₁ pf _ (F₁₀.get 0) (F₁₀.notL 0) (nd_drop F₁₀.nd 0 2 rfl (by decide)), rfl, rfl, rfl, hn.keeps k₁₁, rfl⟩ (S₆.keeps (k₈.trans (k₁₀.trans k₁₁))) (fun x hx => ⟨(F₁₁.mob x hx).1, (F₁₁.mob x hx).2.2⟩) F₁₁.nd (fun b o hb hb2 e => kk _ _ (hgP b o hb hb2 e))
end
section
variable {prog : Program} {w : World} {A : Around} {s : Shared} {E : Value → Shared → Prop} {h₀ : Heap} {mg mb : Str → Option Value} {g : Heap} {L f : Addr} {cd : Value} {m : Str → Option Value} {mu : List (Addr × Obj)}
/-- order, kept, prog -/
theorem law_p3 {c3 : Obj} {v1 v2 : Option Value} {b nb fp c P : Addr} {vs us : List Value} {n n' : Nat} {xs : List (Int × Int)} {zs : List Int} {Q : Flow → Shared → Prop} (G : Glb h₀ mg mb) (k0 : Keep h₀ g) (hA : Rm A 20)
    (hfp : mg "_law_prog" = some (.ref fp)) (hf : FnIsC h₀ fp "_law_prog" 10 c) (C : CodeHd h₀ c P)
    (F : St g s.heap L m [(L + 3, c3), (L + 2, cellO v2), (L + 1, cellO v1), (P, tabObj #[])]) (hc3 : ∀ vs n, c3 ≠ tup vs n)
    (hm1 : m "stays" = some (.ref b)) (hm2 : m "nails" = some (.ref nb)) (hb : g.get? b = some (lst vs n)) (hI : Items prKd g vs xs) (hnb : g.get? nb = some (lst us n')) (hJ : Items intKd g us zs) (hx : xs.length ≤ 63) (hS : Small (xs.map Prod.swap))
    (h : ∀ h' tk g' m' ob os n'' order kl hl n1 n2 p sf P' ps q, Keep h₀ g' → St g' h' L m' ([(kl, lst [.ref hl] n1), (hl, lst [] n2), (P', tabObj #[])] ++ [(L + 3, c3), (L + 2, cellO v2), (L + 1, cellO v1), (P, tabObj ps)]) →
      m' "nails" = some (.ref nb) → m' "order" = some (.ref ob) → m' "kept" = some (.ref kl) → m' "prog" = some (.ref p) → g'.get? nb = some (lst us n') → Items intKd g' us zs → g'.get? ob = some (lst os n'') → Items prKd g' os order →
      order.Perm (xs.map Prod.swap) → order.Pairwise (fun x y => pkey x ≤ pkey y) → AttrAt g' p "search" sf → SearchAt g' sf b kl P' q → g'.get? b = some (lst vs n) → Items prKd g' vs xs →
      wpAny (model prog w) A (execs (lawB.drop 7) (lawE L f cd)) Q E { s with heap := h', toks := tk }) :
    wpAny (model prog w) A (execs (lawB.drop 4) (lawE L f cd)) Q E s := by
  have hvl := hI.length
  have T₁ : NoTup [(L + 3, c3), (L + 2, cellO v2), (L + 1, cellO v1), (P, tabObj #[])] := .cons hc3 (.cell (.cell (.cons (fun vs n q => by simp at q) .nil)))
  -- order = sorted([(end, start) for start, end in stays])
  refine wpAny_execs_cons (wpAny_Assign_Name (callB (G.keeps (k0.trans F.keep)) boot_sorted (args_cons (compE_list F T₁ (fun i ys g => Items prKd g ys ((xs.take i).map Prod.swap)) (fun hq => F.ld hm1 hq) (F.keep _ _ hb) (by omega) hA.handled (fun _ => Items.nil) (fun i ys h h' x k => x.stab k) ?_ ?_))))
  · intro i v ys C D I n₁ oI' g₁ h₂ tk m₂ E' hP hi hyl hJ hk F₂
    obtain ⟨p, hp, a, na, t, u, rfl, ha⟩ := hI.get hP
    refine F₂.unpack2 hA.handled ((F.keep.trans (hk.trans F₂.keep)) _ _ ha) fun h₃ tk₃ F₃ => ?_
    refine wpAny_tests_nil ?_
    simp only [if_true]
    refine Tuple_ (args_cons (St.ld F₃ rfl (args_cons (St.ld F₃ rfl (args_nil ?_)))))
    refine St.newT F₃ fun T h₅ F₅ => ?_
    refine TurnEnd.tup F₅ fun g' k' hT => ?_
    have e : (xs.take (i + 1)).map Prod.swap = (xs.take i).map Prod.swap ++ [p.swap] := by rw [List.take_add_one, hp]; simp
    rw [e]
    exact (hJ.stab k'.t).snoc ⟨T, _, _, _, rfl, hT⟩
  intro D h₂ tk₂ g₂ ys n₂ F₂ k₂ _ hyl hJ₂
  rw [hvl, List.take_length] at hJ₂
  refine args_nil (sortedP (F₂.get 0) (hJ₂.stab F₂.keep.t) hS (by simp; omega) fun ob h₃ os no order k₃ hno ho hIo hperm hpw => ?_)
  have F₃ := ((F₂.drop _ (.cons _ (List.Sublist.refl _))).all k₃).add ho (F₂.keep.none hno) (fun q => by
    obtain ⟨o, es, ep, hL, _⟩ := F₂.ns
    rw [q, hL] at hno; cases hno) (fun hm => by
    obtain ⟨p, hp, rfl⟩ := List.mem_map.mp hm
    rw [(F₂.mob p (.tail _ hp)).1] at hno; cases hno)
  obtain ⟨g₃, F₃', k₃', t₃⟩ := F₃.freeze T₁.lst (Keep.refl _)
  refine St.st F₃' fun h₄ F₄ => ?_
  dsimp only
  obtain ⟨g₅, F₅, k₅, r₅⟩ := F₄.rebase [(L + 3, c3), (L + 2, cellO v2), (L + 1, cellO v1), (P, tabObj #[])] (.cons _ (List.Sublist.refl _))
  have hob : g₅.get? ob = some (lst os no) := r₅ ob _ (F₄.get 0) (F₄.notL 0) (List.nodup_cons.mp F₄.nd).1
  have hIo₅ : Items prKd g₅ os order := (hIo.stab t₃).stab k₅.t
  have kg : Keep g g₅ := k₂.trans (k₃'.trans k₅)
  have B₅ : Keep h₀ g₅ := k0.trans kg
  -- kept = [[]]
  refine wpAny_execs_cons (wpAny_Assign_Name (List_ (args_cons (List_ (args_nil (St.newL F₅ fun hl h₆ F₆ => args_nil (St.newL F₆ fun kl h₇ F₇ => St.st F₇ fun h₈ F₈ => ?_)))))))
  dsimp only
  -- prog = _law_prog(stays, kept)
  refine wpAny_execs_cons (wpAny_Assign_Name (callG (G.keeps (B₅.trans F₈.keep)) hfp (hf.is.keeps (B₅.trans F₈.keep)) (args_cons (St.ld F₈ hm1 (args_cons (St.ld F₈ rfl (args_nil ⟨Keep.refl _, ?_⟩)))))))
  obtain ⟨oL, es, ep, hoL, hdL, hrL⟩ := F₈.ns
  have nd₈ : [kl, hl, L + 3, L + 2, L + 1, P].Nodup := F₈.nd
  refine prog_ok2 (av := [(kl, lst [.ref hl] 0), (hl, lst [] 0), (L + 3, c3), (L + 2, cellO v2), (L + 1, cellO v1), (L, oL)]) G (B₅.trans F₈.keep) hf C (B₅.none (F₈.fresh 5)) (F₈.get 5) ?_ ?_ (hA.le (by omega)) ?_
  · intro x hx
    simp only [List.mem_cons, List.not_mem_nil, or_false] at hx
    rcases hx with rfl | rfl | rfl | rfl | rfl | rfl
    · exact ⟨F₈.get 0, B₅.none (F₈.fresh 0)⟩
    · exact ⟨F₈.get 1, B₅.none (F₈.fresh 1)⟩
    · exact ⟨F₈.get 2, B₅.none (F₈.fresh 2)⟩
    · exact ⟨F₈.get 3, B₅.none (F₈.fresh 3)⟩
    · exact ⟨F₈.get 4, B₅.none (F₈.fresh 4)⟩
    · exact ⟨hoL, B₅.none F₈.out⟩
  · show [P, kl, hl, L + 3, L + 2, L + 1, L].Nodup
    have e1 := F₈.notL 0
    have e2 := F₈.notL 1
    have e3 := F₈.notL 2
    have e4 := F₈.notL 3
    have e5 := F₈.notL 4
    have e6 := F₈.notL 5
    simp only [List.nodup_cons, List.mem_cons, List.not_mem_nil, or_false, not_or] at nd₈ ⊢
    obtain ⟨⟨a1, a2, a3, a4, a5⟩, ⟨b1, b2, b3, b4⟩, ⟨c1, c2, c3⟩, ⟨d1, d2⟩, e, _⟩ := nd₈
    exact ⟨⟨Ne.symm a5, Ne.symm b4, Ne.symm c3, Ne.symm d2, Ne.symm e, e6⟩, ⟨a1, a2, a3, a4, e1⟩, ⟨b1, b2, b3, e2⟩, ⟨c1, c2, e3⟩, ⟨d1, e4⟩, e5, not_false, .nil⟩
  intro h₉ tk₉ p sf P' ps g₉ q k₉ hat hse hmob hnd hold
  have hg : ∀ a o, g₅.get? a = some o → g₉.get? a = some o := fun a o e => hold a o (fun q => by rw [q, F₈.fresh 5] at e; cases e) (fun hm => by
    simp only [List.map_cons, List.map_nil, List.mem_cons, List.not_mem_nil, or_false] at hm
    rcases hm with rfl | rfl | rfl | rfl | rfl | rfl
    · rw [F₈.fresh 0] at e; cases e
    · rw [F₈.fresh 1] at e; cases e
    · rw [F₈.fresh 2] at e; cases e
    · rw [F₈.fresh 3] at e; cases e
    · rw [F₈.fresh 4] at e; cases e
    · rw [F₈.out] at e; cases e) (F₈.keep _ _ e)
  have F₉ : St g₉ h₉ L (upd (upd m "order" (.ref ob)) "kept" (.ref kl)) ([(kl, lst [.ref hl] 0), (hl, lst [] 0), (P', tabObj #[])] ++ [(L + 3, c3), (L + 2, cellO v2), (L + 1, cellO v1), (P, tabObj ps)]) := by
    have hLm := hmob (L, oL) (by simp)
    refine ⟨⟨oL, es, ep, hLm.1, hdL, hrL⟩, k₉, hLm.2, fun x hx => ?_, ?_⟩
    · have hx' : x ∈ (P', tabObj #[]) :: (P, tabObj ps) :: [(kl, lst [.ref hl] 0), (hl, lst [] 0), (L + 3, c3), (L + 2, cellO v2), (L + 1, cellO v1), (L, oL)] := by
        simp only [List.cons_append, List.nil_append, List.mem_cons, List.not_mem_nil, or_false] at hx ⊢
        rcases hx with h | h | h | h | h | h | h <;> simp [h]
      refine ⟨(hmob x hx').1, fun q => ?_, (hmob x hx').2⟩
      have nd : [P', P, kl, hl, L + 3, L + 2, L + 1, L].Nodup := hnd
      simp only [List.nodup_cons, List.mem_cons, List.not_mem_nil, or_false, not_or] at nd
      simp only [List.cons_append, List.nil_append, List.mem_cons, List.not_mem_nil, or_false] at hx
      rcases hx with rfl | rfl | rfl | rfl | rfl | rfl | rfl
      · exact nd.2.2.1.2.2.2.2 q
      · exact nd.2.2.2.1.2.2.2 q
      · exact nd.1.2.2.2.2.2.2 q
      · exact nd.2.2.2.2.1.2.2 q
      · exact nd.2.2.2.2.2.1.2 q
      · exact nd.2.2.2.2.2.2.1 q
      · exact nd.2.1.2.2.2.2.2 q
    · have nd : [P', P, kl, hl, L + 3, L + 2, L + 1, L].Nodup := hnd
      show [kl, hl, P', L + 3, L + 2, L + 1, P].Nodup
      have hp : [P', P, kl, hl, L + 3, L + 2, L + 1].Perm [kl, hl, P', L + 3, L + 2, L + 1, P] := by
        refine .trans (.cons _ (List.perm_middle (l₁ := [kl, hl, L + 3, L + 2, L + 1]) (l₂ := [])).symm) ?_
        exact (List.perm_middle (l₁ := [kl, hl]) (l₂ := [L + 3, L + 2, L + 1, P])).symm
      exact (hp.nodup_iff).mp (nd.sublist (.cons_cons _ (.cons_cons _ (.cons_cons _ (.cons_cons _ (.cons_cons _ (.cons_cons _ (.cons_cons _ (.cons _ .slnil)))))))))
  refine St.st F₉ fun h₁₀ F₁₀ => ?_
  have hg' : Keep g g₉ := fun a o e => hg a o (kg a o e)
  exact h h₁₀ _ g₉ _ ob os no order kl hl 0 0 p sf P' ps q (k0.trans hg') F₁₀ hm2 rfl rfl rfl (hg' _ _ hnb) (hJ.stab hg'.t) (hg _ _ hob) (hIo₅.stab (show Keep g₅ g₉ from hg).t) hperm hpw hat hse (hg' _ _ hb) (hI.stab hg'.t)
end
end Mine

end
section
namespace Mine
theorem all_tt {α : Type} (l : List α) : (l.all fun _ => true) = true := by simp [List.all_eq_true]
section
variable {prog : Program} {w : World} {A : Around} {s : Shared} {E : Value → Shared → Prop} {g : Heap} {L : Addr} {m : Str → Option Value} {mu : List (Addr × Obj)}
theorem St.addL {l b : Addr} {vs ws : List Value} {n n' : Nat} {Q : Value → Shared → Prop} (F : St g s.heap L m mu) (hl : s.heap.get? l = some (lst vs n)) (hb : s.heap.get? b = some (lst ws n')) (hsz : vs.length + ws.length < 2 ^ 20)
    (h : ∀ a h', St g h' L m ((a, lst (vs ++ ws) 0) :: mu) → Q (.ref a) { s with heap := h' }) : wpAny (model prog w) A (binaryOp .Add (.ref l) (.ref b)) Q E s := by
  have e : vs.toArray ++ ws.toArray = (vs ++ ws).toArray := by simp
  refine concat_meets ⟨_, hl, rfl⟩ ⟨_, hb, rfl⟩ noFill_list_add seq_list_add PySem.F.slot_list_add PySem.F.entry_list_add (PySem.F.args_list_add_2 _ _) (list_addW l b vs.toArray ws.toArray n n' none none #[] #[] (by rw [sizeLine_eq]; simp; omega)) ⟨hl, hb, ?_⟩
  rw [e]
  exact h _ _ (F.push (lst (vs ++ ws) 0))
/-- xs[-k] -/
theorem getLN {value slice : Expr} {a : Addr} {vs : List Value} {n : Nat} {j : Nat} {i : Int} {u : Tok} {x : Value} {Q : Value → Shared → Prop} (ho : s.heap.get? a = some (lst vs n)) (h0 : i < 0) (h1 : (j : Int) = i + vs.length) (hx : vs[j]? = some x) (hk : vs.length < 2 ^ 62) (h : Q x s)
    (hs : subscripted slice false (.ref a) (.int i u) = operate [.ref a, .int i u] (getItem (.ref a) (.int i u)) := by with_unfolding_all rfl) :
    wpAny (model prog w) A (subscriptTail value slice (.ref a) (.int i u)) Q E s := by
  have hl : s.heap.IsList a vs.toArray := ⟨_, ho, rfl, n, rfl⟩
  have hsz : (vs.toArray.size : Int) = vs.length := by simp
  have hj : (i + vs.length).toNat = j := by omega
  exact subscriptTail_builtinR hl.typeIs slot_list_getitem.lookup (wpAny_getItem_list_neg (Q := fun r s' => r = x ∧ Q r s') hl h0 (by rw [hsz]; omega) (by omega) (by rw [hsz, hj]; simpa using hx) ⟨rfl, h⟩) hs
/-- xs[k] of what a call gave -/
theorem getLR {value slice : Expr} {a : Addr} {vs : List Value} {n : Nat} {k : Nat} {i : Int} {u : Tok} {x : Value} {Q : Value → Shared → Prop} (ho : s.heap.get? a = some (lst vs n)) (hi : i = (k : Int)) (hx : vs[k]? = some x) (hk : k < 2 ^ 62) (h : Q x s)
    (hs : subscripted slice false (.ref a) (.int i u) = operate [.ref a, .int i u] (getItem (.ref a) (.int i u)) := by with_unfolding_all rfl) :
    wpAny (model prog w) A (subscriptTail value slice (.ref a) (.int i u)) Q E s := by
  subst hi
  exact item_listR ⟨_, ho, rfl, n, rfl⟩ (Int.natCast_nonneg _) (by omega) (by simpa using hx) h hs
theorem tupEqAt {B : Around} {x y : Addr} {p : Int × Int} {t u t' u' : Tok} {n n' : Nat} (hA : B.units < cLine) (hx : s.heap.get? x = some (tup [.int p.1 t, .int p.2 u] n)) (hy : s.heap.get? y = some (tup [.int p.1 t', .int p.2 u'] n')) :
    PySem.SeqAt.EqAt B s (.ref x) (.ref y) true := by
  by_cases e : x = y
  · subst e; exact PySem.SeqAt.EqAt.same _
  · refine PySem.SeqAt.EqAt.of_refs e ?_
    have := PySem.SeqAt.RcAt.tuples (A := B) (s := s) (e := fun _ => true) (items := [Value.int p.1 t, .int p.2 u].toArray) (items2 := [Value.int p.1 t', .int p.2 u'].toArray) ⟨_, hx, rfl, n, rfl⟩ ⟨_, hy, rfl, n', rfl⟩ hA (fun j h1 h2 => by
      have hj : j = 0 ∨ j = 1 := by simp at h1; omega
      rcases hj with rfl | rfl
      · have := PySem.SeqAt.EqAt.int_int (A := B.in1) (s := s) p.1 t p.1 t'
        simpa using this
      · have := PySem.SeqAt.EqAt.int_int (A := B.in1) (s := s) p.2 u p.2 u'
        simpa using this)
    rw [all_tt] at this
    simpa using this
theorem tupNe {x y : Addr} {p : Int × Int} {t u t' u' : Tok} {n n' : Nat} {Q : Value → Shared → Prop} (hA : A.units < cLine) (hx : s.heap.get? x = some (tup [.int p.1 t, .int p.2 u] n)) (hy : s.heap.get? y = some (tup [.int p.1 t', .int p.2 u'] n')) (h : Q (.bool false) s) :
    wpAny (model prog w) A (compareOp .NotEq (.ref x) (.ref y)) Q E s := by
  show wpAny _ _ (richCompare .NotEq _ _) _ _ _
  have := PySem.SeqAt.RcNeAt.tuples (A := A) (s := s) (e := fun _ => true) (items := [Value.int p.1 t, .int p.2 u].toArray) (items2 := [Value.int p.1 t', .int p.2 u'].toArray) ⟨_, hx, rfl, n, rfl⟩ ⟨_, hy, rfl, n', rfl⟩ hA (fun j h1 h2 => by
    have hj : j = 0 ∨ j = 1 := by simp at h1; omega
    rcases hj with rfl | rfl
    · have := PySem.SeqAt.EqAt.int_int (A := A.in1) (s := s) p.1 t p.1 t'
      simpa using this
    · have := PySem.SeqAt.EqAt.int_int (A := A.in1) (s := s) p.2 u p.2 u'
      simpa using this)
  rw [all_tt] at this
  exact this prog w E Q (by simpa using h)
theorem pairsNe {a b : Addr} {vs us : List Value} {n n' : Nat} {xs : List (Int × Int)} {Q : Value → Shared → Prop} (hA : Rm A 3) (ha : s.heap.get? a = some (lst vs n)) (hb : s.heap.get? b = some (lst us n')) (hI : Items prKd s.heap vs xs) (hJ : Items prKd s.heap us xs) (h : Q (.bool false) s) :
    wpAny (model prog w) A (compareOp .NotEq (.ref a) (.ref b)) Q E s := by
  show wpAny _ _ (richCompare .NotEq _ _) _ _ _
  have l1 := hI.length
  have l2 := hJ.length
  have := PySem.SeqAt.RcNeAt.lists (A := A) (s := s) (e := fun _ => true) (items := vs.toArray) (items2 := us.toArray) ⟨_, ha, rfl, n, rfl⟩ ⟨_, hb, rfl, n', rfl⟩ (by simp; omega) hA.units (fun j h1 h2 => by
    simp only [List.size_toArray] at h1 h2
    obtain ⟨p, hp, x, nx, t, u, e, hx⟩ := hI.get (List.getElem?_eq_getElem h1)
    obtain ⟨p', hp', y, ny, t', u', e', hy⟩ := hJ.get (List.getElem?_eq_getElem h2)
    rw [hp] at hp'
    cases hp'
    simp only [List.getElem_toArray]
    rw [e, e']
    exact tupEqAt hA.in1.units hx hy)
  rw [all_tt] at this
  exact this prog w E Q (by simpa using h)
theorem Sr.re {σ : Type} {sf : Addr} {chars : Value} (I : Sr prog w sf chars σ) {g' h h' : Heap} {S av : List (Addr × Obj)} {x : σ} (hO : I.Ok g S h x) (k : Keep g g') (F : St g' h' L m (av ++ S)) : I.Ok g' S h' x :=
  I.stab hO k F.keep fun p hp => ⟨(F.mob p (List.mem_append_right _ hp)).1, (F.mob p (List.mem_append_right _ hp)).2.2⟩
/-- search_reverse(..) from a frame, what it hands back -/
theorem sr_frame {R : Result → Shared → Prop} {h₀ : Heap} {mg mb : Str → Option Value} {σ : Type} {sf : Addr} {chars : Value} (I : Sr prog w sf chars σ) {f pg : Addr} {S av : List (Addr × Obj)} {x : σ} {col : Int} {t : Tok} (G : Glb h₀ mg mb) (B : Keep h₀ g) (hf : FnIs h₀ f "search_reverse" 1)
    (F : St g s.heap L m (av ++ S)) (hO : I.Ok g S s.heap x) (hV : I.V x) (hT : NoTup av) (hp : AttrAt g pg "search" sf) (hA : Rm A 14)
    (h : ∀ h' tk S' v g', St g' h' L m (av ++ S') → I.Ok g' S' h' (srF I.nxt col x).2 → I.V (srF I.nxt col x).2 → Keep g g' → HitAt g' v (srF I.nxt col x).1 → R (.ok (.ret v)) { s with heap := h', toks := tk }) :
    codeAny (model prog w) A (.call (.ref f) ⟨[.ref pg, chars, .int col t], []⟩) R s := by
  obtain ⟨oL, hav, hn⟩ := (F.perm List.perm_append_comm).toAside hT
  refine sr_ok I G B hf hO hV hav hp hA fun h' tk S' v g' hO' hV' hav' k hH => ?_
  exact h h' tk S' v g' ((St.ofAside hn (I.keep hO') (fun p hp => ⟨(I.mob hO' p hp).1, (I.mob hO' p hp).2.1⟩) hav').perm List.perm_append_comm) hO' hV' k hH
end
end Mine

end
section
namespace Mine
def colB : List Stmt := match lawB with
  | [_, _, _, _, _, _, _, .For _ _ b _ _, _] => b
  | _ => []
def inB : List Stmt := match colB with
  | [_, _, _, .If _ b _ _, _] => b
  | _ => []
section
variable {prog : Program} {w : World} {A : Around} {s : Shared} {E : Value → Shared → Prop} {h₀ : Heap} {mg mb : Str → Option Value} {g : Heap} {L f : Addr} {cd : Value} {m : Str → Option Value} {mu : List (Addr × Obj)}
theorem isNone_ {v : Value} {r : Option (Int × Int)} {Q : Value → Shared → Prop} (hH : HitAt s.heap v r) (h : Q (.bool r.isNone) s) : wpAny (model prog w) A (compareOp .Is v .none) Q E s := by
  cases r with
  | none => obtain rfl : v = .none := hH; exact wpAny_is_self rfl h
  | some p => obtain ⟨hf, sp, rfl, _⟩ := hH; exact wpAny_is_other rfl (fun q => nomatch q) h
theorem isNotNone_ {v : Value} {r : Option (Int × Int)} {Q : Value → Shared → Prop} (hH : HitAt s.heap v r) (h : Q (.bool r.isSome) s) : wpAny (model prog w) A (compareOp .IsNot v .none) Q E s := by
  cases r with
  | none => obtain rfl : v = .none := hH; exact wpAny_isNot_self rfl h
  | some p => obtain ⟨hf, sp, rfl, _⟩ := hH; exact wpAny_isNot_other rfl (fun q => nomatch q) h
theorem neBool {a b : Bool} {Q : Value → Shared → Prop} (h : Q (.bool (!(a == b))) s) : wpAny (model prog w) A (compareOp .NotEq (.bool a) (.bool b)) Q E s := PySem.SeqAt.RcNeAt.bool_bool a b prog w E Q h
theorem neInt {a b : Int} {t u : Tok} {Q : Value → Shared → Prop} (h : Q (.bool (!(a == b))) s) : wpAny (model prog w) A (compareOp .NotEq (.int a t) (.int b u)) Q E s := PySem.SeqAt.RcNeAt.int_int a t b u prog w E Q h

/-- known = [-1] + [nail for nail in nails if nail < col] -/
theorem law_c0 {nb : Addr} {us : List Value} {n' : Nat} {zs : List Int} {col : Int} {t : Tok} {oI : Obj} {it : Addr} {Q : Flow → Shared → Prop} (hA : Rm A 20)
    (F : St g s.heap L m ((it, oI) :: (L + 3, cellO (some (.int col t))) :: mu)) (hT : NoTup ((it, oI) :: (L + 3, cellO (some (.int col t))) :: mu))
    (hm2 : m "nails" = some (.ref nb)) (hnb : g.get? nb = some (lst us n')) (hJ : Items intKd g us zs) (hz : zs.length < 2 ^ 16)
    (h : ∀ h' tk g' kn ks, Keep g g' → St g' h' L (upd m "known" (.ref kn)) ((it, oI) :: (L + 3, cellO (some (.int col t))) :: mu) → g'.get? kn = some (lst ks 0) → Items intKd g' ks (-1 :: zs.filter fun z => decide (z < col)) →
      wpAny (model prog w) A (execs (colB.drop 1) (lawE L f cd)) Q E { s with heap := h', toks := tk }) :
    wpAny (model prog w) A (execs colB (lawE L f cd)) Q E s := by
  have hul := hJ.length
  refine wpAny_execs_cons (wpAny_Assign_Name (wpAny_BinOp (List_ (args_cons (wpAny_UnaryOp (wpAny_Constant_int (PySem.P.neg_int (args_nil (St.newL F fun l1 h₄ F₄ => compE_list F₄ hT.lst (fun i ys g => Items intKd g ys ((zs.take i).filter fun z => decide (z < col))) (fun hq => F₄.ld hm2 hq) (F₄.keep _ _ hnb) (by omega) hA.handled (fun _ => Items.nil) (fun i ys h h' x k => x.stab k) ?_ ?_)))))))))
  · intro i' v' ys C D I' n₁ oI' g₁ h₆ tk₆ m₁ E' hP' hi' hyl hJ' hk F₆
    obtain ⟨z, hz', t', rfl⟩ := hJ.get hP'
    refine wpAny_assign_Name (St.st F₆ fun h₇ F₇ => ?_)
    have k7 : Keep h₄ h₇ := hk.trans F₇.keep
    have e : (zs.take (i' + 1)).filter (fun z => decide (z < col)) = (zs.take i').filter (fun z => decide (z < col)) ++ (if z < col then [z] else []) := by rw [List.take_add_one, hz']; simp [List.filter_cons]
    refine wpAny_tests_one (wpAny_isTrue_Compare1 (St.ld F₇ rfl (ldC (hc := rfl) (k7 _ _ (F₄.get 2)) (lt_int (wpAny_truthy_bool ?_)))))
    by_cases h2 : z < col
    · simp only [h2, decide_true, if_true]
      refine St.ld F₇ rfl (TurnEnd.plain F₇ ?_)
      rw [e, if_pos h2]
      exact hJ'.snoc ⟨_, rfl⟩
    · simp only [h2, decide_false, Bool.false_eq_true, if_false]
      refine TurnEnd.plain F₇ ?_
      rw [e, if_neg h2, List.append_nil]
      exact hJ'
  intro D h₅ tk₅ g₅ ws n₅ F₅ k₅ _ hyl hJ₅
  rw [hul, List.take_length] at hJ₅
  refine St.addL F₅ (F₅.get 1) (F₅.get 0) (by simp; omega) fun kn h₆ F₆ => St.st F₆ fun h₇ F₇ => ?_
  obtain ⟨g₈, F₈, k₈, r₈⟩ := F₇.rebase ((it, oI) :: (L + 3, cellO (some (.int col t))) :: mu) (.cons _ (.cons _ (.cons _ (List.Sublist.refl _))))
  refine h h₇ _ g₈ kn _ (k₅.trans k₈) F₈ (r₈ kn _ (F₇.get 0) (F₇.notL 0) (nd_drop F₇.nd 0 3 rfl (by decide))) ?_
  obtain ⟨ps, e1, e2, hR⟩ := hJ₅.stab k₈.t
  refine ⟨(_, -1) :: ps, by rw [List.map_cons, e1]; rfl, by rw [List.map_cons, e2], fun p hp => ?_⟩
  rcases List.mem_cons.mp hp with rfl | hp
  · exact ⟨_, rfl⟩
  · exact hR p hp

/-- sorted(kept[0]) against the rest of the order -/
theorem law_c4 {ob kn kl hl : Addr} {i1 i2 : Nat} {os ks us : List Value} {n1 n2 n3 : Nat} {order ys : List (Int × Int)} {kz : List Int} {k : Nat} {z : Int} {Q : Flow → Shared → Prop} (G : Glb h₀ mg mb) (k0 : Keep h₀ g) (hA : Rm A 20) (F : St g s.heap L m mu)
    (hm1 : m "kept" = some (.ref kl)) (hm2 : m "order" = some (.ref ob)) (hm3 : m "known" = some (.ref kn)) (hi1 : mu[i1]? = some (kl, lst [.ref hl] n1)) (hi2 : mu[i2]? = some (hl, lst us n2)) (hU : Items prKd g us ys)
    (hob : g.get? ob = some (lst os n3)) (hO : Items prKd g os order) (hkn : g.get? kn = some (lst ks 0)) (hK : Items intKd g ks kz) (hkz : kz.length = k + 1) (hz : kz[k]? = some z) (hkl : kz.length < 2 ^ 16) (hol : order.length < 2 ^ 16)
    (hS : Small ys) (hyl : ys.length < 64) (hP : ∀ ws : List (Int × Int), ws.Perm ys → ws.Pairwise (fun x y => pkey x ≤ pkey y) → ws = restF order (z + 1))
    (h : ∀ h' tk, St g h' L m mu → Q .next { s with heap := h', toks := tk }) :
    wpAny (model prog w) A (execs (colB.drop 4) (lawE L f cd)) Q E s := by
  obtain ⟨fr, hr1, hr2⟩ := G.fn (11, "_law_rest") (by decide)
  have hkl' := hK.length
  obtain ⟨vz, hvz, tz, rfl⟩ := hK.get' hz
  refine wpAny_execs_cons (wpAny_If (wpAny_isTrue_Compare1 (callB (G.keeps (k0.trans F.keep)) boot_sorted (args_cons (Subscript_ (St.ld F hm1 (wpAny_Constant_int (getL (F.get i1 hi1) (k := 0) rfl rfl (by omega) (args_nil (sortedP (F.get i2 hi2) (hU.stab F.keep.t) hS hyl ?_))))))))))
  intro D h₁ vs' n' ws k₁ hno ho hI₁ hperm hpw
  have F₁ := F.all k₁
  refine callG (G.keeps (k0.trans F₁.keep)) hr1 (hr2.keeps (k0.trans F₁.keep)) (args_cons (St.ld F₁ hm2 (args_cons (wpAny_BinOp (Subscript_ (St.ld F₁ hm3 (wpAny_UnaryOp (wpAny_Constant_int (PySem.P.neg_int (getLN (F₁.keep _ _ hkn) (j := k) (by decide) (by omega) hvz (by omega) (wpAny_Constant_int (add_int (args_nil ⟨Keep.refl _, ?_⟩)))))))))))))
  refine rest_ok G (k0.trans F₁.keep) hr2 (hA.le (by omega)) (F₁.keep _ _ hob) (hO.stab F₁.keep.t) hol fun h₂ tk₂ nl us₂ n₂ k₂ _ ho₂ hI₂ => ?_
  rw [hP ws hperm hpw] at hI₁
  refine pairsNe (hA.le (by omega)) (k₂ _ _ ho) ho₂ (hI₁.stab k₂.t) hI₂ (wpAny_truthy_bool ?_)
  simp only [Bool.false_eq_true, if_false]
  exact wpAny_execs_nil (wpAny_execs_nil (h h₂ _ (F₁.all k₂)))
end
end Mine

end
section
namespace Mine
section
variable {prog : Program} {w : World} {A : Around} {s : Shared} {E : Value → Shared → Prop} {h₀ : Heap} {mg mb : Str → Option Value} {g : Heap} {L f : Addr} {cd : Value} {m : Str → Option Value} {mu : List (Addr × Obj)}
/-- the two ifs behind the hit -/
theorem law_c2 {ob kn : Addr} {os ks : List Value} {n3 : Nat} {order : List (Int × Int)} {kz : List Int} {k : Nat} {z : Int} {v : Value} {r : Option (Int × Int)} {Q : Flow → Shared → Prop} (G : Glb h₀ mg mb) (k0 : Keep h₀ g) (hA : Rm A 20) (F : St g s.heap L m mu)
    (hm2 : m "order" = some (.ref ob)) (hm3 : m "known" = some (.ref kn)) (hm4 : m "hit" = some v) (hH : HitAt g v r)
    (hob : g.get? ob = some (lst os n3)) (hO : Items prKd g os order) (hkn : g.get? kn = some (lst ks 0)) (hK : Items intKd g ks kz) (hkz : kz.length = k + 1) (hz : kz[k]? = some z) (hkl : kz.length < 2 ^ 16) (hol : order.length < 2 ^ 16)
    (hP1 : r.isNone = decide (k = 0)) (hP2 : ∀ p, r = some p → ∃ y rest, kz[k - 1]? = some y ∧ restF order (y + 1) = p.swap :: rest ∧ max p.2 (p.1 + 1) = z + 1)
    (h : ∀ h' tk m', St g h' L m' mu → (∀ x : Str, x ≠ "last" → x ≠ "begun" → m' x = m x) → wpAny (model prog w) A (execs (colB.drop 4) (lawE L f cd)) Q E { s with heap := h', toks := tk }) :
    wpAny (model prog w) A (execs (colB.drop 2) (lawE L f cd)) Q E s := by
  obtain ⟨fr, hr1, hr2⟩ := G.fn (11, "_law_rest") (by decide)
  have hkl' := hK.length
  -- if (hit is None) != (len(known) == 1)
  refine wpAny_execs_cons (wpAny_If (wpAny_isTrue_Compare1 (wpAny_Compare1 (St.ld F hm4 (constNone (isNone_ (hH.keeps F.keep) (wpAny_Compare1 (callB (G.keeps (k0.trans F.keep)) boot_len (args_cons (St.ld F hm3 (args_nil (lenL (F.keep _ _ hkn) (by omega) fun t1 tk1 => wpAny_Constant_int (eq_int (neBool (wpAny_truthy_bool ?_)))))))))))))))
  have e1 : (!(r.isNone == (((ks.length : Nat) : Int) == 1))) = false := by
    rw [hP1]
    by_cases hk : k = 0
    · have : (((ks.length : Nat) : Int) == 1) = true := by rw [beq_iff_eq]; omega
      rw [this]; simp [hk]
    · have : (((ks.length : Nat) : Int) == 1) = false := by rw [beq_eq_false_iff_ne]; omega
      rw [this]; simp [hk]
  simp only [e1, Bool.false_eq_true, if_false]
  refine wpAny_execs_nil ?_
  dsimp only
  -- if hit is not None
  refine wpAny_execs_cons (wpAny_If (wpAny_isTrue_Compare1 (St.ld F hm4 (constNone (isNotNone_ (hH.keeps F.keep) (wpAny_truthy_bool ?_))))))
  cases r with
  | none =>
    simp only [Option.isSome_none, Bool.false_eq_true, if_false]
    refine wpAny_execs_nil ?_
    exact h _ _ m F fun _ _ _ => rfl
  | some p =>
    simp only [Option.isSome_some, if_true]
    obtain ⟨y, rest, hy, hrest, hmax⟩ := hP2 p rfl
    have hk0 : k ≠ 0 := by simpa using hP1
    obtain ⟨vy, hvy, ty, rfl⟩ := hK.get' hy
    obtain ⟨vz, hvz, tz, rfl⟩ := hK.get' hz
    -- last, begun = _law_rest(order, known[-2] + 1)[0]
    refine wpAny_execs_cons (Assign_Tuple (Subscript_ (callG (G.keeps (k0.trans F.keep)) hr1 (hr2.keeps (k0.trans F.keep)) (args_cons (St.ld F hm2 (args_cons (wpAny_BinOp (Subscript_ (St.ld F hm3 (wpAny_UnaryOp (wpAny_Constant_int (PySem.P.neg_int (getLN (F.keep _ _ hkn) (j := k - 1) (by decide) (by omega) hvy (by omega) (wpAny_Constant_int (add_int (args_nil ⟨Keep.refl _, ?_⟩))))))))))))))))
    refine rest_ok G (k0.trans F.keep) hr2 (hA.le (by omega)) (F.keep _ _ hob) (hO.stab F.keep.t) hol fun h₂ tk₂ nl us₂ n₂ k₂ _ ho₂ hI₂ => ?_
    rw [hrest] at hI₂
    obtain ⟨vh, hvh, T, nT, ta, tb, rfl, hTT⟩ := hI₂.get' (i := 0) (y := p.swap) rfl
    have F₂ := F.all k₂
    refine wpAny_Constant_int (getLR ho₂ (k := 0) rfl hvh (by omega) (St.unpack2 F₂ hA.handled hTT fun h₃ tk₃ F₃ => ?_))
    dsimp only
    -- if hit.span() != (begun, last) or max(last, begun + 1) != known[-1] + 1
    refine wpAny_execs_cons (wpAny_If (isTrue_or (wpAny_isTrue_Compare1 (spanCall (G.nolimit.keeps (k0.trans F₃.keep)) (hA.le (by omega)) (hH.keeps F₃.keep) (fun hq => St.ld F₃ (show upd (upd m _ _) _ _ "hit" = some v from hm4) hq) fun h₄ tk₄ T₂ n₄ t₄ u₄ k₄ hno hT₂ => ?_))))
    have F₄ := (F₃.all k₄).add hT₂ (F₃.keep.none hno) (fun q => by
      obtain ⟨o, es, ep, hL, _⟩ := F₃.ns
      rw [q, hL] at hno; cases hno) (fun hm => by
      obtain ⟨p, hp, rfl⟩ := List.mem_map.mp hm
      rw [(F₃.mob p hp).1] at hno; cases hno)
    refine Tuple_ (args_cons (St.ld F₄ rfl (args_cons (St.ld F₄ rfl (args_nil (St.newT F₄ fun T₃ h₅ F₅ => tupNe hA.units (F₅.get 1) (F₅.get 0) (wpAny_truthy_bool ?_)))))))
    simp only [Bool.false_eq_true, if_false]
    refine isTrue_or (wpAny_isTrue_Compare1 (callB (G.keeps (k0.trans F₅.keep)) boot_max (args_cons (St.ld F₅ rfl (args_cons (wpAny_BinOp (St.ld F₅ rfl (wpAny_Constant_int (add_int (args_nil (max2 hA.handled fun h₆ tk₆ t₆ k₆ => ?_)))))))))))
    have F₆ := F₅.all k₆
    refine wpAny_BinOp (Subscript_ (St.ld F₆ (show upd (upd m _ _) _ _ "known" = some (.ref kn) from hm3) (wpAny_UnaryOp (wpAny_Constant_int (PySem.P.neg_int (getLN (F₆.keep _ _ hkn) (j := k) (by decide) (by omega) hvz (by omega) (wpAny_Constant_int (add_int (neInt (wpAny_truthy_bool ?_))))))))))
    have e2 : (!(max p.swap.1 (p.swap.2 + 1) == z + 1)) = false := by
      rw [show p.swap.1 = p.2 from rfl, show p.swap.2 = p.1 from rfl, hmax]; simp
    simp only [e2, Bool.false_eq_true, if_false]
    refine isTrue_or_nil ?_
    simp only [Bool.false_eq_true, if_false]
    refine wpAny_execs_nil (wpAny_execs_nil ?_)
    exact h h₆ _ _ (F₆.drop _ (.cons _ (.cons _ (List.Sublist.refl _)))) fun x h1 h2 => by
      show upd (upd m _ _) _ _ x = m x
      unfold upd
      rw [if_neg h2, if_neg h1]
end
end Mine

end
section
namespace Mine
/-! ### What is asked, with no program in sight -/
def nxt1 (xs : List (Int × Int)) (ys : List (Int × Int)) (p : Int) : Option (Int × Int) × List (Int × Int) := ((srchY xs ys p).head?.map Prod.swap, srchY xs ys p)
def InvY (xs ys : List (Int × Int)) : Prop := (∀ y ∈ ys, y ∈ xs.map Prod.swap) ∧ ys.length ≤ xs.length
def knownF (zs : List Int) (col : Int) : List Int := -1 :: zs.filter fun z => decide (z < col)
structure ColOk (xs order : List (Int × Int)) (zs : List Int) (col : Int) (ys : List (Int × Int)) : Prop where
  inv : InvY xs (srF (nxt1 xs) col ys).2
  hnone : (srF (nxt1 xs) col ys).1.isNone = decide ((zs.filter fun z => decide (z < col)).length = 0)
  hsome : ∀ p, (srF (nxt1 xs) col ys).1 = some p → ∃ y z rest, (knownF zs col)[(zs.filter fun z => decide (z < col)).length - 1]? = some y ∧ (knownF zs col)[(zs.filter fun z => decide (z < col)).length]? = some z ∧ restF order (y + 1) = p.swap :: rest ∧ max p.2 (p.1 + 1) = z + 1
  rest : ∀ (z : Int) (ws : List (Int × Int)), (knownF zs col)[(zs.filter fun z => decide (z < col)).length]? = some z → ws.Perm (srF (nxt1 xs) col ys).2 → ws.Pairwise (fun x y => pkey x ≤ pkey y) → ws = restF order (z + 1)
structure LawOk (xs : List (Int × Int)) : Prop where
  held : ∀ p ∈ xs, ∃ z ∈ nailsF xs, holdF p z = true
  nails : (nailsF xs).length < 2 ^ 15
  col : ∀ order : List (Int × Int), order.Perm (xs.map Prod.swap) → order.Pairwise (fun x y => pkey x ≤ pkey y) → ∀ i : Nat, i < 9 → ∀ ys, InvY xs ys → ColOk xs order (nailsF xs) (i : Nat) ys

section
variable {prog : Program} {w : World} {A : Around} {s : Shared} {E : Value → Shared → Prop} {h₀ : Heap} {mg mb : Str → Option Value} {g : Heap} {L f : Addr} {cd : Value} {m : Str → Option Value}
theorem law_p4 {v1 v2 v3 : Option Value} {b nb ob kl pg sf P P' : Addr} {q : Str} {ps : Array Value} {S : List (Addr × Obj)} {us os : List Value} {n' n'' : Nat} {xs order ys : List (Int × Int)} {zs : List Int} {Q : Flow → Shared → Prop} (G : Glb h₀ mg mb) (k0 : Keep h₀ g) (hA : Rm A 20)
    (hx : Val (xs.map Prod.swap)) (F : St g s.heap L m ([(L + 3, cellO v3), (L + 2, cellO v2), (L + 1, cellO v1), (P, tabObj ps)] ++ S)) (hO : (sr1 prog w G sf b kl P' q xs hx .none).Ok g S s.heap ys) (hV : Val ys)
    (hm2 : m "nails" = some (.ref nb)) (hm3 : m "order" = some (.ref ob)) (hm4 : m "kept" = some (.ref kl)) (hm5 : m "prog" = some (.ref pg)) (hnb : g.get? nb = some (lst us n')) (hJ : Items intKd g us zs) (hob : g.get? ob = some (lst os n'')) (hIo : Items prKd g os order)
    (hat : AttrAt g pg "search" sf) (hxl : xs.length ≤ 63) (hS : Small (xs.map Prod.swap)) (hz : zs.length < 2 ^ 15) (hol : order.length < 2 ^ 15) (hinv : InvY xs ys) (hcol : ∀ i : Nat, i < 9 → ∀ ys, InvY xs ys → ColOk xs order zs (i : Nat) ys)
    (h : ∀ h' tk g' m' v1 v2 v3 S', Keep g g' → St g' h' L m' ([(L + 3, cellO v3), (L + 2, cellO v2), (L + 1, cellO v1), (P, tabObj ps)] ++ S') → Q (.ret (.bool true)) { s with heap := h', toks := tk }) :
    wpAny (model prog w) A (execs (lawB.drop 7) (lawE L f cd)) Q E s := by
  obtain ⟨fs, hs1, hs2⟩ := G.fn (1, "search_reverse") (by decide)
  refine wpAny_execs_cons (wpAny_For (callT (G.keeps (k0.trans F.keep)) boot_range (args_cons (wpAny_Constant_int (args_nil (St.range1 F (k := 9) rfl fun r h₁ tk₁ t₁ u₁ w₁ F₁ => St.iterRange F₁ (by omega) fun it h₂ F₂ => ?_))))))
  refine codeAny_forLoop_any (fun k s' => ∃ g' h' tk m' S' ys' oI i v1 v2 v3, s' = { s with heap := h', toks := tk } ∧ St g' h' L m' ([(it, oI), (L + 3, cellO v3), (L + 2, cellO v2), (L + 1, cellO v1), (P, tabObj ps)] ++ S') ∧ Keep g g' ∧ (sr1 prog w G sf b kl P' q xs hx .none).Ok g' S' h' ys' ∧ Val ys' ∧ InvY xs ys' ∧
    ItR 9 i oI ∧ i ≤ 9 ∧ m' "nails" = some (.ref nb) ∧ m' "order" = some (.ref ob) ∧ m' "kept" = some (.ref kl) ∧ m' "prog" = some (.ref pg) ∧ 10 - i = k) ?_ 10
    ⟨g, h₂, _, m, S, ys, _, 0, v1, v2, v3, rfl, F₂, Keep.refl _, (sr1 prog w G sf b kl P' q xs hx .none).re (av := [_, _, _, _, _]) hO (Keep.refl _) F₂, hV, hinv, rfl, by omega, hm2, hm3, hm4, hm5, rfl⟩
  rintro k s' ⟨g', h', tk, m', S', ys', oI, i, v1, v2, v3, rfl, F', kg, hO', hV', hinv', hit, hi, m2, m3, m4, m5, rfl⟩
  have SR : Src prog w A it g' 9 (fun i v => ∃ t, v = .int (i : Nat) t) (ItR 9) := Src.range hA.handled
  by_cases hlt : i < 9
  · refine SR.item i _ oI _ _ hlt (F'.get 0) hit F'.keep fun v h₃ tk₃ oI₃ hPv hx₃ ho₃ hIt₃ => ?_
    obtain ⟨t, rfl⟩ := hPv
    have F₃ := F'.turn 0 rfl (ExtS.of hx₃) ho₃
    refine SR.owned (i + 1) _ oI₃ _ _ _ _ (F₃.get 0) hIt₃ ?_
    refine wpAny_assign_Name (St.stC F₃ (i := 1) rfl (fun h₄ F₄ => ?_) rfl)
    have F₄' : St g' h₄ L m' ((it, oI₃) :: (L + 3, cellO (some (.int (i : Nat) t))) :: ([(L + 2, cellO v2), (L + 1, cellO v1), (P, tabObj ps)] ++ S')) := F₄
    have hTS : NoTup S' := fun p hp => ((sr1 prog w G sf b kl P' q xs hx .none).mob hO' p hp).2.2
    have hT₁ : NoTup ([(L + 2, cellO v2), (L + 1, cellO v1), (P, tabObj ps)] ++ S') := .cell (.cell (.cons (fun vs n q => by simp at q) hTS))
    have hT₂ : NoTup ((it, oI₃) :: (L + 3, cellO (some (.int (i : Nat) t))) :: ([(L + 2, cellO v2), (L + 1, cellO v1), (P, tabObj ps)] ++ S')) := .cons (SR.ntup _ _ hIt₃) (.cell hT₁)
    have hTa : NoTup [(it, oI₃), (L + 3, cellO (some (.int (i : Nat) t))), (L + 2, cellO v2), (L + 1, cellO v1), (P, tabObj ps)] := .cons (SR.ntup _ _ hIt₃) (.cell (.cell (.cell (.cons (fun vs n q => by simp at q) .nil))))
    refine law_c0 hA F₄' hT₂ m2 (kg _ _ hnb) (hJ.stab kg.t) (by omega) fun h₅ tk₅ g₅ kn ks k₅ F₅ hkn hK => ?_
    have F₅' : St g₅ h₅ L (upd m' "known" (.ref kn)) ([(it, oI₃), (L + 3, cellO (some (.int (i : Nat) t))), (L + 2, cellO v2), (L + 1, cellO v1), (P, tabObj ps)] ++ S') := F₅
    have B₅ : Keep h₀ g₅ := k0.trans (kg.trans k₅)
    -- hit = search_reverse(prog, '........', col)
    refine wpAny_execs_cons (wpAny_Assign_Name (callG (G.keeps (B₅.trans F₅.keep)) hs1 (hs2.keeps (B₅.trans F₅.keep)) (args_cons (St.ld F₅ m5 (args_cons (wpAny_Constant_str (args_cons (ldC (hc := rfl) (F₅.get 1) (args_nil ⟨Keep.refl _, ?_⟩)))))))))
    refine sr_frame (sr1 prog w G sf b kl P' q xs hx _) G B₅ hs2 F₅' ((sr1 prog w G sf b kl P' q xs hx _).re hO' k₅ F₅') hV' hTa (hat.keeps (kg.trans k₅)) (hA.le (by omega)) fun h₆ tk₆ S₆ v₆ g₆ F₆ hO₆ hV₆ k₆ hH₆ => ?_
    have hc := hcol i hlt ys' hinv'
    refine St.st F₆ fun h₇ F₇ => ?_
    dsimp only
    have kg6 : Keep g g₆ := kg.trans (k₅.trans k₆)
    have hfl : (zs.filter fun z => decide (z < ((i : Nat) : Int))).length ≤ zs.length := List.length_filter_le ..
    have hkl : (knownF zs (i : Nat)).length = (zs.filter fun z => decide (z < ((i : Nat) : Int))).length + 1 := by unfold knownF; simp
    obtain ⟨z, hz'⟩ : ∃ z, (knownF zs (i : Nat))[(zs.filter fun z => decide (z < ((i : Nat) : Int))).length]? = some z := ⟨_, List.getElem?_eq_getElem (by omega)⟩
    refine law_c2 (kz := knownF zs (i : Nat)) (k := (zs.filter fun z => decide (z < ((i : Nat) : Int))).length) (z := z) (r := (srF (nxt1 xs) (i : Nat) ys').1) G (k0.trans kg6) hA F₇ (show upd (upd m' _ _) _ _ "order" = _ from m3) rfl rfl hH₆ (kg6 _ _ hob) (hIo.stab kg6.t) (k₆ _ _ hkn) (hK.stab k₆.t) hkl hz' (by omega) (by omega) hc.hnone ?_ ?_
    · intro p hp
      obtain ⟨y, z₂, rest, a1, a2, a3, a4⟩ := hc.hsome p hp
      rw [hz'] at a2
      cases a2
      exact ⟨y, rest, a1, a3, a4⟩
    intro h₈ tk₈ m₈ F₈ hm₈
    have hO₈ := (sr1 prog w G sf b kl P' q xs hx .none).re hO₆ (Keep.refl _) F₈
    have hO₈' := hO₈
    obtain ⟨hl, n1, us', n2, ps', eS, vs₉, n₉, b1, b2, b3, b4, b5, b6, b7, b8, b9, b10, b11, b12, b13, b14⟩ := hO₈'
    subst eS
    refine law_c4 (i1 := 5) (i2 := 6) (ys := (srF (nxt1 xs) (i : Nat) ys').2) (kz := knownF zs (i : Nat)) (k := (zs.filter fun z => decide (z < ((i : Nat) : Int))).length) (z := z) G (k0.trans kg6) hA F₈ (by rw [hm₈ _ (by decide) (by decide)]; exact m4) (by rw [hm₈ _ (by decide) (by decide)]; exact m3) (by rw [hm₈ _ (by decide) (by decide)]; rfl) rfl rfl b12 (kg6 _ _ hob) (hIo.stab kg6.t) (k₆ _ _ hkn) (hK.stab k₆.t) hkl hz' (by omega) (by omega) (fun p hp => hS p (hc.inv.1 p hp)) (by have := hc.inv.2; omega) (fun ws h1 h2 => hc.rest z ws hz' h1 h2) ?_
    intro h₉ tk₉ F₉
    exact ⟨10 - (i + 1), by omega, g₆, h₉, tk₉, m₈, _, (srF (nxt1 xs) (i : Nat) ys').2, oI₃, i + 1, v1, v2, _, rfl, F₉, kg6, (sr1 prog w G sf b kl P' q xs hx .none).re hO₈ (Keep.refl _) F₉, hV₆, hc.inv, hIt₃, by omega, by rw [hm₈ _ (by decide) (by decide)]; exact m2, by rw [hm₈ _ (by decide) (by decide)]; exact m3, by rw [hm₈ _ (by decide) (by decide)]; exact m4, by rw [hm₈ _ (by decide) (by decide)]; exact m5, rfl⟩
  · have hin : i = 9 := by omega
    subst hin
    refine SR.done _ oI _ _ (F'.get 0) hit F'.keep fun h₃ hx₃ => ?_
    refine wpAny_execs_nil ?_
    dsimp only
    have F₃ : St g' h₃ L m' ([(L + 3, cellO v3), (L + 2, cellO v2), (L + 1, cellO v1), (P, tabObj ps)] ++ S') := St.lose F' hx₃
    refine wpAny_execs_cons (wpAny_Return_some (wpAny_Constant_bool ?_))
    exact h h₃ _ g' m' v1 v2 v3 S' kg F₃
end
end Mine

end
section
namespace Mine
theorem stayF_bounds (x : Int) : 0 ≤ (stayF x).1 ∧ (stayF x).1 ≤ 5 ∧ (stayF x).1 ≤ (stayF x).2 ∧ (stayF x).2 ≤ (stayF x).1 + 3 := by
  unfold stayF
  have e1 : x.fmod 6 = x % 6 := Int.fmod_eq_emod_of_nonneg x (by decide)
  have e2 : x.fmod 24 = x % 24 := Int.fmod_eq_emod_of_nonneg x (by decide)
  have e3 : (x % 24).fdiv 6 = (x % 24) / 6 := Int.fdiv_eq_ediv_of_nonneg _ (by decide)
  simp only [e1, e2, e3]
  omega
theorem numsF_length {ns : List Int} (h : ns.length ≤ 63) : (numsF ns).length ≤ 8 := by
  unfold numsF
  split <;> simp <;> omega
section
variable {prog : Program} {w : World} {A : Around} {s : Shared} {E : Value → Shared → Prop} {h₀ : Heap} {mg mb : Str → Option Value} {g : Heap} {L f : Addr} {cd : Value} {m : Str → Option Value}
theorem law_walk {b fp c P : Addr} {vs : List Value} {ns : List Int} {Q : Flow → Shared → Prop} (G : Glb h₀ mg mb) (k0 : Keep h₀ g) (hA : Rm A 20) (hfp : mg "_law_prog" = some (.ref fp)) (hf : FnIsC h₀ fp "_law_prog" 10 c) (C : CodeHd h₀ c P)
    (F : St g s.heap L m [(L + 3, cellO none), (L + 2, cellO none), (L + 1, cellO none), (P, tabObj #[])]) (hm : m "script" = some (.ref b)) (hb : g.IsList b vs.toArray) (hI : IntsAre vs ns) (hlen : ns.length ≤ 63)
    (hok : LawOk ((numsF ns).map stayF)) (h : ∀ h' tk ps, Keep h₀ h' → h'.get? P = some (tabObj ps) → Q (.ret (.bool true)) { s with heap := h', toks := tk }) :
    wpAny (model prog w) A (execs lawB (lawE L f cd)) Q E s := by
  have T₁ : NoTup [(L + 3, cellO none), (L + 2, cellO none), (L + 1, cellO none), (P, tabObj #[])] := .cell (.cell (.cell (.cons (fun vs n q => by simp at q) .nil)))
  have hxl : ((numsF ns).map stayF).length ≤ 63 := by have := numsF_length hlen; simp; omega
  have hS : Small (((numsF ns).map stayF).map Prod.swap) := by
    intro p hp
    simp only [List.map_map, List.mem_map, Function.comp] at hp
    obtain ⟨x, _, rfl⟩ := hp
    have := stayF_bounds x
    exact ⟨this.1, by show (stayF x).1 < 1000; omega⟩
  have hV : Val (((numsF ns).map stayF).map Prod.swap) := by
    refine ⟨fun p hp => ?_, by simp at hxl ⊢; omega⟩
    simp only [List.map_map, List.mem_map, Function.comp] at hp
    obtain ⟨x, _, rfl⟩ := hp
    exact (stayF_bounds x).2.2.1
  have hnl := hok.nails
  refine law_p1 G k0 hA F T₁ hm hb hI hlen fun h₁ tk₁ g₁ m₁ b₁ vs₁ n₁ nb us n₂ k₁ F₁ q1 q2 hb₁ hI₁ hnb hJ => ?_
  refine law_p2 G (k0.trans k₁) hA F₁ (fun vs n q => by simp at q) (.cons (fun vs n q => by simp at q) .nil) q1 q2 hb₁ hI₁ hnb hJ hxl (by omega) hok.held fun h₂ tk₂ v1 v2 F₂ => ?_
  refine law_p3 G (k0.trans k₁) hA hfp hf C F₂ (fun vs n q => by simp at q) q1 q2 hb₁ hI₁ hnb hJ hxl hS ?_
  intro h₃ tk₃ g₃ m₃ ob os n₃ order kl hl n4 n5 pg sf P' ps q k₃ F₃ r1 r2 r3 r4 hnb₃ hJ₃ hob hIo hperm hpw hat hse hb₃ hI₃
  have hol := hperm.length_eq
  simp only [List.length_map] at hol
  refine law_p4 (ys := []) G k₃ hA hV (F₃.perm List.perm_append_comm) ⟨hl, n4, [], n5, #[], rfl, vs₁, n₁, F₃.keep, k₃, hse, hb₃, hI₃, F₃.fresh 0, F₃.fresh 1, F₃.fresh 2, ?_, F₃.get 0, F₃.get 1, Items.nil, F₃.get 2, .inl rfl⟩ ⟨fun _ h => (nomatch h), by simp⟩ r1 r2 r3 r4 hnb₃ hJ₃ hob hIo hat hxl hS hnl (by simp at hxl; omega) ⟨fun _ h => (nomatch h), Nat.zero_le _⟩ (hok.col order hperm hpw) ?_
  · have := F₃.nd
    exact this.sublist (.cons_cons _ (.cons_cons _ (.cons_cons _ (List.nil_sublist _))))
  intro h₄ tk₄ g₄ m₄ v1 v2 v3 S' k₄ F₄
  exact h h₄ _ ps (k₃.trans (k₄.trans F₄.keep)) (F₄.get 3)
end
end Mine

end
section
namespace Mine
/-! ### The heap functions are right -/
section
variable {β : Type} {lt : β → β → Bool}
def LeB (lt : β → β → Bool) (a b : β) : Prop := lt b a = false
structure Ord (lt : β → β → Bool) : Prop where
  asymm : ∀ {a b}, lt a b = true → lt b a = false
  trans : ∀ {a b c}, LeB lt a b → LeB lt b c → LeB lt a c
theorem Ord.refl (O : Ord lt) (a : β) : LeB lt a a := by
  unfold LeB
  cases h : lt a a with
  | false => rfl
  | true => rw [← h]; exact O.asymm h
def HeapFrom (lt : β → β → Bool) (st : Nat) (l : List β) : Prop := ∀ i x y, 0 < i → st ≤ (i - 1) / 2 → l[(i - 1) / 2]? = some x → l[i]? = some y → LeB lt x y
def Hole (lt : β → β → Bool) (st p : Nat) (l : List β) : Prop := ∀ i x y, 0 < i → st ≤ (i - 1) / 2 → i ≠ p → (i - 1) / 2 ≠ p → l[(i - 1) / 2]? = some x → l[i]? = some y → LeB lt x y
def UpOk (lt : β → β → Bool) (p : Nat) (l : List β) : Prop := ∀ i x y, 0 < i → (i - 1) / 2 = p → l[(p - 1) / 2]? = some x → l[i]? = some y → LeB lt x y
inductive Sub (st : Nat) : Nat → Prop
  | refl : Sub st st
  | step (p : Nat) : 0 < p → Sub st ((p - 1) / 2) → Sub st p
theorem Sub.le {st p : Nat} (h : Sub st p) : st ≤ p := by
  induction h with
  | refl => exact Nat.le_refl _
  | step p h0 _ ih => omega
theorem Sub.up {st p : Nat} (h : Sub st p) (hp : st < p) : Sub st ((p - 1) / 2) := by
  cases h with
  | refl => omega
  | step _ _ h => exact h
theorem Sub.zero : ∀ (p : Nat), Sub 0 p := by
  intro p
  induction p using Nat.strongRecOn with
  | _ p ih =>
    by_cases h : p = 0
    · subst h; exact .refl
    · exact .step p (by omega) (ih _ (by omega))

theorem sd_heap (O : Ord lt) (st : Nat) (x : β) : ∀ (n : Nat) (l : List β) (p : Nat), p = n → Sub st p → p < l.length → Hole lt st p l → (∀ i y, 0 < i → (i - 1) / 2 = p → l[i]? = some y → LeB lt x y) → (st < p → UpOk lt p l) → HeapFrom lt st (sdLoop lt st x l p) := by
  intro n
  induction n using Nat.strongRecOn with
  | _ n ih =>
    intro l p hn hsub hpl hH hC hU
    -- placing x at p
    have place : (∀ y, 0 < p → st ≤ (p - 1) / 2 → l[(p - 1) / 2]? = some y → LeB lt y x) → HeapFrom lt st (l.set p x) := by
      intro hpar i a b hi hst ha hb
      rw [List.getElem?_set] at ha hb
      by_cases h1 : p = i
      · subst h1
        rw [if_pos rfl, if_pos hpl] at hb
        rw [if_neg (by omega)] at ha
        cases hb
        exact hpar a hi hst ha
      · rw [if_neg h1] at hb
        by_cases h2 : p = (i - 1) / 2
        · rw [if_pos h2, if_pos hpl] at ha
          cases ha
          exact hC i b hi h2.symm hb
        · rw [if_neg h2] at ha
          exact hH i a b hi hst (Ne.symm h1) (Ne.symm h2) ha hb
    rw [sdLoop]
    by_cases hlt : st < p
    · simp only [hlt, dite_true]
      obtain ⟨q, hq⟩ : ∃ q, l[(p - 1) / 2]? = some q := ⟨_, List.getElem?_eq_getElem (by omega)⟩
      rw [hq]
      dsimp only
      have hsq := hsub.up hlt
      have hsq' := hsq.le
      by_cases hc : lt x q = true
      · rw [if_pos hc]
        have hxq : LeB lt x q := O.asymm hc
        refine ih ((p - 1) / 2) (by omega) _ _ rfl hsq (by simp; omega) ?_ ?_ ?_
        · intro i a b hi hst h1 h2 ha hb
          rw [List.getElem?_set] at ha hb
          rw [if_neg (show p ≠ i from fun e => h2 (by rw [e]))] at hb
          by_cases h3 : p = (i - 1) / 2
          · rw [if_pos h3, if_pos hpl] at ha
            cases ha
            exact hU hlt i q b hi h3.symm hq hb
          · rw [if_neg h3] at ha
            exact hH i a b hi hst (fun e => h2 (by rw [e])) (Ne.symm h3) ha hb
        · intro i b hi h1 hb
          rw [List.getElem?_set] at hb
          by_cases h3 : p = i
          · rw [if_pos h3, if_pos hpl] at hb
            cases hb; exact hxq
          · rw [if_neg h3] at hb
            exact O.trans hxq (hH i q b hi (by omega) (Ne.symm h3) (by omega) (by rw [h1]; exact hq) hb)
        · intro hlt2 i a b hi h1 ha hb
          rw [List.getElem?_set] at ha hb
          rw [if_neg (by omega)] at ha
          have hsr := (hsq.up hlt2).le
          have haq : LeB lt a q := hH ((p - 1) / 2) a q (by omega) hsr (by omega) (by omega) ha hq
          by_cases h3 : p = i
          · rw [if_pos h3, if_pos hpl] at hb
            cases hb; exact haq
          · rw [if_neg h3] at hb
            exact O.trans haq (hH i q b hi (by omega) (Ne.symm h3) (by omega) (by rw [h1]; exact hq) hb)
      · rw [if_neg hc]
        refine place fun y _ _ hy => ?_
        rw [hq] at hy
        cases hy
        exact eq_false_of_ne_true hc
    · simp only [hlt, dite_false]
      have := hsub.le
      exact place fun y h0 h1 _ => absurd h1 (by omega)
theorem sd_perm (st : Nat) (x : β) : ∀ (n : Nat) (l : List β) (p : Nat), p = n → p < l.length → (sdLoop lt st x l p).Perm (l.set p x) := by
  intro n
  induction n using Nat.strongRecOn with
  | _ n ih =>
    intro l p hn hp
    rw [sdLoop]
    by_cases hlt : st < p
    · simp only [hlt, dite_true]
      have hq' : (p - 1) / 2 < l.length := by omega
      rw [List.getElem?_eq_getElem hq']
      dsimp only
      split
      · refine (ih ((p - 1) / 2) (by omega) _ _ rfl (by simp; omega)).trans ?_
        have := List.set_set_perm (as := l.set p x) (i := p) (j := (p - 1) / 2) (by simpa using hp) (by simpa using hq')
        rw [List.getElem_set_self, List.getElem_set_ne (by omega), List.set_set] at this
        exact this
      · exact .refl _
    · simp only [hlt, dite_false]
      exact .refl _
theorem siftdown_perm (l : List β) (st p : Nat) : (siftdown lt l st p).Perm l := by
  unfold siftdown
  rcases h : l[p]? with _ | x
  · exact .refl _
  · obtain ⟨hp, e⟩ := List.getElem?_eq_some_iff.mp h
    refine (sd_perm st x p l p rfl hp).trans ?_
    rw [← e, List.set_getElem_self]

theorem child_le (O : Ord lt) {l : List β} {p : Nat} : ∀ i y z, 0 < i → (i - 1) / 2 = p → l[i]? = some y → l[child lt l p]? = some z → LeB lt z y := by
  intro i y z hi hip hy hz
  unfold child at hz
  have hi' : i = 2 * p + 1 ∨ i = 2 * p + 2 := by omega
  rcases h1 : l[2 * p + 1]? with _ | a
  · rcases hi' with rfl | rfl
    · rw [h1] at hy; cases hy
    · have := (List.getElem?_eq_some_iff.mp hy).1
      have := List.getElem?_eq_none_iff.mp h1
      omega
  · rcases h2 : l[2 * p + 2]? with _ | b
    · rw [h1, h2] at hz
      dsimp only at hz
      rcases hi' with rfl | rfl
      · rw [hz] at hy; cases hy; exact O.refl _
      · rw [h2] at hy; cases hy
    · rw [h1, h2] at hz
      dsimp only at hz
      by_cases hc : lt a b = true
      · rw [if_pos hc, h1] at hz
        cases hz
        rcases hi' with rfl | rfl
        · rw [h1] at hy; cases hy; exact O.refl _
        · rw [h2] at hy; cases hy; exact O.asymm hc
      · rw [if_neg hc, h2] at hz
        cases hz
        rcases hi' with rfl | rfl
        · rw [h1] at hy; cases hy; exact eq_false_of_ne_true hc
        · rw [h2] at hy; cases hy; exact O.refl _
theorem su_heap (O : Ord lt) (st : Nat) : ∀ (n : Nat) (l : List β) (p : Nat), l.length - p = n → Sub st p → p < l.length → Hole lt st p l → (st < p → UpOk lt p l) →
    Sub st (suLoop lt l p).2 ∧ (suLoop lt l p).2 < (suLoop lt l p).1.length ∧ Hole lt st (suLoop lt l p).2 (suLoop lt l p).1 ∧ (suLoop lt l p).1.length ≤ 2 * (suLoop lt l p).2 + 1 := by
  intro n
  induction n using Nat.strongRecOn with
  | _ n ih =>
    intro l p hn hsub hpl hH hU
    rw [suLoop]
    have hcg := child_gt lt l p
    have hcc := child_cases lt l p
    by_cases hc : child lt l p < l.length
    · simp only [hc, dite_true]
      generalize hcd : child lt l p = c at hc hcg hcc
      have hgc : l[c]? = some l[c] := List.getElem?_eq_getElem hc
      have hcl : ∀ i y, 0 < i → (i - 1) / 2 = p → l[i]? = some y → LeB lt l[c] y := fun i y hi hip hy => child_le O i y _ hi hip hy (by rw [hcd]; exact hgc)
      refine ih _ ?_ _ c rfl (.step c (by omega) (by rw [show (c - 1) / 2 = p by omega]; exact hsub)) (by simpa using hc) ?_ ?_
      · simp; omega
      · intro i a b hi hst h1 h2 ha hb
        rw [List.getElem?_set] at ha hb
        by_cases h3 : p = i
        · rw [if_pos h3, if_pos hpl] at hb
          cases hb
          subst h3
          rw [if_neg (by omega)] at ha
          have : st < p := by omega
          exact hU this c a l[c] (by omega) (by omega) ha hgc
        · rw [if_neg h3] at hb
          by_cases h4 : p = (i - 1) / 2
          · rw [if_pos h4, if_pos hpl] at ha
            cases ha
            exact hcl i b hi h4.symm hb
          · rw [if_neg h4] at ha
            exact hH i a b hi hst (Ne.symm h3) (Ne.symm h4) ha hb
      · intro _ i a b hi h1 ha hb
        rw [List.getElem?_set] at ha hb
        rw [if_pos (by omega), if_pos hpl] at ha
        rw [if_neg (by omega)] at hb
        cases ha
        exact hH i l[c] b hi (by have := hsub.le; omega) (by omega) (by omega) (by rw [h1]; exact hgc) hb
    · simp only [hc, dite_false]
      refine ⟨hsub, hpl, hH, ?_⟩
      rcases Nat.lt_or_ge (2 * p + 2) l.length with h2 | h2
      · omega
      · by_cases h3 : 2 * p + 1 < l.length
        · rcases hcc with h | h
          · omega
          · unfold child at h
            rw [List.getElem?_eq_none (show l.length ≤ 2 * p + 2 from h2)] at h
            split at h
            · rename_i h5; cases h5
            · omega
        · omega
theorem su_perm (x : β) : ∀ (n : Nat) (l : List β) (p : Nat), l.length - p = n → p < l.length → ((suLoop lt l p).1.set (suLoop lt l p).2 x).Perm (l.set p x) := by
  intro n
  induction n using Nat.strongRecOn with
  | _ n ih =>
    intro l p hn hp
    rw [suLoop]
    have hcg := child_gt lt l p
    by_cases hc : child lt l p < l.length
    · simp only [hc, dite_true]
      refine (ih _ ?_ (l.set p l[child lt l p]) (child lt l p) rfl (by simpa using hc)).trans ?_
      · simp; omega
      · have := List.set_set_perm (as := l.set p x) (i := p) (j := child lt l p) (by simpa using hp) (by simpa using hc)
        rw [List.getElem_set_self, List.getElem_set_ne (by omega), List.set_set] at this
        exact this
    · simp only [hc, dite_false]
      exact .refl _
theorem siftup_perm (l : List β) (p : Nat) : (siftup lt l p).Perm l := by
  unfold siftup
  rcases h : l[p]? with _ | x
  · exact .refl _
  · obtain ⟨hp, e⟩ := List.getElem?_eq_some_iff.mp h
    refine (siftdown_perm _ _ _).trans ((su_perm x _ l p rfl hp).trans ?_)
    rw [← e, List.set_getElem_self]
theorem siftup_heap (O : Ord lt) {l : List β} {p : Nat} (hp : p < l.length) (h : HeapFrom lt (p + 1) l) : HeapFrom lt p (siftup lt l p) := by
  have hx : l[p]? = some l[p] := List.getElem?_eq_getElem hp
  unfold siftup
  rw [hx]
  dsimp only
  obtain ⟨a1, a2, a3, a4⟩ := su_heap O p _ l p rfl .refl hp (fun i a b hi hst h1 h2 ha hb => h i a b hi (by omega) ha hb) (fun h => absurd h (Nat.lt_irrefl _))
  generalize suLoop lt l p = r at a1 a2 a3 a4
  obtain ⟨l', q⟩ := r
  dsimp only at a1 a2 a3 a4 ⊢
  have hg : (l'.set q l[p])[q]? = some l[p] := by rw [List.getElem?_set, if_pos rfl, if_pos a2]
  unfold siftdown
  rw [hg]
  dsimp only
  refine sd_heap O p l[p] q _ q rfl a1 (by simpa using a2) ?_ ?_ ?_
  · intro i a b hi hst h1 h2 ha hb
    rw [List.getElem?_set, if_neg (Ne.symm h2)] at ha
    rw [List.getElem?_set, if_neg (Ne.symm h1)] at hb
    exact a3 i a b hi hst h1 h2 ha hb
  · intro i y hi h1 hy
    have := (List.getElem?_eq_some_iff.mp hy).1
    simp at this
    omega
  · intro _ i a b hi h1 _ hb
    have := (List.getElem?_eq_some_iff.mp hb).1
    simp at this
    omega
theorem hify_perm : ∀ (k : Nat) (l : List β), (hify lt l k).Perm l
  | 0, _ => .refl _
  | k + 1, l => (hify_perm k _).trans (siftup_perm l k)
theorem heapifyF_perm (l : List β) : (heapifyF lt l).Perm l := hify_perm _ _
theorem hify_heap (O : Ord lt) : ∀ (k : Nat) (l : List β), k ≤ l.length / 2 → HeapFrom lt k l → HeapFrom lt 0 (hify lt l k)
  | 0, _, _, h => h
  | k + 1, l, hk, h => hify_heap O k _ (by rw [siftup_length]; omega) (siftup_heap O (by omega) h)
theorem heapifyF_heap (O : Ord lt) (l : List β) : HeapFrom lt 0 (heapifyF lt l) := by
  refine hify_heap O _ _ (Nat.le_refl _) fun i x y hi hst _ hy => ?_
  have := (List.getElem?_eq_some_iff.mp hy).1
  omega
theorem heap_min (O : Ord lt) {l : List β} {x : β} (h : HeapFrom lt 0 l) (hx : l[0]? = some x) : ∀ (i : Nat) (y : β), l[i]? = some y → LeB lt x y := by
  intro i
  induction i using Nat.strongRecOn with
  | _ i ih =>
    intro y hy
    by_cases hi : i = 0
    · subst hi; rw [hx] at hy; cases hy; exact O.refl _
    · have hl := (List.getElem?_eq_some_iff.mp hy).1
      have hp : l[(i - 1) / 2]? = some (l[(i - 1) / 2]'(by omega)) := List.getElem?_eq_getElem _
      exact O.trans (ih ((i - 1) / 2) (by omega) _ hp) (h i _ y (by omega) (Nat.zero_le _) hp hy)
theorem hpop_head (l : List β) (h : l ≠ []) : (hpop lt l h).1 = l.head h := by
  have hl := List.dropLast_concat_getLast h
  unfold hpop
  rcases hd : l.dropLast with _ | ⟨y, r⟩
  · rw [hd] at hl
    dsimp only
    generalize l.getLast h = z at hl
    subst hl; rfl
  · rw [hd] at hl
    dsimp only
    generalize l.getLast h = z at hl
    subst hl; rfl
theorem hpop_perm (l : List β) (h : l ≠ []) : ((hpop lt l h).1 :: (hpop lt l h).2).Perm l := by
  have hl := List.dropLast_concat_getLast h
  unfold hpop
  rcases hd : l.dropLast with _ | ⟨y, r⟩
  · rw [hd] at hl
    dsimp only
    generalize l.getLast h = z at hl
    subst hl; exact .refl _
  · rw [hd] at hl
    dsimp only
    refine ((siftup_perm _ _).cons _).trans ?_
    generalize l.getLast h = z at hl
    subst hl
    exact (List.perm_append_comm (l₁ := [z]) (l₂ := r)).cons y
theorem hpop_heap (O : Ord lt) {l : List β} (h : l ≠ []) (hp : HeapFrom lt 0 l) : HeapFrom lt 0 (hpop lt l h).2 := by
  have hl := List.dropLast_concat_getLast h
  unfold hpop
  rcases hd : l.dropLast with _ | ⟨y, r⟩
  · intro i x y _ _ hx _; simp at hx
  · dsimp only
    refine siftup_heap O (by simp) fun i a b hi hst ha hb => ?_
    rw [hd] at hl
    have key : ∀ j v, 0 < j → (l.getLast h :: r)[j]? = some v → l[j]? = some v := fun j v hj hv => by
      obtain ⟨k, rfl⟩ : ∃ k, j = k + 1 := ⟨j - 1, by omega⟩
      rw [← hl]
      simp only [List.getElem?_cons_succ, List.cons_append] at hv ⊢
      rw [List.getElem?_append_left (List.getElem?_eq_some_iff.mp hv).1]
      exact hv
    exact hp i a b hi (Nat.zero_le _) (key _ _ (by omega) ha) (key _ _ hi hb)
theorem hpush_perm (l : List β) (x : β) : (hpush lt l x).Perm (x :: l) := (siftdown_perm _ _ _).trans (List.perm_append_comm (l₁ := l) (l₂ := [x]))
theorem hpush_heap (O : Ord lt) {l : List β} {x : β} (h : HeapFrom lt 0 l) : HeapFrom lt 0 (hpush lt l x) := by
  have hx : (l ++ [x])[l.length]? = some x := by simp
  unfold hpush siftdown
  rw [hx]
  dsimp only
  refine sd_heap O 0 x _ _ _ rfl (Sub.zero _) (by simp) ?_ ?_ ?_
  · intro i a b hi hst h1 h2 ha hb
    have hi' := (List.getElem?_eq_some_iff.mp hb).1
    simp at hi'
    rw [List.getElem?_append_left (by omega)] at ha hb
    exact h i a b hi hst ha hb
  · intro i y hi h1 hy
    have := (List.getElem?_eq_some_iff.mp hy).1
    simp at this
    omega
  · intro _ i a b hi h1 _ hb
    have := (List.getElem?_eq_some_iff.mp hb).1
    simp at this
    omega
end
end Mine

end
section
namespace Mine
/-! ### Law 1, plain -/
theorem plt_iff {p q : Int × Int} : plt p q = true ↔ p.1 < q.1 ∨ (p.1 = q.1 ∧ p.2 < q.2) := by
  unfold plt
  by_cases h1 : p.1 = q.1
  · have e1 : (p.1 == q.1) = true := by simpa using h1
    simp only [e1, if_true]
    by_cases h2 : p.2 = q.2
    · have e2 : (p.2 == q.2) = true := by simpa using h2
      simp only [e2, if_true]
      constructor
      · intro h; cases h
      · intro h; omega
    · have e2 : (p.2 == q.2) = false := by simpa using h2
      simp only [e2, Bool.false_eq_true, if_false, decide_eq_true_eq]
      omega
  · have e1 : (p.1 == q.1) = false := by simpa using h1
    simp only [e1, Bool.false_eq_true, if_false, decide_eq_true_eq]
    omega
theorem pLe_iff {p q : Int × Int} : LeB plt p q ↔ p.1 < q.1 ∨ (p.1 = q.1 ∧ p.2 ≤ q.2) := by
  unfold LeB
  rw [← Bool.not_eq_true, plt_iff]
  omega
theorem plt_ord : Ord plt where
  asymm := fun {a b} h => by
    rw [← Bool.not_eq_true, plt_iff]
    rw [plt_iff] at h
    omega
  trans := fun {a b c} h1 h2 => by
    rw [pLe_iff] at h1 h2 ⊢
    omega
theorem ilt_ord : Ord ilt where
  asymm := fun {a b} h => by
    simp only [ilt, decide_eq_true_eq, decide_eq_false_iff_not] at h ⊢
    omega
  trans := fun {a b c} h1 h2 => by
    simp only [LeB, ilt, decide_eq_false_iff_not] at h1 h2 ⊢
    omega
theorem iLe_iff {a b : Int} : LeB ilt a b ↔ a ≤ b := by
  simp only [LeB, ilt, decide_eq_false_iff_not]; omega
theorem pLe_key {p q : Int × Int} (hp : 0 ≤ p.2 ∧ p.2 < 1000) (hq : 0 ≤ q.2 ∧ q.2 < 1000) : pkey p ≤ pkey q ↔ LeB plt p q := by
  rw [pLe_iff]; unfold pkey; omega
theorem pLe_anti {p q : Int × Int} (h1 : LeB plt p q) (h2 : LeB plt q p) : p = q := by
  rw [pLe_iff] at h1 h2
  exact Prod.ext (by omega) (by omega)

/-- the nails: each one is the least place behind, less one, of those that begin behind the one ahead -/
inductive Chain (X : List (Int × Int)) : Int → List Int → Prop
  | nil {z : Int} : (∀ x ∈ X, x.1 ≤ z) → Chain X z []
  | cons {z z' : Int} {r : List Int} : (∃ x ∈ X, z < x.1 ∧ x.2 = z' + 1) → (∀ x ∈ X, z < x.1 → z' + 1 ≤ x.2) → Chain X z' r → Chain X z (z' :: r)
theorem Chain.held {X : List (Int × Int)} {z : Int} {r : List Int} (h : Chain X z r) : ∀ x ∈ X, z < x.1 → ∃ n ∈ r, x.1 ≤ n ∧ n < x.2 := by
  induction h with
  | nil h => intro x hx hz; have := h x hx; omega
  | @cons z z' r h1 h2 _ ih =>
    intro x hx hz
    by_cases hc : z' < x.1
    · obtain ⟨n, hn, hq⟩ := ih x hx hc
      exact ⟨n, .tail _ hn, hq⟩
    · have := h2 x hx hz
      exact ⟨z', .head _, by omega, by omega⟩
theorem Chain.gt {X : List (Int × Int)} (hX : ∀ x ∈ X, x.1 < x.2) {z : Int} {r : List Int} (h : Chain X z r) : ∀ n ∈ r, z < n := by
  induction h with
  | nil _ => intro n hn; cases hn
  | @cons z z' r h1 h2 _ ih =>
    obtain ⟨x, hx, h3, h4⟩ := h1
    have := hX x hx
    intro n hn
    rcases List.mem_cons.mp hn with rfl | hn
    · omega
    · have := ih n hn; omega

theorem mem_head {β : Type} {l : List β} (h : l ≠ []) : l[0]? = some (l.head h) := by
  cases l with
  | nil => exact absurd rfl h
  | cons x r => rfl
theorem hpush_nil {β : Type} (lt : β → β → Bool) (x : β) : hpush lt [] x = [x] := by
  have h := hpush_perm (lt := lt) [] x
  exact List.perm_singleton.mp h

theorem nailsL_chain {X : List (Int × Int)} (hX : ∀ x ∈ X, x.1 < x.2) : ∀ (k : Nat) (coming : List (Int × Int)) (overs nails : List Int) (z : Int), coming.length = k → HeapFrom plt 0 coming → HeapFrom ilt 0 overs → (coming ≠ [] ∨ overs ≠ []) →
    (∀ o ∈ overs, ∃ x ∈ X, z < x.1 ∧ x.2 = o) → (∀ x ∈ coming, x ∈ X ∧ z < x.1) → (∀ x ∈ X, z < x.1 → x ∈ coming ∨ (x.2 ∈ overs ∧ (∀ o ∈ overs, x.1 < o) ∧ ∀ c ∈ coming, x.1 ≤ c.1)) →
    ∃ r, nailsL coming overs nails = nails ++ r ∧ Chain X z r := by
  intro k
  induction k with
  | zero =>
    intro coming overs nails z hk hc ho hne h1 h2 h3
    have hce : coming = [] := List.length_eq_zero_iff.mp hk
    subst hce
    have hoe : overs ≠ [] := hne.resolve_left fun h => h rfl
    rw [nailsL, dif_pos rfl]
    have hh : overs.headD 0 = overs.head hoe := by cases overs with
      | nil => exact absurd rfl hoe
      | cons _ _ => rfl
    have hmin : ∀ o ∈ overs, overs.head hoe ≤ o := fun o hm => by
      obtain ⟨i, hi⟩ := List.mem_iff_getElem?.mp hm
      exact iLe_iff.mp (heap_min ilt_ord ho (mem_head hoe) i o hi)
    rw [hh]
    obtain ⟨x, hx, hx1, hx2⟩ := h1 _ (List.head_mem hoe)
    have hxx := hX x hx
    refine ⟨[overs.head hoe - 1], rfl, .cons ⟨x, hx, hx1, by omega⟩ (fun y hy hz => ?_) (.nil fun y hy => ?_)⟩
    · rcases h3 y hy hz with h | ⟨h, _⟩
      · cases h
      · have := hmin _ h; omega
    · by_cases hz : z < y.1
      · rcases h3 y hy hz with h | ⟨_, h, _⟩
        · cases h
        · have := h _ (List.head_mem hoe); omega
      · omega
  | succ k ih =>
    intro coming overs nails z hk hc ho hne h1 h2 h3
    have hce : coming ≠ [] := fun h => by rw [h] at hk; cases hk
    rw [nailsL, dif_neg hce]
    have hpl := hpop_length plt coming hce
    have hpp := hpop_perm (lt := plt) coming hce
    have hph := hpop_heap plt_ord hce hc
    have hpm : ∀ x ∈ coming, LeB plt (hpop plt coming hce).1 x := fun x hm => by
      obtain ⟨i, hi⟩ := List.mem_iff_getElem?.mp hm
      exact heap_min plt_ord hc (by rw [hpop_head]; exact mem_head hce) i x hi
    generalize hpop plt coming hce = pr at hpl hpp hph hpm
    obtain ⟨p, rest⟩ := pr
    dsimp only at hpl hpp hph hpm ⊢
    have hmem : ∀ x, x ∈ coming ↔ x = p ∨ x ∈ rest := fun x => by rw [← hpp.mem_iff, List.mem_cons]
    have hpX := h2 p ((hmem p).mpr (.inl rfl))
    have hpx := hX p hpX.1
    have hple : ∀ x ∈ coming, p.1 ≤ x.1 := fun x hm => by have := pLe_iff.mp (hpm x hm); omega
    by_cases hcond : overs ≠ [] ∧ overs.headD 0 ≤ p.1
    · rw [if_pos hcond]
      obtain ⟨hoe, hle⟩ := hcond
      have hh : overs.headD 0 = overs.head hoe := by cases overs with
        | nil => exact absurd rfl hoe
        | cons _ _ => rfl
      rw [hh] at hle ⊢
      have hmin : ∀ o ∈ overs, overs.head hoe ≤ o := fun o hm => by
        obtain ⟨i, hi⟩ := List.mem_iff_getElem?.mp hm
        exact iLe_iff.mp (heap_min ilt_ord ho (mem_head hoe) i o hi)
      obtain ⟨x, hx, hx1, hx2⟩ := h1 _ (List.head_mem hoe)
      rw [hpush_nil]
      obtain ⟨r, hr, hch⟩ := ih rest [p.2] (nails ++ [overs.head hoe - 1]) (overs.head hoe - 1) (by omega) hph (fun i a b hi _ _ hb => by
          have := (List.getElem?_eq_some_iff.mp hb).1
          simp at this; omega) (.inr (by simp))
        (fun o ho' => ⟨p, hpX.1, by omega, (List.mem_singleton.mp ho').symm⟩) (fun y hy => ⟨(h2 y ((hmem y).mpr (.inr hy))).1, by have := hple y ((hmem y).mpr (.inr hy)); omega⟩) (fun y hy hz => by
          by_cases hyc : y ∈ coming
          · rcases (hmem y).mp hyc with rfl | hyr
            · exact .inr ⟨.head _, fun o ho' => by rw [List.mem_singleton.mp ho']; exact hpx, fun c hc' => hple c ((hmem c).mpr (.inr hc'))⟩
            · exact .inl hyr
          · have hyz : z < y.1 := by have := hX x hx; omega
            rcases h3 y hy hyz with h | ⟨_, h, _⟩
            · exact absurd h hyc
            · have := h _ (List.head_mem hoe); omega)
      refine ⟨(overs.head hoe - 1) :: r, by rw [hr]; simp, .cons ⟨x, hx, hx1, by omega⟩ (fun y hy hz => ?_) hch⟩
      have hyy := hX y hy
      rcases h3 y hy hz with h | ⟨h, _⟩
      · have := hple y h; omega
      · have := hmin _ h; omega
    · rw [if_neg hcond]
      have hpo := hpush_perm (lt := ilt) overs p.2
      have hmo : ∀ o, o ∈ hpush ilt overs p.2 ↔ o = p.2 ∨ o ∈ overs := fun o => by rw [hpo.mem_iff, List.mem_cons]
      refine ih rest (hpush ilt overs p.2) nails z (by omega) hph (hpush_heap ilt_ord ho) (.inr fun h => ?_) (fun o ho' => ?_) (fun y hy => h2 y ((hmem y).mpr (.inr hy))) (fun y hy hz => ?_)
      · have := hpush_length ilt overs p.2
        rw [h] at this; cases this
      · rcases (hmo o).mp ho' with rfl | h
        · exact ⟨p, hpX.1, hpX.2, rfl⟩
        · exact h1 o h
      · have hpall : ∀ o ∈ hpush ilt overs p.2, p.1 < o := fun o ho' => by
          rcases (hmo o).mp ho' with rfl | h
          · exact hpx
          · have hoe : overs ≠ [] := fun q => by rw [q] at h; cases h
            have hh : overs.headD 0 = overs.head hoe := by cases overs with
              | nil => exact absurd rfl hoe
              | cons _ _ => rfl
            have hlt : ¬ overs.headD 0 ≤ p.1 := fun q => hcond ⟨hoe, q⟩
            obtain ⟨i, hi⟩ := List.mem_iff_getElem?.mp h
            have := iLe_iff.mp (heap_min ilt_ord ho (mem_head hoe) i o hi)
            omega
        rcases h3 y hy hz with h | ⟨a1, a2, a3⟩
        · rcases (hmem y).mp h with rfl | h
          · exact .inr ⟨(hmo _).mpr (.inl rfl), hpall, fun c hc' => hple c ((hmem c).mpr (.inr hc'))⟩
          · exact .inl h
        · have hyp := a3 p ((hmem p).mpr (.inl rfl))
          refine .inr ⟨(hmo _).mpr (.inr a1), fun o ho' => ?_, fun c hc' => a3 c ((hmem c).mpr (.inr hc'))⟩
          have := hpall o ho'
          omega
theorem nailsL_length : ∀ (k : Nat) (coming : List (Int × Int)) (overs nails : List Int), coming.length = k → (nailsL coming overs nails).length ≤ nails.length + k + 1 := by
  intro k
  induction k with
  | zero =>
    intro coming overs nails hk
    rw [nailsL, dif_pos (List.length_eq_zero_iff.mp hk)]
    simp
  | succ k ih =>
    intro coming overs nails hk
    have hce : coming ≠ [] := fun h => by rw [h] at hk; cases hk
    have hpl := hpop_length plt coming hce
    rw [nailsL, dif_neg hce]
    split
    · refine Nat.le_trans (ih _ _ _ (by omega)) ?_
      simp; omega
    · refine Nat.le_trans (ih _ _ _ (by omega)) ?_
      omega

/-! ### restF on a row in order -/
theorem restF_restF {p p' : Int} (h : p ≤ p') : ∀ (l : List (Int × Int)), restF (restF l p) p' = restF l p'
  | [] => rfl
  | x :: l => by
    unfold restF
    by_cases hc : x.2 < p
    · rw [List.dropWhile_cons_of_pos (by simpa using hc), List.dropWhile_cons_of_pos (by simp; omega)]
      exact restF_restF h l
    · rw [List.dropWhile_cons_of_neg (by simpa using hc)]
theorem restF_sub (l : List (Int × Int)) (p : Int) : (restF l p).Sublist l := List.dropWhile_sublist _
theorem restF_head {l : List (Int × Int)} {p : Int} {h : Int × Int} {t : List (Int × Int)} : restF l p = h :: t → p ≤ h.2 := by
  induction l with
  | nil => intro e; cases e
  | cons x l ih =>
    intro e
    unfold restF at e
    by_cases hc : x.2 < p
    · rw [List.dropWhile_cons_of_pos (by simpa using hc)] at e
      exact ih e
    · rw [List.dropWhile_cons_of_neg (by simpa using hc)] at e
      cases e; omega
theorem mem_restF {p : Int} {x : Int × Int} : ∀ {l : List (Int × Int)}, x ∈ l → p ≤ x.2 → x ∈ restF l p
  | y :: l, hx, hp => by
    unfold restF
    by_cases hc : y.2 < p
    · rw [List.dropWhile_cons_of_pos (by simpa using hc)]
      rcases List.mem_cons.mp hx with rfl | hx
      · omega
      · exact mem_restF hx hp
    · rw [List.dropWhile_cons_of_neg (by simpa using hc)]
      exact hx

theorem popW_rep (p : Int) : ∀ (k : Nat) (ys L : List (Int × Int)), ys.length = k → HeapFrom plt 0 ys → ys.Perm L → L.Pairwise (LeB plt) → HeapFrom plt 0 (popW p ys) ∧ (popW p ys).Perm (restF L p) := by
  intro k
  induction k with
  | zero =>
    intro ys L hk hh hp hs
    have : ys = [] := List.length_eq_zero_iff.mp hk
    subst this
    have : L = [] := List.nil_perm.mp hp
    subst this
    rw [popW, dif_pos rfl]
    exact ⟨hh, .refl _⟩
  | succ k ih =>
    intro ys L hk hh hp hs
    have hne : ys ≠ [] := fun h => by rw [h] at hk; cases hk
    rcases L with _ | ⟨h, t⟩
    · rw [List.perm_nil.mp hp] at hk; cases hk
    have hhd : ys.head hne = h := by
      have hm1 : ys.head hne ∈ h :: t := hp.mem_iff.mp (List.head_mem hne)
      have h1 : LeB plt h (ys.head hne) := by
        rcases List.mem_cons.mp hm1 with e | hm
        · rw [e]; exact plt_ord.refl _
        · exact (List.pairwise_cons.mp hs).1 _ hm
      have hm2 : h ∈ ys := hp.mem_iff.mpr (.head _)
      obtain ⟨i, hi⟩ := List.mem_iff_getElem?.mp hm2
      exact pLe_anti (heap_min plt_ord hh (mem_head hne) i h hi) h1
    have hD : ys.headD (0, 0) = h := by rw [← hhd]; cases ys with
      | nil => exact absurd rfl hne
      | cons _ _ => rfl
    rw [popW, dif_neg hne, hD]
    unfold restF
    by_cases hc : h.2 < p
    · rw [if_pos hc, List.dropWhile_cons_of_pos (by simpa using hc)]
      have hpl := hpop_length plt ys hne
      have hpp := hpop_perm (lt := plt) ys hne
      rw [hpop_head, hhd] at hpp
      exact ih _ t (by omega) (hpop_heap plt_ord hne hh) (hpp.trans hp).cons_inv (List.pairwise_cons.mp hs).2
    · rw [if_neg hc, List.dropWhile_cons_of_neg (by simpa using hc)]
      exact ⟨hh, hp⟩
theorem rep_head {ys L : List (Int × Int)} (hh : HeapFrom plt 0 ys) (hp : ys.Perm L) (hs : L.Pairwise (LeB plt)) : ys.head? = L.head? := by
  rcases L with _ | ⟨h, t⟩
  · rw [List.perm_nil.mp hp]
  have hne : ys ≠ [] := fun q => by rw [q] at hp; exact absurd hp.length_eq (by simp)
  have hm1 : ys.head hne ∈ h :: t := hp.mem_iff.mp (List.head_mem hne)
  have h1 : LeB plt h (ys.head hne) := by
    rcases List.mem_cons.mp hm1 with e | hm
    · rw [e]; exact plt_ord.refl _
    · exact (List.pairwise_cons.mp hs).1 _ hm
  have hm2 : h ∈ ys := hp.mem_iff.mpr (.head _)
  obtain ⟨i, hi⟩ := List.mem_iff_getElem?.mp hm2
  have := pLe_anti (heap_min plt_ord hh (mem_head hne) i h hi) h1
  rw [List.head?_eq_some_head hne, this]; rfl
end Mine

end
section
namespace Mine
section
variable {xs order : List (Int × Int)}
/-- what is known of the stays -/
structure Stays (xs order : List (Int × Int)) : Prop where
  bd : ∀ p ∈ xs, 0 ≤ p.1 ∧ p.1 < 1000 ∧ p.1 ≤ p.2
  perm : order.Perm (xs.map Prod.swap)
  srt : order.Pairwise (LeB plt)
theorem Stays.mem (S : Stays xs order) {q : Int × Int} (h : q ∈ order) : q.swap ∈ xs := by
  have := S.perm.mem_iff.mp h
  obtain ⟨p, hp, rfl⟩ := List.mem_map.mp this
  simpa using hp
theorem Stays.lt (S : Stays xs order) : ∀ x ∈ xs.map stay1, x.1 < x.2 := by
  intro x hx
  obtain ⟨p, hp, rfl⟩ := List.mem_map.mp hx
  unfold stay1
  show p.1 < max p.2 (p.1 + 1)
  omega
theorem Stays.nil (S : Stays xs order) {z : Int} (h : Chain (xs.map stay1) z []) : restF order (z + 1) = [] := by
  cases h with
  | nil h =>
    rcases e : restF order (z + 1) with _ | ⟨q, t⟩
    · rfl
    · have h1 := restF_head e
      have h2 : q ∈ order := (restF_sub order (z + 1)).subset (by rw [e]; exact .head _)
      have := h _ (List.mem_map_of_mem (f := stay1) (S.mem h2))
      have : q.2 ≤ z := this
      omega
theorem Stays.cons (S : Stays xs order) {z z' : Int} {r : List Int} (h : Chain (xs.map stay1) z (z' :: r)) : ∃ q t, restF order (z + 1) = q :: t ∧ max q.1 (q.2 + 1) = z' + 1 ∧ q.2 ≤ q.1 ∧ z < q.2 := by
  cases h with
  | cons h1 h2 _ =>
    obtain ⟨x, hx, hx1, hx2⟩ := h1
    obtain ⟨p, hp, rfl⟩ := List.mem_map.mp hx
    have hx1 : z < p.1 := hx1
    have hx2 : max p.2 (p.1 + 1) = z' + 1 := hx2
    have hpo : p.swap ∈ order := S.perm.mem_iff.mpr (List.mem_map_of_mem hp)
    have hpr : p.swap ∈ restF order (z + 1) := mem_restF hpo (by show z + 1 ≤ p.1; omega)
    rcases e : restF order (z + 1) with _ | ⟨q, t⟩
    · rw [e] at hpr; cases hpr
    have hq1 := restF_head e
    have hqo : q ∈ order := (restF_sub order (z + 1)).subset (by rw [e]; exact .head _)
    have hqb := S.bd _ (S.mem hqo)
    have hqb : 0 ≤ q.2 ∧ q.2 < 1000 ∧ q.2 ≤ q.1 := hqb
    have hpb := S.bd _ hp
    have hq2 : z' + 1 ≤ max q.1 (q.2 + 1) := h2 _ (List.mem_map_of_mem (f := stay1) (S.mem hqo)) (by show z < q.2; omega)
    have hs : (q :: t).Pairwise (LeB plt) := by rw [← e]; exact S.srt.sublist (restF_sub _ _)
    have hle : LeB plt q p.swap := by
      rw [e] at hpr
      rcases List.mem_cons.mp hpr with h | h
      · rw [h]; exact plt_ord.refl _
      · exact (List.pairwise_cons.mp hs).1 _ h
    have hle := pLe_iff.mp hle
    have hle : q.1 < p.2 ∨ (q.1 = p.2 ∧ q.2 ≤ p.1) := hle
    exact ⟨q, t, rfl, by omega, hqb.2.2, by omega⟩
def Rep (order ys : List (Int × Int)) (p : Int) : Prop := HeapFrom plt 0 ys ∧ ys.Perm (restF order p)
theorem Stays.rep (S : Stays xs order) {ys : List (Int × Int)} {p p' : Int} (h : Rep order ys p) (hp : p ≤ p') (h0 : p' ≠ 0) : Rep order (srchY xs ys p') p' := by
  unfold srchY
  rw [if_neg h0]
  obtain ⟨a, b⟩ := popW_rep p' _ ys (restF order p) rfl h.1 h.2 (S.srt.sublist (restF_sub _ _))
  rw [restF_restF hp] at b
  exact ⟨a, b⟩
theorem Stays.rep0 (S : Stays xs order) (ys : List (Int × Int)) : Rep order (srchY xs ys 0) 0 := by
  unfold srchY
  rw [if_pos rfl]
  exact popW_rep 0 _ _ order rfl (heapifyF_heap plt_ord _) ((heapifyF_perm _).trans S.perm.symm) S.srt
theorem Stays.head (S : Stays xs order) {ys : List (Int × Int)} {p : Int} (h : Rep order ys p) : ys.head? = (restF order p).head? := rep_head h.1 h.2 (S.srt.sublist (restF_sub _ _))

theorem filt_nil {X : List (Int × Int)} (hX : ∀ x ∈ X, x.1 < x.2) {z col : Int} {r : List Int} (h : Chain X z r) (hz : col ≤ z) : r.filter (fun z => decide (z < col)) = [] := by
  rw [List.filter_eq_nil_iff]
  intro n hn
  have := h.gt hX n hn
  simp; omega

theorem Stays.loop (S : Stays xs order) (col : Int) : ∀ (zs : List Int) (z : Int) (fuel : Nat) (ys : List (Int × Int)) (found : Option (Int × Int)) (q : Int × Int) (t : List (Int × Int)), Chain (xs.map stay1) z zs → -1 ≤ z → Rep order ys (z + 1) →
    restF order (z + 1) = q :: t → (col - q.2).toNat < fuel →
    ∃ zk, (z :: zs.filter fun z => decide (z < col))[(zs.filter fun z => decide (z < col)).length]? = some zk ∧ Rep order (srLoop (nxt1 xs) col fuel ys found (q.2, q.1)).2 (zk + 1) ∧
      ((zs.filter fun z => decide (z < col)) = [] → (srLoop (nxt1 xs) col fuel ys found (q.2, q.1)).1 = found) ∧
      ((zs.filter fun z => decide (z < col)) ≠ [] → ∃ p y rest, (srLoop (nxt1 xs) col fuel ys found (q.2, q.1)).1 = some p ∧ (z :: zs.filter fun z => decide (z < col))[(zs.filter fun z => decide (z < col)).length - 1]? = some y ∧
        restF order (y + 1) = p.swap :: rest ∧ max p.2 (p.1 + 1) = zk + 1) := by
  intro zs
  induction zs with
  | nil =>
    intro z fuel ys found q t hch _ _ he _
    rw [S.nil hch] at he; cases he
  | cons z' r ih =>
    intro z fuel ys found q t hch hz hrep he hf
    obtain ⟨q', t', he', hov, hqq, hzq⟩ := S.cons hch
    rw [he] at he'
    cases he'
    have hch' : Chain (xs.map stay1) z' r := by cases hch with | cons _ _ h => exact h
    obtain ⟨fuel, rfl⟩ : ∃ k, fuel = k + 1 := ⟨fuel - 1, by omega⟩
    rw [srLoop]
    by_cases hc : z' < col
    · have hcond : q.2 < col ∧ q.1 ≤ col := by omega
      rw [if_pos hcond]
      have hpos : (if q.2 = q.1 then q.1 + 1 else q.1) = z' + 1 := by split <;> omega
      rw [hpos]
      have hrep' := S.rep hrep (p' := z' + 1) (by omega) (by omega)
      have hhd := S.head hrep'
      have hfc : (z' :: r).filter (fun z => decide (z < col)) = z' :: r.filter (fun z => decide (z < col)) := by rw [List.filter_cons, if_pos (by simpa using hc)]
      rw [hfc]
      rcases hr : restF order (z' + 1) with _ | ⟨q₂, t₂⟩
      · have hn : nxt1 xs ys (z' + 1) = (none, srchY xs ys (z' + 1)) := by unfold nxt1; rw [hhd, hr]; rfl
        rw [hn]
        dsimp only
        have hrn : r.filter (fun z => decide (z < col)) = [] := by
          cases hch' with
          | nil _ => rfl
          | cons h1 h2 h3 =>
            obtain ⟨q₃, t₃, h4, _⟩ := S.cons (.cons h1 h2 h3)
            rw [hr] at h4; cases h4
        rw [hrn]
        refine ⟨z', rfl, hrep', fun h => absurd h (by simp), fun _ => ⟨(q.2, q.1), z, t, rfl, rfl, he, by omega⟩⟩
      · have hn : nxt1 xs ys (z' + 1) = (some (q₂.2, q₂.1), srchY xs ys (z' + 1)) := by unfold nxt1; rw [hhd, hr]; rfl
        rw [hn]
        dsimp only
        have hq₂ := restF_head hr
        obtain ⟨zk, a1, a2, a3, a4⟩ := ih z' fuel _ (some (q.2, q.1)) q₂ t₂ hch' (by omega) hrep' hr (by omega)
        refine ⟨zk, by simpa using a1, a2, fun h => absurd h (by simp), fun _ => ?_⟩
        by_cases hrn : r.filter (fun z => decide (z < col)) = []
        · rw [hrn] at a1
          have : z' = zk := by simpa using a1
          refine ⟨(q.2, q.1), z, t, a3 hrn, by rw [hrn]; rfl, he, by omega⟩
        · obtain ⟨p, y, rest, b1, b2, b3, b4⟩ := a4 hrn
          refine ⟨p, y, rest, b1, ?_, b3, b4⟩
          have hl : 0 < (r.filter fun z => decide (z < col)).length := List.length_pos_iff.mpr hrn
          obtain ⟨k, hk⟩ : ∃ k, (r.filter fun z => decide (z < col)).length = k + 1 := ⟨_, (Nat.succ_pred_eq_of_pos hl).symm⟩
          rw [hk] at b2
          rw [List.length_cons, hk]
          simpa using b2
    · have hcond : ¬ (q.2 < col ∧ q.1 ≤ col) := by omega
      rw [if_neg hcond]
      have hfc : (z' :: r).filter (fun z => decide (z < col)) = [] := by
        rw [List.filter_cons, if_neg (by simpa using hc)]
        exact filt_nil S.lt hch' (by omega)
      rw [hfc]
      exact ⟨z, rfl, hrep, fun _ => rfl, fun h => absurd rfl h⟩
end

theorem nails_chain {xs : List (Int × Int)} (hne : xs ≠ []) (hb : ∀ p ∈ xs, 0 ≤ p.1) : Chain (xs.map stay1) (-1) (nailsF xs) := by
  have hX : ∀ x ∈ xs.map stay1, x.1 < x.2 := by
    intro x hx
    obtain ⟨p, hp, rfl⟩ := List.mem_map.mp hx
    show p.1 < max p.2 (p.1 + 1)
    omega
  have hp := heapifyF_perm (lt := plt) (xs.map stay1)
  obtain ⟨r, hr, hc⟩ := nailsL_chain hX _ (heapifyF plt (xs.map stay1)) [] [] (-1) rfl (heapifyF_heap plt_ord _) (fun i a b _ _ ha _ => by simp at ha) (.inl fun h => hne (by
      have := hp.length_eq
      rw [h] at this
      exact List.length_eq_zero_iff.mp (by simpa using this.symm))) (fun o ho => nomatch ho) (fun x hx => by
      have hx' := hp.mem_iff.mp hx
      refine ⟨hx', ?_⟩
      obtain ⟨p, hp, rfl⟩ := List.mem_map.mp hx'
      have := hb p hp
      show -1 < p.1
      omega) (fun x hx _ => .inl (hp.mem_iff.mpr hx))
  unfold nailsF
  rw [hr]
  exact hc

theorem lawOk {xs : List (Int × Int)} (hne : xs ≠ []) (hb : ∀ p ∈ xs, 0 ≤ p.1 ∧ p.1 < 1000 ∧ p.1 ≤ p.2) (hl : xs.length ≤ 8) : LawOk xs where
  held := by
    intro p hp
    obtain ⟨n, hn, h1, h2⟩ := (nails_chain hne fun p hp => (hb p hp).1).held (stay1 p) (List.mem_map_of_mem hp) (by have := hb p hp; show -1 < p.1; omega)
    refine ⟨n, hn, ?_⟩
    unfold holdF
    have h1 : p.1 ≤ n := h1
    have h2 : n < max p.2 (p.1 + 1) := h2
    simp only [h1, h2, decide_true, Bool.and_self]
  nails := by
    have := nailsL_length _ (heapifyF plt (xs.map stay1)) [] [] rfl
    have hp := (heapifyF_perm (lt := plt) (xs.map stay1)).length_eq
    unfold nailsF
    simp at this hp
    omega
  col := by
    intro order hperm hpw i hi ys hinv
    have hsm : ∀ q ∈ order, 0 ≤ q.2 ∧ q.2 < 1000 := fun q hq => by
      obtain ⟨p, hp, rfl⟩ := List.mem_map.mp (hperm.mem_iff.mp hq)
      have := hb p hp
      exact ⟨this.1, this.2.1⟩
    have S : Stays xs order := ⟨hb, hperm, hpw.imp_of_mem fun ha hb h => (pLe_key (hsm _ ha) (hsm _ hb)).mp h⟩
    have hch := nails_chain hne fun p hp => (hb p hp).1
    generalize nailsF xs = zs at hch
    have hne' : order ≠ [] := fun q => by rw [q] at hperm; exact hne (List.length_eq_zero_iff.mp (by simpa using hperm.length_eq.symm))
    have hr0 : restF order 0 = order := by
      rcases order with _ | ⟨q, t⟩
      · rfl
      · have := hsm q (.head _)
        unfold restF
        rw [List.dropWhile_cons_of_neg (by simp; omega)]
    obtain ⟨q, t, hq⟩ : ∃ q t, restF order 0 = q :: t := by rw [hr0]; exact List.exists_cons_of_ne_nil hne'
    have hrep := S.rep0 ys
    have hhd := S.head hrep
    have hn : nxt1 xs ys 0 = (some (q.2, q.1), srchY xs ys 0) := by unfold nxt1; rw [hhd, hq]; rfl
    have hsr : srF (nxt1 xs) (i : Nat) ys = srLoop (nxt1 xs) (i : Nat) (((i : Nat) - q.2 : Int).toNat + 1) (srchY xs ys 0) none (q.2, q.1) := by unfold srF; rw [hn]
    obtain ⟨zk, a1, a2, a3, a4⟩ := S.loop (i : Nat) zs (-1) _ (srchY xs ys 0) none q t hch (by omega) hrep hq (Nat.lt_succ_self _)
    rw [← hsr] at a2 a3 a4
    refine ⟨⟨fun y hy => ?_, ?_⟩, ?_, ?_, ?_⟩
    · exact hperm.mem_iff.mp ((restF_sub order (zk + 1)).subset (a2.2.mem_iff.mp hy))
    · have h1 := a2.2.length_eq
      have h2 := (restF_sub order (zk + 1)).length_le
      have h3 := hperm.length_eq
      simp at h3
      omega
    · by_cases hc : (zs.filter fun z => decide (z < ((i : Nat) : Int))) = []
      · rw [a3 hc, hc]; rfl
      · obtain ⟨p, y, rest, b1, _⟩ := a4 hc
        rw [b1]
        have := List.length_pos_iff.mpr hc
        simp only [Option.isNone_some]
        exact (decide_eq_false (by omega)).symm
    · intro p hp
      by_cases hc : (zs.filter fun z => decide (z < ((i : Nat) : Int))) = []
      · rw [a3 hc] at hp; cases hp
      · obtain ⟨p', y, rest, b1, b2, b3, b4⟩ := a4 hc
        rw [b1] at hp
        cases hp
        exact ⟨y, zk, rest, b2, a1, b3, b4⟩
    · intro z ws hz hws hsorted
      have hz' : (-1 :: zs.filter fun z => decide (z < ((i : Nat) : Int)))[(zs.filter fun z => decide (z < ((i : Nat) : Int))).length]? = some z := hz
      rw [a1] at hz'
      cases hz'
      have hp := hws.trans a2.2
      have hm : ∀ a ∈ restF order (zk + 1), 0 ≤ a.2 ∧ a.2 < 1000 := fun a ha => hsm a ((restF_sub order _).subset ha)
      refine List.Perm.eq_of_pairwise (le := fun x y => pkey x ≤ pkey y) (fun a b ha hb h1 h2 => ?_) hsorted (hpw.sublist (restF_sub _ _)) hp
      have m1 := hm a (hp.mem_iff.mp ha)
      have m2 := hm b hb
      exact pLe_anti ((pLe_key m1 m2).mp h1) ((pLe_key m2 m1).mp h2)
theorem lawOk_nums {ns : List Int} (h : ns.length ≤ 63) : LawOk ((numsF ns).map stayF) := by
  refine lawOk ?_ ?_ (by simpa using numsF_length h)
  · unfold numsF
    split
    · simp
    · next q => simpa using q
  · intro p hp
    obtain ⟨x, _, rfl⟩ := List.mem_map.mp hp
    have := stayF_bounds x
    omega
end Mine

end
section
set_option maxHeartbeats 8000000
namespace Mine
open_top hd01 for PySem.Challenge.rw_mq0133_01
end Mine

end
section
set_option maxHeartbeats 8000000
namespace Mine
theorem fn01 {K : Frag} {h : Heap} {mg : Str → Option Value} {name : Str} {i : Nat} {f : Addr} {o : Obj} {pm cd doc : Value} (X : K.In h) (g : h.Ns mainGlobals mg) (e : nsIn K mainGlobals name = some (some (.ref f))) (ho : K.lookup f = some o)
    (hd : o.data = .func (Calls.docDef name (sParams (defAt i)) (sBody (defAt i)) (sScope (defAt i)) pm cd doc)) (hc : codeIn K cd name = true) : mg name = some (.ref f) ∧ FnIs h f name i :=
  ⟨mg_of X g e, o, pm, cd, doc, X _ _ ho, hd, codeRec_of X hc⟩
theorem glb01 {p : Params} {h : Heap} {mg mb : Str → Option Value} {loose : List Str} {mean : ExcName → Option Value} {tp : Program} (X : (hd01.heap_39 p).In h) (T : Top tp loose mean mg mb h) : Glb h mg mb where
  g := T.g
  b := T.b
  nolimit := T.nolimit
  builtins := T.builtins
  bmain := T.bmain
  free := by
    intro x hx
    simp only [biNames, List.mem_cons, List.not_mem_nil, or_false] at hx
    rcases hx with rfl | rfl | rfl | rfl | rfl <;> exact mg_none_of X T.g (by with_unfolding_all rfl)
  fn := by
    intro q hq
    simp only [fnNames, List.mem_cons, List.not_mem_nil, or_false] at hq
    rcases hq with rfl | rfl | rfl | rfl | rfl | rfl | rfl | rfl
    · exact ⟨21, fn01 X T.g (by with_unfolding_all rfl) (by with_unfolding_all rfl) (by with_unfolding_all rfl) (by with_unfolding_all rfl)⟩
    · exact ⟨28, fn01 X T.g (by with_unfolding_all rfl) (by with_unfolding_all rfl) (by with_unfolding_all rfl) (by with_unfolding_all rfl)⟩
    · exact ⟨35, fn01 X T.g (by with_unfolding_all rfl) (by with_unfolding_all rfl) (by with_unfolding_all rfl) (by with_unfolding_all rfl)⟩
    · exact ⟨42, fn01 X T.g (by with_unfolding_all rfl) (by with_unfolding_all rfl) (by with_unfolding_all rfl) (by with_unfolding_all rfl)⟩
    · exact ⟨49, fn01 X T.g (by with_unfolding_all rfl) (by with_unfolding_all rfl) (by with_unfolding_all rfl) (by with_unfolding_all rfl)⟩
    · exact ⟨56, fn01 X T.g (by with_unfolding_all rfl) (by with_unfolding_all rfl) (by with_unfolding_all rfl) (by with_unfolding_all rfl)⟩
    · exact ⟨61, fn01 X T.g (by with_unfolding_all rfl) (by with_unfolding_all rfl) (by with_unfolding_all rfl) (by with_unfolding_all rfl)⟩
    · exact ⟨75, fn01 X T.g (by with_unfolding_all rfl) (by with_unfolding_all rfl) (by with_unfolding_all rfl) (by with_unfolding_all rfl)⟩
theorem prog01 {p : Params} {h : Heap} {mg mb : Str → Option Value} {loose : List Str} {mean : ExcName → Option Value} {tp : Program} (X : (hd01.heap_39 p).In h) (T : Top tp loose mean mg mb h) : mg "_law_prog" = some (.ref 68) ∧ FnIsC h 68 "_law_prog" 10 67 := by
  refine ⟨mg_of X T.g (by with_unfolding_all rfl), ?_⟩
  exact ⟨_, _, _, X 68 _ (by with_unfolding_all rfl), by with_unfolding_all rfl, codeRec_of X (by with_unfolding_all rfl)⟩
end Mine

end
section
set_option maxHeartbeats 8000000
namespace Mine
theorem law_call01 {prog : Program} {w : World} {s₁ : Shared} {b fa : Addr} {o : Obj} {pm cd doc : Value} {vs : List Value} {ns : List Int} {p : Params} {mg mb : Str → Option Value} {loose : List Str} {mean : ExcName → Option Value} {tp : Program}
    (X : (hd01.heap_39 p).In s₁.heap) (T : Top tp loose mean mg mb s₁.heap) (ho : s₁.heap.get? fa = some o) (hd : o.data = .func (Calls.docDef "law" (sParams (defAt 12)) (sBody (defAt 12)) (sScope (defAt 12)) pm cd doc)) (hcd : s₁.heap.CodeRec cd "law")
    (hP : s₁.heap.get? 63 = some (tabObj #[])) (hb : s₁.heap.IsList b vs.toArray) (hI : IntsAre vs ns) (hlen : ns.length ≤ 63) :
    codeAny (model prog w) callerA (.call (.ref fa) ⟨[.ref b], []⟩) (fun r s' => ∃ h' tk ps, r = .ok (.ret (.bool true)) ∧ s' = { s₁ with heap := h', toks := tk } ∧ Keep (ghostOf s₁.heap [(67, 63)]) h' ∧ h'.get? 63 = some (tabObj ps)) s₁ := by
  have C : CodeHd s₁.heap 67 63 := codeHd_of_K X (by with_unfolding_all rfl)
  have hT : TabsAt [(67, 63)] s₁.heap := List.forall_mem_cons.mpr ⟨⟨C, hP⟩, fun _ h => nomatch h⟩
  have X' := ghost_K hT X (by kernel_rfl)
  have T' := ghost_top hT T
  have G := glb01 X' T'
  obtain ⟨hfp, hf⟩ := prog01 X' T'
  have C' : CodeHd (ghostOf s₁.heap [(67, 63)]) 67 63 := (ghost_code hT).1
  have hb' := ghost_list hT hb
  have hP0 : (ghostOf s₁.heap [(67, 63)]).get? 63 = none := hideAll_none _ (.head _)
  refine callX (k := 60) [(63, tabObj #[])] ⟨rfl, by decide, by decide⟩ ho hd hcd rfl (BindsTo.of_eq (binds := [("script", .ref b)]) rfl) (by simpa using hP) (by simp) ?_
  intro g h₁ L env hE F hg hgs hA'
  have k0 : Keep (ghostOf s₁.heap [(67, 63)]) g := fun a o' e => hg a o' (fun q => by
    have : a = 63 := by simpa using q
    rw [this, hP0] at e; cases e) (of_hideAll _ e)
  subst hE
  refine bind_cons (St.st F fun h₂ F₂ => ?_)
  refine bind_nil ⟨G.nolimit.keeps (k0.trans F₂.keep), ?_⟩
  dsimp only
  refine law_walk (b := b) G k0 (hA'.le (by omega)) hfp hf C' F₂ rfl (let ⟨o, a, r⟩ := hb'; ⟨o, k0 _ _ a, r⟩) hI hlen (lawOk_nums hlen) ?_
  intro h' tk ps k' hP'
  exact ⟨h', tk, ps, rfl, rfl, k', hP'⟩
end Mine

end
section
set_option maxHeartbeats 8000000
theorem PySem.Challenge.cw_mq0133_01_holds : PySem.Challenge.rw_mq0133_01.Holds := by
  refine Mine.hd01 ?_
  k_fill
  intro w s₀ s₁ mg mb G Y fa o pm cd doc dV kV ho hd hcd hD hmg hg args vals as hpre hlay hrd hwl hlo
  have KX := km_in_of Y
  have hT8 := km_tabs_of Y
  have hP := hT8 63 (List.mem_singleton.mpr rfl)
  have T := Ground.T G
  have he := Dflts.none hD rfl
  subst he
  have he := Dflts.noKw hD
  subst he
  have hd' := fd_plain hd
  wrow_args hpre hlay hrd hwl hlo
  rename_i ns _ _ _ _ _ _ _ b vs _ hb _ _ _ hI _ hc _
  refine enter_call ?_
  refine kn_post (tabs := [(67, 63)]) (List.forall_mem_cons.mpr ⟨⟨codeHd_of_K KX (by with_unfolding_all rfl), hP⟩, fun _ h => nomatch h⟩) (fun _ _ => rfl) ?_
  refine codeAny_mono (Mine.law_call01 KX T ho hd' hcd hP hb hI (by omega)) fun r s' hr => ?_
  obtain ⟨h', tk, ps, rfl, rfl, hk, hP'⟩ := hr
  exact ⟨⟨.inl ⟨.bool true, ofPy (.bool true), [], rfl, fun _ => rfl, readsW_of_reads (.bool true), by first | with_unfolding_all rfl | kernel_rfl | exact postW_of (by wrow_shape) (by wtm_val) (by first | rfl | w_fin), fun _ => ⟨.nil, fun a ha => nomatch ha⟩⟩, hk, rfl, hg⟩, ⟨ps, hP'⟩, trivial⟩

end

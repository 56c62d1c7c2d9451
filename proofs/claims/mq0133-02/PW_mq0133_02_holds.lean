import PyProof.Rows.All
import Wide.All
import OpenK.AllK
import Wide.FinOn
import PySem.Challenge.RW_mq0133_02
open PySem PySem.W PyProof.Rows
set_option Elab.async false
set_option maxRecDepth 100000
set_option linter.unusedVariables false
section
namespace Mine

/-! ### The frame's state -/
abbrev lst (vs : List Value) (n : Nat) : Obj := { cls := .type "list", data := .seq vs.toArray n }
abbrev tup (vs : List Value) (n : Nat) : Obj := { cls := .type "tuple", data := .seq vs.toArray n }
def Keep (h h' : Heap) : Prop := ∀ b o, h.get? b = some o → h'.get? b = some o
def ExtS (S : List Addr) (h h' : Heap) : Prop := ∀ b o, b ∉ S → h.get? b = some o → h'.get? b = some o
def upd (m : Str → Option Value) (x : Str) (v : Value) : Str → Option Value := fun y => if y = x then some v else m y

theorem Keep.refl (h : Heap) : Keep h h := fun _ _ e => e
theorem Keep.trans {h h' h'' : Heap} (x : Keep h h') (y : Keep h' h'') : Keep h h'' := fun b o e => y b o (x b o e)
theorem ExtS.of {a : Addr} {h h' : Heap} (x : Heap.ExtBut a h h') : ExtS [a] h h' := fun b o hb e => x b o (fun q => hb (by rw [q]; exact .head _)) e
theorem ExtS.trans {S : List Addr} {h h' h'' : Heap} (x : ExtS S h h') (y : ExtS S h' h'') : ExtS S h h'' := fun b o hb e => y b o hb (x b o hb e)
theorem ExtS.keep {S : List Addr} {g h h' : Heap} (x : ExtS S h h') (k : Keep g h) (hS : ∀ a ∈ S, g.get? a = none) : Keep g h' := fun b o e =>
  x b o (fun q => by rw [hS b q] at e; cases e) (k b o e)
theorem Keep.ext {S : List Addr} {h h' : Heap} (x : Keep h h') : ExtS S h h' := fun b o _ e => x b o e
theorem ExtS.none {h h' : Heap} (x : ExtS [] h h') : Keep h h' := fun b o e => x b o (by simp) e

structure St (g h : Heap) (L : Addr) (m : Str → Option Value) (mu : List (Addr × Obj)) : Prop where
  ns : h.Ns L m
  keep : Keep g h
  out : g.get? L = none
  mob : ∀ p ∈ mu, h.get? p.1 = some p.2 ∧ p.1 ≠ L ∧ g.get? p.1 = none
  nd : (mu.map (·.1)).Nodup

namespace St
variable {g h h' : Heap} {L : Addr} {m m' : Str → Option Value} {mu : List (Addr × Obj)}
theorem store (F : St g h L m mu) (hn : h'.Ns L m') (hs : Heap.SameBut L h h') : St g h' L m' mu :=
  ⟨hn, fun b o e => (hs.2 b (fun q => by rw [q, F.out] at e; cases e)).trans (F.keep b o e), F.out,
    fun p hp => ⟨(hs.2 _ (F.mob p hp).2.1).trans (F.mob p hp).1, (F.mob p hp).2⟩, F.nd⟩
theorem get (F : St g h L m mu) (i : Nat) {a : Addr} {o : Obj} (hi : mu[i]? = some (a, o) := by rfl) : h.get? a = some o :=
  (F.mob (a, o) (List.mem_of_getElem? hi)).1
theorem fresh (F : St g h L m mu) (i : Nat) {a : Addr} {o : Obj} (hi : mu[i]? = some (a, o) := by rfl) : g.get? a = none :=
  (F.mob (a, o) (List.mem_of_getElem? hi)).2.2
theorem notL (F : St g h L m mu) (i : Nat) {a : Addr} {o : Obj} (hi : mu[i]? = some (a, o) := by rfl) : a ≠ L :=
  (F.mob (a, o) (List.mem_of_getElem? hi)).2.1
theorem push (F : St g h L m mu) (o : Obj) (hf : o.isFreed = false := by rfl) : St g (h.push o) L m ((h.objs.size, o) :: mu) := by
  refine ⟨F.ns.push o, fun b o' e => Heap.get?_push_of_some _ (F.keep b o' e), F.out, fun p hp => ?_, ?_⟩
  · rcases List.mem_cons.mp hp with rfl | hp
    · refine ⟨Heap.get?_push_size _ hf, Nat.ne_of_gt F.ns.lt, ?_⟩
      cases q : g.get? h.objs.size with
      | none => rfl
      | some o' => exact absurd (Heap.lt_size (F.keep _ _ q)) (Nat.lt_irrefl _)
    · exact ⟨Heap.get?_push_of_some _ (F.mob p hp).1, (F.mob p hp).2⟩
  · rw [List.map_cons]
    refine List.nodup_cons.mpr ⟨fun q => ?_, F.nd⟩
    obtain ⟨p, hp, e⟩ := List.mem_map.mp q
    have := Heap.lt_size (F.mob p hp).1
    rw [e] at this
    exact Nat.lt_irrefl _ this
/-- the objects at the addresses S have turned, the others stand -/
theorem turn (F : St g h L m mu) (i : Nat) {a : Addr} {o o' : Obj} (hi : mu[i]? = some (a, o)) (hx : ExtS [a] h h') (ho : h'.get? a = some o') : St g h' L m (mu.set i (a, o')) := by
  have hia := List.mem_of_getElem? hi
  have D := F.mob _ hia
  obtain ⟨oL, es, ep, hL, r⟩ := F.ns
  have hlt : i < mu.length := (List.getElem?_eq_some_iff.mp hi).1
  have hmap : (mu.set i (a, o')).map (·.1) = mu.map (·.1) := by
    rw [List.map_set]
    apply List.ext_getElem?
    intro j
    rw [List.getElem?_set]
    by_cases hj : i = j
    · subst hj
      have e := (List.getElem?_eq_some_iff.mp hi).2
      simp [hlt, e]
    · simp [hj]
  refine ⟨⟨oL, es, ep, hx L oL (fun q => D.2.1 (List.mem_singleton.mp q).symm) hL, r⟩, fun b x q => hx b x (fun z => ?_) (F.keep b x q), F.out, fun p hp => ?_, by rw [hmap]; exact F.nd⟩
  · have : b = a := by simpa using z
    rw [this, D.2.2] at q; cases q
  · obtain ⟨j, hj⟩ := List.mem_iff_getElem?.mp hp
    rw [List.getElem?_set] at hj
    by_cases hij : i = j
    · subst hij
      rw [if_pos rfl, if_pos hlt] at hj
      cases hj
      exact ⟨ho, D.2⟩
    · rw [if_neg hij] at hj
      have hpm := F.mob p (List.mem_of_getElem? hj)
      refine ⟨hx _ _ (fun z => ?_) hpm.1, hpm.2⟩
      have hpa : p.1 = a := by simpa using z
      have hjl : j < mu.length := (List.getElem?_eq_some_iff.mp hj).1
      have e1 : (mu.map (·.1))[i]? = some a := by rw [List.getElem?_map, hi]; rfl
      have e2 : (mu.map (·.1))[j]? = some a := by rw [List.getElem?_map, hj, ← hpa]; rfl
      exact hij ((List.getElem?_inj (by simpa using hlt) F.nd).mp (e1.trans e2.symm))
/-- everything else stands, the mutable ones too -/
theorem all (F : St g h L m mu) (k : Keep h h') : St g h' L m mu :=
  ⟨F.ns.keeps k, F.keep.trans k, F.out, fun p hp => ⟨k _ _ (F.mob p hp).1, (F.mob p hp).2⟩, F.nd⟩
/-- fewer mutable ones -/
theorem drop (F : St g h L m mu) (mu' : List (Addr × Obj)) (hs : mu'.Sublist mu) : St g h L m mu' :=
  ⟨F.ns, F.keep, F.out, fun p hp => F.mob p (hs.subset hp), F.nd.sublist (hs.map _)⟩
end St

/-- a frozen part that holds all but the frame and the mutable ones -/
theorem St.rebase {g h : Heap} {L : Addr} {m : Str → Option Value} {mu : List (Addr × Obj)} (F : St g h L m mu) (mu' : List (Addr × Obj)) (hs : mu'.Sublist mu) :
    ∃ g', St g' h L m mu' ∧ Keep g g' ∧ (∀ b o, h.get? b = some o → b ≠ L → b ∉ mu'.map (·.1) → g'.get? b = some o) := by
  refine ⟨hideAll h (L :: mu'.map (·.1)), ⟨F.ns, fun b o e => of_hideAll _ e, hideAll_none _ (.head _), fun p hp => ⟨(F.mob p (hs.subset hp)).1, (F.mob p (hs.subset hp)).2.1, hideAll_none _ (.tail _ (List.mem_map_of_mem hp))⟩, F.nd.sublist (hs.map _)⟩, fun b o e => ?_, fun b o e h1 h2 => ?_⟩
  · refine hideAll_get _ (F.keep b o e) fun q => ?_
    rcases List.mem_cons.mp q with rfl | q
    · rw [F.out] at e; cases e
    · obtain ⟨p, hp, rfl⟩ := List.mem_map.mp q
      rw [(F.mob p (hs.subset hp)).2.2] at e; cases e
  · refine hideAll_get _ e fun q => ?_
    rcases List.mem_cons.mp q with rfl | q
    · exact h1 rfl
    · exact h2 q

/-- room for more calls -/
structure Rm (A : Around) (k : Nat) : Prop where
  handled : A.handled = none
  d : A.depth + k ≤ 500
  u : A.units + 5 * k ≤ 500
theorem Rm.deeper {A : Around} {k : Nat} {env : Env} (x : Rm A (k + 1)) : Rm (A.deeper env) k :=
  ⟨x.handled, by have := x.d; show A.depth + 1 + k ≤ 500; omega, by have := x.u; show A.units + 3 + 5 * k ≤ 500; omega⟩
theorem Rm.in1 {A : Around} {k : Nat} (x : Rm A (k + 1)) : Rm A.in1 k :=
  ⟨x.handled, by have := x.d; show A.depth + k ≤ 500; omega, by have := x.u; show A.units + 1 + 5 * k ≤ 500; omega⟩
theorem Rm.le {A : Around} {k j : Nat} (x : Rm A k) (h : j ≤ k) : Rm A j :=
  ⟨x.handled, by have := x.d; omega, by have := x.u; omega⟩
theorem Rm.depth {A : Around} {k : Nat} (x : Rm A k) : A.depth < recursionLimit := by have := x.d; show A.depth < 1000; omega
theorem Rm.units {A : Around} {k : Nat} (x : Rm A k) : A.units < cLine := by have := x.u; show A.units < 9900; omega

section
variable {M : Model} {A : Around} {E : Value → Shared → Prop} {s : Shared} {env : Env} {g : Heap} {L : Addr} {m : Str → Option Value} {mu : List (Addr × Obj)} {x : Str} {pos : Pos} {v : Value}
theorem St.ld {Q : Value → Shared → Prop} (F : St g s.heap L m mu) (hv : m x = some v) (h : Q v s) (hL : env.locals = L := by rfl) (hk : env.scope.kind = .function := by rfl)
    (hl : env.kindOf x = some .local := by rfl) (hd : (x == ("__debug__" : Str)) = false := by decide) : wpAny M A (eval (.Name x pos) env) Q E s :=
  wpAny_Name (wpAny_loadName_local hk hl (by rw [hL]; exact F.ns) hv h) hd
theorem St.st {Q : Unit → Shared → Prop} (F : St g s.heap L m mu) (h : ∀ h', St g h' L (upd m x v) mu → Q () { s with heap := h', toks := s.toks + 1 })
    (hL : env.locals = L := by rfl) (hl : env.kindOf x = some .local := by rfl) (hp : (env.scope.kind == .class || (env.scope.kind == .module && env.locals != env.globals)) = false := by rfl) :
    wpAny M A (storeName env x v) Q E s := by
  subst hL
  exact wpAny_storeName_local hl F.ns (fun h' hn hs => h h' (F.store hn hs)) hp
end
end Mine

end
section
namespace Mine

/-! ### The text's defs -/
abbrev pw : Program := PySem.Challenge.pw_mq0133_02
def defAt (i : Nat) : Stmt := pw.main.body.getD i (.Pass default)
def sBody : Stmt → List Stmt
  | .FunctionDef _ _ b .. => b
  | _ => []
def sParams : Stmt → Arguments
  | .FunctionDef _ p .. => p
  | _ => default
def sScope : Stmt → Scope
  | .FunctionDef _ _ _ _ _ _ sc .. => sc
  | _ => default

/-- the heap bears the def i of the text at f -/
def FnIs (h : Heap) (f : Addr) (name : Str) (i : Nat) : Prop :=
  ∃ o pm cd doc, h.get? f = some o ∧ o.data = .func (Calls.docDef name (sParams (defAt i)) (sBody (defAt i)) (sScope (defAt i)) pm cd doc) ∧ h.CodeRec cd name
theorem FnIs.keeps {h h' : Heap} {f : Addr} {name : Str} {i : Nat} (x : FnIs h f name i) (k : Keep h h') : FnIs h' f name i :=
  let ⟨o, pm, cd, doc, h1, h2, h3⟩ := x; ⟨o, pm, cd, doc, k _ _ h1, h2, h3.keeps k⟩

def fnNames : List (Nat × Str) := [(1, "search_reverse"), (3, "heappush"), (4, "heappop"), (5, "heapify"), (6, "_siftdown"), (7, "_siftup"), (9, "_law_letter"), (10, "_law_cuts"), (11, "_law_prime")]
def biNames : List Str := ["len", "range", "reversed"]
structure Glb (h : Heap) (mg mb : Str → Option Value) : Prop where
  g : h.Ns mainGlobals mg
  b : h.Ns builtinsNs mb
  nolimit : h.NoLimit
  fn : ∀ p ∈ fnNames, ∃ f, mg p.2 = some (.ref f) ∧ FnIs h f p.2 p.1
  free : ∀ x ∈ biNames, mg x = none
  builtins : ∀ x : Str, x ≠ "__name__" → mb x = bootBuiltins x
  bmain : ∃ bm ob, mg "__builtins__" = some (.ref bm) ∧ bm ≠ builtinsNs ∧ h.get? bm = some ob ∧ ob.cls = .type "module" ∧ ob.dict = some builtinsNs ∧ ob.data = .plain
theorem Glb.keeps {h h' : Heap} {mg mb : Str → Option Value} (G : Glb h mg mb) (k : Keep h h') : Glb h' mg mb :=
  ⟨G.g.keeps k, G.b.keeps k, G.nolimit.keeps k, fun p hp => let ⟨f, h1, h2⟩ := G.fn p hp; ⟨f, h1, h2.keeps k⟩, G.free, G.builtins, let ⟨bm, ob, h1, h2, h3, r⟩ := G.bmain; ⟨bm, ob, h1, h2, k _ _ h3, r⟩⟩

section
variable {M : Model} {prog : Program} {w : World} {A : Around} {E : Value → Shared → Prop} {R : Result → Shared → Prop} {s : Shared} {env : Env} {mg mb : Str → Option Value} {x : Str} {pos : Pos} {v : Value}
theorem Glb.ldG {Q : Value → Shared → Prop} (G : Glb s.heap mg mb) (hv : mg x = some v) (h : Q v s) (hg : env.globals = mainGlobals := by rfl)
    (hk : env.scope.kind = .function := by rfl) (hl : env.kindOf x = some .globalImplicit := by rfl) (hd : (x == ("__debug__" : Str)) = false := by decide) :
    wpAny M A (eval (.Name x pos) env) Q E s := Calls.Name_function_global hk hl (Calls.loadGlobal_global (by rw [hg]; exact G.g) hv h) hd
theorem Glb.ldB {Q : Value → Shared → Prop} (G : Glb s.heap mg mb) (hv : bootBuiltins x = some v) (h : Q v s) (hx : x ∈ biNames := by decide) (hg : env.globals = mainGlobals := by rfl) (hb : env.builtins = builtinsNs := by rfl)
    (hk : env.scope.kind = .function := by rfl) (hl : env.kindOf x = some .globalImplicit := by rfl) (hd : (x == ("__debug__" : Str)) = false := by decide) (hn : x ≠ "__name__" := by decide) :
    wpAny M A (eval (.Name x pos) env) Q E s :=
  Calls.Name_function_global hk hl (Calls.loadGlobal_builtin (by rw [hg]; exact G.g) (G.free x hx) (by rw [hb]; exact G.b) ((G.builtins x hn).trans hv) h) hd

/-- a call of the text's def i -/
theorem callF {f : Addr} {name : Str} {i k : Nat} {args : List Value} {binds : List (Str × Value)} (mu : List (Addr × Obj)) (hA : Rm A (k + 1)) (hf : FnIs s.heap f name i) (hlim : s.heap.NoLimit)
    (hbind : ∀ pm cd doc, bindArgs (Calls.docDef name (sParams (defAt i)) (sBody (defAt i)) (sScope (defAt i)) pm cd doc) ⟨args, []⟩ = pure binds)
    (hloc : ((binds.map (·.1)).all fun y => (sScope (defAt i)).names.lookup y == some .local) = true)
    (hmu : ∀ p ∈ mu, s.heap.get? p.1 = some p.2) (hnd : (mu.map (·.1)).Nodup)
    (h : ∀ g h₁ L cd, St g h₁ L (fun y => binds.reverse.lookup y) mu → (∀ b o, b ∉ mu.map (·.1) → s.heap.get? b = some o → g.get? b = some o) → Keep g s.heap → Rm (A.deeper (envOf name (sScope (defAt i)) L f cd)) k →
      wpAny (model prog w) (A.deeper (envOf name (sScope (defAt i)) L f cd)) (execs (sBody (defAt i)) (envOf name (sScope (defAt i)) L f cd))
        (fun fl s' => R (.ok (.ret (match fl with | .ret v => v | _ => .none))) s') (fun _ _ => False) { s with heap := h₁, toks := s.toks + binds.length })
    (hco : (sScope (defAt i)).isCoroutine = false := by rfl) (hgen : (sScope (defAt i)).isGenerator = false := by rfl) (hk : (sScope (defAt i)).kind = .function := by rfl)
    (hcell : ∀ x ∈ (sScope (defAt i)).names, x.2 ≠ .cell := by decide) :
    codeAny (model prog w) A (.call (.ref f) ⟨args, []⟩) R s := by
  obtain ⟨o, pm, cd, doc, h1, h2, h3⟩ := hf
  refine call_plain_ret hA.depth h1 h2 hlim h3 (hbind _ _ _) (fun y hy => by simpa using List.all_eq_true.mp hloc y.1 (List.mem_map_of_mem hy)) (fun h₁ F => ?_) hco hgen hk hcell
  refine h (hideAll s.heap (mu.map (·.1))) h₁ _ cd ⟨F.ns, fun b o e => F.keep b o (of_hideAll _ e), ?_, fun p hp => ⟨F.keep _ _ (hmu p hp), ?_, hideAll_none _ (List.mem_map_of_mem hp)⟩, hnd⟩
    (fun b o hb e => hideAll_get _ e hb) (fun b o e => of_hideAll _ e) hA.deeper
  · cases q : (hideAll s.heap (mu.map (·.1))).get? s.heap.objs.size with
    | none => rfl
    | some o' => exact absurd (Heap.lt_size (of_hideAll _ q)) (Nat.lt_irrefl _)
  · exact Nat.ne_of_lt (Heap.lt_size (hmu p hp))
end

/-! ### Kinds of items -/
def KeepT (h h' : Heap) : Prop := ∀ b vs n, h.get? b = some (tup vs n) → h'.get? b = some (tup vs n)
theorem Keep.t {h h' : Heap} (k : Keep h h') : KeepT h h' := fun b _ _ e => k b _ e
theorem KeepT.trans {h h' h'' : Heap} (x : KeepT h h') (y : KeepT h' h'') : KeepT h h'' := fun b vs n e => y b vs n (x b vs n e)
theorem KeepT.but {h h' : Heap} {a : Addr} {o : Obj} (ho : h.get? a = some o) (hc : ∀ vs n, o ≠ tup vs n) (x : Heap.ExtBut a h h') : KeepT h h' := fun b vs n e =>
  x b _ (fun q => by rw [q, ho] at e; exact hc _ _ (Option.some.inj e)) e
theorem KeepT.ns {h h' : Heap} {a : Addr} {m : Str → Option Value} (hn : h.Ns a m) (x : Heap.ExtBut a h h') : KeepT h h' := by
  obtain ⟨o, es, ep, ho, hd, _⟩ := hn
  exact KeepT.but ho (fun vs n q => by rw [q] at hd; cases hd) x
structure Kind (α : Type) where
  R : Heap → Value → α → Prop
  lt : α → α → Bool
  stab : ∀ {h h' v x}, R h v x → KeepT h h' → R h' v x
  cmp : ∀ {prog : Program} {w : World} {A : Around} {E : Value → Shared → Prop} {s : Shared} {u v : Value} {x y : α} {Q : Value → Shared → Prop}, Rm A 2 → R s.heap u x → R s.heap v y →
    (∀ tk, Q (.bool (lt x y)) { s with toks := tk }) → wpAny (model prog w) A (compareOp .Lt u v) Q E s
def Kind.lt2 {α : Type} (K : Kind α) (p q : Value × α) : Bool := K.lt p.2 q.2
def Kind.All {α : Type} (K : Kind α) (h : Heap) (ps : List (Value × α)) : Prop := ∀ p ∈ ps, K.R h p.1 p.2
theorem Kind.All.stab {α : Type} {K : Kind α} {h h' : Heap} {ps : List (Value × α)} (x : K.All h ps) (k : KeepT h h') : K.All h' ps := fun p hp => K.stab (x p hp) k

/-! ### Pure functions -/
section
variable {β : Type} (lt : β → β → Bool)
def sdLoop (start : Nat) (x : β) (l : List β) (pos : Nat) : List β :=
  if h : start < pos then
    match l[(pos - 1) / 2]? with
    | some p => if lt x p then sdLoop start x (l.set pos p) ((pos - 1) / 2) else l.set pos x
    | none => l
  else l.set pos x
termination_by pos
def siftdown (l : List β) (start pos : Nat) : List β := match l[pos]? with
  | some x => sdLoop lt start x l pos
  | none => l
end
end Mine

end
section
namespace Mine
section
variable {prog : Program} {w : World} {A : Around} {R : Result → Shared → Prop} {s : Shared} {E : Value → Shared → Prop}

/-- an item of a list -/
theorem getL {value slice : Expr} {a : Addr} {vs : List Value} {n : Nat} {k : Nat} {i : Int} {u : Tok} {x : Value} {Q : Value → Shared → Prop} (ho : s.heap.get? a = some (lst vs n)) (hi : i = (k : Int)) (hx : vs[k]? = some x) (hk : k < 2 ^ 62) (h : Q x s)
    (hs : subscripted slice false (.ref a) (.int i u) = operate [.ref a, .int i u] (getItem (.ref a) (.int i u)) := by with_unfolding_all rfl) (hg : ∀ r, letTemporaryGo value (.ref a) r = pure () := by intro _; with_unfolding_all rfl) :
    wpAny (model prog w) A (subscriptTail value slice (.ref a) (.int i u)) Q E s := by
  subst hi
  exact item_listL ⟨_, ho, rfl, n, rfl⟩ (Int.natCast_nonneg _) (by omega) (by simpa using hx) h hs hg

theorem setL {a : Addr} {vs : List Value} {n : Nat} {k : Nat} {i : Int} {u : Tok} {x : Value} {Q : Unit → Shared → Prop} (ho : s.heap.get? a = some (lst vs n)) (hi : i = (k : Int)) (hk : k < vs.length) (hk2 : k < 2 ^ 62)
    (h : ∀ h', Heap.SameBut a s.heap h' → h'.get? a = some (lst (vs.set k x) n) → Q () { s with heap := h' }) :
    wpAny (model prog w) A (setItem (.ref a) (.int i u) x) Q E s := by
  subst hi
  refine ki_setAt ho (Int.natCast_nonneg _) (by omega) (by simpa using hk) (h _ (Heap.SameBut.update ..) ?_)
  rw [Heap.get?_update_self _ ho (by simp [Obj.mapSeq, Obj.isFreed])]
  simp [Obj.mapSeq]

theorem fdiv2 (pos : Nat) (h : 0 < pos) : ((pos : Int) - 1).fdiv (2 ^ (1 : Int).toNat) = (((pos - 1) / 2 : Nat) : Int) := by
  have e : ((pos : Int) - 1) = ((pos - 1 : Nat) : Int) := by omega
  rw [e]
  show ((pos - 1 : Nat) : Int).fdiv 2 = _
  rw [Int.fdiv_eq_ediv_of_nonneg _ (by decide)]
  omega

theorem siftdown_ok {α : Type} (K : Kind α) {h₀ : Heap} {mg mb : Str → Option Value} {f a : Addr} {ps : List (Value × α)} {n start pos : Nat} {t1 t2 : Tok} (G : Glb h₀ mg mb) (B : Keep h₀ s.heap) (hf : FnIs h₀ f "_siftdown" 6)
    (hA : Rm A 4) (hl : s.heap.get? a = some (lst (ps.map (·.1)) n)) (hR : K.All s.heap ps) (hpos : pos < ps.length) (hsz : ps.length < 2 ^ 30)
    (h : ∀ h' tk n', ExtS [a] s.heap h' → h'.get? a = some (lst ((siftdown K.lt2 ps start pos).map (·.1)) n') → R (.ok (.ret .none)) { s with heap := h', toks := tk }) :
    codeAny (model prog w) A (.call (.ref f) ⟨[.ref a, .int start t1, .int pos t2], []⟩) R s := by
  refine callF [(a, lst (ps.map (·.1)) n)] hA (hf.keeps B) (G.nolimit.keeps B) (binds := [("heap", .ref a), ("startpos", .int start t1), ("pos", .int pos t2)]) (fun _ _ _ => rfl) rfl (by simpa using hl) (by simp) ?_
  intro g h₁ L cd F hg hgs hA'
  have hgT : KeepT s.heap g := fun b vs n e => hg b _ (fun q => by
    have : b = a := by simpa using q
    rw [this, hl] at e; simp at e) e
  have hRg : K.All g ps := hR.stab hgT
  obtain ⟨x, hx⟩ : ∃ x, ps[pos]? = some x := ⟨_, List.getElem?_eq_getElem hpos⟩
  have hsd : siftdown K.lt2 ps start pos = sdLoop K.lt2 start x ps pos := by unfold siftdown; rw [hx]
  have hxR : K.R g x.1 x.2 := hRg x (List.mem_of_getElem? hx)
  -- newitem = heap[pos]
  refine wpAny_execs_cons (wpAny_Assign_Name (Subscript_ (F.ld rfl (F.ld rfl (getL (F.get 0) rfl (x := x.1) (by rw [List.getElem?_map, hx]; rfl) (by omega) ?_)))))
  refine F.st fun h₂ F₂ => ?_
  dsimp only
  -- the loop
  refine wpAny_execs_cons (wpAny_While (codeAny_whileLoop (fun k s' => ∃ h' tk m l p t n', s' = { s with heap := h', toks := tk } ∧ St g h' L m [(a, lst (l.map (·.1)) n')] ∧ m "heap" = some (.ref a) ∧ m "startpos" = some (.int start t1) ∧
    m "pos" = some (.int (p : Nat) t) ∧ m "newitem" = some x.1 ∧ l.length = ps.length ∧ p < l.length ∧ K.All g l ∧ sdLoop K.lt2 start x l p = siftdown K.lt2 ps start pos ∧ p = k) ?_ pos
    ⟨h₂, _, _, ps, pos, t2, n, rfl, F₂, rfl, rfl, rfl, rfl, rfl, hpos, hRg, hsd.symm, rfl⟩))
  rintro k s' ⟨h', tk, m, l, p, t, n', rfl, F', m1, m2, m3, m4, hlen, hp, hRl, hgoal, rfl⟩
  refine wpAny_isTrue_Compare1 (F'.ld m3 (F'.ld m2 (gt_int (wpAny_truthy_bool ?_))))
  rw [sdLoop] at hgoal
  by_cases hgt : start < p
  · have hgt' : (start : Int) < (p : Int) := by omega
    simp only [hgt', decide_true, if_true]
    simp only [hgt, dite_true] at hgoal
    have hppl : (p - 1) / 2 < l.length := by omega
    obtain ⟨par, hpar⟩ : ∃ par, l[(p - 1) / 2]? = some par := ⟨_, List.getElem?_eq_getElem hppl⟩
    rw [hpar] at hgoal
    dsimp only at hgoal
    have hparR : K.R g par.1 par.2 := hRl par (List.mem_of_getElem? hpar)
    -- parentpos = pos - 1 >> 1
    refine wpAny_execs_cons (wpAny_Assign_Name (wpAny_BinOp (wpAny_BinOp (F'.ld m3 (wpAny_Constant_int (sub_int (wpAny_Constant_int (rshift_int (by decide) ?_))))))))
    refine St.st F' fun h₃ F₃ => ?_
    dsimp only
    rw [fdiv2 p (by omega)] at F₃
    -- parent = heap[parentpos]
    refine wpAny_execs_cons (wpAny_Assign_Name (Subscript_ (St.ld F₃ m1 (St.ld F₃ rfl (getL (F₃.get 0) rfl (x := par.1) (by rw [List.getElem?_map, hpar]; rfl) (by omega) ?_)))))
    refine St.st F₃ fun h₄ F₄ => ?_
    dsimp only
    -- if newitem < parent
    refine wpAny_execs_cons (wpAny_If (wpAny_isTrue_Compare1 (St.ld F₄ m4 (St.ld F₄ rfl (K.cmp (hA'.le (by omega)) (K.stab hxR F₄.keep.t) (K.stab hparR F₄.keep.t) fun tk' => wpAny_truthy_bool ?_)))))
    cases hc : K.lt x.2 par.2 with
    | true =>
      have hc2 : K.lt2 x par = true := hc
      simp only [hc2, if_true] at hgoal
      simp only [if_true]
      -- heap[pos] = parent
      refine wpAny_execs_cons (wpAny_Assign_Subscript (St.ld F₄ rfl (St.ld F₄ m1 (St.ld F₄ m3 (setL (F₄.get 0) rfl (by simpa using hp) (by omega) fun h₅ hs₅ ho₅ => ?_)))))
      have F₅ := F₄.turn 0 rfl (ExtS.of hs₅.extBut) ho₅
      dsimp only
      -- pos = parentpos
      refine wpAny_execs_cons (wpAny_Assign_Name (St.ld F₅ rfl (St.st F₅ fun h₆ F₆ => ?_)))
      dsimp only
      refine wpAny_execs_cons (wpAny_Continue ?_)
      have e₆ : (l.set p par).map (·.1) = (l.map (·.1)).set p par.1 := List.map_set ..
      have F₆' := F₆
      rw [List.set_cons_zero, ← e₆] at F₆'
      refine ⟨(p - 1) / 2, by omega, h₆, _, _, l.set p par, (p - 1) / 2, _, n', rfl, F₆', m1, m2, rfl, m4, by simpa using hlen, by simpa using hppl, ?_, hgoal, rfl⟩
      · intro q hq
        rcases List.mem_or_eq_of_mem_set hq with hq | rfl
        · exact hRl q hq
        · exact hparR
    | false =>
      have hc2 : K.lt2 x par = false := hc
      simp only [hc2, Bool.false_eq_true, if_false] at hgoal
      simp only [Bool.false_eq_true, if_false]
      refine wpAny_execs_nil ?_
      refine wpAny_execs_cons (wpAny_Break ?_)
      refine wpAny_execs_cons (wpAny_Assign_Subscript (St.ld F₄ m4 (St.ld F₄ m1 (St.ld F₄ m3 (setL (F₄.get 0) rfl (by simpa using hp) (by omega) fun h₅ hs₅ ho₅ => ?_)))))
      refine wpAny_execs_nil ?_
      have F₅ := F₄.turn 0 rfl (ExtS.of hs₅.extBut) ho₅
      refine h h₅ _ n' (fun b o hb e => F₅.keep b o (hg b o hb e)) ?_
      rw [← hgoal, List.map_set]
      exact ho₅
  · have hgt' : ¬ (start : Int) < (p : Int) := by omega
    simp only [hgt', decide_false, Bool.false_eq_true, if_false]
    simp only [hgt, dite_false] at hgoal
    refine wpAny_execs_nil ?_
    dsimp only
    refine wpAny_execs_cons (wpAny_Assign_Subscript (F'.ld m4 (F'.ld m1 (F'.ld m3 (setL (F'.get 0) rfl (by simpa using hp) (by omega) fun h₅ hs₅ ho₅ => ?_)))))
    refine wpAny_execs_nil ?_
    have F₅ := F'.turn 0 rfl (ExtS.of hs₅.extBut) ho₅
    refine h h₅ _ n' (fun b o hb e => F₅.keep b o (hg b o hb e)) ?_
    rw [← hgoal, List.map_set]
    exact ho₅
end
end Mine

end
section
namespace Mine
section
variable {prog : Program} {w : World} {A : Around} {R : Result → Shared → Prop} {s : Shared} {E : Value → Shared → Prop} {env : Env} {mg mb : Str → Option Value}

/-- a call of the text's own def by its name, one argument or more -/
theorem callG {x : Str} {np pos : Pos} {e : Expr} {rest : List Expr} {f : Addr} {nm : Str} {i : Nat} {Q : Value → Shared → Prop} (G : Glb s.heap mg mb) (hm : mg x = some (.ref f)) (hf : FnIs s.heap f nm i)
    (h : wpAny (model prog w) A (spliced (backTo pos (starEach (e :: rest) env))) (fun vs s₁ => Keep s.heap s₁.heap ∧
      codeAny (model prog w) A (.call (.ref f) ⟨vs, []⟩) (fun r s' => match r with | .ok (.ret v) => Q v s' | .ok _ => False | .error e => E e s') s₁) E s)
    (he : starEach (e :: rest) env = (false, eval e env) :: starEach rest env := by rfl) (hg : env.globals = mainGlobals := by rfl)
    (hk : env.scope.kind = .function := by rfl) (hl : env.kindOf x = some .globalImplicit := by rfl) (hd : (x == ("__debug__" : Str)) = false := by decide) :
    wpAny (model prog w) A (eval (.Call (.Name x np) (e :: rest) [] pos) env) Q E s := by
  obtain ⟨o, pm, cd, doc, h1, h2, h3⟩ := hf
  refine Call_ (G.ldG hm ?_ hg hk hl hd) 
  exact callWith_def h2 (wpAny_mono h (fun vs s₁ h₁ => ⟨h₁.1 _ _ h1, wpAny_call h₁.2⟩) fun _ _ x => x) he
theorem callB {x : Str} {id : String} {np pos : Pos} {e : Expr} {rest : List Expr} {Q : Value → Shared → Prop} (G : Glb s.heap mg mb) (hb : bootBuiltins x = some (.builtin id))
    (h : wpAny (model prog w) A (spliced (backTo pos (starEach (e :: rest) env))) (fun vs s₁ => wpAny (model prog w) A (call (.builtin id) vs) Q E s₁) E s)
    (hx : x ∈ biNames := by decide) (he : starEach (e :: rest) env = (false, eval e env) :: starEach rest env := by rfl) (hplain : (backTo pos (starEach rest env)).any (·.1) = false := by rfl)
    (hg : env.globals = mainGlobals := by rfl) (hbn : env.builtins = builtinsNs := by rfl)
    (hk : env.scope.kind = .function := by rfl) (hl : env.kindOf x = some .globalImplicit := by rfl) (hd : (x == ("__debug__" : Str)) = false := by decide) (hn : x ≠ "__name__" := by decide) :
    wpAny (model prog w) A (eval (.Call (.Name x np) (e :: rest) [] pos) env) Q E s :=
  Call_ (G.ldB hb (PyProof.Rows.callWith_builtin1 h he hplain) hx hg hbn hk hl hd hn)

theorem boot_len : bootBuiltins "len" = some (.builtin "len") := by decide +kernel
theorem boot_max : bootBuiltins "max" = some (.builtin "max") := by decide +kernel
theorem boot_sorted : bootBuiltins "sorted" = some (.builtin "sorted") := by decide +kernel
theorem boot_reversed : bootBuiltins "reversed" = some (.type "reversed") := by decide +kernel

theorem lenL {a : Addr} {vs : List Value} {n : Nat} {Q : Value → Shared → Prop} (ho : s.heap.get? a = some (lst vs n)) (hsz : vs.length < 2 ^ 62) (h : ∀ t tk, Q (.int vs.length t) { s with toks := tk }) :
    wpAny (model prog w) A (call (.builtin "len") [.ref a]) Q E s := by
  have := h (s.toks + 1) (s.toks + 1 + 1)
  exact PyProof.Rows.len_list ⟨_, ho, rfl, n, rfl⟩ (by simp; omega) (by simpa using this)
theorem popL {a : Addr} {vs : List Value} {y : Value} {n : Nat} {Q : Value → Shared → Prop} (ho : s.heap.get? a = some (lst (vs ++ [y]) n)) (hsz : vs.length < 2 ^ 22)
    (h : ∀ h', Heap.SameBut a s.heap h' → h'.get? a = some (lst vs (n + 1)) → Q y { s with heap := h' }) : wpAny (model prog w) A (call (.builtin "list.pop") [.ref a]) Q E s := by
  have hk : (vs ++ [y]).toArray.size - 1 = vs.length := by rw [List.size_toArray, List.length_append]; rfl
  have hy : (vs ++ [y]).toArray[(vs ++ [y]).toArray.size - 1]? = some y := by rw [hk]; simp
  refine call_meets PySem.F.slot_list_pop ⟨_, ho, rfl⟩ PySem.F.entry_list_pop (PySem.F.args_list_pop_1 _) (PySem.MeetsSeq.list_pop_last a _ n y hy (by rw [sizeLine_eq]; simp; omega)) ⟨ho, h _ (Heap.SameBut.update ..) ?_⟩
  have q := PySem.IsL.update ho (fun xs => xs.eraseIdxIfInBounds ((vs ++ [y]).toArray.size - 1))
  rw [hk] at q ⊢
  have e2 : (vs ++ [y]).toArray.eraseIdxIfInBounds vs.length = vs.toArray := by rw [kl_erase, List.append_nil]
  simp only [e2] at q
  rw [if_neg (by simp)] at q
  exact q
theorem appendL {a : Addr} {vs : List Value} {y : Value} {n : Nat} {Q : Value → Shared → Prop} (ho : s.heap.get? a = some (lst vs n)) (hsz : vs.length < 2 ^ 22)
    (h : ∀ h', Heap.SameBut a s.heap h' → h'.get? a = some (lst (vs ++ [y]) (n + 1)) → Q .none { s with heap := h' }) : wpAny (model prog w) A (call (.builtin "list.append") [.ref a, y]) Q E s :=
  append_at ho (fun h' hs ho' => h h' hs (by simpa using ho')) (by rw [sizeLine_eq]; simp; omega)
/-- a list's method -/
theorem methL {o : Expr} {name : Str} {apos pos : Pos} {args : List Expr} {id : String} {Q : Value → Shared → Prop} (slot : Slot "list" name id) (hty : typeOf (.builtin id) = pure (.type "method_descriptor"))
    (h : wpAny (model prog w) A (eval o env) (fun ov s₁ => ∃ a vs n, ov = .ref a ∧ s₁.heap.get? a = some (lst vs n) ∧
      wpAny (model prog w) A (callWith pos (.builtin id) [ov] (backTo pos (starEach args env)) []) Q E s₁) E s)
    (hbase : attributeBase o name env (eval o env) = eval o env := by rfl) (hline : (apos.endLine == pos.line) = true := by rfl)
    (hfew : ((backTo pos (starEach args env)).all (fun x => !x.1) && (backToKw pos (keywordEach [] env)).all (fun x => x.1.isSome)
      && decide (args.length + ([] : List Keyword).length + (if ([] : List Keyword).isEmpty then 0 else 1) < 30)) = true := by rfl) :
    wpAny (model prog w) A (eval (.Call (.Attribute o name apos) args [] pos) env) Q E s := by
  refine wpAny_Call_method hbase hfew hline PySem.F.plainAttrs_list slot hty (wpAny_mono h (fun ov s₁ h₁ => ?_) fun _ _ x => x)
  obtain ⟨a, vs, n, rfl, ho, hq⟩ := h₁
  exact ⟨⟨_, ho, rfl⟩, fun b e => by cases e; exact ⟨_, ho, rfl⟩, hq⟩
theorem callWithB1 {pos : Pos} {id : String} {ov : Value} {e : Expr} {Q : Value → Shared → Prop} (h : wpAny (model prog w) A (eval e env) (fun v s₁ => wpAny (model prog w) A (call (.builtin id) [ov, v]) Q E s₁) E s)
    (he : starEach [e] env = [(false, eval e env)] := by rfl) : wpAny (model prog w) A (callWith pos (.builtin id) [ov] (backTo pos (starEach [e] env)) []) Q E s := by
  rw [he]
  exact Calls.callWith_builtin rfl (Calls.evalArgs_plain (Calls.spliced_cons (wpAny_mono h (fun _ _ h₁ => Calls.spliced_nil h₁) fun _ _ e => e)))
theorem callWithB0 {pos : Pos} {id : String} {ov : Value} {Q : Value → Shared → Prop} (h : wpAny (model prog w) A (call (.builtin id) [ov]) Q E s) : wpAny (model prog w) A (callWith pos (.builtin id) [ov] (backTo pos (starEach [] env)) []) Q E s :=
  Calls.callWith_builtin rfl (PySem.evalArgs_none h)
end

section
variable {β : Type} (lt : β → β → Bool)
/-- the lesser child's place -/
def child (l : List β) (pos : Nat) : Nat := match l[2 * pos + 1]?, l[2 * pos + 2]? with
  | some x, some y => if lt x y then 2 * pos + 1 else 2 * pos + 2
  | _, _ => 2 * pos + 1
theorem child_gt (l : List β) (pos : Nat) : pos < child lt l pos := by unfold child; split <;> (try split) <;> omega
theorem child_cases (l : List β) (pos : Nat) : child lt l pos = 2 * pos + 1 ∨ child lt l pos = 2 * pos + 2 := by unfold child; split <;> (try split) <;> omega
def suLoop (l : List β) (pos : Nat) : List β × Nat :=
  if h : child lt l pos < l.length then suLoop (l.set pos l[child lt l pos]) (child lt l pos)
  else (l, pos)
termination_by l.length - pos
decreasing_by have := child_gt lt l pos; simp; omega
def siftup (l : List β) (pos : Nat) : List β := match l[pos]? with
  | some x => siftdown lt ((suLoop lt l pos).1.set (suLoop lt l pos).2 x) pos (suLoop lt l pos).2
  | none => l
end
end Mine

end
section
namespace Mine
section
variable {prog : Program} {w : World} {A : Around} {R : Result → Shared → Prop} {s : Shared} {E : Value → Shared → Prop} {env : Env} {mg mb : Str → Option Value}

theorem keepT_of {a : Addr} {h g : Heap} {vs : List Value} {n : Nat} (hl : h.get? a = some (lst vs n)) (hg : ∀ b o, b ∉ [a] → h.get? b = some o → g.get? b = some o) : KeepT h g := fun b vs' n' e =>
  hg b _ (fun q => by
    have : b = a := by simpa using q
    rw [this, hl] at e; simp at e) e
theorem keep_hide {a : Addr} {h₀ h g : Heap} (B : Keep h₀ h) (ha : h₀.get? a = none) (hg : ∀ b o, b ∉ [a] → h.get? b = some o → g.get? b = some o) : Keep h₀ g := fun b o e =>
  hg b o (fun q => by
    have : b = a := by simpa using q
    rw [this, ha] at e; cases e) (B b o e)

theorem child_left {β : Type} {lt : β → β → Bool} {l : List β} {p : Nat} (h : ¬ 2 * p + 2 < l.length) : child lt l p = 2 * p + 1 := by
  unfold child
  rw [show l[2 * p + 2]? = none from List.getElem?_eq_none (by omega)]
  split
  · rename_i h2; cases h2
  · rfl

theorem siftup_ok {α : Type} (K : Kind α) {h₀ : Heap} {mg mb : Str → Option Value} {f a : Addr} {ps : List (Value × α)} {n pos : Nat} {t1 : Tok} (G : Glb h₀ mg mb) (B : Keep h₀ s.heap) (ha : h₀.get? a = none) (hf : FnIs h₀ f "_siftup" 7)
    (hA : Rm A 6) (hl : s.heap.get? a = some (lst (ps.map (·.1)) n)) (hR : K.All s.heap ps) (hpos : pos < ps.length) (hsz : ps.length < 2 ^ 20)
    (h : ∀ h' tk n', ExtS [a] s.heap h' → h'.get? a = some (lst ((siftup K.lt2 ps pos).map (·.1)) n') → R (.ok (.ret .none)) { s with heap := h', toks := tk }) :
    codeAny (model prog w) A (.call (.ref f) ⟨[.ref a, .int pos t1], []⟩) R s := by
  refine callF [(a, lst (ps.map (·.1)) n)] hA (hf.keeps B) (G.nolimit.keeps B) (binds := [("heap", .ref a), ("pos", .int pos t1)]) (fun _ _ _ => rfl) rfl (by simpa using hl) (by simp) ?_
  intro g h₁ L cd F hg hgs hA'
  have hRg : K.All g ps := hR.stab (keepT_of hl hg)
  have Bg : Keep h₀ g := keep_hide B ha hg
  obtain ⟨fsd, hsd1, hsd2⟩ := G.fn (6, "_siftdown") (by decide)
  obtain ⟨x, hx⟩ : ∃ x, ps[pos]? = some x := ⟨_, List.getElem?_eq_getElem hpos⟩
  have hsu : siftup K.lt2 ps pos = siftdown K.lt2 ((suLoop K.lt2 ps pos).1.set (suLoop K.lt2 ps pos).2 x) pos (suLoop K.lt2 ps pos).2 := by unfold siftup; rw [hx]
  have hxR : K.R g x.1 x.2 := hRg x (List.mem_of_getElem? hx)
  -- endpos = len(heap)
  refine wpAny_execs_cons (wpAny_Assign_Name (callB (G.keeps (Bg.trans F.keep)) boot_len (args_cons (F.ld rfl (args_nil (lenL (F.get 0) (by simp; omega) fun t2 tk2 => ?_))))))
  refine St.st F fun h₂ F₂ => ?_
  dsimp only
  -- startpos = pos
  refine wpAny_execs_cons (wpAny_Assign_Name (St.ld F₂ rfl (St.st F₂ fun h₃ F₃ => ?_)))
  dsimp only
  -- newitem = heap[pos]
  refine wpAny_execs_cons (wpAny_Assign_Name (Subscript_ (St.ld F₃ rfl (St.ld F₃ rfl (getL (F₃.get 0) rfl (x := x.1) (by rw [List.getElem?_map, hx]; rfl) (by omega) ?_)))))
  refine St.st F₃ fun h₄ F₄ => ?_
  dsimp only
  -- childpos = 2 * pos + 1
  refine wpAny_execs_cons (wpAny_Assign_Name (wpAny_BinOp (wpAny_BinOp (wpAny_Constant_int (St.ld F₄ rfl (mul_int (wpAny_Constant_int (add_int ?_)) (IntMulOk.of_left (by decide))))))))
  refine St.st F₄ fun h₅ F₅ => ?_
  dsimp only
  -- the loop
  refine wpAny_execs_cons (wpAny_While (codeAny_whileLoop (fun k s' => ∃ h' tk m l p t t' t'' n', s' = { s with heap := h', toks := tk } ∧ St g h' L m [(a, lst (l.map (·.1)) n')] ∧ m "heap" = some (.ref a) ∧ m "startpos" = some (.int pos t'') ∧
    m "endpos" = some (.int ps.length t2) ∧ m "pos" = some (.int (p : Nat) t) ∧ m "childpos" = some (.int ((2 * p + 1 : Nat) : Int) t') ∧ m "newitem" = some x.1 ∧ l.length = ps.length ∧ p < l.length ∧ K.All g l ∧ suLoop K.lt2 l p = suLoop K.lt2 ps pos ∧ l.length - p = k) ?_ (ps.length - pos)
    ⟨h₅, _, _, ps, pos, _, _, _, n, rfl, F₅, rfl, rfl, by show some (Value.int ((ps.map (·.1)).length : Nat) t2) = _; rw [List.length_map], rfl, by show some _ = some _; congr 2, rfl, rfl, hpos, hRg, rfl, rfl⟩))
  rintro k s' ⟨h', tk, m, l, p, t, t', t'', n', rfl, F', m1, m2, m3, m4, m5, m6, hlen, hp, hRl, hgoal, rfl⟩
  refine wpAny_isTrue_Compare1 (F'.ld m5 (F'.ld m3 (lt_int (wpAny_truthy_bool ?_))))
  by_cases hlt : 2 * p + 1 < l.length
  · have hlt' : ((2 * p + 1 : Nat) : Int) < (ps.length : Int) := by omega
    simp only [hlt', decide_true, if_true]
    obtain ⟨x1, hx1⟩ : ∃ x1, l[2 * p + 1]? = some x1 := ⟨_, List.getElem?_eq_getElem hlt⟩
    -- rightpos = childpos + 1
    refine wpAny_execs_cons (wpAny_Assign_Name (wpAny_BinOp (St.ld F' m5 (wpAny_Constant_int (add_int ?_)))))
    refine St.st F' fun h₆ F₆ => ?_
    dsimp only
    have body : ∀ (h₇ : Heap) (tk₇ : Nat) (m₇ : Str → Option Value) (t₇ : Tok), St g h₇ L m₇ [(a, lst (l.map (·.1)) n')] → m₇ "heap" = some (.ref a) → m₇ "startpos" = some (.int pos t'') → m₇ "endpos" = some (.int ps.length t2) →
        m₇ "pos" = some (.int (p : Nat) t) → m₇ "newitem" = some x.1 → m₇ "childpos" = some (.int (child K.lt2 l p : Nat) t₇) →
        wpAny (model prog w) (A.deeper (envOf "_siftup" (sScope (defAt 7)) L f cd)) (execs (match (sBody (defAt 7)) with | [_, _, _, _, .While _ (_ :: _ :: r) _ _, _, _] => r | _ => []) (envOf "_siftup" (sScope (defAt 7)) L f cd))
          (fun f s₃ => match f with
            | .next | .cont => ∃ k', k' < l.length - p ∧ ∃ h' tk m l p t t' t'' n', s₃ = { s with heap := h', toks := tk } ∧ St g h' L m [(a, lst (l.map (·.1)) n')] ∧ m "heap" = some (.ref a) ∧ m "startpos" = some (.int pos t'') ∧
              m "endpos" = some (.int ps.length t2) ∧ m "pos" = some (.int (p : Nat) t) ∧ m "childpos" = some (.int ((2 * p + 1 : Nat) : Int) t') ∧ m "newitem" = some x.1 ∧ l.length = ps.length ∧ p < l.length ∧ K.All g l ∧ suLoop K.lt2 l p = suLoop K.lt2 ps pos ∧ l.length - p = k'
            | _ => False) (fun _ _ => False) { s with heap := h₇, toks := tk₇ } := by
      intro h₇ tk₇ m₇ t₇ F₇ q1 q2 q3 q4 q5 q6
      have hcl : child K.lt2 l p < l.length := by
        by_cases h2 : 2 * p + 2 < l.length
        · have := child_cases K.lt2 l p; omega
        · rw [child_left h2]; exact hlt
      have hxc : l[child K.lt2 l p]? = some l[child K.lt2 l p] := List.getElem?_eq_getElem hcl
      -- heap[pos] = heap[childpos]
      refine wpAny_execs_cons (wpAny_Assign_Subscript (Subscript_ (St.ld F₇ q1 (St.ld F₇ q6 (getL (F₇.get 0) rfl (x := l[child K.lt2 l p].1) (by rw [List.getElem?_map, hxc]; rfl) (by omega)
        (St.ld F₇ q1 (St.ld F₇ q4 (setL (F₇.get 0) rfl (by simpa using hp) (by omega) fun h₈ hs₈ ho₈ => ?_))))))))
      have F₈ := F₇.turn 0 rfl (ExtS.of hs₈.extBut) ho₈
      dsimp only
      -- pos = childpos
      refine wpAny_execs_cons (wpAny_Assign_Name (St.ld F₈ q6 (St.st F₈ fun h₉ F₉ => ?_)))
      dsimp only
      -- childpos = 2 * pos + 1
      refine wpAny_execs_cons (wpAny_Assign_Name (wpAny_BinOp (wpAny_BinOp (wpAny_Constant_int (St.ld F₉ rfl (mul_int (wpAny_Constant_int (add_int ?_)) (IntMulOk.of_left (by decide))))))))
      refine St.st F₉ fun h₁₀ F₁₀ => ?_
      dsimp only
      have e₁₀ : (l.set p l[child K.lt2 l p]).map (·.1) = (l.map (·.1)).set p l[child K.lt2 l p].1 := List.map_set ..
      rw [List.set_cons_zero, ← e₁₀] at F₁₀
      have hsu' : suLoop K.lt2 (l.set p l[child K.lt2 l p]) (child K.lt2 l p) = suLoop K.lt2 ps pos := by
        rw [← hgoal, suLoop.eq_def K.lt2 l p, dif_pos hcl]
      have hcg := child_gt K.lt2 l p
      refine wpAny_execs_nil ⟨_, ?_, h₁₀, _, _, l.set p l[child K.lt2 l p], child K.lt2 l p, _, _, _, n', rfl, F₁₀, q1, q2, q3, rfl, by show some _ = some _; congr 2, q5, by simpa using hlen, by simpa using hcl, ?_, hsu', rfl⟩
      · simp; omega
      · intro q hq
        rcases List.mem_or_eq_of_mem_set hq with hq | rfl
        · exact hRl q hq
        · exact hRl _ (List.getElem_mem hcl)
    -- if rightpos < endpos and not heap[childpos] < heap[rightpos]: childpos = rightpos
    refine wpAny_execs_cons (wpAny_If (isTrue_and (wpAny_isTrue_Compare1 (St.ld F₆ rfl (St.ld F₆ m3 (lt_int (wpAny_truthy_bool ?_)))))))
    by_cases hr : 2 * p + 2 < l.length
    · have hr' : ((2 * p + 1 : Nat) : Int) + 1 < (ps.length : Int) := by omega
      simp only [hr', decide_true, if_true]
      obtain ⟨x2, hx2⟩ : ∃ x2, l[2 * p + 2]? = some x2 := ⟨_, List.getElem?_eq_getElem hr⟩
      refine isTrue_and (isTrue_not (wpAny_isTrue_Compare1 (Subscript_ (St.ld F₆ m1 (St.ld F₆ m5 (getL (F₆.get 0) rfl (x := x1.1) (by rw [List.getElem?_map, hx1]; rfl) (by omega)
        (Subscript_ (St.ld F₆ m1 (St.ld F₆ rfl (getL (F₆.get 0) (k := 2 * p + 2) (by omega) (x := x2.1) (by rw [List.getElem?_map, hx2]; rfl) (by omega)
        (K.cmp (hA'.le (by omega)) (K.stab (hRl x1 (List.mem_of_getElem? hx1)) F₆.keep.t) (K.stab (hRl x2 (List.mem_of_getElem? hx2)) F₆.keep.t) fun tk' => wpAny_truthy_bool ?_)))))))))))
      have hch : child K.lt2 l p = if K.lt x1.2 x2.2 then 2 * p + 1 else 2 * p + 2 := by unfold child; rw [hx1, hx2]; rfl
      cases hc : K.lt x1.2 x2.2 with
      | true =>
        simp only [Bool.not_true, Bool.false_eq_true, if_false]
        refine wpAny_execs_nil ?_
        refine wpAny_mono (body h₆ _ _ t' F₆ m1 m2 m3 m4 m6 ?_) (fun fl s₃ hq => ?_) fun _ _ e => e.elim
        · rw [hch, hc]; exact m5
        · cases fl <;> first | exact hq | exact hq.elim
      | false =>
        simp only [Bool.not_false, if_true]
        refine isTrue_and_nil ?_
        simp only [if_true]
        refine wpAny_execs_cons (wpAny_Assign_Name (St.ld F₆ rfl (St.st F₆ fun h₇ F₇ => ?_)))
        dsimp only
        refine wpAny_execs_nil ?_
        refine wpAny_mono (body h₇ _ _ _ F₇ m1 m2 m3 m4 m6 (by rw [hch, hc]; exact (show some (Value.int (((2 * p + 1 : Nat) : Int) + 1) _) = some (Value.int ((2 * p + 2 : Nat) : Int) _) from rfl))) (fun fl s₃ hq => ?_) fun _ _ e => e.elim
        · cases fl <;> first | exact hq | exact hq.elim
    · have hr' : ¬ ((2 * p + 1 : Nat) : Int) + 1 < (ps.length : Int) := by omega
      simp only [hr', decide_false, Bool.false_eq_true, if_false]
      refine wpAny_execs_nil ?_
      refine wpAny_mono (body h₆ _ _ t' F₆ m1 m2 m3 m4 m6 ?_) (fun fl s₃ hq => ?_) fun _ _ e => e.elim
      · rw [child_left hr]; exact m5
      · cases fl <;> first | exact hq | exact hq.elim
  · have hlt' : ¬ ((2 * p + 1 : Nat) : Int) < (ps.length : Int) := by omega
    simp only [hlt', decide_false, Bool.false_eq_true, if_false]
    refine wpAny_execs_nil ?_
    dsimp only
    have hend : suLoop K.lt2 l p = (l, p) := by
      rw [suLoop.eq_def, dif_neg]
      have := child_cases K.lt2 l p
      omega
    rw [hend] at hgoal
    rw [← hgoal] at hsu
    dsimp only at hsu
    -- heap[pos] = newitem
    refine wpAny_execs_cons (wpAny_Assign_Subscript (F'.ld m6 (F'.ld m1 (F'.ld m4 (setL (F'.get 0) rfl (by simpa using hp) (by omega) fun h₆ hs₆ ho₆ => ?_)))))
    have F₆ := F'.turn 0 rfl (ExtS.of hs₆.extBut) ho₆
    dsimp only
    have e₆ : (l.set p x).map (·.1) = (l.map (·.1)).set p x.1 := List.map_set ..
    rw [List.set_cons_zero, ← e₆] at F₆
    -- _siftdown(heap, startpos, pos)
    refine wpAny_execs_cons (wpAny_Expr (callG (G.keeps (Bg.trans F₆.keep)) hsd1 (hsd2.keeps (Bg.trans F₆.keep)) (args_cons (St.ld F₆ m1 (args_cons (St.ld F₆ m2 (args_cons (St.ld F₆ m4 (args_nil ⟨Keep.refl _, ?_⟩)))))))))
    refine siftdown_ok K G (Bg.trans F₆.keep) hsd2 (hA'.le (by omega)) (F₆.get 0) (Kind.All.stab (K := K) (h := g) ?_ F₆.keep.t) (by simpa using hp) (by simp; omega) fun h₇ tk₇ n₇ hx₇ ho₇ => ?_
    · intro q hq
      rcases List.mem_or_eq_of_mem_set hq with hq | rfl
      · exact hRl q hq
      · exact hxR
    · dsimp only
      refine wpAny_execs_nil ?_
      rw [hsu] at h
      exact h h₇ _ n₇ (fun b o hb e => hx₇ b o hb (F₆.keep b o (hg b o hb e))) ho₇
end
end Mine

end
section
namespace Mine
section
variable {prog : Program} {w : World} {A : Around} {R : Result → Shared → Prop} {s : Shared} {E : Value → Shared → Prop} {env : Env} {mg mb : Str → Option Value}

/-! ### reversed(range(k)) -/
theorem meets_range_reversed (r : Addr) (a b c : Int) (t u v : Tok) : Meets (Builtin.«range.__reversed__» ⟨[.ref r], []⟩) (fun _ R s => s.heap.get? r = some { cls := .type "range", dict := none, data := .fields #[.int a t, .int b u, .int c v], slots := #[] } ∧
    (Builtin.Range.rangeFitsLong a && Builtin.Range.rangeFitsLong b && Builtin.Range.rangeFitsLong c && Builtin.Range.rangeFitsLong (-c) && Builtin.Range.rangeFitsLong (a - c) && Builtin.Range.rangeFitsLong (Builtin.Range.rangeSize a b c)) = true ∧
    R (.ok (.ret (Value.ref s.heap.objs.size))) { s with heap := s.heap.push { cls := .type "range_iterator", data := Data.fields #[rawInt (a + (Builtin.Range.rangeSize a b c - 1) * c), rawInt (Builtin.Range.rangeSize a b c), rawInt (-c)] } }) :=
  .of_wp fun prog w A R s h => by
    obtain ⟨hl, hs, h⟩ := h
    unfold Builtin.«range.__reversed__»
    refine wpAny_bind (wpAny_of_eq (a := Value.ref r) rfl ?_)
    refine wpAny_bind ?_
    unfold Builtin.Range.rangeFields
    refine wpAny_bind (wpAny_field hl rfl (x := .int a t) rfl (wpAny_bind (wpAny_of_eq (a := some a) rfl ?_)))
    refine wpAny_bind (wpAny_field hl rfl (x := .int b u) rfl (wpAny_bind (wpAny_of_eq (a := some b) rfl ?_)))
    refine wpAny_bind (wpAny_field hl rfl (x := .int c v) rfl (wpAny_bind (wpAny_of_eq (a := some c) rfl ?_)))
    refine wpAny_pure ?_
    dsimp only
    rw [hs]
    simp only [Bool.not_true, Bool.false_eq_true, if_false, if_true]
    exact wpAny_bind (wpAny_newObj_type (wpAny_pure ⟨_, rfl, h⟩) (by size_fits))
theorem sub_rangeiter_reversed : isSubtype (.type "range_iterator") (.type "reversed") = pure false := by rw [isSubtype_type]; kernel_rfl
theorem small_rev {k : Nat} (hk : k < 2 ^ 30) : (Builtin.Range.rangeFitsLong 0 && Builtin.Range.rangeFitsLong k && Builtin.Range.rangeFitsLong 1 && Builtin.Range.rangeFitsLong (-1) && Builtin.Range.rangeFitsLong (0 - 1) && Builtin.Range.rangeFitsLong (Builtin.Range.rangeSize 0 k 1)) = true := by
  rw [rangeSize_one]
  simp only [Builtin.Range.rangeFitsLong, Bool.and_eq_true, decide_eq_true_eq]
  split <;> omega

theorem reversed_range {r : Addr} {k : Nat} {t u v : Tok} {Q : Value → Shared → Prop} (hr : IsRange s.heap r 0 k 1 t u v) (hk : k < 2 ^ 30)
    (h : Q (.ref s.heap.objs.size) { s with heap := s.heap.push { cls := .type "range_iterator", data := Data.fields #[rawInt ((k : Int) - 1), rawInt k, rawInt (-1)] } }) :
    wpAny (model prog w) A (call (.type "reversed") [.ref r]) Q E s := by
  have hT : s.TypeIs (.ref r) "range" := ⟨_, hr, rfl⟩
  have hz : Builtin.Range.rangeSize 0 k 1 = (k : Int) := by rw [rangeSize_one]; split <;> omega
  have e0 : (0 : Int) + (Builtin.Range.rangeSize 0 k 1 - 1) * 1 = (k : Int) - 1 := by rw [hz]; omega
  refine callType_other (U := "range_iterator") (Q₁ := fun obj s₁ => obj = .ref s.heap.objs.size ∧ s₁ = { s with heap := s.heap.push { cls := .type "range_iterator", data := Data.fields #[rawInt ((k : Int) - 1), rawInt k, rawInt (-1)] } })
    (by decide +kernel) F.create_reversed ⟨_, _, F.mro_reversed⟩ F.made_reversed sub_rangeiter_reversed (F.typeCall_reversed_1 _) ?_ (by rintro obj s₁ ⟨rfl, rfl⟩; exact ⟨⟨_, Heap.get?_push_size _ rfl, rfl⟩, h⟩)
  refine codeAny_of_tree ?_
  show wpAny _ A.in1.in1 (do checkBuiltinCall "reversed.__new__" ⟨[.type "reversed", .ref r], []⟩; again (.builtin "reversed.__new__" ⟨[.type "reversed", .ref r], []⟩)) _ _ s
  refine wpAny_bind (wpAny_of_eq (F.newCall_reversed_1 _) (wpAny_pure ⟨plainId_quiet F.plain_reversed_new _, codeAny_builtin F.entry_reversed_new ?_⟩))
  rw [Around.under_plainId F.plain_reversed_new _]
  unfold Builtin.«reversed.__new__»
  refine wpAny_bind (wpAny_of_eq (newClass_reversed _) ?_)
  try dsimp only
  refine wpAny_bind (wpAny_of_eq (a := ()) (by first | rfl | kernel_rfl) ?_)
  refine wpAny_bind (wpAny_of_eq (a := ()) (by first | rfl | kernel_rfl) ?_)
  try dsimp only
  refine wpAny_bind (wpAny_specialOf hT F.slot_range_reversed.lookup ?_)
  try dsimp only
  refine wpAny_bind (wpAny_of_eq (F.slot_range_reversed.bind _) ?_)
  try dsimp only
  first
  | rw [if_neg (show ¬ ((Value.builtin "range.__reversed__" == Value.none) = true) from Bool.false_ne_true)]
  | (show wpAny _ _ (if (Value.builtin "range.__reversed__" == Value.none) = true then _ else _) _ _ _; rw [if_neg (show ¬ ((Value.builtin "range.__reversed__" == Value.none) = true) from Bool.false_ne_true)])
  refine wpAny_bind (wpAny_rule ?_)
  refine wpAny_bind (m := runValue (.call (.builtin "range.__reversed__") ⟨[.ref r], []⟩)) (show wpAny _ _ (call (.builtin "range.__reversed__") [.ref r]) _ _ _ from
    call_meets F.slot_range_reversed hT F.entry_range_reversed (F.args_range_reversed_1 _) (meets_range_reversed r 0 k 1 t u v) ⟨hr, small_rev hk, ?_⟩)
  rw [e0, hz]
  first
  | exact wpAny_pure ⟨rfl, rfl⟩
  | exact wpAny_bind (wpAny_pure (wpAny_pure ⟨rfl, rfl⟩))
end
end Mine

end
section
namespace Mine
section
variable {β : Type} (lt : β → β → Bool)
def hpush (l : List β) (x : β) : List β := siftdown lt (l ++ [x]) 0 l.length
def hpop (l : List β) (h : l ≠ []) : β × List β := match l.dropLast with
  | [] => (l.getLast h, [])
  | y :: r => (y, siftup lt (l.getLast h :: r) 0)
def hify (l : List β) : Nat → List β
  | 0 => l
  | k + 1 => hify (siftup lt l k) k
def heapifyF (l : List β) : List β := hify lt l (l.length / 2)

theorem sdLoop_perm_aux (start : Nat) (x : β) : ∀ (n : Nat) (l : List β) (pos : Nat), pos = n → pos < l.length → (sdLoop lt start x l pos).length = l.length := by
  intro n
  induction n using Nat.strongRecOn with
  | _ n ih =>
    intro l pos hn hp
    rw [sdLoop]
    split
    · split
      · split
        · rename_i hlt p hpe hl
          rw [ih ((pos - 1) / 2) (by omega) _ _ rfl (by simp; omega)]
          simp
        · simp
      · rfl
    · simp
theorem siftdown_length (l : List β) (start pos : Nat) : (siftdown lt l start pos).length = l.length := by
  unfold siftdown
  split
  · rename_i x hx
    exact sdLoop_perm_aux lt start x pos l pos rfl (List.getElem?_eq_some_iff.mp hx).1
  · rfl
theorem suLoop_length : ∀ (n : Nat) (l : List β) (pos : Nat), l.length - pos = n → (suLoop lt l pos).1.length = l.length := by
  intro n
  induction n using Nat.strongRecOn with
  | _ n ih =>
    intro l pos hn
    rw [suLoop]
    split
    · rename_i h
      have := child_gt lt l pos
      rw [ih (l.length - child lt l pos) (by omega) _ _ (by simp)]
      simp
    · rfl
theorem siftup_length (l : List β) (pos : Nat) : (siftup lt l pos).length = l.length := by
  unfold siftup
  split
  · rw [siftdown_length, List.length_set, suLoop_length lt _ l pos rfl]
  · rfl
/-- membership: no new items -/
theorem sdLoop_mem (start : Nat) (x : β) : ∀ (n : Nat) (l : List β) (pos : Nat), pos = n → ∀ y ∈ sdLoop lt start x l pos, y ∈ l ∨ y = x := by
  intro n
  induction n using Nat.strongRecOn with
  | _ n ih =>
    intro l pos hn y hy
    rw [sdLoop] at hy
    split at hy
    · split at hy
      · rename_i p hpe
        split at hy
        · rcases ih ((pos - 1) / 2) (by omega) _ _ rfl y hy with h | h
          · rcases List.mem_or_eq_of_mem_set h with h | rfl
            · exact .inl h
            · exact .inl (List.mem_of_getElem? hpe)
          · exact .inr h
        · rcases List.mem_or_eq_of_mem_set hy with h | h
          · exact .inl h
          · exact .inr h
      · exact .inl hy
    · rcases List.mem_or_eq_of_mem_set hy with h | h
      · exact .inl h
      · exact .inr h
theorem siftdown_mem {l : List β} {start pos : Nat} {y : β} (hy : y ∈ siftdown lt l start pos) : y ∈ l := by
  unfold siftdown at hy
  split at hy
  · rename_i x hx
    rcases sdLoop_mem lt start x pos l pos rfl y hy with h | rfl
    · exact h
    · exact List.mem_of_getElem? hx
  · exact hy
theorem suLoop_mem : ∀ (n : Nat) (l : List β) (pos : Nat), l.length - pos = n → ∀ y ∈ (suLoop lt l pos).1, y ∈ l := by
  intro n
  induction n using Nat.strongRecOn with
  | _ n ih =>
    intro l pos hn y hy
    rw [suLoop] at hy
    split at hy
    · rename_i h
      have := child_gt lt l pos
      have h2 := ih (l.length - child lt l pos) (by omega) _ _ (by simp) y hy
      rcases List.mem_or_eq_of_mem_set h2 with h3 | rfl
      · exact h3
      · exact List.getElem_mem h
    · exact hy
theorem siftup_mem {l : List β} {pos : Nat} {y : β} (hy : y ∈ siftup lt l pos) : y ∈ l := by
  unfold siftup at hy
  split at hy
  · rename_i x hx
    rcases List.mem_or_eq_of_mem_set (siftdown_mem lt hy) with h | rfl
    · exact suLoop_mem lt _ l pos rfl y h
    · exact List.mem_of_getElem? hx
  · exact hy
end

section
variable {prog : Program} {w : World} {A : Around} {R : Result → Shared → Prop} {s : Shared} {E : Value → Shared → Prop} {env : Env}

theorem heappush_ok {α : Type} (K : Kind α) {h₀ : Heap} {mg mb : Str → Option Value} {f a : Addr} {ps : List (Value × α)} {x : Value × α} {n : Nat} (G : Glb h₀ mg mb) (B : Keep h₀ s.heap) (ha : h₀.get? a = none) (hf : FnIs h₀ f "heappush" 3)
    (hA : Rm A 8) (hl : s.heap.get? a = some (lst (ps.map (·.1)) n)) (hR : K.All s.heap ps) (hxR : K.R s.heap x.1 x.2) (hsz : ps.length < 2 ^ 18)
    (h : ∀ h' tk n', ExtS [a] s.heap h' → h'.get? a = some (lst ((hpush K.lt2 ps x).map (·.1)) n') → R (.ok (.ret .none)) { s with heap := h', toks := tk }) :
    codeAny (model prog w) A (.call (.ref f) ⟨[.ref a, x.1], []⟩) R s := by
  refine callF [(a, lst (ps.map (·.1)) n)] hA (hf.keeps B) (G.nolimit.keeps B) (binds := [("heap", .ref a), ("item", x.1)]) (fun _ _ _ => rfl) rfl (by simpa using hl) (by simp) ?_
  intro g h₁ L cd F hg hgs hA'
  have hRg : K.All g ps := hR.stab (keepT_of hl hg)
  have hxg : K.R g x.1 x.2 := K.stab hxR (keepT_of hl hg)
  have Bg : Keep h₀ g := keep_hide B ha hg
  obtain ⟨fsd, hsd1, hsd2⟩ := G.fn (6, "_siftdown") (by decide)
  -- heap.append(item)
  refine wpAny_execs_cons (wpAny_Expr (methL PySem.F.slot_list_append PySem.F.type_list_append (F.ld rfl ⟨a, _, n, rfl, F.get 0, callWithB1 (F.ld rfl (appendL (F.get 0) (by simp; omega) fun h₂ hs₂ ho₂ => ?_))⟩)))
  have F₂ := F.turn 0 rfl (ExtS.of hs₂.extBut) ho₂
  dsimp only
  have e₂ : (ps ++ [x]).map (·.1) = ps.map (·.1) ++ [x.1] := by simp
  rw [List.set_cons_zero, ← e₂] at F₂
  -- _siftdown(heap, 0, len(heap) - 1)
  refine wpAny_execs_cons (wpAny_Expr (callG (G.keeps (Bg.trans F₂.keep)) hsd1 (hsd2.keeps (Bg.trans F₂.keep)) (args_cons (St.ld F₂ rfl (args_cons (wpAny_Constant_int (args_cons (wpAny_BinOp
    (callB (G.keeps (Bg.trans F₂.keep)) boot_len (args_cons (St.ld F₂ rfl (args_nil (lenL (F₂.get 0) (by simp; omega) fun t2 tk2 => wpAny_Constant_int (sub_int (args_nil ⟨Keep.refl _, ?_⟩)))))))))))))))
  have e3 : (((ps ++ [x]).map (·.1)).length : Int) - 1 = (ps.length : Nat) := by simp
  rw [e3]
  refine siftdown_ok K (start := 0) (pos := ps.length) G (Bg.trans F₂.keep) hsd2 (hA'.le (by omega)) (F₂.get 0) (Kind.All.stab (K := K) (h := g) ?_ F₂.keep.t) (by simp) (by simp; omega) fun h₃ tk₃ n₃ hx₃ ho₃ => ?_
  · intro q hq
    rcases List.mem_append.mp hq with hq | hq
    · exact hRg q hq
    · rw [List.mem_singleton.mp hq]; exact hxg
  · dsimp only
    refine wpAny_execs_nil ?_
    exact h h₃ _ n₃ (fun b o hb e => hx₃ b o hb (F₂.keep b o (hg b o hb e))) ho₃

theorem heappop_ok {α : Type} (K : Kind α) {h₀ : Heap} {mg mb : Str → Option Value} {f a : Addr} {ps : List (Value × α)} {n : Nat} (G : Glb h₀ mg mb) (B : Keep h₀ s.heap) (ha : h₀.get? a = none) (hf : FnIs h₀ f "heappop" 4)
    (hA : Rm A 8) (hl : s.heap.get? a = some (lst (ps.map (·.1)) n)) (hR : K.All s.heap ps) (hne : ps ≠ []) (hsz : ps.length < 2 ^ 18)
    (h : ∀ h' tk n', ExtS [a] s.heap h' → h'.get? a = some (lst ((hpop K.lt2 ps hne).2.map (·.1)) n') → R (.ok (.ret (hpop K.lt2 ps hne).1.1)) { s with heap := h', toks := tk }) :
    codeAny (model prog w) A (.call (.ref f) ⟨[.ref a], []⟩) R s := by
  refine callF [(a, lst (ps.map (·.1)) n)] hA (hf.keeps B) (G.nolimit.keeps B) (binds := [("heap", .ref a)]) (fun _ _ _ => rfl) rfl (by simpa using hl) (by simp) ?_
  intro g h₁ L cd F hg hgs hA'
  have hRg : K.All g ps := hR.stab (keepT_of hl hg)
  have Bg : Keep h₀ g := keep_hide B ha hg
  obtain ⟨fsu, hsu1, hsu2⟩ := G.fn (7, "_siftup") (by decide)
  have hps : ps = ps.dropLast ++ [ps.getLast hne] := (List.dropLast_concat_getLast hne).symm
  have hpm : ps.map (·.1) = ps.dropLast.map (·.1) ++ [(ps.getLast hne).1] := by
    conv => lhs; rw [hps]
    simp
  have hdl : ps.dropLast.length = ps.length - 1 := List.length_dropLast ..
  have F0 := F
  rw [hpm] at F0
  -- lastelt = heap.pop()
  refine wpAny_execs_cons (wpAny_Assign_Name (methL PySem.F.slot_list_pop PySem.F.type_list_pop (F.ld rfl ⟨a, _, n, rfl, F.get 0, callWithB0 (popL (F0.get 0) (by simp; omega) fun h₂ hs₂ ho₂ => ?_)⟩)))
  have F₂ := F0.turn 0 rfl (ExtS.of hs₂.extBut) ho₂
  rw [List.set_cons_zero] at F₂
  refine St.st F₂ fun h₃ F₃ => ?_
  dsimp only
  -- if heap
  refine wpAny_execs_cons (wpAny_If (isTrue_plain (St.ld F₃ rfl ?_)))
  refine wpAny_truthy_list ⟨_, F₃.get 0, rfl, _, rfl⟩ (by simp; omega) ?_
  have hmemd : ∀ q ∈ ps.dropLast, q ∈ ps := fun q hq => List.dropLast_subset _ hq
  rcases hdrop : ps.dropLast with _ | ⟨y, r⟩
  · have hpe : hpop K.lt2 ps hne = (ps.getLast hne, []) := by unfold hpop; rw [hdrop]
    rw [hdrop] at F₃
    simp only [List.map_nil, List.size_toArray, List.length_nil]
    refine wpAny_execs_nil ?_
    refine wpAny_execs_cons (wpAny_Return_some (St.ld F₃ rfl ?_))
    rw [hpe] at h
    exact h h₃ _ _ (fun b o hb e => F₃.keep b o (hg b o hb e)) (F₃.get 0)
  · have hpe : hpop K.lt2 ps hne = (y, siftup K.lt2 (ps.getLast hne :: r) 0) := by unfold hpop; rw [hdrop]
    rw [hdrop] at F₃
    have hlen : (y :: r).length = ps.length - 1 := by rw [← hdrop]; exact hdl
    have htrue : (((List.map (·.1) (y :: r)).toArray.size : Int) != 0) = true := by simp; omega
    simp only [htrue, if_true]
    -- returnitem = heap[0]
    refine wpAny_execs_cons (wpAny_Assign_Name (Subscript_ (St.ld F₃ rfl (wpAny_Constant_int (getL (F₃.get 0) (k := 0) rfl (x := y.1) rfl (by omega) ?_)))))
    refine St.st F₃ fun h₄ F₄ => ?_
    dsimp only
    -- heap[0] = lastelt
    refine wpAny_execs_cons (wpAny_Assign_Subscript (St.ld F₄ rfl (St.ld F₄ rfl (wpAny_Constant_int (setL (F₄.get 0) (k := 0) rfl (by simp) (by omega) fun h₅ hs₅ ho₅ => ?_)))))
    have F₅ := F₄.turn 0 rfl (ExtS.of hs₅.extBut) ho₅
    rw [List.set_cons_zero] at F₅
    dsimp only
    have F₅' : St g h₅ L _ [(a, lst ((ps.getLast hne :: r).map (·.1)) _)] := F₅
    -- _siftup(heap, 0)
    refine wpAny_execs_cons (wpAny_Expr (callG (G.keeps (Bg.trans F₅.keep)) hsu1 (hsu2.keeps (Bg.trans F₅.keep)) (args_cons (St.ld F₅ rfl (args_cons (wpAny_Constant_int (args_nil ⟨Keep.refl _, ?_⟩)))))))
    refine siftup_ok K (pos := 0) G (Bg.trans F₅.keep) (by exact F₅.fresh 0 ▸ ha) hsu2 (hA'.le (by omega)) (F₅'.get 0) (Kind.All.stab (K := K) (h := g) ?_ F₅.keep.t) (by simp) (by simp at hlen ⊢; omega) fun h₆ tk₆ n₆ hx₆ ho₆ => ?_
    · intro q hq
      rcases List.mem_cons.mp hq with rfl | hq
      · exact hRg _ (List.getLast_mem hne)
      · exact hRg _ (hmemd q (by rw [hdrop]; exact .tail _ hq))
    · dsimp only
      have F₆ := F₅'.turn 0 rfl hx₆ ho₆
      refine wpAny_execs_cons (wpAny_Return_some (St.ld F₆ rfl ?_))
      rw [hpe] at h
      exact h h₆ _ n₆ (fun b o hb e => F₆.keep b o (hg b o hb e)) ho₆
end
end Mine

end
section
namespace Mine
section
variable {prog : Program} {w : World} {A : Around} {R : Result → Shared → Prop} {s : Shared} {E : Value → Shared → Prop} {env : Env} {mg mb : Str → Option Value}
theorem callT {x : Str} {T : String} {np pos : Pos} {e : Expr} {rest : List Expr} {Q : Value → Shared → Prop} (G : Glb s.heap mg mb) (hb : bootBuiltins x = some (.type T))
    (h : wpAny (model prog w) A (spliced (backTo pos (starEach (e :: rest) env))) (fun vs s₁ => wpAny (model prog w) A (call (.type T) vs) Q E s₁) E s)
    (hx : x ∈ biNames := by decide) (he : starEach (e :: rest) env = (false, eval e env) :: starEach rest env := by rfl) (hplain : (backTo pos (starEach rest env)).any (·.1) = false := by rfl)
    (hg : env.globals = mainGlobals := by rfl) (hbn : env.builtins = builtinsNs := by rfl)
    (hk : env.scope.kind = .function := by rfl) (hl : env.kindOf x = some .globalImplicit := by rfl) (hd : (x == ("__debug__" : Str)) = false := by decide) (hn : x ≠ "__name__" := by decide) :
    wpAny (model prog w) A (eval (.Call (.Name x np) (e :: rest) [] pos) env) Q E s :=
  Call_ (G.ldB hb (PyProof.Rows.callWith_type1 h he hplain) hx hg hbn hk hl hd hn)
theorem boot_range : bootBuiltins "range" = some (.type "range") := by decide +kernel

abbrev rit (x left step : Int) : Obj := { cls := .type "range_iterator", data := .fields #[rawInt x, rawInt left, rawInt step] }
abbrev rng (k : Nat) (t u v : Tok) : Obj := { cls := .type "range", data := .fields #[.int 0 t, .int k u, .int 1 v] }
section
variable {g : Heap} {L : Addr} {m : Str → Option Value} {mu : List (Addr × Obj)}
theorem St.range1 {n : Int} {k : Nat} {t : Tok} {Q : Value → Shared → Prop} (F : St g s.heap L m mu) (hn : n = (k : Int)) (h : ∀ r h' tk t u v, St g h' L m ((r, rng k t u v) :: mu) → Q (.ref r) { s with heap := h', toks := tk }) :
    wpAny (model prog w) A (call (.type "range") [.int n t]) Q E s := by
  subst hn
  exact call_range_1 (h _ _ _ _ _ _ (F.push (rng k _ _ _)))
theorem St.revRange {r : Addr} {k : Nat} {t u v : Tok} {Q : Value → Shared → Prop} (F : St g s.heap L m ((r, rng k t u v) :: mu)) (hk : k < 2 ^ 30) (h : ∀ it h', St g h' L m ((it, rit ((k : Int) - 1) k (-1)) :: mu) → Q (.ref it) { s with heap := h' }) :
    wpAny (model prog w) A (call (.type "reversed") [.ref r]) Q E s :=
  reversed_range (F.get 0) hk (h _ _ ((F.push (rit ((k : Int) - 1) k (-1))).drop _ (.cons_cons _ (.cons _ (List.Sublist.refl _)))))
theorem St.iterRange {r : Addr} {k : Nat} {t u v : Tok} {Q : Value → Shared → Prop} (F : St g s.heap L m ((r, rng k t u v) :: mu)) (hk : k < 2 ^ 30) (h : ∀ it h', St g h' L m ((it, rit 0 k 1) :: mu) → Q (.ref it) { s with heap := h' }) :
    wpAny (model prog w) A (pyIter (.ref r)) Q E s := by
  have hz : Builtin.Range.rangeSize 0 k 1 = (k : Int) := by rw [rangeSize_one]; split <;> omega
  refine wpAny_pyIter_range (F.get 0) (small_one (by omega) (by omega) (by omega) (by omega)) ?_
  rw [hz]
  exact h _ _ ((F.push (rit 0 k 1)).drop _ (.cons_cons _ (.cons _ (List.Sublist.refl _))))
end
theorem hify_length {β : Type} (lt : β → β → Bool) : ∀ (k : Nat) (l : List β), (hify lt l k).length = l.length
  | 0, _ => rfl
  | k + 1, l => by rw [hify, hify_length lt k, siftup_length]

theorem heapify_ok {α : Type} (K : Kind α) {h₀ : Heap} {mg mb : Str → Option Value} {f a : Addr} {ps : List (Value × α)} {n : Nat} (G : Glb h₀ mg mb) (B : Keep h₀ s.heap) (ha : h₀.get? a = none) (hf : FnIs h₀ f "heapify" 5)
    (hA : Rm A 8) (hl : s.heap.get? a = some (lst (ps.map (·.1)) n)) (hR : K.All s.heap ps) (hsz : ps.length < 2 ^ 18)
    (h : ∀ h' tk n', ExtS [a] s.heap h' → h'.get? a = some (lst ((heapifyF K.lt2 ps).map (·.1)) n') → R (.ok (.ret .none)) { s with heap := h', toks := tk }) :
    codeAny (model prog w) A (.call (.ref f) ⟨[.ref a], []⟩) R s := by
  refine callF [(a, lst (ps.map (·.1)) n)] hA (hf.keeps B) (G.nolimit.keeps B) (binds := [("x", .ref a)]) (fun _ _ _ => rfl) rfl (by simpa using hl) (by simp) ?_
  intro g h₁ L cd F hg hgs hA'
  have hRg : K.All g ps := hR.stab (keepT_of hl hg)
  have Bg : Keep h₀ g := keep_hide B ha hg
  obtain ⟨fsu, hsu1, hsu2⟩ := G.fn (7, "_siftup") (by decide)
  -- n = len(x)
  refine wpAny_execs_cons (wpAny_Assign_Name (callB (G.keeps (Bg.trans F.keep)) boot_len (args_cons (F.ld rfl (args_nil (lenL (F.get 0) (by simp; omega) fun t2 tk2 => ?_))))))
  refine St.st F fun h₂ F₂ => ?_
  dsimp only
  have e1 : (((ps.map (·.1)).length : Nat) : Int).fdiv 2 = ((ps.length / 2 : Nat) : Int) := by
    rw [List.length_map, Int.fdiv_eq_ediv_of_nonneg _ (by decide)]; omega
  -- for i in reversed(range(n // 2))
  refine wpAny_execs_cons (wpAny_For (callT (G.keeps (Bg.trans F₂.keep)) boot_reversed (args_cons (callT (G.keeps (Bg.trans F₂.keep)) boot_range (args_cons (wpAny_BinOp (St.ld F₂ rfl (wpAny_Constant_int (floordiv_int (by decide) (args_nil (St.range1 F₂ e1 fun r h₃ tk₃ t₃ u₃ v₃ F₃ => args_nil (St.revRange F₃ (by omega) fun it h₄ F₄ => wpAny_pyIter_rangeiter (F₄.get 0) ?_))) (Or.inl (PyProof.noPylong_small (by decide))))))))))))
  dsimp only
  refine codeAny_forLoop (fun k s' => ∃ h' tk m l j n', s' = { s with heap := h', toks := tk } ∧ St g h' L m [(it, rit ((j : Nat) - 1) (j : Nat) (-1)), (a, lst (l.map (·.1)) n')] ∧ m "x" = some (.ref a) ∧ l.length = ps.length ∧ j ≤ l.length / 2 ∧ K.All g l ∧
    hify K.lt2 l j = heapifyF K.lt2 ps ∧ j + 1 = k) ?_ (ps.length / 2 + 1) ⟨_, _, _, ps, ps.length / 2, n, rfl, F₄, rfl, rfl, Nat.le_refl _, hRg, rfl, rfl⟩
  rintro k s' ⟨h', tk, m, l, j, n', rfl, F', m1, hlen, hj, hRl, hgoal, rfl⟩
  cases j with
  | zero =>
    refine wpAny_pyNext_range_end hA'.handled (F'.get 0) (by simp) fun h₄ he₄ => ?_
    refine wpAny_execs_nil ?_
    dsimp only
    refine wpAny_execs_nil ?_
    have ne : a ≠ it := fun q => absurd F'.nd (by simp [q])
    refine h h₄ _ n' (fun b o hb e => he₄ b o (fun q => ?_) (F'.keep b o (hg b o hb e))) ?_
    · have e2 := hg b o hb e
      rw [q, F'.fresh 0] at e2; cases e2
    · rw [← hgoal]
      exact he₄ _ _ ne (F'.get 1)
  | succ j =>
    refine wpAny_pyNext_range_item (F'.get 0) (by omega) fun h₄ hit₄ hs₄ => ?_
    have F₄ := F'.turn 0 rfl (ExtS.of hs₄.extBut) hit₄
    rw [List.set_cons_zero] at F₄
    refine wpAny_assign_Name (St.st F₄ fun h₅ F₅ => ?_)
    dsimp only
    refine wpAny_execs_cons (wpAny_Expr (callG (G.keeps (Bg.trans F₅.keep)) hsu1 (hsu2.keeps (Bg.trans F₅.keep)) (args_cons (St.ld F₅ m1 (args_cons (St.ld F₅ rfl (args_nil ⟨Keep.refl _, ?_⟩)))))))
    have e2 : ((j + 1 : Nat) : Int) - 1 = (j : Nat) := by omega
    rw [e2]
    refine siftup_ok K (pos := j) G (Bg.trans F₅.keep) ha hsu2 (hA'.le (by omega)) (F₅.get 1) (hRl.stab F₅.keep.t) (by omega) (by omega) fun h₆ tk₆ n₆ hx₆ ho₆ => ?_
    have F₆ := F₅.turn 1 rfl hx₆ ho₆
    dsimp only
    have e3 : ((j + 1 : Nat) : Int) - 1 + -1 = (j : Nat) - 1 := by omega
    rw [e3, e2] at F₆
    refine wpAny_execs_nil ⟨j + 1, by omega, h₆, _, _, siftup K.lt2 l j, j, n₆, rfl, F₆, m1, by rw [siftup_length]; exact hlen, by rw [siftup_length]; omega, fun q hq => hRl q (siftup_mem _ hq), hgoal, rfl⟩
end
end Mine

end
section
namespace Mine
section
variable {prog : Program} {w : World} {A : Around} {R : Result → Shared → Prop} {s : Shared} {E : Value → Shared → Prop} {env : Env} {mg mb : Str → Option Value}

theorem tup2_lt_tree {x y : Addr} {u1 u2 v1 v2 : Value} {nx ny : Nat} {b1 b2 l1 l2 : Bool} {P : Fin → Shared → Prop} (hx : s.heap.get? x = some (tup [u1, u2] nx)) (hy : s.heap.get? y = some (tup [v1, v2] ny))
    (he1 : ∀ {Q : Bool → Shared → Prop} {E : Value → Shared → Prop}, Q b1 s → wpAny (model prog w) A (eqBool u1 v1) Q E s) (he2 : ∀ {Q : Bool → Shared → Prop} {E : Value → Shared → Prop}, Q b2 s → wpAny (model prog w) A (eqBool u2 v2) Q E s)
    (hl1 : ∀ {Q : Value → Shared → Prop} {E : Value → Shared → Prop}, Q (.bool l1) s → wpAny (model prog w) A (richCompare .Lt u1 v1) Q E s) (hl2 : ∀ {Q : Value → Shared → Prop} {E : Value → Shared → Prop}, Q (.bool l2) s → wpAny (model prog w) A (richCompare .Lt u2 v2) Q E s)
    (h : P (.done (.ret (.bool (if b1 then (if b2 then false else l2) else l1)))) s) :
    wpAny (model prog w) A (Builtin.«tuple.__lt__» ⟨[.ref x, .ref y], []⟩) P E s := by
  show wpAny _ _ (isInstance (.ref y) (.type "tuple") >>= _) _ _ s
  refine wpAny_bind (wpAny_isInstance ⟨_, hy, rfl⟩ isSubtype_tuple_tuple ?_)
  simp only [Bool.not_true, Bool.false_eq_true, if_false]
  refine wpAny_bind (wpAny_tupleItemsOf hx rfl ?_)
  refine wpAny_bind (wpAny_tupleItemsOf hy rfl ?_)
  refine wpAny_bind ?_
  show wpAny _ _ (forIn [(u1, v1), (u2, v2)] _ _) _ _ s
  rw [List.forIn_cons]
  refine wpAny_bind (wpAny_bind (he1 ?_))
  cases b1 with
  | false =>
    simp only [Bool.not_false, if_true]
    refine wpAny_bind (wpAny_rule (wpAny_bind (hl1 ?_)))
    exact wpAny_bind (wpAny_pure (wpAny_pure (wpAny_pure (wpAny_pure h))))
  | true =>
    simp only [Bool.not_true, Bool.false_eq_true, if_false]
    refine wpAny_pure ?_
    dsimp only
    rw [List.forIn_cons]
    refine wpAny_bind (wpAny_bind (he2 ?_))
    cases b2 with
    | false =>
      simp only [Bool.not_false, if_true]
      refine wpAny_bind (wpAny_rule (wpAny_bind (hl2 ?_)))
      exact wpAny_bind (wpAny_pure (wpAny_pure (wpAny_pure (wpAny_pure h))))
    | true =>
      simp only [Bool.not_true, Bool.false_eq_true, if_false]
      refine wpAny_pure ?_
      dsimp only
      rw [List.forIn_nil]
      exact wpAny_pure (wpAny_pure h)

theorem tup2_lt {x y : Addr} {u1 u2 v1 v2 : Value} {nx ny : Nat} {b1 b2 l1 l2 : Bool} {Q : Value → Shared → Prop} (hu : A.units < cLine) (hx : s.heap.get? x = some (tup [u1, u2] nx)) (hy : s.heap.get? y = some (tup [v1, v2] ny))
    (he1 : ∀ {A : Around} {Q : Bool → Shared → Prop} {E : Value → Shared → Prop}, Q b1 s → wpAny (model prog w) A (eqBool u1 v1) Q E s) (he2 : ∀ {A : Around} {Q : Bool → Shared → Prop} {E : Value → Shared → Prop}, Q b2 s → wpAny (model prog w) A (eqBool u2 v2) Q E s)
    (hl1 : ∀ {A : Around} {Q : Value → Shared → Prop} {E : Value → Shared → Prop}, Q (.bool l1) s → wpAny (model prog w) A (richCompare .Lt u1 v1) Q E s) (hl2 : ∀ {A : Around} {Q : Value → Shared → Prop} {E : Value → Shared → Prop}, Q (.bool l2) s → wpAny (model prog w) A (richCompare .Lt u2 v2) Q E s)
    (h : Q (.bool (if b1 then (if b2 then false else l2) else l1)) s) :
    wpAny (model prog w) A (compareOp .Lt (.ref x) (.ref y)) Q E s := by
  show wpAny _ _ (richCompare .Lt (.ref x) (.ref y)) Q E s
  exact wpAny_richCompare_same_room (op := .Lt) (T := "tuple") ⟨_, hx, rfl⟩ ⟨_, hy, rfl⟩ F.slot_tuple_lt
    (wpAny_call_entry F.slot_tuple_lt ⟨_, hx, rfl⟩ F.entry_tuple_lt (tup2_lt_tree hx hy he1 he2 hl1 hl2 ⟨_, rfl, (fun e => nomatch e), h⟩) (F.args_tuple_lt_2 _ _)) hu
end

/-! ### The kinds -/
def intKd : Kind Int where
  R := fun _ v i => ∃ t, v = .int i t
  lt := fun a b => decide (a < b)
  stab := fun h _ => h
  cmp := by
    rintro prog w A E s u v x y Q _ ⟨t, rfl⟩ ⟨t', rfl⟩ h
    exact lt_int (by have := h s.toks; exact this)
def plt (p q : Int × Int) : Bool := if p.1 == q.1 then (if p.2 == q.2 then false else decide (p.2 < q.2)) else decide (p.1 < q.1)
def prKd : Kind (Int × Int) where
  R := fun h v p => ∃ a n t u, v = .ref a ∧ h.get? a = some (tup [.int p.1 t, .int p.2 u] n)
  lt := plt
  stab := by
    rintro h h' v x ⟨a, n, t, u, rfl, e⟩ k
    exact ⟨a, n, t, u, rfl, k _ _ _ e⟩
  cmp := by
    rintro prog w A E s u v x y Q hA ⟨a, n, t1, t2, rfl, e⟩ ⟨b, n', u1, u2, rfl, e'⟩ h
    exact tup2_lt hA.units e e' (fun h => wpAny_eqBool_int h) (fun h => wpAny_eqBool_int h) (fun h => lt_int h) (fun h => lt_int h) (h s.toks)
end Mine

end
section
namespace Mine

theorem St.lose {g h h' : Heap} {L I : Addr} {m : Str → Option Value} {oI : Obj} {mu : List (Addr × Obj)} (F : St g h L m ((I, oI) :: mu)) (hx : Heap.ExtBut I h h') : St g h' L m mu := by
  have D := F.mob (I, oI) (.head _)
  refine ⟨F.ns.extBut hx (Ne.symm D.2.1), fun b o e => hx b o (fun q => by rw [q, D.2.2] at e; cases e) (F.keep b o e), F.out, fun p hp => ⟨hx _ _ (fun q => ?_) (F.mob p (.tail _ hp)).1, (F.mob p (.tail _ hp)).2⟩, (List.nodup_cons.mp F.nd).2⟩
  exact (List.nodup_cons.mp F.nd).1 (List.mem_map.mpr ⟨p, hp, q⟩)

/-- what an iterator at I hands out -/
structure Src (prog : Program) (w : World) (A : Around) (I : Addr) (g : Heap) (n : Nat) (P : Nat → Value → Prop) (It : Nat → Obj → Prop) : Prop where
  item : ∀ i (s : Shared) (oI : Obj) (Q : Option Value → Shared → Prop) (E : Value → Shared → Prop), i < n → s.heap.get? I = some oI → It i oI → Keep g s.heap →
    (∀ v h' tk oI', P i v → Heap.ExtBut I s.heap h' → h'.get? I = some oI' → It (i + 1) oI' → Q (some v) { s with heap := h', toks := tk }) → wpAny (model prog w) A (pyNext (.ref I)) Q E s
  done : ∀ (s : Shared) (oI : Obj) (Q : Option Value → Shared → Prop) (E : Value → Shared → Prop), s.heap.get? I = some oI → It n oI → Keep g s.heap →
    (∀ h', Heap.ExtBut I s.heap h' → Q none { s with heap := h' }) → wpAny (model prog w) A (pyNext (.ref I)) Q E s
  self : ∀ i (s : Shared) (oI : Obj) (Q : Value → Shared → Prop) (E : Value → Shared → Prop), s.heap.get? I = some oI → It i oI → Q (.ref I) s → wpAny (model prog w) A (pyIter (.ref I)) Q E s
  owned : ∀ i (s : Shared) (oI : Obj) (t : Expr) (v : Value) (Q : Unit → Shared → Prop) (E : Value → Shared → Prop), s.heap.get? I = some oI → It i oI → Q () s → wpAny (model prog w) A (letOwnedTupleGo t (.ref I) v) Q E s
  ntup : ∀ i oI, It i oI → ∀ vs k, oI ≠ tup vs k

section
variable {prog : Program} {w : World} {A : Around} {E : Value → Shared → Prop} {s : Shared} {env : Env}
theorem owned_of {I : Addr} {oI : Obj} {c : String} {fs : Array Value} {t : Expr} {v : Value} {Q : Unit → Shared → Prop} (ho : s.heap.get? I = some oI) (hc : oI.cls = .type c) (hd : oI.data = .fields fs)
    (hn : ["enumerate", "zip", "dict_itemiterator", "dict_reverseitemiterator", "odict_iterator", "itertools.zip_longest", "itertools.pairwise"].contains c = false) (h : Q () s) : wpAny (model prog w) A (letOwnedTupleGo t (.ref I) v) Q E s := by
  have key : wpAny (model prog w) A (do
      let (.ref r, .ref a) := (Value.ref I, v) | return
      let o ← load r
      match o.cls, o.data with
      | .type n, .fields vs =>
        if ["enumerate", "zip", "dict_itemiterator", "dict_reverseitemiterator", "odict_iterator", "itertools.zip_longest", "itertools.pairwise"].contains n && vs[0]? == some (rawInt a) then
          rule "for.unpacks-the-owned-tuple"
          updateField r 0 .none
      | _, _ => pure ()) Q E s := by
    cases v with
    | ref a =>
      refine wpAny_bind (wpAny_load ho ?_)
      obtain ⟨oc, od, odt, osl⟩ := oI
      cases hc
      cases hd
      show wpAny _ _ (if (List.contains _ c && _) = true then _ else _) _ _ _
      rw [hn, Bool.false_and]
      exact wpAny_pure h
    | _ => exact wpAny_pure h
  cases t <;> first | exact key | exact wpAny_pure h

def ItL (b : Addr) (i : Nat) (o : Obj) : Prop := o.cls = .type "list_iterator" ∧ o.data = .fields #[.ref b, .int i 0]
theorem Src.list {I b : Addr} {vs : List Value} {n : Nat} {g : Heap} (hh : A.handled = none) (hb : g.get? b = some (lst vs n)) : Src prog w A I g vs.length (fun i v => vs[i]? = some v) (ItL b) where
  item := fun i s oI Q E hi ho hit hk h => by
    refine wpAny_pyNext_list_item (x := vs[i]) ⟨oI, ho, hit.1, hit.2⟩ ⟨_, hk _ _ hb, rfl, n, rfl⟩ (by simp [hi]) fun h' hit' hs' => ?_
    obtain ⟨o', e1, e2, e3⟩ := hit'
    exact h _ h' s.toks o' (by simp [hi]) hs'.extBut e1 ⟨e2, e3⟩
  done := fun s oI Q E ho hit hk h => wpAny_pyNext_list_end hh ⟨oI, ho, hit.1, hit.2⟩ ⟨_, hk _ _ hb, rfl, n, rfl⟩ (by simp) fun h' he => h h' he
  self := fun i s oI Q E ho hit h => wpAny_pyIter_listiter ⟨oI, ho, hit.1, hit.2⟩ h
  owned := fun i s oI t v Q E ho hit h => owned_of ho hit.1 hit.2 (by decide) h
  ntup := fun i oI hit vs k q => by have := hit.2; rw [q] at this; cases this
def ItR (k i : Nat) (o : Obj) : Prop := o = rit i ((k : Int) - i) 1
theorem Src.range {I : Addr} {k : Nat} {g : Heap} (hh : A.handled = none) : Src prog w A I g k (fun i v => ∃ t, v = .int (i : Nat) t) (ItR k) where
  item := fun i s oI Q E hi ho hit hk h => by
    obtain rfl := hit
    refine wpAny_pyNext_range_item ho (by omega) fun h' hit' hs' => ?_
    refine h _ h' _ _ ⟨_, rfl⟩ hs'.extBut hit' ?_
    show rit _ _ _ = rit _ _ _
    congr 1 <;> omega
  done := fun s oI Q E ho hit hk h => by
    obtain rfl := hit
    exact wpAny_pyNext_range_end hh ho (by omega) h
  self := fun i s oI Q E ho hit h => by
    obtain rfl := hit
    exact wpAny_pyIter_rangeiter ho h
  owned := fun i s oI t v Q E ho hit h => by
    obtain rfl := hit
    exact owned_of ho rfl rfl (by decide) h
  ntup := fun i oI hit vs k q => by rw [show oI = _ from hit] at q; simp [rit] at q

abbrev testsOf (ifs : List Expr) (env : Env) : Sem Bool := forIn ifs true fun c r => if r = true then do let ok ← isTrue c env (eval c env); pure (ForInStep.yield ok) else pure (ForInStep.yield r)

theorem compLoop_gen {elt target iter : Expr} {ifs : List Expr} {scope : Scope} {pos : Pos} {it acc : Value} {env : Env} {R : Result → Shared → Prop} (I : Nat → Shared → Prop)
    (turn : ∀ n s, I n s → wpAny (model prog w) A (pyNext it) (fun r s₁ => match r with
      | none => R (.ok .next) s₁
      | some v => wpAny (model prog w) A (letOwnedTupleGo target it v) (fun _ s₀ => wpAny (model prog w) A (assign target env v) (fun _ s₂ =>
          wpAny (model prog w) A (testsOf ifs env) (fun ok s₃ =>
            if ok = true then wpAny (model prog w) A (eval elt env) (fun x s₄ =>
              wpAny (model prog w) A (call (.builtin "list.append") [acc, x]) (fun _ s₅ => ∃ m, m < n ∧ I m s₅) (notedBy (model prog w) A env fun e s' => R (.error e) s') s₄) (notedBy (model prog w) A env fun e s' => R (.error e) s') s₃
            else ∃ m, m < n ∧ I m s₃) (notedBy (model prog w) A env fun e s' => R (.error e) s') s₂)
          (notedBy (model prog w) A env fun e s' => R (.error e) s') s₀) (notedBy (model prog w) A env fun e s' => R (.error e) s') s₁) (notedBy (model prog w) A env fun e s' => R (.error e) s') s)
    (n : Nat) (h : I n s) : codeAny (model prog w) A (.compLoop (.ListComp elt [⟨target, iter, ifs, 0⟩] scope pos) 0 it acc env) R s := by
  refine codeAny_loop rfl I (fun n s hI => ?_) n h
  show wpAny _ A ((compTurn (.ListComp elt [⟨target, iter, ifs, 0⟩] scope pos) 0 it acc env).onRaise (fun x => do noteFrame x env; theTreesLotGoes x)) _ _ s
  refine wpAny_noted ?_
  rw [compTurn_list]
  refine wpAny_bind (wpAny_standAt (wpAny_bind (wpAny_mono (turn n s hI) (fun r s₁ h₁ => ?_) fun _ _ h' => h')))
  cases r with
  | none => exact wpAny_pure h₁
  | some v =>
    refine wpAny_bind (wpAny_mono h₁ (fun _ s₀ h₀' => ?_) fun _ _ h' => h')
    refine wpAny_bind (wpAny_mono h₀' (fun _ s₂ h₂ => wpAny_bind (wpAny_mono h₂ (fun ok s₃ h₃ => ?_) fun _ _ h' => h')) fun _ _ h' => h')
    cases ok with
    | false => exact wpAny_pure ⟨rfl, h₃⟩
    | true =>
      exact wpAny_bind (wpAny_bind (wpAny_mono h₃ (fun x s₄ h₄ => wpAny_bind (wpAny_mono h₄ (fun _ s₅ h₅ => wpAny_pure (wpAny_pure ⟨rfl, h₅⟩)) fun _ _ h' => h')) fun _ _ h' => h'))

/-- a turn's end in a comprehension: the frame C, the iterator I, the list D stand as said, the rest is kept -/
def TurnEnd (s : Shared) (g : Heap) (C I D : Addr) (oI : Obj) (ys : List Value) (n : Nat) (Z : Heap → Prop) (s' : Shared) : Prop :=
  ∃ g' h' tk m', s' = { s with heap := h', toks := tk } ∧ St g' h' C m' [(I, oI), (D, lst ys n)] ∧ Keep g g' ∧ Z g'

theorem comp_core {elt target iter : Expr} {ifs : List Expr} {scope : Scope} {cl : List (Str × Addr)} {pos : Pos} {I : Addr} {oI : Obj} {g₀ : Heap} {n : Nat} {P : Nat → Value → Prop} {It : Nat → Obj → Prop} {RR : Value → Addr → Result → Shared → Prop}
    (S : Src prog w A I g₀ n P It) (hsz : n < 2 ^ 20) (J : Nat → List Value → Heap → Prop)
    (hI : s.heap.get? I = some oI) (hIt : It 0 oI) (hg₀ : Keep g₀ s.heap) (hg₀I : g₀.get? I = none)
    (hcell : ∀ y ∈ scope.names, y.2 ≠ .cell) (hkind : scope.kind = .function) (J0 : ∀ g, J 0 [] g)
    (step : ∀ i v ys C D n' oI' g₁ h₁ tk m₁ (E' : Value → Shared → Prop), P i v → i < n → ys.length ≤ i → J i ys g₁ → Keep g₀ g₁ → (∀ b o, b ≠ I → s.heap.get? b = some o → g₁.get? b = some o) → St g₁ h₁ C m₁ [(I, oI'), (D, lst ys n')] →
      wpAny (model prog w) A (assign target (compEnvC scope cl C env) v) (fun _ s₂ => wpAny (model prog w) A (testsOf ifs (compEnvC scope cl C env)) (fun ok s₃ =>
        if ok = true then wpAny (model prog w) A (eval elt (compEnvC scope cl C env)) (fun y s₄ => TurnEnd s g₁ C I D oI' ys n' (J (i + 1) (ys ++ [y])) s₄) E' s₃
        else TurnEnd s g₁ C I D oI' ys n' (J (i + 1) ys) s₃) E' s₂) E' { s with heap := h₁, toks := tk })
    (hRR : ∀ D C h' tk g₁ m' ys n', St g₁ h' C m' [(D, lst ys n')] → (∀ b o, b ≠ I → s.heap.get? b = some o → g₁.get? b = some o) → s.heap.get? D = none → s.heap.get? C = none → D ≠ C → ys.length ≤ n → J n ys g₁ → RR (.ref D) C (.ok .next) { s with heap := h', toks := tk }) :
    wpAny (model prog w) A (newList []) (fun acc s₃ => wpAny (model prog w) A (newFunctionEnv scope env.globals cl [] env.qual none .none (some env)) (fun cenv s₄ =>
      codeAny (model prog w) A (.compStart (.ListComp elt [⟨target, iter, ifs, 0⟩] scope pos) 0 (.ref I) acc { cenv with scope := relabel scope env }) (RR acc cenv.locals) s₄) E s₃) E s := by
  refine wpAny_newObj_type (wpAny_newFunctionEnv hcell (by intro y hy; simp at hy) (fun h₁ hns₁ hsb₁ => ?_) hkind) (by size_fits)
  dsimp only at hns₁ hsb₁ ⊢
  generalize hH2 : s.heap.push { cls := .type "list", dict := none, data := .seq ([] : List Value).toArray } = H2 at hns₁ hsb₁ ⊢
  have hC : H2.objs.size = s.heap.objs.size + 1 := by rw [← hH2, Heap.size_push]
  have hDC : s.heap.objs.size ≠ H2.objs.size := by rw [hC]; exact Nat.ne_of_lt (Nat.lt_succ_self _)
  have hIs : I < s.heap.objs.size := Heap.lt_size hI
  have below : ∀ b, b < s.heap.objs.size → b ≠ H2.objs.size ∧ b ≠ s.heap.objs.size := fun b hb => ⟨by rw [hC]; exact Nat.ne_of_lt (Nat.lt_succ_of_lt hb), Nat.ne_of_lt hb⟩
  have old : ∀ b o, s.heap.get? b = some o → h₁.get? b = some o := fun b o e => hsb₁.extBut b o (below b (Heap.lt_size e)).1 (Heap.get?_push_of_some _ (hH2 ▸ Heap.get?_push_of_some _ e))
  have hacc : h₁.get? s.heap.objs.size = some (lst [] 0) := hsb₁.extBut _ _ hDC (Heap.get?_push_of_some _ (hH2 ▸ Heap.get?_push_size _ rfl))
  have fresh : ∀ a, s.heap.objs.size ≤ a → s.heap.get? a = none := fun a ha => by
    cases e : s.heap.get? a with
    | none => rfl
    | some o' => exact absurd (Heap.lt_size e) (Nat.not_lt.mpr ha)
  have hDf : s.heap.get? s.heap.objs.size = none := fresh _ (Nat.le_refl _)
  have hCf : s.heap.get? H2.objs.size = none := fresh _ (by rw [hC]; exact Nat.le_succ _)
  have F₁ : St (hideAll s.heap [I]) h₁ H2.objs.size (fun x => ([] : List (Str × Value)).reverse.lookup x) [(I, oI), (s.heap.objs.size, lst [] 0)] := by
    refine ⟨hns₁, fun b o e => old b o (of_hideAll _ e), ?_, fun p hp => ?_, ?_⟩
    · cases q : (hideAll s.heap [I]).get? H2.objs.size with
      | none => rfl
      | some o => rw [of_hideAll _ q] at hCf; cases hCf
    · rcases List.mem_cons.mp hp with rfl | hp
      · exact ⟨old _ _ hI, (below I hIs).1, hideAll_none _ (.head _)⟩
      · rcases List.mem_cons.mp hp with rfl | hp
        · refine ⟨hacc, hDC, ?_⟩
          cases q : (hideAll s.heap [I]).get? s.heap.objs.size with
          | none => rfl
          | some o => rw [of_hideAll _ q] at hDf; cases hDf
        · cases hp
    · simp [Nat.ne_of_lt hIs]
  have hgI : ∀ b o, b ≠ I → s.heap.get? b = some o → (hideAll s.heap [I]).get? b = some o := fun b o hb e => hideAll_get _ e (by simpa using hb)
  have hg₁ : Keep g₀ (hideAll s.heap [I]) := fun b o e => hgI b o (fun q => by rw [q, hg₀I] at e; cases e) (hg₀ b o e)
  have loop : ∀ s₂ : Shared, s₂ = { s with heap := h₁, toks := s.toks + ([] : List (Str × Value)).length } →
      codeAny (model prog w) A (.compLoop (.ListComp elt [⟨target, iter, ifs, 0⟩] scope pos) 0 (.ref I) (.ref s.heap.objs.size) (compEnvC scope cl H2.objs.size env)) (RR (.ref s.heap.objs.size) H2.objs.size) s₂ := by
    rintro s₂ rfl
    refine compLoop_gen (fun k s' => ∃ g₁ h' tk m' ys n' oI' i, s' = { s with heap := h', toks := tk } ∧ St g₁ h' H2.objs.size m' [(I, oI'), (s.heap.objs.size, lst ys n')] ∧ It i oI' ∧ Keep g₀ g₁ ∧ (∀ b o, b ≠ I → s.heap.get? b = some o → g₁.get? b = some o) ∧
      J i ys g₁ ∧ ys.length ≤ i ∧ i ≤ n ∧ n + 1 - i = k) ?_ (n + 1) ⟨_, h₁, _, _, [], 0, oI, 0, rfl, F₁, hIt, hg₁, hgI, J0 _, Nat.le_refl _, Nat.zero_le _, rfl⟩
    rintro k s' ⟨g₁, h', tk, m', ys, n', oI', i, rfl, F', hIt', hk₁, hk₂, hJ, hyl, hi, rfl⟩
    by_cases hlt : i < n
    · refine S.item i _ oI' _ _ hlt (F'.get 0) hIt' (hk₁.trans F'.keep) fun v h₂ tk₂ oI₂ hPv hx₂ ho₂ hIt₂ => ?_
      have F₂ := F'.turn 0 rfl (ExtS.of hx₂) ho₂
      rw [List.set_cons_zero] at F₂
      refine S.owned (i + 1) _ oI₂ _ _ _ _ (F₂.get 0) hIt₂ ?_
      refine wpAny_mono (step i v ys _ _ n' oI₂ g₁ h₂ tk₂ m' _ hPv hlt hyl hJ hk₁ hk₂ F₂) (fun _ s₂ h₂ => ?_) fun _ _ e => e
      refine wpAny_mono h₂ (fun ok s₃ h₃ => ?_) fun _ _ e => e
      cases ok with
      | false =>
        simp only [Bool.false_eq_true, if_false] at h₃ ⊢
        obtain ⟨g₃, h₃, tk₃, m₃, rfl, F₃, hk₃, hZ⟩ := h₃
        exact ⟨n + 1 - (i + 1), by omega, g₃, h₃, tk₃, m₃, ys, n', oI₂, i + 1, rfl, F₃, hIt₂, hk₁.trans hk₃, fun b o hb e => hk₃ b o (hk₂ b o hb e), hZ, by omega, by omega, rfl⟩
      | true =>
        simp only [if_true] at h₃ ⊢
        refine wpAny_mono h₃ (fun y s₄ h₄ => ?_) fun _ _ e => e
        obtain ⟨g₄, h₄, tk₄, m₄, rfl, F₄, hk₄, hZ⟩ := h₄
        refine appendL (F₄.get 1) (by omega) fun h₅ hs₅ ho₅ => ?_
        have F₅ := F₄.turn 1 rfl (ExtS.of hs₅.extBut) ho₅
        exact ⟨n + 1 - (i + 1), by omega, g₄, h₅, tk₄, m₄, ys ++ [y], n' + 1, oI₂, i + 1, rfl, F₅, hIt₂, hk₁.trans hk₄, fun b o hb e => hk₄ b o (hk₂ b o hb e), hZ, by simp; omega, by omega, rfl⟩
    · have hin : i = n := by omega
      subst hin
      refine S.done _ oI' _ _ (F'.get 0) hIt' (hk₁.trans F'.keep) fun h₂ hx₂ => ?_
      exact hRR _ _ h₂ tk g₁ m' ys n' (F'.lose hx₂) hk₂ hDf hCf hDC hyl hJ
  exact codeAny_compStart_list (loop _ rfl) (S.self 0 _ oI _ _ (old _ _ hI) hIt (loop _ rfl))
end
end Mine

end
section
namespace Mine
theorem St.add {g h : Heap} {L D : Addr} {m : Str → Option Value} {o : Obj} {mu : List (Addr × Obj)} (F : St g h L m mu) (ho : h.get? D = some o) (hg : g.get? D = none) (hL : D ≠ L) (hm : D ∉ mu.map (·.1)) : St g h L m ((D, o) :: mu) := by
  refine ⟨F.ns, F.keep, F.out, fun p hp => ?_, ?_⟩
  · rcases List.mem_cons.mp hp with rfl | hp
    · exact ⟨ho, hL, hg⟩
    · exact F.mob p hp
  · rw [List.map_cons]; exact List.nodup_cons.mpr ⟨hm, F.nd⟩
def NoTup (mu : List (Addr × Obj)) : Prop := ∀ p ∈ mu, ∀ vs n, p.2 ≠ tup vs n
theorem NoTup.nil : NoTup [] := fun _ h => nomatch h
theorem NoTup.cons {a : Addr} {o : Obj} {mu : List (Addr × Obj)} (h : ∀ vs n, o ≠ tup vs n) (r : NoTup mu) : NoTup ((a, o) :: mu) := fun p hp => by
  rcases List.mem_cons.mp hp with rfl | hp
  · exact h
  · exact r p hp
theorem NoTup.lst {a : Addr} {vs : List Value} {n : Nat} {mu : List (Addr × Obj)} (r : NoTup mu) : NoTup ((a, lst vs n) :: mu) := .cons (fun vs n q => by simp at q) r

/-- a frozen part with all new tuples -/
theorem St.freeze {g g₁ h : Heap} {L : Addr} {m : Str → Option Value} {mu : List (Addr × Obj)} (F : St g h L m mu) (hT : NoTup mu) (k : Keep g₁ h) : ∃ g₂, St g₂ h L m mu ∧ Keep g g₂ ∧ KeepT g₁ g₂ := by
  obtain ⟨g₂, F₂, k₂, r⟩ := F.rebase mu (List.Sublist.refl _)
  refine ⟨g₂, F₂, k₂, fun b vs n e => r b _ (k _ _ e) (fun q => ?_) (fun q => ?_)⟩
  · obtain ⟨o, es, ep, ho, hd, _⟩ := F.ns
    rw [← q, k _ _ e] at ho; cases ho; cases hd
  · obtain ⟨p, hp, e2⟩ := List.mem_map.mp q
    have e3 := (F.mob p hp).1
    rw [e2, k _ _ e] at e3
    exact hT p hp vs n (Option.some.inj e3).symm

section
variable {prog : Program} {w : World} {A : Around} {E : Value → Shared → Prop} {s : Shared} {env : Env} {g : Heap} {L : Addr} {m : Str → Option Value} {mu : List (Addr × Obj)}
/-- one element of a comprehension (elt, target, ifs) -/
def CompStep (prog : Program) (w : World) (A : Around) (env : Env) (scope : Scope) (cl : List (Str × Addr)) (elt target : Expr) (ifs : List Expr) (s : Shared) (n : Nat) (P : Nat → Value → Prop) (J : Nat → List Value → Heap → Prop) : Prop :=
  ∀ i v ys C D I n' oI' g₁ h₁ tk m₁ (E' : Value → Shared → Prop), P i v → i < n → ys.length ≤ i → J i ys g₁ → Keep s.heap g₁ → St g₁ h₁ C m₁ [(I, oI'), (D, lst ys n')] →
      wpAny (model prog w) A (assign target (compEnvC scope cl C env) v) (fun _ s₂ => wpAny (model prog w) A (testsOf ifs (compEnvC scope cl C env)) (fun ok s₃ =>
        if ok = true then wpAny (model prog w) A (eval elt (compEnvC scope cl C env)) (fun y s₄ => TurnEnd s g₁ C I D oI' ys n' (J (i + 1) (ys ++ [y])) s₄) E' s₃
        else TurnEnd s g₁ C I D oI' ys n' (J (i + 1) ys) s₃) E' s₂) E' { s with heap := h₁, toks := tk }

section
variable {elt target iter : Expr} {ifs : List Expr} {scope : Scope} {cl : List (Str × Addr)} {pos : Pos} {b : Addr} {vs : List Value} {n : Nat}
theorem compE_list {Q : Value → Shared → Prop} (F : St g s.heap L m mu) (hT : NoTup mu) (J : Nat → List Value → Heap → Prop) (hit : ∀ {Q : Value → Shared → Prop} {E : Value → Shared → Prop}, Q (.ref b) s → wpAny (model prog w) A (eval iter env) Q E s)
    (hb : s.heap.get? b = some (lst vs n)) (hsz : vs.length < 2 ^ 20) (hh : A.handled = none) (J0 : ∀ g, J 0 [] g) (Jk : ∀ i ys h h', J i ys h → KeepT h h' → J i ys h')
    (step : CompStep prog w A env scope cl elt target ifs s vs.length (fun i v => vs[i]? = some v) J)
    (h : ∀ D h' tk g₂ ys n', St g₂ h' L m ((D, lst ys n') :: mu) → Keep g g₂ → Keep s.heap h' → ys.length ≤ vs.length → J vs.length ys g₂ → Q (.ref D) { s with heap := h', toks := tk })
    (hclos : closureFor scope env = pure cl := by rfl) (hcell : ∀ y ∈ scope.names, y.2 ≠ .cell := by decide) (hkind : scope.kind = .function := by rfl) (hnames : ∀ x ∈ scope.names, x.2 = .local → scope.names.lookup x.1 = some .local := by decide)
    (hs : ∀ x, foldedSetIterable iter env x = pure x := by intro _; rfl) :
    wpAny (model prog w) A (eval (.ListComp elt [⟨target, iter, ifs, 0⟩] scope pos) env) Q E s := by
  rw [eval_ListComp]
  refine wpAny_comprehension_free (use := none) rfl hs hclos hkind hnames (hit (wpAny_pyIter_list ⟨_, hb, rfl, n, rfl⟩ ?_))
  have hsb : s.heap.get? s.heap.objs.size = none := by
    cases q : s.heap.get? s.heap.objs.size with
    | none => rfl
    | some o => exact absurd (Heap.lt_size q) (Nat.lt_irrefl _)
  have up : ∀ c o, s.heap.get? c = some o → c ≠ s.heap.objs.size := fun c o e q => by rw [q, hsb] at e; cases e
  refine comp_core (RR := fun acc C => compPost (model prog w) A E none Q acc C) (g₀ := s.heap) (Src.list hh hb) hsz J (Heap.get?_push_size _ rfl) ⟨rfl, rfl⟩ (fun b o e => Heap.get?_push_of_some _ e) hsb hcell hkind J0
    (fun i v ys C D n' oI' g₁ h₁ tk m₁ E' hP hi hyl hJ hk₁ hk₂ F₁ => step i v ys C D _ n' oI' g₁ h₁ tk m₁ E' hP hi hyl hJ hk₁ F₁) ?_
  intro D C h' tk g₁ m' ys n' F' hk hD hC hDC hyl hJ
  refine ⟨m', F'.ns, fun h'' hs'' => ?_⟩
  have k1 : Keep s.heap h'' := fun c o e => hs''.extBut c o (fun q => by
    have := Heap.get?_push_of_some { cls := .type "list_iterator", data := .fields #[.ref b, .int 0 0] } e
    rw [q, hC] at this; cases this) (F'.keep _ _ (hk c o (up c o e) (Heap.get?_push_of_some _ e)))
  have hD' : s.heap.get? D = none := by
    cases q : s.heap.get? D with
    | none => rfl
    | some o => rw [Heap.get?_push_of_some _ q] at hD; cases hD
  have k2 : Keep g₁ h'' := fun c o e => hs''.extBut c o (fun q => by rw [q, F'.out] at e; cases e) (F'.keep _ _ e)
  have F₁ := (F.all k1).add (D := D) (hs''.extBut _ _ hDC (F'.get 0)) (by
    cases q : g.get? D with
    | none => rfl
    | some o => rw [F.keep _ _ q] at hD'; cases hD') (fun q => by
    obtain ⟨o, _, _, ho, _⟩ := F.ns
    rw [q, ho] at hD'; cases hD') (fun q => by
    obtain ⟨p, hp, e⟩ := List.mem_map.mp q
    rw [← e, (F.mob p hp).1] at hD'; cases hD')
  obtain ⟨g₂, F₂, k3, k4⟩ := F₁.freeze hT.lst k2
  exact h D h'' tk g₂ ys n' F₂ k3 k1 hyl (Jk _ _ _ _ hJ k4)

theorem compA_list {y : Str} {py spos : Pos} {Q : Flow → Shared → Prop} (F : St g s.heap L m mu) (hT : NoTup mu) (J : Nat → List Value → Heap → Prop) (hit : ∀ {Q : Value → Shared → Prop} {E : Value → Shared → Prop}, Q (.ref b) s → wpAny (model prog w) A (eval iter env) Q E s)
    (hb : s.heap.get? b = some (lst vs n)) (hsz : vs.length < 2 ^ 20) (hh : A.handled = none) (J0 : ∀ g, J 0 [] g) (Jk : ∀ i ys h h', J i ys h → KeepT h h' → J i ys h')
    (step : CompStep prog w A env scope cl elt target ifs s vs.length (fun i v => vs[i]? = some v) J)
    (h : ∀ D h' tk g₂ ys n', St g₂ h' L (upd m y (.ref D)) ((D, lst ys n') :: mu) → Keep g g₂ → ys.length ≤ vs.length → J vs.length ys g₂ → Q .next { s with heap := h', toks := tk })
    (hL : env.locals = L := by rfl) (hsw : swapsWith (.ListComp elt [⟨target, iter, ifs, 0⟩] scope pos) (some (.Name y py)) spos.line env = pure true := by rfl)
    (hy : env.kindOf y = some .local := by rfl) (hp : (env.scope.kind == .class || (env.scope.kind == .module && env.locals != env.globals)) = false := by rfl)
    (hclos : closureFor scope env = pure cl := by rfl) (hcell : ∀ y ∈ scope.names, y.2 ≠ .cell := by decide) (hkind : scope.kind = .function := by rfl) (hnames : ∀ x ∈ scope.names, x.2 = .local → scope.names.lookup x.1 = some .local := by decide)
    (hs : ∀ x, foldedSetIterable iter env x = pure x := by intro _; rfl) :
    wpAny (model prog w) A (exec (.Assign [.Name y py] (.ListComp elt [⟨target, iter, ifs, 0⟩] scope pos) spos) env) Q E s := by
  subst hL
  rw [exec_Assign_Name_used _ _ _ _ hsw]
  refine wpAny_bind (wpAny_standAt (wpAny_bind ?_))
  show wpAny _ A (do let _ ← comprehension (.ListComp elt [⟨target, iter, ifs, 0⟩] scope pos) scope env _ (newList []) false (eval iter env) (some (assign (.Name y py) env))) _ _ s
  refine wpAny_bind (wpAny_mono (wpAny_comprehension_free (use := some (assign (.Name y py) env)) (Q := fun _ s' => Q .next s') rfl hs hclos hkind hnames (hit (wpAny_pyIter_list ⟨_, hb, rfl, n, rfl⟩ ?_))) (fun _ s' hq => wpAny_pure (wpAny_pure hq)) fun _ _ e => e)
  have hsb : s.heap.get? s.heap.objs.size = none := by
    cases q : s.heap.get? s.heap.objs.size with
    | none => rfl
    | some o => exact absurd (Heap.lt_size q) (Nat.lt_irrefl _)
  have up : ∀ c o, s.heap.get? c = some o → c ≠ s.heap.objs.size := fun c o e q => by rw [q, hsb] at e; cases e
  refine comp_core (RR := fun acc C => compPost (model prog w) A E (some (assign (.Name y py) env)) (fun _ s' => Q .next s') acc C) (g₀ := s.heap) (Src.list hh hb) hsz J (Heap.get?_push_size _ rfl) ⟨rfl, rfl⟩ (fun b o e => Heap.get?_push_of_some _ e) hsb hcell hkind J0
    (fun i v ys C D n' oI' g₁ h₁ tk m₁ E' hP hi hyl hJ hk₁ hk₂ F₁ => step i v ys C D _ n' oI' g₁ h₁ tk m₁ E' hP hi hyl hJ hk₁ F₁) ?_
  intro D C h' tk g₁ m' ys n' F' hk hD hC hDC hyl hJ
  have k1 : Keep s.heap h' := fun c o e => F'.keep _ _ (hk c o (up c o e) (Heap.get?_push_of_some _ e))
  have hD' : s.heap.get? D = none := by
    cases q : s.heap.get? D with
    | none => rfl
    | some o => rw [Heap.get?_push_of_some _ q] at hD; cases hD
  have hC' : s.heap.get? C = none := by
    cases q : s.heap.get? C with
    | none => rfl
    | some o => rw [Heap.get?_push_of_some _ q] at hC; cases hC
  have F₁ := (F.all k1).add (D := D) (F'.get 0) (by
    cases q : g.get? D with
    | none => rfl
    | some o => rw [F.keep _ _ q] at hD'; cases hD') (fun q => by
    obtain ⟨o, _, _, ho, _⟩ := F.ns
    rw [q, ho] at hD'; cases hD') (fun q => by
    obtain ⟨p, hp, e⟩ := List.mem_map.mp q
    rw [← e, (F.mob p hp).1] at hD'; cases hD')
  have hLC : env.locals ≠ C := fun q => by
    obtain ⟨o, _, _, ho, _⟩ := F.ns
    rw [q, hC'] at ho; cases ho
  show wpAny _ A (assign (.Name y py) env (.ref D)) _ _ _
  refine wpAny_assign_Name (wpAny_storeName_local hy F₁.ns (fun h₂ hn₂ hs₂ => ?_) hp)
  have F₂ : St g h₂ env.locals (upd m y (.ref D)) ((D, lst ys n') :: mu) := F₁.store hn₂ hs₂
  refine ⟨m', F'.ns.sameBut hs₂ (Ne.symm hLC), fun h₃ hs₃ => ?_⟩
  -- C is no object of ours
  have F₃ : St g h₃ env.locals (upd m y (.ref D)) ((D, lst ys n') :: mu) := by
    refine ⟨F₂.ns.sameBut hs₃ hLC, fun c o e => hs₃.extBut c o (fun q => by rw [q] at e; rw [F.keep _ _ e] at hC'; cases hC') (F₂.keep _ _ e), F₂.out, fun p hp => ⟨hs₃.extBut _ _ (fun q => ?_) (F₂.mob p hp).1, (F₂.mob p hp).2⟩, F₂.nd⟩
    rcases List.mem_cons.mp hp with rfl | hp
    · exact hDC q
    · rw [← q, (F.mob p hp).1] at hC'; cases hC'
  have k2 : KeepT g₁ h₃ := fun c vs n e => hs₃.extBut c _ (fun q => by rw [q, F'.out] at e; cases e) (hs₂.extBut c _ (fun q => by
    obtain ⟨o, es, ep, ho, hd, _⟩ := F₁.ns
    rw [← q, F'.keep _ _ e] at ho; cases ho; cases hd) (F'.keep _ _ e))
  obtain ⟨g₂, F₄, k3, k4⟩ := F₃.freeze hT.lst (Keep.refl h₃)
  exact h D h₃ _ g₂ ys n' F₄ k3 hyl (Jk _ _ _ _ hJ (k2.trans k4))
end
end
end Mine

end
section
namespace Mine

/-! ### The pure heap functions go with a map -/
section
variable {β γ : Type} {lt : β → β → Bool} {lt' : γ → γ → Bool} {f : β → γ} (hf : ∀ a b, lt' (f a) (f b) = lt a b)
include hf
theorem sdLoop_map (start : Nat) (x : β) : ∀ (n : Nat) (l : List β) (pos : Nat), pos = n → (sdLoop lt start x l pos).map f = sdLoop lt' start (f x) (l.map f) pos := by
  intro n
  induction n using Nat.strongRecOn with
  | _ n ih =>
    intro l pos hn
    rw [sdLoop, sdLoop]
    by_cases h : start < pos
    · simp only [h, dite_true]
      rw [List.getElem?_map]
      rcases hp : l[(pos - 1) / 2]? with _ | p
      · rfl
      · simp only [Option.map_some]
        rw [hf]
        by_cases hc : lt x p = true
        · simp only [hc, if_true]
          rw [ih ((pos - 1) / 2) (by omega) _ _ rfl, List.map_set]
        · simp only [hc, if_false, List.map_set, Bool.false_eq_true]
    · simp only [h, dite_false, List.map_set]
theorem siftdown_map (l : List β) (start pos : Nat) : (siftdown lt l start pos).map f = siftdown lt' (l.map f) start pos := by
  unfold siftdown
  rw [List.getElem?_map]
  rcases l[pos]? with _ | x
  · rfl
  · exact sdLoop_map hf start x pos l pos rfl
theorem child_map (l : List β) (pos : Nat) : child lt' (l.map f) pos = child lt l pos := by
  unfold child
  rw [List.getElem?_map, List.getElem?_map]
  rcases l[2 * pos + 1]? with _ | x <;> rcases l[2 * pos + 2]? with _ | y <;> simp [hf]
theorem suLoop_map : ∀ (n : Nat) (l : List β) (pos : Nat), l.length - pos = n → suLoop lt' (l.map f) pos = ((suLoop lt l pos).1.map f, (suLoop lt l pos).2) := by
  intro n
  induction n using Nat.strongRecOn with
  | _ n ih =>
    intro l pos hn
    rw [suLoop, suLoop]
    simp only [child_map hf, List.length_map]
    by_cases h : child lt l pos < l.length
    · simp only [h, dite_true]
      have := child_gt lt l pos
      rw [← ih (l.length - child lt l pos) (by omega) (l.set pos l[child lt l pos]) _ (by simp), List.map_set]
      congr 1
      simp
    · simp only [h, dite_false]
theorem siftup_map (l : List β) (pos : Nat) : (siftup lt l pos).map f = siftup lt' (l.map f) pos := by
  unfold siftup
  rw [List.getElem?_map]
  rcases hx : l[pos]? with _ | x
  · rfl
  · simp only [Option.map_some]
    rw [siftdown_map hf, List.map_set, suLoop_map hf _ l pos rfl]
theorem hify_map : ∀ (k : Nat) (l : List β), (hify lt l k).map f = hify lt' (l.map f) k
  | 0, _ => rfl
  | k + 1, l => by rw [hify, hify, hify_map k, siftup_map hf]
theorem heapifyF_map (l : List β) : (heapifyF lt l).map f = heapifyF lt' (l.map f) := by
  unfold heapifyF; rw [hify_map hf, List.length_map]
theorem hpush_map (l : List β) (x : β) : (hpush lt l x).map f = hpush lt' (l.map f) (f x) := by
  unfold hpush; rw [siftdown_map hf]; simp
theorem hpop_map (l : List β) (h : l ≠ []) (h' : l.map f ≠ []) : hpop lt' (l.map f) h' = (f (hpop lt l h).1, (hpop lt l h).2.map f) := by
  unfold hpop
  rw [← List.map_dropLast]
  have e : (l.map f).getLast h' = f (l.getLast h) := List.getLast_map ..
  rcases hd : l.dropLast with _ | ⟨y, r⟩
  · simp [e]
  · simp only [List.map_cons, e]
    rw [siftup_map hf]; simp
end

/-! ### Lists that hold data -/
def Items {α : Type} (K : Kind α) (h : Heap) (vs : List Value) (xs : List α) : Prop := ∃ ps : List (Value × α), ps.map (·.1) = vs ∧ ps.map (·.2) = xs ∧ K.All h ps
namespace Items
variable {α : Type} {K : Kind α} {h h' : Heap} {vs us : List Value} {xs ys : List α}
theorem nil : Items K h [] [] := ⟨[], rfl, rfl, fun _ h => nomatch h⟩
theorem stab (x : Items K h vs xs) (k : KeepT h h') : Items K h' vs xs := let ⟨ps, a, b, c⟩ := x; ⟨ps, a, b, c.stab k⟩
theorem length (x : Items K h vs xs) : vs.length = xs.length := by obtain ⟨ps, rfl, rfl, _⟩ := x; simp
theorem snoc (x : Items K h vs xs) {v : Value} {y : α} (r : K.R h v y) : Items K h (vs ++ [v]) (xs ++ [y]) := by
  obtain ⟨ps, rfl, rfl, c⟩ := x
  refine ⟨ps ++ [(v, y)], by simp, by simp, fun p hp => ?_⟩
  rcases List.mem_append.mp hp with hp | hp
  · exact c p hp
  · rw [List.mem_singleton.mp hp]; exact r
theorem get (x : Items K h vs xs) {i : Nat} {v : Value} (hv : vs[i]? = some v) : ∃ y, xs[i]? = some y ∧ K.R h v y := by
  obtain ⟨ps, rfl, rfl, c⟩ := x
  rw [List.getElem?_map] at hv
  rcases hp : ps[i]? with _ | p
  · rw [hp] at hv; cases hv
  · rw [hp] at hv; cases hv
    exact ⟨p.2, by rw [List.getElem?_map, hp]; rfl, c p (List.mem_of_getElem? hp)⟩
theorem get' (x : Items K h vs xs) {i : Nat} {y : α} (hy : xs[i]? = some y) : ∃ v, vs[i]? = some v ∧ K.R h v y := by
  obtain ⟨ps, rfl, rfl, c⟩ := x
  rw [List.getElem?_map] at hy
  rcases hp : ps[i]? with _ | p
  · rw [hp] at hy; cases hy
  · rw [hp] at hy; cases hy
    exact ⟨p.1, by rw [List.getElem?_map, hp]; rfl, c p (List.mem_of_getElem? hp)⟩
end Items

section
variable {prog : Program} {w : World} {A : Around} {R : Result → Shared → Prop} {s : Shared} {E : Value → Shared → Prop} {env : Env} {h₀ : Heap} {mg mb : Str → Option Value}
variable {α : Type} (K : Kind α)
theorem lt2_snd (p q : Value × α) : K.lt p.2 q.2 = K.lt2 p q := rfl

theorem heapify_D {f a : Addr} {vs : List Value} {xs : List α} {n : Nat} (G : Glb h₀ mg mb) (B : Keep h₀ s.heap) (ha : h₀.get? a = none) (hf : FnIs h₀ f "heapify" 5)
    (hA : Rm A 8) (hl : s.heap.get? a = some (lst vs n)) {g : Heap} (hgT : KeepT g s.heap) (hI : Items K g vs xs) (hsz : xs.length < 2 ^ 18)
    (h : ∀ h' tk n' vs', ExtS [a] s.heap h' → h'.get? a = some (lst vs' n') → Items K g vs' (heapifyF K.lt xs) → R (.ok (.ret .none)) { s with heap := h', toks := tk }) :
    codeAny (model prog w) A (.call (.ref f) ⟨[.ref a], []⟩) R s := by
  obtain ⟨ps, rfl, rfl, hR⟩ := hI
  refine heapify_ok K G B ha hf hA hl (hR.stab hgT) (by simpa using hsz) fun h' tk n' hx ho => ?_
  refine h h' tk n' _ hx ho ⟨heapifyF K.lt2 ps, rfl, heapifyF_map (f := Prod.snd) (lt2_snd K) ps, fun q hq => hR q ?_⟩
  unfold heapifyF at hq
  have : ∀ (k : Nat) (l : List (Value × α)), q ∈ hify K.lt2 l k → q ∈ l := by
    intro k
    induction k with
    | zero => intro l h; exact h
    | succ k ih => intro l h; exact siftup_mem _ (ih _ h)
  exact this _ _ hq
theorem hpop_mem {β : Type} (lt : β → β → Bool) (l : List β) (h : l ≠ []) : (hpop lt l h).1 ∈ l ∧ ∀ q ∈ (hpop lt l h).2, q ∈ l := by
  unfold hpop
  rcases hd : l.dropLast with _ | ⟨y, r⟩
  · exact ⟨List.getLast_mem h, fun q hq => nomatch hq⟩
  · have hsub : ∀ q ∈ y :: r, q ∈ l := fun q hq => List.dropLast_subset l (by rw [hd]; exact hq)
    refine ⟨hsub _ (.head _), fun q hq => ?_⟩
    have hq' : q ∈ siftup lt (l.getLast h :: r) 0 := hq
    rcases List.mem_cons.mp (siftup_mem _ hq') with rfl | h2
    · exact List.getLast_mem h
    · exact hsub _ (.tail _ h2)
theorem heappop_D {f a : Addr} {vs : List Value} {xs : List α} {n : Nat} (G : Glb h₀ mg mb) (B : Keep h₀ s.heap) (ha : h₀.get? a = none) (hf : FnIs h₀ f "heappop" 4)
    (hA : Rm A 8) (hl : s.heap.get? a = some (lst vs n)) {g : Heap} (hgT : KeepT g s.heap) (hI : Items K g vs xs) (hne : xs ≠ []) (hsz : xs.length < 2 ^ 18)
    (h : ∀ h' tk n' v vs', ExtS [a] s.heap h' → h'.get? a = some (lst vs' n') → Items K g vs' (hpop K.lt xs hne).2 → K.R g v (hpop K.lt xs hne).1 → R (.ok (.ret v)) { s with heap := h', toks := tk }) :
    codeAny (model prog w) A (.call (.ref f) ⟨[.ref a], []⟩) R s := by
  obtain ⟨ps, rfl, rfl, hR⟩ := hI
  have hne' : ps ≠ [] := fun q => hne (by rw [q]; rfl)
  have hm := hpop_map (f := Prod.snd) (lt2_snd K) ps hne' hne
  have hmem := hpop_mem K.lt2 ps hne'
  refine heappop_ok K G B ha hf hA hl (hR.stab hgT) hne' (by simpa using hsz) fun h' tk n' hx ho => ?_
  refine h h' tk n' _ _ hx ho ⟨(hpop K.lt2 ps hne').2, rfl, by rw [hm], fun q hq => hR q (hmem.2 q hq)⟩ ?_
  rw [hm]
  exact hR _ hmem.1
theorem heappush_D {f a : Addr} {vs : List Value} {xs : List α} {v : Value} {y : α} {n : Nat} (G : Glb h₀ mg mb) (B : Keep h₀ s.heap) (ha : h₀.get? a = none) (hf : FnIs h₀ f "heappush" 3)
    (hA : Rm A 8) (hl : s.heap.get? a = some (lst vs n)) {g : Heap} (hgT : KeepT g s.heap) (hI : Items K g vs xs) (hy : K.R g v y) (hsz : xs.length < 2 ^ 18)
    (h : ∀ h' tk n' vs', ExtS [a] s.heap h' → h'.get? a = some (lst vs' n') → Items K g vs' (hpush K.lt xs y) → R (.ok (.ret .none)) { s with heap := h', toks := tk }) :
    codeAny (model prog w) A (.call (.ref f) ⟨[.ref a, v], []⟩) R s := by
  obtain ⟨ps, rfl, rfl, hR⟩ := hI
  refine heappush_ok K (x := (v, y)) G B ha hf hA hl (hR.stab hgT) (K.stab hy hgT) (by simpa using hsz) fun h' tk n' hx ho => ?_
  refine h h' tk n' _ hx ho ⟨hpush K.lt2 ps (v, y), rfl, hpush_map (f := Prod.snd) (lt2_snd K) ps (v, y), fun q hq => ?_⟩
  unfold hpush at hq
  rcases List.mem_append.mp (siftdown_mem _ hq) with h1 | h1
  · exact hR q h1
  · rw [List.mem_singleton.mp h1]; exact hy
end

/-! ### More rules -/
section
variable {prog : Program} {w : World} {A : Around} {s : Shared} {E : Value → Shared → Prop} {env : Env} {g : Heap} {L : Addr} {m : Str → Option Value} {mu : List (Addr × Obj)}
theorem St.newL {vs : List Value} {Q : Value → Shared → Prop} (F : St g s.heap L m mu) (h : ∀ a h', St g h' L m ((a, lst vs 0) :: mu) → Q (.ref a) { s with heap := h' }) (hsz : vs.length < 2 ^ 20 := by simp) :
    wpAny (model prog w) A (newList vs) Q E s := wpAny_newObj_type (h _ _ (F.push (lst vs 0))) (by show vs.toArray.size ≤ sizeLine; rw [sizeLine_eq, List.size_toArray]; omega)
theorem St.newT {vs : List Value} {Q : Value → Shared → Prop} (F : St g s.heap L m mu) (h : ∀ a h', St g h' L m ((a, tup vs 0) :: mu) → Q (.ref a) { s with heap := h' }) (hsz : vs.length < 2 ^ 20 := by simp) :
    wpAny (model prog w) A (newTuple vs) Q E s := wpAny_newObj_type (h _ _ (F.push (tup vs 0))) (by show vs.toArray.size ≤ sizeLine; rw [sizeLine_eq, List.size_toArray]; omega)
theorem St.unpack2 {a b : Str} {pa pb tp : Pos} {k : Nat} {T : Addr} {x y : Value} {n : Nat} {Q : Unit → Shared → Prop} (F : St g s.heap L m mu) (hh : A.handled = none) (hT : s.heap.get? T = some (tup [x, y] n))
    (h : ∀ h' tk, St g h' L (upd (upd m a x) b y) mu → Q () { s with heap := h', toks := tk }) (hL : env.locals = L := by rfl) (ha : env.kindOf a = some .local := by rfl) (hb : env.kindOf b = some .local := by rfl)
    (hp : (env.scope.kind == .class || (env.scope.kind == .module && env.locals != env.globals)) = false := by rfl) :
    wpAny (model prog w) A (assign (.Tuple [.Name a pa, .Name b pb] k tp) env (.ref T)) Q E s := by
  subst hL
  refine kcp_assign hh ⟨_, hT, rfl, n, rfl⟩ ha hb hp F.ns fun h' tk hn hk => h h' tk ⟨hn, fun c o e => hk c o (fun q => by rw [q, F.out] at e; cases e) (F.keep c o e), F.out, fun p hp => ⟨hk _ _ (F.mob p hp).2.1 (F.mob p hp).1, (F.mob p hp).2⟩, F.nd⟩
theorem neNil {a b : Addr} {vs : List Value} {n n' : Nat} {Q : Value → Shared → Prop} (hu : A.units < cLine) (ha : s.heap.get? a = some (lst vs n)) (hb : s.heap.get? b = some (lst [] n')) (h : Q (.bool (!vs.isEmpty)) s) :
    wpAny (model prog w) A (compareOp .NotEq (.ref a) (.ref b)) Q E s := by
  show wpAny _ _ (richCompare .NotEq _ _) _ _ _
  cases vs with
  | nil => exact PySem.SeqAt.RcNeAt.lists (e := fun _ => true) ⟨_, ha, rfl, n, rfl⟩ ⟨_, hb, rfl, n', rfl⟩ rfl hu (fun j h1 _ => by simp at h1) prog w E Q (by simpa using h)
  | cons v r => exact PySem.SeqAt.RcNeAt.lists_lengths ⟨_, ha, rfl, n, rfl⟩ ⟨_, hb, rfl, n', rfl⟩ (by simp) hu prog w E Q (by simpa using h)
theorem eqNil {a b : Addr} {vs : List Value} {n n' : Nat} {Q : Value → Shared → Prop} (hu : A.units < cLine) (ha : s.heap.get? a = some (lst vs n)) (hb : s.heap.get? b = some (lst [] n')) (h : Q (.bool vs.isEmpty) s) :
    wpAny (model prog w) A (compareOp .Eq (.ref a) (.ref b)) Q E s := by
  show wpAny _ _ (richCompare .Eq _ _) _ _ _
  cases vs with
  | nil => exact PySem.SeqAt.RcAt.lists (e := fun _ => true) ⟨_, ha, rfl, n, rfl⟩ ⟨_, hb, rfl, n', rfl⟩ rfl hu (fun j h1 _ => by simp at h1) prog w E Q (by simpa using h)
  | cons v r => exact PySem.SeqAt.RcAt.lists_lengths ⟨_, ha, rfl, n, rfl⟩ ⟨_, hb, rfl, n', rfl⟩ (by simp) hu prog w E Q (by simpa using h)
theorem max2 {a b : Int} {t u : Tok} {Q : Value → Shared → Prop} (hh : A.handled = none) (h : ∀ h' tk t', Keep s.heap h' → Q (.int (max a b) t') { s with heap := h', toks := tk }) :
    wpAny (model prog w) A (call (.builtin "max") [.int a t, .int b u]) Q E s := by
  refine PySem.Flt.max_two_num hh (.int _ _) (.int _ _) fun h' tk k => ?_
  have e : (if PySem.Flt.ltV (.int a t) (.int b u) then Value.int b u else Value.int a t) = Value.int (max a b) (if a < b then u else t) := by
    show (if decide (a < b) = true then _ else _) = _
    by_cases hc : a < b
    · rw [if_pos (by simpa using hc), if_pos hc, Int.max_eq_right (by omega)]
    · rw [if_neg (by simpa using hc), if_neg hc, Int.max_eq_left (by omega)]
  rw [e]
  exact h h' tk _ k
end
end Mine

end
section
namespace Mine
theorem TurnEnd.plain {s : Shared} {g₁ h' : Heap} {C I D : Addr} {oI : Obj} {ys : List Value} {n : Nat} {Z : Heap → Prop} {tk : Nat} {m' : Str → Option Value} (F : St g₁ h' C m' [(I, oI), (D, lst ys n)]) (hZ : Z g₁) : TurnEnd s g₁ C I D oI ys n Z { s with heap := h', toks := tk } :=
  ⟨g₁, h', tk, m', rfl, F, Keep.refl _, hZ⟩
theorem TurnEnd.tup {s : Shared} {g₁ h' : Heap} {C I D t : Addr} {oI : Obj} {ys vs : List Value} {n k : Nat} {Z : Heap → Prop} {tk : Nat} {m' : Str → Option Value} (F : St g₁ h' C m' [(t, Mine.tup vs k), (I, oI), (D, lst ys n)])
    (hZ : ∀ g', Keep g₁ g' → g'.get? t = some (Mine.tup vs k) → Z g') : TurnEnd s g₁ C I D oI ys n Z { s with heap := h', toks := tk } := by
  obtain ⟨g', F', k', r⟩ := F.rebase [(I, oI), (D, lst ys n)] (.cons _ (List.Sublist.refl _))
  have hnd := F.nd
  simp only [List.map_cons, List.map_nil, List.nodup_cons, List.mem_cons, List.not_mem_nil, or_false, not_or] at hnd
  exact ⟨g', h', tk, m', rfl, F', k', hZ g' k' (r t _ (F.get 0) (F.notL 0) (by simpa using hnd.1))⟩

theorem St.swap {g h : Heap} {L : Addr} {m : Str → Option Value} {p q : Addr × Obj} {mu : List (Addr × Obj)} (F : St g h L m (p :: q :: mu)) : St g h L m (q :: p :: mu) :=
  ⟨F.ns, F.keep, F.out, fun x hx => F.mob x (by
    simp only [List.mem_cons] at hx ⊢
    rcases hx with h | h | h
    · exact .inr (.inl h)
    · exact .inl h
    · exact .inr (.inr h)), by
    have := F.nd
    simp only [List.map_cons, List.nodup_cons, List.mem_cons, not_or] at this ⊢
    exact ⟨⟨fun e => this.1.1 e.symm, this.2.1⟩, this.1.2, this.2.2⟩⟩

theorem hpop_length {β : Type} (lt : β → β → Bool) (l : List β) (h : l ≠ []) : (hpop lt l h).2.length + 1 = l.length := by
  have : l.dropLast.length = l.length - 1 := List.length_dropLast ..
  have h0 := List.length_pos_iff.mpr h
  unfold hpop
  rcases hd : l.dropLast with _ | ⟨y, r⟩
  · rw [hd] at this; simp at this ⊢; omega
  · rw [hd] at this
    simp only [siftup_length]
    simp at this ⊢; omega
theorem hpush_length {β : Type} (lt : β → β → Bool) (l : List β) (x : β) : (hpush lt l x).length = l.length + 1 := by unfold hpush; rw [siftdown_length]; simp

end Mine

end
section
namespace Mine
section
variable {prog : Program} {w : World} {A : Around} {R : Result → Shared → Prop} {s : Shared} {E : Value → Shared → Prop} {env : Env} {h₀ : Heap} {mg mb : Str → Option Value} {g : Heap} {L : Addr} {m : Str → Option Value} {mu : List (Addr × Obj)}
theorem St.sliceEnd {lo hi : Option Int} {vl vu : Value} {vs zs : List Value} {Q : Value → Shared → Prop} (F : St g s.heap L m mu) (e : slicePick vs.toArray lo hi none = zs.toArray) (h : ∀ D h', St g h' L m ((D, lst zs 0) :: mu) → Q (.ref D) { s with heap := h' }) :
    Q (.ref (s.heap.objs.size + 1)) { s with heap := (s.heap.push { cls := .type "slice", data := .fields #[vl, vu, .none] }).push { cls := .type "list", data := .seq (slicePick vs.toArray lo hi none) } } := by
  rw [e]
  have F' := ((F.push { cls := .type "slice", data := .fields #[vl, vu, .none] }).push (lst zs 0)).drop _ (.cons_cons _ (.cons _ (List.Sublist.refl _)))
  rw [Heap.size_push] at F'
  exact h _ _ F'
theorem sliceR {value : Expr} {lower upper : Option Expr} {p pos : Pos} {Q : Value → Shared → Prop}
    (h : wpAny (model prog w) A (eval value env) (fun o s₁ => wpAny (model prog w) A (evalPart lower env) (fun vl s₂ => wpAny (model prog w) A (evalPart upper env) (fun vu s₃ =>
      ∃ l vs n lo hi zs g L m mu, o = .ref l ∧ St g s₃.heap L m mu ∧ s₃.heap.IsList l (List.toArray vs) ∧ vs.length < 2 ^ 20 ∧ n = vs.length ∧ IsPart vl lo ∧ IsPart vu hi ∧ slicePick vs.toArray lo hi none = List.toArray zs ∧
        ∀ D h', St g h' L m ((D, lst zs 0) :: mu) → Q (.ref D) { s₃ with heap := h' }) E s₂) E s₁) E s)
    (ht : ∀ o r, letTemporaryGo value o r = pure () := by intro _ _; rfl) :
    wpAny (model prog w) A (eval (.Subscript value (.Slice lower upper none p) pos) env) Q E s := by
  refine wpAny_Subscript_list_slice (wpAny_mono h (fun o s₁ h₁ => wpAny_mono h₁ (fun vl s₂ h₂ => wpAny_mono h₂ (fun vu s₃ h₃ => ?_) fun _ _ e => e) fun _ _ e => e) fun _ _ e => e) ht
  obtain ⟨l, vs, n, lo, hi, zs, g, L, m, mu, rfl, F, hl, hsz, _, pl, pu, e, hq⟩ := h₃
  exact ⟨l, _, lo, hi, rfl, hl, by rw [sizeLine_eq]; simp; omega, pl, pu, St.sliceEnd F e hq⟩
/-- xs[k] of a tuple -/
theorem getT {value slice : Expr} {a : Addr} {vs : List Value} {n : Nat} {k : Nat} {i : Int} {u : Tok} {x : Value} {Q : Value → Shared → Prop} (ho : s.heap.get? a = some (tup vs n)) (hi : i = (k : Int)) (hx : vs[k]? = some x) (hk : k < 2 ^ 62) (h : Q x s)
    (hs : subscripted slice false (.ref a) (.int i u) = operate [.ref a, .int i u] (getItem (.ref a) (.int i u)) := by with_unfolding_all rfl) :
    wpAny (model prog w) A (subscriptTail value slice (.ref a) (.int i u)) Q E s := by
  subst hi
  have hkl : k < vs.length := (List.getElem?_eq_some_iff.mp hx).1
  exact item_tupleT ⟨_, ho, rfl, n, rfl⟩ (by omega) (by omega) (j := k) (by unfold seqIndex?; simp; omega) hx h hs

end
end Mine

end
section
namespace Mine
open Builtin Builtin.ObjectAttr
/-! ### Attributes of functions -/
theorem slot_fn_setattr : Slot "function" "__setattr__" "object.__setattr__" :=
  .of (owner := "object") (n := "__setattr__") (by rw [typeLookup_type, builtinLookup_eq_fast]; kernel_rfl) (by decide +kernel) (by decide +kernel) (by decide +kernel)
    (by first | exact .inl (by decide +kernel) | exact .inr (by decide +kernel)) (by rw [isSubtype_type]; kernel_rfl)
theorem entry_fn_setattr : entryFor table "object.__setattr__" = some Builtin.«object.__setattr__» := entryFor_of_tree (by kernel_rfl)
theorem args_fn_setattr (a b c : Value) : argsOk "object.__setattr__" ⟨[a, b, c], []⟩ := by unfold argsOk; kernel_rfl
theorem mro_fn : mroOf (.type "function") = pure [.type "function", .type "object"] := by rw [mroOf_type]; kernel_rfl
theorem passes_fn (self : Value) : refuseLoop self "__setattr__" [.type "function", .type "object"] = pure () := by kernel_rfl
theorem hasDict_fn : typeHasDict (.type "function") = true := by decide +kernel
theorem look_search : typeLookup (.type "function") "search" = pure none := by rw [typeLookup_type, builtinLookup_eq_fast]; kernel_rfl
theorem look_span : typeLookup (.type "function") "span" = pure none := by rw [typeLookup_type, builtinLookup_eq_fast]; kernel_rfl
theorem look_getattr : typeLookup (.type "function") "__getattr__" = pure none := by rw [typeLookup_type, builtinLookup_eq_fast]; kernel_rfl
theorem look_ga : typeLookup (.type "function") "__getattribute__" = pure (some (.builtin "object.__getattribute__")) := by rw [typeLookup_type, builtinLookup_eq_fast]; kernel_rfl
theorem slot_fn_ga : Slot "function" "__getattribute__" "object.__getattribute__" :=
  .of (owner := "object") (n := "__getattribute__") (by rw [typeLookup_type, builtinLookup_eq_fast]; kernel_rfl) (by decide +kernel) (by decide +kernel) (by decide +kernel)
    (by first | exact .inl (by decide +kernel) | exact .inr (by decide +kernel)) (by rw [isSubtype_type]; kernel_rfl)
theorem entry_fn_ga : entryFor table "object.__getattribute__" = some Builtin.«object.__getattribute__» := entryFor_of_tree (by kernel_rfl)
theorem args_fn_ga (a b : Value) : argsOk "object.__getattribute__" ⟨[a, b], []⟩ := by unfold argsOk; kernel_rfl
section
variable {prog : Program} {w : World} {A : Around} {s : Shared} {E : Value → Shared → Prop}
theorem fn_setattr {a : Addr} {o : Obj} {fd : FuncData} {name : Str} {v : Value} {Q : Unit → Shared → Prop} (ho : s.heap.get? a = some o) (hc : o.cls = .type "function") (hd : o.dict = none) (hdat : o.data = .func fd) (hT : typeLookup (.type "function") name = pure none)
    (h : ∀ d h' tk, h'.Ns d (upd (fun _ => none) name v) → h'.get? a = some { o with dict := some d } → (∀ b o, b ≠ a → s.heap.get? b = some o → h'.get? b = some o) → s.heap.get? d = none → Q () { s with heap := h', toks := tk }) :
    wpAny (model prog w) A (setAttr (.ref a) name v) Q E s := by
  obtain ⟨hp, gn, dr, tk0, os⟩ := s
  dsimp only at ho
  have hTy : ∀ tk, Shared.TypeIs ⟨hp, gn, dr, tk, os⟩ (.ref a) "function" := fun tk => ⟨o, ho, hc⟩
  unfold setAttr
  refine wpAny_bind (wpAny_mkText ?_)
  refine wpAny_bind (wpAny_callSpecial?_slot (name := Str.ofString "__setattr__") (hTy _) slot_fn_setattr (wpAny_call_entry slot_fn_setattr (hTy _) entry_fn_setattr ?_ (args_fn_setattr _ _ _)))
  unfold Builtin.«object.__setattr__»
  show wpAny _ _ (refuseIfOverridden (.ref a) "__setattr__" >>= _) _ _ _
  rw [refuse_eq]
  refine wpAny_bind (wpAny_bind (wpAny_typeOf (hTy _) (wpAny_bind (wpAny_of_eq mro_fn (wpAny_of_eq (passes_fn _) ?_)))))
  refine wpAny_bind (wpAny_of_eq (a := name) rfl ?_)
  refine wpAny_bind (wpAny_typeOf (hTy _) (wpAny_bind (wpAny_of_eq hT ?_)))
  refine wpAny_bind (wpAny_of_eq (a := (none : Option Value)) rfl ?_)
  show wpAny _ _ (storeInOwnDict (.ref a) (.type "function") _ name v false) _ _ _
  unfold storeInOwnDict
  refine wpAny_bind (wpAny_of_eq (a := ()) rfl ?_)
  rw [if_neg (by decide)]
  refine wpAny_bind ?_
  show wpAny _ _ (instanceDict a true) _ _ _
  unfold instanceDict
  refine wpAny_bind (wpAny_loadPart ho ?_)
  obtain ⟨oc, od, odt, osl⟩ := o
  cases hc
  cases hd
  cases hdat
  dsimp only
  rw [if_neg (by rw [hasDict_fn]; decide)]
  have hxs : a ≠ hp.objs.size := Nat.ne_of_lt (Heap.lt_size ho)
  have hx₁ : (hp.push { cls := .type "dict", data := .dict #[] }).get? a = some ⟨.type "function", none, .func fd, osl⟩ := Heap.get?_push_of_some _ ho
  refine wpAny_bind (wpAny_alloc ?_)
  refine wpAny_bind (wpAny_update hx₁ ?_)
  dsimp only
  refine wpAny_of_eq (a := some hp.objs.size) rfl ?_
  have hgd : ((hp.push { cls := .type "dict", data := .dict #[] }).update a fun o => { cls := o.cls, dict := some hp.objs.size, data := o.data, slots := o.slots }).get? hp.objs.size
      = some { cls := .type "dict", data := .dict #[] } :=
    (Heap.get?_update_ne _ _ _ _ hxs.symm).trans (Heap.get?_push_size _ rfl)
  have hnd : ((hp.push { cls := .type "dict", data := .dict #[] }).update a fun o => { cls := o.cls, dict := some hp.objs.size, data := o.data, slots := o.slots }).Ns hp.objs.size (fun _ => none) :=
    ⟨_, #[], _, hgd, rfl, fun e he => absurd he (by simp), fun _ => rfl⟩
  show wpAny _ _ (storeInDict hp.objs.size (.str name _) name v) _ _ _
  unfold storeInDict newKeyGuard
  refine wpAny_bind (wpAny_pure (wpAny_bind (wpAny_nsSet1 (Heap.Ns1.of_empty hnd) fun h' hn' hs => ?_)))
  obtain ⟨oD, esD, epD, hoD, hdD, hcD⟩ := hn'.count (Within.cons name v Within.nil)
  refine wpAny_bind (wpAny_lookBehind hoD (by rw [hdD]; exact pastItsLine_dict (Nat.le_trans hcD (by rw [List.length_cons, List.length_nil, sizeLine_eq]; omega))) ?_)
  refine wpAny_pure ⟨_, rfl, wpAny_pure ?_⟩
  refine h hp.objs.size h' _ ?_ ?_ (fun b ob hb e => (hs.2 b (Nat.ne_of_lt (Heap.lt_size e))).trans ((Heap.get?_update_ne _ _ _ _ hb).trans (Heap.get?_push_of_some _ e))) ?_
  · obtain ⟨o', es, ep, e1, e2, e3, eu, e4⟩ := hn'
    exact ⟨o', es, ep, e1, e2, e3, e4⟩
  · exact (hs.2 a hxs).trans (Heap.get?_update_self _ hx₁ rfl)
  · cases q : hp.get? hp.objs.size with
    | none => rfl
    | some o' => exact absurd (Heap.lt_size q) (Nat.lt_irrefl _)

theorem fn_getAttr {a d b : Addr} {o : Obj} {fd : FuncData} {name : Str} {mm : Str → Option Value} {Q : Value → Shared → Prop} (ho : s.heap.get? a = some o) (hc : o.cls = .type "function") (hd : o.dict = some d) (hdat : o.data = .func fd)
    (hT : typeLookup (.type "function") name = pure none) (hn : s.heap.Ns d mm) (hv : mm name = some (.ref b))
    (h : ∀ tk, Q (.ref b) { s with toks := tk }) : wpAny (model prog w) A (getAttr (.ref a) name) Q E s := by
  have hTy : ∀ tk, Shared.TypeIs { s with toks := tk } (.ref a) "function" := fun tk => ⟨o, ho, hc⟩
  unfold getAttr
  refine wpAny_bind (wpAny_mkText ?_)
  unfold getAttrBy
  refine wpAny_holding ?_
  refine wpAny_bind (wpAny_typeOf (hTy _) (wpAny_bind (wpAny_of_eq look_ga ?_)))
  show wpAny _ _ (getAttrByItsOwn (.ref a) _ (.type "function") (.builtin "object.__getattribute__") true false) _ _ _
  unfold getAttrByItsOwn
  refine wpAny_bind (wpAny_of_eq (a := (none : Option Value)) rfl ?_)
  refine wpAny_bind (wpAny_attempt (wpAny_holding ?_))
  show wpAny _ _ (boundAndCalled (.builtin "object.__getattribute__") (.ref a) _) _ _ _
  unfold boundAndCalled
  refine wpAny_bind (wpAny_of_eq (slot_fn_ga.bind _) ?_)
  show wpAny _ _ (call (.builtin "object.__getattribute__") [.ref a, .str name _]) _ _ _
  refine wpAny_call_entry slot_fn_ga (hTy _) entry_fn_ga ?_ (args_fn_ga _ _)
  unfold Builtin.«object.__getattribute__»
  refine wpAny_bind (wpAny_of_eq (a := (Value.ref a, [Value.str name s.toks])) rfl ?_)
  refine wpAny_bind (wpAny_of_eq (a := name) rfl ?_)
  refine wpAny_bind (wpAny_typeOf (hTy _) (wpAny_bind ?_))
  unfold find
  refine wpAny_bind (wpAny_of_eq hT (wpAny_bind (wpAny_of_eq (a := (none : Option Value)) rfl (wpAny_bind (wpAny_of_eq (a := (none : Option (Value × Value))) rfl ?_)))))
  show wpAny _ _ (ownThenClass (.ref a) name none none) _ _ _
  unfold ownThenClass
  refine wpAny_bind ?_
  show wpAny _ _ (ObjectAttr.ownDict a >>= fun x => inDict name x) _ _ _
  unfold ObjectAttr.ownDict loadHead
  refine wpAny_bind (wpAny_bind (wpAny_loadPart ho ?_))
  obtain ⟨oc, od, odt, osl⟩ := o
  cases hc
  cases hd
  cases hdat
  dsimp only
  unfold instanceDict
  refine wpAny_bind (wpAny_loadPart ho ?_)
  dsimp only
  refine wpAny_pure ?_
  show wpAny _ _ (nsGet d name) _ _ _
  refine wpAny_nsGet hn ?_
  rw [hv]
  refine wpAny_bind (wpAny_rule (wpAny_pure ?_))
  refine wpAny_pure ⟨_, rfl, ?_⟩
  exact wpAny_pure (h _)
theorem canon_ga : (Manifest.canonical "object.__getattribute__" != "object.__getattribute__") = false := by decide +kernel
theorem fn_getMethod {a d b : Addr} {o : Obj} {fd : FuncData} {name : Str} {pl : Sem Bool} {mm : Str → Option Value} {Q : Value × List Value → Shared → Prop} (ho : s.heap.get? a = some o) (hc : o.cls = .type "function") (hd : o.dict = some d) (hdat : o.data = .func fd)
    (hT : typeLookup (.type "function") name = pure none) (hn : s.heap.Ns d mm) (hv : mm name = some (.ref b))
    (h : ∀ tk, Q (.ref b, []) { s with toks := tk }) : wpAny (model prog w) A (getMethod (.ref a) name pl) Q E s := by
  have hTy : Shared.TypeIs s (.ref a) "function" := ⟨o, ho, hc⟩
  unfold getMethod
  refine wpAny_bind (wpAny_specialOf hTy look_ga ?_)
  dsimp only
  rw [canon_ga]
  simp only [Bool.false_eq_true, if_false]
  refine wpAny_bind (wpAny_specialOf hTy look_getattr ?_)
  simp only [Option.isSome_none, Bool.false_eq_true, if_false]
  refine wpAny_bind (wpAny_specialOf hTy hT ?_)
  dsimp only
  exact wpAny_bind (fn_getAttr ho hc hd hdat hT hn hv fun tk => wpAny_pure (h tk))
theorem look_bool : typeLookup (.type "function") "__bool__" = pure none := by rw [typeLookup_type, builtinLookup_eq_fast]; kernel_rfl
theorem look_len : typeLookup (.type "function") "__len__" = pure none := by rw [typeLookup_type, builtinLookup_eq_fast]; kernel_rfl
theorem fn_truthy {a : Addr} {o : Obj} {Q : Bool → Shared → Prop} (ho : s.heap.get? a = some o) (hc : o.cls = .type "function") (h : Q true s) : wpAny (model prog w) A (truthy (.ref a)) Q E s := by
  have hTy : Shared.TypeIs s (.ref a) "function" := ⟨o, ho, hc⟩
  unfold truthy
  dsimp only
  refine wpAny_bind ?_
  unfold callSpecial?
  refine wpAny_bind (wpAny_specialOf hTy look_bool (wpAny_pure ?_))
  dsimp only
  refine wpAny_bind (wpAny_specialOf hTy look_len ?_)
  exact wpAny_pure h
end
end Mine

end
section
namespace Mine
/-! ### Functions made in a call -/
section
variable {M : Model} {A : Around} {E : Value → Shared → Prop} {s : Shared} {name qual : Str} {params : Arguments} {body : FuncBody} {scope : Scope} {env : Env} {c P : Addr} {ps : Array Value} {pos : Pos} {firstLine : Nat} {mg mb : Str → Option Value}
  {clos : List (Str × Addr)} {Q : Value → Shared → Prop}
theorem mkFn {dV : Value} (hcl : closureFor scope env = pure clos) (hge0 : env.globals = mainGlobals) (hg : s.heap.Ns mainGlobals mg) (hcode : env.code = .ref c) (C : CodeHd s.heap c P) (hP : s.heap.get? P = some (tabObj ps)) (ht : TriplesOk ps.toList)
    (hnf : codeAmong pos ps.toList = none) (hgP : mainGlobals ≠ P) (hb : s.heap.BuiltinsAt mg P)
    (h : ∀ c' P' ctv doc h' tk, Heap.ExtBut P s.heap h' → s.heap.objs.size ≤ c' → s.heap.objs.size ≤ P' → h'.CodeRec (.ref c') qual → CodeHd h' c' P' → h'.get? P' = some (tabObj #[]) → h'.get? P = some (tabObj (ps ++ #[rawInt pos.line, rawInt pos.col, .ref c'])) →
      Q (.ref h'.objs.size) { s with heap := h'.push (kdv_obj name qual params body scope clos dV doc ((mg "__name__").getD .none) c' ctv), toks := tk }) :
    wpAny M A (makeTail name qual params body scope env dV .none none pos firstLine) Q E s := by
  obtain ⟨bm, ob, hbm, hne0, _, hneP, hbo, hcls, hdict, hdata⟩ := hb
  unfold makeTail
  rw [hcl, hge0]
  refine wpAny_bind (wpAny_pure ?_)
  cases clos with
  | nil =>
    simp only [List.isEmpty_nil, if_true]
    refine wpAny_bind (wpAny_pure ?_)
    refine wpAny_bind (wpAny_functionCodeX hcode (C.code hP ht) (C.tab hP) hnf fun c' h' tk hx hge hlt _ hrec htb hnew => ?_)
    obtain ⟨P', hgeP, hic, hit⟩ := hnew
    have hg' := hg.extBut hx hgP
    refine wpAny_bind (wpAny_builtinsFor hg' hbm hne0 (hx _ _ hneP hbo) hcls hdict hdata ?_)
    refine wpAny_bind (wpAny_nsGet hg' ?_)
    cases body with
    | expr e => exact wpAny_bind (wpAny_pure (wpAny_newObj_type (h c' P' .none .none h' tk hx hge hgeP hrec (CodeHd.of hic hit) hit.2 htb.2) (by size_fits)))
    | stmts b =>
      cases hdoc : docOf b with
      | none => exact wpAny_bind (by simp only [hdoc]; exact wpAny_pure (wpAny_newObj_type (h c' P' .none .none h' tk hx hge hgeP hrec (CodeHd.of hic hit) hit.2 htb.2) (by size_fits)))
      | some t => exact wpAny_bind (by simp only [hdoc]; exact wpAny_mkText (wpAny_newObj_type (h c' P' .none _ h' _ hx hge hgeP hrec (CodeHd.of hic hit) hit.2 htb.2) (by size_fits)))
  | cons q r =>
    simp only [List.isEmpty_cons, Bool.false_eq_true, if_false]
    refine wpAny_bind (wpAny_newTextTuple ?_)
    refine wpAny_bind (wpAny_functionCodeX hcode ((C.keeps fun b o e => Heap.get?_push_of_some _ e).code (Heap.get?_push_of_some _ hP) ht) ((C.keeps fun b o e => Heap.get?_push_of_some _ e).tab (Heap.get?_push_of_some _ hP)) hnf fun c' h' tk hx hge hlt _ hrec htb hnew => ?_)
    obtain ⟨P', hgeP, hic, hit⟩ := hnew
    have hg' := (hg.push _).extBut hx hgP
    have hx' : Heap.ExtBut P s.heap h' := fun b o hb' e => hx b o hb' (Heap.get?_push_of_some _ e)
    have hge' : s.heap.objs.size ≤ c' := Nat.le_trans (by rw [Heap.size_push]; omega) hge
    have hgeP' : s.heap.objs.size ≤ P' := Nat.le_trans (by rw [Heap.size_push]; omega) hgeP
    refine wpAny_bind (wpAny_builtinsFor hg' hbm hne0 (hx' _ _ hneP hbo) hcls hdict hdata ?_)
    refine wpAny_bind (wpAny_nsGet hg' ?_)
    cases body with
    | expr e => exact wpAny_bind (wpAny_pure (wpAny_newObj_type (h c' P' _ .none h' tk hx' hge' hgeP' hrec (CodeHd.of hic hit) hit.2 htb.2) (by size_fits)))
    | stmts b =>
      cases hdoc : docOf b with
      | none => exact wpAny_bind (by simp only [hdoc]; exact wpAny_pure (wpAny_newObj_type (h c' P' _ .none h' tk hx' hge' hgeP' hrec (CodeHd.of hic hit) hit.2 htb.2) (by size_fits)))
      | some t => exact wpAny_bind (by simp only [hdoc]; exact wpAny_mkText (wpAny_newObj_type (h c' P' _ _ h' _ hx' hge' hgeP' hrec (CodeHd.of hic hit) hit.2 htb.2) (by size_fits)))

variable {g : Heap} {L : Addr} {m : Str → Option Value} {mu : List (Addr × Obj)}
theorem Glb.notTab (G : Glb g mg mb) (hP : g.get? P = none) : mainGlobals ≠ P ∧ (∀ {h : Heap}, Keep g h → h.BuiltinsAt mg P) := by
  obtain ⟨bm, ob, b1, b2, b3, b4, b5, b6⟩ := G.bmain
  refine ⟨fun q => ?_, fun {h} k => ⟨bm, ob, b1, b2, fun q => ?_, fun q => ?_, k _ _ b3, b4, b5, b6⟩⟩
  · obtain ⟨o, es, ep, e, _⟩ := G.g
    rw [q, hP] at e; cases e
  · obtain ⟨o, es, ep, e, hd, _⟩ := G.g
    rw [q, e] at b3; cases b3; rw [hd] at b6; cases b6
  · rw [q, hP] at b3; cases b3

theorem St.mk' {dV : Value} {i : Nat} (F : St g s.heap L m mu) (G : Glb g mg mb) (hi : mu[i]? = some (P, tabObj ps)) (C : CodeHd g c P) (ht : TriplesOk ps.toList) (hnf : codeAmong pos ps.toList = none) (hcl : closureFor scope env = pure clos)
    (h : ∀ f c' P' ctv doc h' tk g', St g' h' L m ((f, kdv_obj name qual params body scope clos dV doc ((mg "__name__").getD .none) c' ctv) :: (P', tabObj #[]) :: mu.set i (P, tabObj (ps ++ #[rawInt pos.line, rawInt pos.col, .ref c']))) → Keep g g' →
      g'.CodeRec (.ref c') qual → CodeHd g' c' P' → Q (.ref f) { s with heap := h', toks := tk }) (hcode : env.code = .ref c := by rfl) (hge0 : env.globals = mainGlobals := by rfl) :
    wpAny M A (makeTail name qual params body scope env dV .none none pos firstLine) Q E s := by
  obtain ⟨hgP, hB⟩ := G.notTab (F.fresh i hi)
  refine mkFn (mg := mg) hcl hge0 (G.g.keeps F.keep) hcode (C.keeps F.keep) (F.get i hi) ht hnf hgP (hB F.keep) fun c' P' ctv doc h' tk hx hc' hP' hrec hCd ho' hoP => ?_
  have F₁ := F.turn i hi (ExtS.of hx) hoP
  have lt1 : ∀ p ∈ mu.set i (P, tabObj (ps ++ #[rawInt pos.line, rawInt pos.col, .ref c'])), p.1 < s.heap.objs.size := fun p hp => by
    rcases List.mem_or_eq_of_mem_set hp with hp | rfl
    · exact Heap.lt_size (F.mob p hp).1
    · exact Heap.lt_size (F.get i hi)
  have hgn : ∀ a, s.heap.objs.size ≤ a → g.get? a = none := fun a ha => by
    cases q : g.get? a with
    | none => rfl
    | some o => exact absurd (Heap.lt_size (F.keep _ _ q)) (Nat.not_lt.mpr ha)
  have F₂ := F₁.add (D := P') ho' (hgn _ hP') (fun q => Nat.not_lt.mpr hP' (q ▸ F.ns.lt)) (fun q => by
    obtain ⟨p, hp, e⟩ := List.mem_map.mp q
    exact Nat.not_lt.mpr hP' (e ▸ lt1 p hp))
  have F₃ := F₂.push (kdv_obj name qual params body scope clos dV doc ((mg "__name__").getD .none) c' ctv)
  obtain ⟨g', F₄, k₄, r⟩ := F₃.rebase _ (List.Sublist.refl _)
  have ne_c : ∀ {c₁ : Addr} {o : Obj}, h'.get? c₁ = some o → s.heap.objs.size ≤ c₁ → c₁ ≠ P' → g'.get? c₁ = some o := fun {c₁ o} e hge hne => by
    refine r c₁ o (Heap.get?_push_of_some _ e) (fun q => Nat.not_lt.mpr hge (q ▸ F.ns.lt)) (fun q => ?_)
    rcases List.mem_cons.mp q with q | q
    · have q : c₁ = h'.objs.size := q
      exact Nat.lt_irrefl _ (q ▸ Heap.lt_size e)
    · rcases List.mem_cons.mp q with q | q
      · exact hne q
      · obtain ⟨p, hp, e2⟩ := List.mem_map.mp q
        exact Nat.not_lt.mpr hge (e2 ▸ lt1 p hp)
  refine h h'.objs.size c' P' ctv doc _ tk g' F₄ k₄ ?_ ?_
  · obtain ⟨c₁, oc, vs, t, e1, e2, e3, e4⟩ := hrec
    cases e1
    exact ⟨c', oc, vs, t, rfl, ne_c e2 hc' (fun q => by rw [q, ho'] at e2; cases e2; cases e3; simp at e4), e3, e4⟩
  · obtain ⟨o, vs, file, tf, flags, tg, inF, text, tt, e1, e2, e3, e4, e5, e6, e7, e8, e9, e10⟩ := hCd
    exact ⟨o, vs, file, tf, flags, tg, inF, text, tt, ne_c e1 hc' e10, e2, e3, e4, e5, e6, e7, e8, e9, e10⟩

theorem St.mkHit {dV cv : Value} {i : Nat} (F : St g s.heap L m mu) (G : Glb g mg mb) (hi : mu[i]? = some (P, tabObj ps)) (C : CodeHd g c P) (ht : TriplesOk ps.toList) (hf : codeAmong pos ps.toList = some cv) (hcl : closureFor scope env = pure clos)
    (h : ∀ f ctv doc h' tk, St g h' L m ((f, { cls := .type "function", data := .func (kdv_fn name qual params body scope clos dV doc ((mg "__name__").getD .none) cv ctv) }) :: mu) → Q (.ref f) { s with heap := h', toks := tk })
    (hcode : env.code = .ref c := by rfl) (hge0 : env.globals = mainGlobals := by rfl) :
    wpAny M A (makeTail name qual params body scope env dV .none none pos firstLine) Q E s := by
  obtain ⟨hgP, hB⟩ := G.notTab (F.fresh i hi)
  refine kdv_makeTailHit (mg := mg) hcl hge0 (G.g.keeps F.keep) hcode (C.keeps F.keep) (F.get i hi) ht hf (hB F.keep) fun ctv doc h' tk hk hsz => ?_
  exact h _ ctv doc _ tk ((F.all hk).push _)
end

section
variable {prog : Program} {w : World} {A : Around} {s : Shared} {E : Value → Shared → Prop} {env : Env} {g : Heap} {L : Addr} {m : Str → Option Value} {mu : List (Addr × Obj)}
theorem St.setattr {i : Nat} {a : Addr} {fd : FuncData} {name : Str} {v : Value} {Q : Unit → Shared → Prop} (F : St g s.heap L m mu) (hi : mu[i]? = some (a, { cls := .type "function", data := .func fd })) (hT : typeLookup (.type "function") name = pure none)
    (h : ∀ d h' tk g', St g' h' L m (mu.set i (a, { cls := .type "function", dict := some d, data := .func fd })) → Keep g g' → g'.Ns d (upd (fun _ => none) name v) → Q () { s with heap := h', toks := tk }) :
    wpAny (model prog w) A (setAttr (.ref a) name v) Q E s := by
  refine fn_setattr (F.get i hi) rfl rfl rfl hT fun d h' tk hn ho hk hd => ?_
  have F₁ := F.turn i hi (ExtS.of hk) ho
  obtain ⟨g', F₂, k₂, r⟩ := F₁.rebase _ (List.Sublist.refl _)
  refine h d h' tk g' F₂ k₂ ?_
  obtain ⟨o, es, ep, e1, r1⟩ := hn
  refine ⟨o, es, ep, r d o e1 (fun q => ?_) (fun q => ?_), r1⟩
  · obtain ⟨oL, _, _, hL, _⟩ := F.ns
    rw [q, hL] at hd; cases hd
  · obtain ⟨p, hp, e2⟩ := List.mem_map.mp q
    rcases List.mem_or_eq_of_mem_set hp with hp | rfl
    · rw [← e2, (F.mob p hp).1] at hd; cases hd
    · rw [← e2, F.get i hi] at hd; cases hd
end
end Mine

end
section
namespace Mine
/-! ### Calls with cells -/
abbrev cellO (v : Option Value) : Obj := { cls := .type "cell", data := .cell v }
def cellMu (n : Nat) : List (Str × NameKind) → List (Addr × Obj) → List (Addr × Obj)
  | [], acc => acc
  | (_, kind) :: r, acc => if kind == .cell then cellMu (n + 1) r ((n, cellO none) :: acc) else cellMu n r acc
theorem St.cells {g : Heap} {L : Addr} {m : Str → Option Value} : ∀ (names : List (Str × NameKind)) {h : Heap} {mu : List (Addr × Obj)}, St g h L m mu → St g (pushCells h names) L m (cellMu h.objs.size names mu)
  | [], _, _, F => F
  | (_, kind) :: r, h, mu, F => by
    unfold pushCells cellMu
    split
    · have := St.cells r (F.push (cellO none))
      rw [Heap.size_push] at this
      exact this
    · exact St.cells r F

section
variable {M : Model} {A : Around} {E : Value → Shared → Prop} {s : Shared} {env : Env} {g : Heap} {L : Addr} {m : Str → Option Value} {mu : List (Addr × Obj)} {x : Str} {pos : Pos} {v : Value}
theorem ldF {c : Addr} {Q : Value → Shared → Prop} (ho : s.heap.get? c = some (cellO (some v))) (h : Q v s) (hc : env.cells.lookup x = some c) (hk : env.scope.kind = .function := by rfl)
    (hl : env.kindOf x = some .free := by rfl) (hd : (x == ("__debug__" : Str)) = false := by decide) (hn : (x == ("__classdict__" : Str)) = false := by decide) : wpAny M A (eval (.Name x pos) env) Q E s :=
  wpAny_Name (wpAny_loadName_free hk hl hc ⟨_, ho, rfl⟩ h hn) hd
theorem ldC {c : Addr} {Q : Value → Shared → Prop} (ho : s.heap.get? c = some (cellO (some v))) (h : Q v s) (hc : env.cells.lookup x = some c) (hk : env.scope.kind = .function := by rfl)
    (hl : env.kindOf x = some .cell := by rfl) (hd : (x == ("__debug__" : Str)) = false := by decide) : wpAny M A (eval (.Name x pos) env) Q E s :=
  wpAny_Name (wpAny_loadName_cell hk hl hc ⟨_, ho, rfl⟩ h) hd
theorem St.stC {c : Addr} {i : Nat} {v₀ : Option Value} {Q : Unit → Shared → Prop} (F : St g s.heap L m mu) (hi : mu[i]? = some (c, cellO v₀)) (h : ∀ h', St g h' L m (mu.set i (c, cellO (some v))) → Q () { s with heap := h' })
    (hc : env.cells.lookup x = some c) (hk : env.scope.kind = .function := by rfl) (hl : env.kindOf x = some .cell := by rfl) : wpAny M A (storeName env x v) Q E s := by
  have ho := F.get i hi
  unfold storeName
  simp only [hl, hk]
  refine wpAny_bind (wpAny_cellOf hc ?_)
  unfold cellSet
  refine wpAny_bind (wpAny_load ho ?_)
  refine wpAny_update ho (h _ (F.turn i hi (ExtS.of (Heap.SameBut.update ..).extBut) ?_))
  exact Heap.get?_update_self _ ho rfl

def bindLoop (env : Env) (binds : List (Str × Value)) : Sem PUnit := forIn binds ⟨⟩ fun p _ => do storeName env p.1 p.2; pure (.yield ⟨⟩)
theorem bind_nil {Q : PUnit → Shared → Prop} (h : Q ⟨⟩ s) : wpAny M A (bindLoop env []) Q E s := wpAny_pure h
theorem bind_cons {n : Str} {r : List (Str × Value)} {Q : PUnit → Shared → Prop} (h : wpAny M A (storeName env n v) (fun _ s' => wpAny M A (bindLoop env r) Q E s') E s) : wpAny M A (bindLoop env ((n, v) :: r)) Q E s := by
  unfold bindLoop
  rw [List.forIn_cons]
  exact wpAny_bind (wpAny_bind (wpAny_mono h (fun _ s' h' => wpAny_pure h') fun _ _ e => e))

theorem newEnvX {scope : Scope} {globals : Addr} {closure : List (Str × Addr)} {binds : List (Str × Value)} {qual : Str} {func : Option Addr} {code : Value} {builtins : Addr} {Q : Env → Shared → Prop} (mu : List (Addr × Obj))
    (hmu : ∀ p ∈ mu, s.heap.get? p.1 = some p.2) (hnd : (mu.map (·.1)).Nodup)
    (h : ∀ g h₁ L, St g h₁ L (fun _ => none) (cellMu (L + 1) scope.names mu) → (∀ b o, b ∉ mu.map (·.1) → s.heap.get? b = some o → g.get? b = some o) → Keep g s.heap →
      wpAny M A (bindLoop (newEnv scope L globals (cellsFrom (L + 1) scope.names closure) qual func code none builtins) binds) (fun _ s' => Q (newEnv scope L globals (cellsFrom (L + 1) scope.names closure) qual func code none builtins) s') E { s with heap := h₁ }) :
    wpAny M A (newFunctionEnv scope globals closure binds qual func code none builtins) Q E s := by
  simp only [newFunctionEnv, Option.isSome_none, Bool.false_eq_true, if_false]
  refine wpAny_bind (wpAny_alloc ?_)
  refine wpAny_bind (wpAny_layCells _ (fun name kind cells => by cases hkc : kind == NameKind.cell <;> simp [hkc]) _ _ _ _ ?_)
  rw [show ({ s with heap := s.heap.push { cls := .type "frame", data := .dict #[] } } : Shared).heap.objs.size = s.heap.objs.size + 1 from Heap.size_push ..]
  have F₀ : St (hideAll s.heap (mu.map (·.1))) (s.heap.push { cls := .type "frame", data := .dict #[] }) s.heap.objs.size (fun _ => none) mu := by
    refine ⟨Heap.Ns.new s.heap (.type "frame"), fun b o e => Heap.get?_push_of_some _ (of_hideAll _ e), ?_, fun p hp => ⟨Heap.get?_push_of_some _ (hmu p hp), Nat.ne_of_lt (Heap.lt_size (hmu p hp)), hideAll_none _ (List.mem_map_of_mem hp)⟩, hnd⟩
    cases q : (hideAll s.heap (mu.map (·.1))).get? s.heap.objs.size with
    | none => rfl
    | some o' => exact absurd (Heap.lt_size (of_hideAll _ q)) (Nat.lt_irrefl _)
  have F₁ := F₀.cells scope.names
  rw [Heap.size_push] at F₁
  refine wpAny_bind (wpAny_mono (h _ _ _ F₁ (fun b o hb e => hideAll_get _ e hb) (fun b o e => of_hideAll _ e)) (fun _ s' h' => wpAny_pure h') fun _ _ e => e)
end

section
variable {prog : Program} {w : World} {A : Around} {R : Result → Shared → Prop} {s : Shared}
theorem callX {f : Addr} {o : Obj} {fd : FuncData} {k : Nat} {args : Args} {binds : List (Str × Value)} {body : List Stmt} (mu : List (Addr × Obj)) (hA : Rm A (k + 1)) (ho : s.heap.get? f = some o) (hd : o.data = .func fd) (hcd : s.heap.CodeRec fd.code fd.qualname)
    (hbody : fd.body = .stmts body) (hbind : BindsTo s fd args binds) (hmu : ∀ p ∈ mu, s.heap.get? p.1 = some p.2) (hnd : (mu.map (·.1)).Nodup)
    (h : ∀ g h₁ L env, env = newEnv fd.scope L fd.globals (cellsFrom (L + 1) fd.scope.names fd.closure) (fd.qualname ++ ".<locals>.") (some f) fd.code none fd.builtins → St g h₁ L (fun _ => none) (cellMu (L + 1) fd.scope.names mu) →
      (∀ b o, b ∉ mu.map (·.1) → s.heap.get? b = some o → g.get? b = some o) → Keep g s.heap → Rm (A.deeper env) k →
      wpAny (model prog w) A.in1 (bindLoop env binds) (fun _ s' => s'.heap.NoLimit ∧ wpAny (model prog w) (A.deeper env) (execs body env) (fun fl s' => R (.ok (.ret (match fl with | .ret v => v | _ => .none))) s') (fun _ _ => False) s') (fun _ _ => False) { s with heap := h₁ })
    (hco : fd.scope.isCoroutine = false := by rfl) (hgen : fd.scope.isGenerator = false := by rfl) : codeAny (model prog w) A (.call (.ref f) args) R s := by
  refine codeAny_call_function hA.depth ho hd hco hgen hbody hcd (hbind _ _ _ _ ?_)
  refine newEnvX mu hmu hnd fun g h₁ L F k1 k2 => ?_
  refine wpAny_mono (h g h₁ L _ rfl F k1 k2 hA.deeper) (fun _ s' h' => ⟨h'.1, codeAny_func (wpAny_mono h'.2 (fun _ _ x => x) fun _ _ e => e.elim)⟩) fun _ _ e => e.elim
theorem callXE {f : Addr} {o : Obj} {fd : FuncData} {k : Nat} {args : Args} {binds : List (Str × Value)} {body : Expr} (mu : List (Addr × Obj)) (hA : Rm A (k + 1)) (ho : s.heap.get? f = some o) (hd : o.data = .func fd) (hcd : s.heap.CodeRec fd.code fd.qualname)
    (hbody : fd.body = .expr body) (hbind : BindsTo s fd args binds) (hmu : ∀ p ∈ mu, s.heap.get? p.1 = some p.2) (hnd : (mu.map (·.1)).Nodup)
    (h : ∀ g h₁ L env, env = newEnv fd.scope L fd.globals (cellsFrom (L + 1) fd.scope.names fd.closure) (fd.qualname ++ ".<locals>.") (some f) fd.code none fd.builtins → St g h₁ L (fun _ => none) (cellMu (L + 1) fd.scope.names mu) →
      (∀ b o, b ∉ mu.map (·.1) → s.heap.get? b = some o → g.get? b = some o) → Keep g s.heap → Rm (A.deeper env) k →
      wpAny (model prog w) A.in1 (bindLoop env binds) (fun _ s' => s'.heap.NoLimit ∧ wpAny (model prog w) (A.deeper env) (eval body env) (fun v s' => R (.ok (.ret v)) s') (fun _ _ => False) s') (fun _ _ => False) { s with heap := h₁ })
    (hco : fd.scope.isCoroutine = false := by rfl) (hgen : fd.scope.isGenerator = false := by rfl) : codeAny (model prog w) A (.call (.ref f) args) R s := by
  refine kla_callFunE hA.depth ho hd hco hgen hbody hcd (hbind _ _ _ _ ?_)
  refine newEnvX mu hmu hnd fun g h₁ L F k1 k2 => ?_
  refine wpAny_mono (h g h₁ L _ rfl F k1 k2 hA.deeper) (fun _ s' h' => ⟨h'.1, kla_codeExpr (wpAny_mono h'.2 (fun _ _ x => x) fun _ _ e => e.elim)⟩) fun _ _ e => e.elim
end
end Mine

end
section
namespace Mine
section
variable {M : Model} {A : Around} {E : Value → Shared → Prop} {s : Shared} {name qual : Str} {params : Arguments} {body : FuncBody} {scope : Scope} {env : Env} {pos : Pos} {firstLine : Nat}
  {g : Heap} {L : Addr} {m : Str → Option Value} {mu : List (Addr × Obj)} {Q : Value → Shared → Prop}
theorem St.mkDflt {dv : List Value} (F : St g s.heap L m mu) (hne : dv.isEmpty = false)
    (h : ∀ t h', St g h' L m ((t, tup dv 0) :: mu) → wpAny M A (makeTail name qual params body scope env (.ref t) .none none pos firstLine) Q E { s with heap := h' }) :
    wpAny M A (makeFunction name qual params body scope env dv [] [] pos firstLine) Q E s := by
  rw [makeFunction_eq]
  simp only [List.zip_nil_right, List.filterMap_nil, List.isEmpty_nil, if_true, pure_bind, hne, Bool.false_eq_true, if_false]
  exact wpAny_bind (wpAny_newTextTuple (h _ _ (F.push (tup dv 0))))
theorem mkNo (h : wpAny M A (makeTail name qual params body scope env .none .none none pos firstLine) Q E s) : wpAny M A (makeFunction name qual params body scope env [] [] [] pos firstLine) Q E s := by
  rw [makeFunction_eq]
  simp only [List.zip_nil_right, List.filterMap_nil, List.isEmpty_nil, if_true, pure_bind]
  exact h
end

def searchSt : Stmt := match sBody (defAt 12) with
  | s :: _ => s
  | _ => .Pass default
def FnIsC (h : Heap) (f : Addr) (name : Str) (i : Nat) (c : Addr) : Prop :=
  ∃ o pm doc, h.get? f = some o ∧ o.data = .func (Calls.docDef name (sParams (defAt i)) (sBody (defAt i)) (sScope (defAt i)) pm (.ref c) doc) ∧ h.CodeRec (.ref c) name
theorem FnIsC.keeps {h h' : Heap} {f c : Addr} {name : Str} {i : Nat} (x : FnIsC h f name i c) (k : Keep h h') : FnIsC h' f name i c :=
  let ⟨o, pm, doc, h1, h2, h3⟩ := x; ⟨o, pm, doc, k _ _ h1, h2, h3.keeps k⟩
theorem FnIsC.is {h : Heap} {f c : Addr} {name : Str} {i : Nat} (x : FnIsC h f name i c) : FnIs h f name i :=
  let ⟨o, pm, doc, h1, h2, h3⟩ := x; ⟨o, pm, _, doc, h1, h2, h3⟩
/-- a function whose own dict holds a function under a name -/
def AttrAt (h : Heap) (p : Addr) (name : Str) (sf : Addr) : Prop := ∃ o d fd mm, h.get? p = some o ∧ o.cls = .type "function" ∧ o.dict = some d ∧ o.data = .func fd ∧ h.Ns d mm ∧ mm name = some (.ref sf)
theorem AttrAt.keeps {h h' : Heap} {p sf : Addr} {name : Str} (x : AttrAt h p name sf) (k : Keep h h') : AttrAt h' p name sf :=
  let ⟨o, d, fd, mm, h1, h2, h3, h4, h5, h6⟩ := x; ⟨o, d, fd, mm, k _ _ h1, h2, h3, h4, h5.keeps k, h6⟩

end Mine

end
section
namespace Mine
section
variable {prog : Program} {w : World} {A : Around} {s : Shared} {E : Value → Shared → Prop} {env : Env} {g : Heap} {L : Addr} {m : Str → Option Value} {mu : List (Addr × Obj)}
theorem St.unpackAny {elts : List Expr} {k : Nat} {tp : Pos} {T : Addr} {vs : List Value} {n : Nat} {Q : Unit → Shared → Prop} (F : St g s.heap L m mu) (hh : A.handled = none) (hT : s.heap.get? T = some (tup vs n))
    (h : ∀ h', St g h' L m mu → wpAny (model prog w) A (assignInOrder ((assignEach elts env).map (·.2)) vs) Q E { s with heap := h' }) (hn : (assignEach elts env).length = vs.length := by rfl) (hstar : (assignEach elts env).findIdx? (·.1) = none := by rfl) :
    wpAny (model prog w) A (assign (.Tuple elts k tp) env (.ref T)) Q E s := by
  refine assign_Tuple_tuple hh ⟨_, hT, rfl, n, rfl⟩ (by simpa using hn) hstar fun h' he => ?_
  refine h h' (F.all fun b o e => he b o (Nat.ne_of_lt (Heap.lt_size e)) e)
end

/-! ### What search hands out -/
def hitLam : Expr := match sBody searchSt with
  | [_, _, _, _, .Assign _ e _, _, _] => e
  | _ => .Constant .none 0 default
def spanLam : Expr := match sBody searchSt with
  | [_, _, _, _, _, .Assign _ e _, _] => e
  | _ => .Constant .none 0 default
def lParams : Expr → Arguments
  | .Lambda a .. => a
  | _ => default
def lBody : Expr → Expr
  | .Lambda _ b .. => b
  | e => e
def lScope : Expr → Scope
  | .Lambda _ _ s _ => s
  | _ => default
def lPos : Expr → Pos
  | .Lambda _ _ _ p => p
  | _ => default
def SpanAt (h : Heap) (sp : Addr) (i j : Int) : Prop :=
  ∃ cF cB c' doc pm ctv qual clos tF tB, h.get? sp = some { cls := .type "function", data := .func (kdv_fn "<lambda>" qual (lParams spanLam) (.expr (lBody spanLam)) (lScope spanLam) clos .none doc pm (.ref c') ctv) } ∧ h.CodeRec (.ref c') qual ∧
    clos.lookup ("first" : Str) = some cF ∧ clos.lookup ("behind" : Str) = some cB ∧ h.get? cF = some (cellO (some (.int i tF))) ∧ h.get? cB = some (cellO (some (.int j tB)))
theorem SpanAt.keeps {h h' : Heap} {sp : Addr} {i j : Int} (x : SpanAt h sp i j) (k : Keep h h') : SpanAt h' sp i j :=
  let ⟨cF, cB, c', doc, pm, ctv, qual, clos, tF, tB, h1, h2, h3, h4, h5, h6⟩ := x; ⟨cF, cB, c', doc, pm, ctv, qual, clos, tF, tB, k _ _ h1, h2.keeps k, h3, h4, k _ _ h5, k _ _ h6⟩
/-- the value is a match with that span, or None -/
def HitAt (h : Heap) (v : Value) : Option (Int × Int) → Prop
  | none => v = .none
  | some p => ∃ hf sp, v = .ref hf ∧ AttrAt h hf "span" sp ∧ SpanAt h sp p.1 p.2
theorem HitAt.keeps {h h' : Heap} {v : Value} : ∀ {p : Option (Int × Int)}, HitAt h v p → Keep h h' → HitAt h' v p
  | none, x, _ => x
  | some _, ⟨hf, sp, a, b, c⟩, k => ⟨hf, sp, a, b.keeps k, c.keeps k⟩

section
variable {prog : Program} {w : World} {A : Around} {R : Result → Shared → Prop} {s : Shared} {E : Value → Shared → Prop} {h₀ : Heap} {mg mb : Str → Option Value} {env : Env}
theorem span_ok {sp : Addr} {i j : Int} (hlim : s.heap.NoLimit) (hS : SpanAt s.heap sp i j) (hA : Rm A 4)
    (h : ∀ h' tk T n t u, Keep s.heap h' → s.heap.get? T = none → h'.get? T = some (tup [.int i t, .int j u] n) → R (.ok (.ret (.ref T))) { s with heap := h', toks := tk }) :
    codeAny (model prog w) A (.call (.ref sp) ⟨[], []⟩) R s := by
  obtain ⟨cF, cB, c', doc, pm, ctv, qual, clos, tF, tB, h1, h2, h3, h4, h5, h6⟩ := hS
  refine callXE [] hA h1 rfl h2 rfl (BindsTo.of_eq (binds := []) rfl) (by simp) (by simp) ?_
  intro g h₁ L env hE F hg hgs hA'
  have ks : Keep s.heap g := fun b o e => hg b o (by simp) e
  subst hE
  refine bind_nil ⟨hlim.keeps (ks.trans F.keep), ?_⟩
  refine Tuple_ (args_cons (ldF (F.keep _ _ (ks _ _ h5)) (args_cons (ldF (F.keep _ _ (ks _ _ h6)) (args_nil (St.newT F fun T h₂ F₂ => ?_)) h4)) h3))
  refine h h₂ _ T _ _ _ (ks.trans F₂.keep) ?_ (F₂.get 0)
  cases q : s.heap.get? T with
  | none => rfl
  | some o => have := ks _ _ q; rw [F₂.fresh 0] at this; cases this

/-- m.span() -/
theorem spanCall {pl : Sem Bool} {o : Expr} {apos pos : Pos} {p : Int × Int} {v : Value} {Q : Value → Shared → Prop} (hlim : s.heap.NoLimit) (hA : Rm A 4) (hH : HitAt s.heap v (some p)) (ho : ∀ {Q : Value → Shared → Prop} {E : Value → Shared → Prop}, Q v s → wpAny (model prog w) A (eval o env) Q E s)
    (h : ∀ h' tk T n t u, Keep s.heap h' → s.heap.get? T = none → h'.get? T = some (tup [.int p.1 t, .int p.2 u] n) → Q (.ref T) { s with heap := h', toks := tk }) 
    (he : eval (.Call (.Attribute o "span" apos) [] [] pos) env = (do
      let ov ← eval o env
      standAt apos.atName
      let (f, first) ← holding [ov] (getMethod ov "span" pl)
      callWith pos f first (backTo pos (starEach [] env)) []) := by rfl) :
    wpAny (model prog w) A (eval (.Call (.Attribute o "span" apos) [] [] pos) env) Q E s := by
  obtain ⟨hf, sp, rfl, ⟨ob, d, fd, mm, a1, a2, a3, a4, a5, a6⟩, hS⟩ := hH
  refine MethodCall_ (ho (fn_getMethod a1 a2 a3 a4 look_span a5 a6 fun tk => ?_)) he
  dsimp only
  have hS' := hS
  obtain ⟨cF, cB, c', doc, pm, ctv, qual, clos, tF, tB, h1, h2, h3, h4, h5, h6⟩ := hS'
  refine Calls.callWith_function (PySem.evalArgs_none ⟨⟨h1, rfl⟩, wpAny_call (span_ok hlim hS hA fun h' tk' T n t u k1 k2 k3 => ?_)⟩)
  exact h h' tk' T n t u k1 k2 k3
end
end Mine

end
section
namespace Mine
theorem St.sub {g h : Heap} {L : Addr} {m : Str → Option Value} {mu mu' : List (Addr × Obj)} (F : St g h L m mu) (hs : ∀ p ∈ mu', p ∈ mu) (hnd : (mu'.map (·.1)).Nodup) : St g h L m mu' :=
  ⟨F.ns, F.keep, F.out, fun p hp => F.mob p (hs p hp), hnd⟩

theorem St.perm {g h : Heap} {L : Addr} {m : Str → Option Value} {mu mu' : List (Addr × Obj)} (F : St g h L m mu) (hp : mu.Perm mu') : St g h L m mu' :=
  ⟨F.ns, F.keep, F.out, fun p h => F.mob p (hp.mem_iff.mpr h), ((hp.map _).nodup_iff).mp F.nd⟩
/-- objects that stand aside: neither frozen nor touched -/
def Aside (g h : Heap) (S : List Addr) (av : List (Addr × Obj)) : Prop := (∀ p ∈ av, h.get? p.1 = some p.2 ∧ g.get? p.1 = none) ∧ NoTup av ∧ (S ++ av.map (·.1)).Nodup
theorem nd_drop {l : List Addr} (h : l.Nodup) (i k : Nat) {a : Addr} (hi : l[i]? = some a) (hik : i < k) : a ∉ l.drop k := by
  intro hm
  obtain ⟨j, hj⟩ := List.mem_iff_getElem?.mp hm
  rw [List.getElem?_drop] at hj
  have := (List.getElem?_inj (List.getElem?_eq_some_iff.mp hi).1 h).mp (hi.trans hj.symm)
  omega

/-- the table of search's own code: nothing yet, or both lambdas -/
def TabOk (g : Heap) (q : Str) (ps : Array Value) : Prop :=
  ps = #[] ∨ ∃ c1 c2, ps = #[rawInt (lPos hitLam).line, rawInt (lPos hitLam).col, .ref c1, rawInt (lPos spanLam).line, rawInt (lPos spanLam).col, .ref c2] ∧ g.CodeRec (.ref c2) (q ++ ".<locals>." ++ "<lambda>")
theorem TabOk.keeps {g g' : Heap} {q : Str} {ps : Array Value} (x : TabOk g q ps) (k : Keep g g') : TabOk g' q ps :=
  x.elim .inl fun ⟨c1, c2, e, h⟩ => .inr ⟨c1, c2, e, h.keeps k⟩

end Mine

end
section
namespace Mine
/-! ### search_reverse over any search -/
structure Sr (prog : Program) (w : World) (sf : Addr) (chars : Value) (σ : Type) where
  Ok : Heap → List (Addr × Obj) → Heap → σ → Prop
  V : σ → Prop
  nxt : σ → Int → Option (Int × Int) × σ
  keep : ∀ {g S h x}, Ok g S h x → Keep g h
  mob : ∀ {g S h x}, Ok g S h x → ∀ p ∈ S, h.get? p.1 = some p.2 ∧ g.get? p.1 = none ∧ ∀ vs n, p.2 ≠ tup vs n
  stab : ∀ {g S h x g' h'}, Ok g S h x → Keep g g' → Keep g' h' → (∀ p ∈ S, h'.get? p.1 = some p.2 ∧ g'.get? p.1 = none) → Ok g' S h' x
  fn : ∀ {g S h x}, Ok g S h x → ∃ o fd, g.get? sf = some o ∧ o.data = .func fd
  Vn : ∀ {x : σ} {p : Int}, V x → V (nxt x p).2 ∧ ∀ r, (nxt x p).1 = some r → p ≤ r.1 ∧ r.1 ≤ r.2
  call : ∀ {A : Around} {R : Result → Shared → Prop} {s : Shared} {g : Heap} {S : List (Addr × Obj)} {x : σ} {av : List (Addr × Obj)} {p : Int} {args : Args}, Rm A 12 → 0 ≤ p → Ok g S s.heap x → V x → Aside g s.heap (S.map (·.1)) av →
    (args = ⟨[chars], []⟩ ∧ p = 0 ∨ ∃ t, args = ⟨[chars, .int p t], []⟩) →
    (∀ h' tk S' v g', Ok g' S' h' (nxt x p).2 → Aside g' h' (S'.map (·.1)) av → Keep g g' → HitAt g' v (nxt x p).1 → R (.ok (.ret v)) { s with heap := h', toks := tk }) →
    codeAny (model prog w) A (.call (.ref sf) args) R s

section
variable {σ : Type} (nxt : σ → Int → Option (Int × Int) × σ) (col : Int)
def srLoop : Nat → σ → Option (Int × Int) → Int × Int → Option (Int × Int) × σ
  | 0, x, found, _ => (found, x)
  | n + 1, x, found, (i, j) => if i < col ∧ j ≤ col then
      match nxt x (if i = j then j + 1 else j) with
      | (none, x') => (some (i, j), x')
      | (some p, x') => srLoop n x' (some (i, j)) p
    else (found, x)
def srF (x : σ) : Option (Int × Int) × σ := match nxt x 0 with
  | (none, x') => (none, x')
  | (some p, x') => srLoop nxt col ((col - p.1).toNat + 1) x' none p
end

theorem constNone {M : Model} {A : Around} {E : Value → Shared → Prop} {s : Shared} {env : Env} {k : Nat} {pos : Pos} {Q : Value → Shared → Prop} (h : Q .none s) : wpAny M A (eval (.Constant .none k pos) env) Q E s := fun _ _ _ => h

/-- the frame's state from what stands aside -/
theorem St.ofAside {g h : Heap} {L : Addr} {oL : Obj} {m : Str → Option Value} {S av : List (Addr × Obj)} (hn : ∀ {h' : Heap}, h'.get? L = some oL → h'.Ns L m) (k : Keep g h) (hS : ∀ p ∈ S, h.get? p.1 = some p.2 ∧ g.get? p.1 = none) (hav : Aside g h (S.map (·.1)) ((L, oL) :: av)) :
    St g h L m (S ++ av) := by
  obtain ⟨h1, h2, h3⟩ := hav
  have hL := h1 (L, oL) (.head _)
  rw [List.map_cons, List.nodup_append] at h3
  obtain ⟨n1, n2, n3⟩ := h3
  refine ⟨hn hL.1, k, hL.2, fun p hp => ?_, ?_⟩
  · rcases List.mem_append.mp hp with hp | hp
    · exact ⟨(hS p hp).1, fun q => n3 _ (List.mem_map_of_mem hp) L (.head _) q, (hS p hp).2⟩
    · exact ⟨(h1 p (.tail _ hp)).1, fun q => (List.nodup_cons.mp n2).1 (List.mem_map.mpr ⟨p, hp, q⟩), (h1 p (.tail _ hp)).2⟩
  · rw [List.map_append, List.nodup_append]
    exact ⟨n1, (List.nodup_cons.mp n2).2, fun a ha b hb => n3 a ha b (.tail _ hb)⟩
theorem St.toAside {g h : Heap} {L : Addr} {m : Str → Option Value} {S av : List (Addr × Obj)} (F : St g h L m (S ++ av)) (hT : NoTup av) : ∃ oL, Aside g h (S.map (·.1)) ((L, oL) :: av) ∧ (∀ {h' : Heap}, h'.get? L = some oL → h'.Ns L m) := by
  obtain ⟨oL, es, ep, ho, hd, r⟩ := F.ns
  refine ⟨oL, ⟨fun p hp => ?_, NoTup.cons (fun vs n q => by rw [q] at hd; cases hd) hT, ?_⟩, fun {h'} e => ⟨oL, es, ep, e, hd, r⟩⟩
  · rcases List.mem_cons.mp hp with rfl | hp
    · exact ⟨ho, F.out⟩
    · exact ⟨(F.mob p (List.mem_append_right _ hp)).1, (F.mob p (List.mem_append_right _ hp)).2.2⟩
  · have nd := F.nd
    rw [List.map_append, List.nodup_append] at nd
    rw [List.map_cons, List.nodup_append]
    refine ⟨nd.1, List.nodup_cons.mpr ⟨fun q => ?_, nd.2.1⟩, fun a ha b hb => ?_⟩
    · obtain ⟨p, hp, e⟩ := List.mem_map.mp q
      exact (F.mob p (List.mem_append_right _ hp)).2.1 e
    · rcases List.mem_cons.mp hb with rfl | hb
      · obtain ⟨p, hp, e⟩ := List.mem_map.mp ha
        rw [← e]; exact (F.mob p (List.mem_append_left _ hp)).2.1
      · exact nd.2.2 a ha b hb

section
variable {prog : Program} {w : World} {A : Around} {R : Result → Shared → Prop} {s : Shared} {E : Value → Shared → Prop} {h₀ : Heap} {mg mb : Str → Option Value} {env : Env} {σ : Type} {sf : Addr} {chars : Value}

/-- prog.search(..) from a frame -/
theorem srchCall (I : Sr prog w sf chars σ) {pl : Sem Bool} {g : Heap} {L pg : Addr} {m : Str → Option Value} {S av : List (Addr × Obj)} {x : σ} {p : Int} {o : Expr} {apos pos : Pos} {args : List Expr} {Q : Value → Shared → Prop}
    (F : St g s.heap L m (S ++ av)) (hO : I.Ok g S s.heap x) (hV : I.V x) (hT : NoTup av) (hp : AttrAt g pg "search" sf) (hA : Rm A 12) (hp0 : 0 ≤ p)
    (ho : ∀ {Q : Value → Shared → Prop} {E : Value → Shared → Prop}, Q (.ref pg) s → wpAny (model prog w) A (eval o env) Q E s)
    (hargs : ∀ (s₁ : Shared) {Q : List Value → Shared → Prop} {E : Value → Shared → Prop}, s₁.heap = s.heap → (∀ vs, (Args.mk vs [] = ⟨[chars], []⟩ ∧ p = 0 ∨ ∃ t, Args.mk vs [] = ⟨[chars, .int p t], []⟩) → Q vs s₁) → wpAny (model prog w) A (spliced (backTo pos (starEach args env))) Q E s₁)
    (h : ∀ h' tk S' v g', St g' h' L m (S' ++ av) → I.Ok g' S' h' (I.nxt x p).2 → Keep g g' → HitAt g' v (I.nxt x p).1 → Q v { s with heap := h', toks := tk })
    (hst : ∃ e r, starEach args env = (false, eval e env) :: r)
    (he : eval (.Call (.Attribute o "search" apos) args [] pos) env = (do
      let ov ← eval o env
      standAt apos.atName
      let (f, first) ← holding [ov] (getMethod ov "search" pl)
      callWith pos f first (backTo pos (starEach args env)) []) := by rfl) :
    wpAny (model prog w) A (eval (.Call (.Attribute o "search" apos) args [] pos) env) Q E s := by
  obtain ⟨ob, d, fd, mm, a1, a2, a3, a4, a5, a6⟩ := hp
  refine MethodCall_ (ho (fn_getMethod (F.keep _ _ a1) a2 a3 a4 look_search (a5.keeps F.keep) a6 fun tk => ?_)) he
  dsimp only
  obtain ⟨of, fdf, hf1, hf2⟩ := I.fn hO
  obtain ⟨oL, hAs, hNs⟩ := F.toAside hT
  have key := hargs { s with toks := tk } (Q := fun vs s₁ => (s₁.heap.get? sf = some of ∧ of.data = .func fdf) ∧ wpAny (model prog w) A (call (.ref sf) vs) Q E s₁) (E := E) rfl (fun vs hvs => ⟨⟨F.keep _ _ hf1, hf2⟩, ?_⟩)
  · obtain ⟨e, r, hst⟩ := hst
    have hb : backTo pos (starEach args env) = (false, eval e env) :: backTo pos r := by rw [hst]; rfl
    rw [hb] at key ⊢
    exact Calls.callWith_function (Calls.evalArgs_plain key)
  · refine wpAny_call (I.call hA hp0 hO hV hAs hvs fun h' tk' S' v g' hO' hA' k' hH => ?_)
    exact h h' tk' S' v g' (St.ofAside hNs (I.keep hO') (fun p hp => ⟨(I.mob hO' p hp).1, (I.mob hO' p hp).2.1⟩) hA') hO' k' hH
end
end Mine

end
section
namespace Mine
section
variable {prog : Program} {w : World} {A : Around} {R : Result → Shared → Prop} {s : Shared} {E : Value → Shared → Prop} {h₀ : Heap} {mg mb : Str → Option Value} {env : Env} {σ : Type} {sf : Addr} {chars : Value}

theorem hit_truthy {v : Value} {p : Option (Int × Int)} {Q : Bool → Shared → Prop} (hH : HitAt s.heap v p) (h : Q p.isSome s) : wpAny (model prog w) A (truthy v) Q E s := by
  cases p with
  | none => rw [show v = .none from hH]; exact truthy_none h
  | some p =>
    obtain ⟨hf, sp, rfl, ⟨o, d, fd, mm, a1, a2, _⟩, _⟩ := hH
    exact fn_truthy a1 a2 h

theorem sr_ok (I : Sr prog w sf chars σ) {f pg : Addr} {g : Heap} {S av : List (Addr × Obj)} {x : σ} {col : Int} {t : Tok} (G : Glb h₀ mg mb) (B : Keep h₀ g) (hf : FnIs h₀ f "search_reverse" 1) (hO : I.Ok g S s.heap x) (hV : I.V x)
    (hav : Aside g s.heap (S.map (·.1)) av) (hp : AttrAt g pg "search" sf) (hA : Rm A 14)
    (h : ∀ h' tk S' v g', I.Ok g' S' h' (srF I.nxt col x).2 → I.V (srF I.nxt col x).2 → Aside g' h' (S'.map (·.1)) av → Keep g g' → HitAt g' v (srF I.nxt col x).1 → R (.ok (.ret v)) { s with heap := h', toks := tk }) :
    codeAny (model prog w) A (.call (.ref f) ⟨[.ref pg, chars, .int col t], []⟩) R s := by
  have kg := I.keep hO
  refine callF (S ++ av) hA (hf.keeps (B.trans kg)) (G.nolimit.keeps (B.trans kg)) (binds := [("prog", .ref pg), ("chars", chars), ("col", .int col t)]) (fun _ _ _ => rfl) rfl (fun p hp => ?_) (by rw [List.map_append]; exact hav.2.2) ?_
  · rcases List.mem_append.mp hp with hp | hp
    · exact (I.mob hO p hp).1
    · exact (hav.1 p hp).1
  intro g₁ h₁ L cd F hg hgs hA'
  have k1 : Keep g g₁ := fun b o e => hg b o (fun hm => by
    obtain ⟨p, hp, rfl⟩ := List.mem_map.mp hm
    rcases List.mem_append.mp hp with hp | hp
    · rw [(I.mob hO p hp).2.1] at e; cases e
    · rw [(hav.1 p hp).2] at e; cases e) (kg _ _ e)
  have re : ∀ {g' h' : Heap} {m : Str → Option Value} {S' : List (Addr × Obj)} {y : σ} {g'' h'' : Heap}, I.Ok g'' S' h'' y → Keep g'' g' → St g' h' L m (S' ++ av) → I.Ok g' S' h' y := fun hO' kk FF =>
    I.stab hO' kk FF.keep fun p hp => ⟨(FF.mob p (List.mem_append_left _ hp)).1, (FF.mob p (List.mem_append_left _ hp)).2.2⟩
  have out : ∀ {g' h' : Heap} {m : Str → Option Value} {S' : List (Addr × Obj)}, St g' h' L m (S' ++ av) → Aside g' h' (S'.map (·.1)) av := fun FF => by
    obtain ⟨oL, hAs, _⟩ := FF.toAside hav.2.1
    refine ⟨fun p hp => hAs.1 p (.tail _ hp), hav.2.1, ?_⟩
    have nd := FF.nd
    rw [List.map_append] at nd
    exact nd
  have lim : ∀ {g' h' : Heap} {m : Str → Option Value} {mu : List (Addr × Obj)}, Keep g₁ g' → St g' h' L m mu → h'.NoLimit := fun kk FF => G.nolimit.keeps (B.trans (k1.trans (kk.trans FF.keep)))
  -- m = prog.search(chars)
  refine wpAny_execs_cons (wpAny_Assign_Name (srchCall I (p := 0) F (re hO k1 F) hV hav.2.1 (hp.keeps k1) (hA'.le (by omega)) (Int.le_refl _) (fun hq => F.ld rfl hq) (fun s₁ Q E es hq => by
    have F' := F
    rw [← show s₁.heap = h₁ from es] at F'
    exact args_cons (St.ld F' rfl (args_nil (hq _ (.inl ⟨rfl, rfl⟩))))) ?_ ⟨_, _, rfl⟩))
  intro h₂ tk₂ S₂ v₂ g₂ F₂ hO₂ k₂ hH₂
  refine St.st F₂ fun h₃ F₃ => ?_
  dsimp only
  have hVn := @Sr.Vn _ _ _ _ _ I
  have hV₂ := (hVn (p := 0) hV).1
  have hb₂ := (hVn (p := 0) hV).2
  generalize hn0 : I.nxt x 0 = r0 at hO₂ hH₂ hV₂ hb₂
  obtain ⟨r0, x0⟩ := r0
  -- if not m
  refine wpAny_execs_cons (wpAny_If (isTrue_not (isTrue_plain (St.ld F₃ rfl (hit_truthy (hH₂.keeps F₃.keep) ?_)))))
  have hsr : srF I.nxt col x = match (r0, x0) with | (none, x') => (none, x') | (some p, x') => srLoop I.nxt col ((col - p.1).toNat + 1) x' none p := by unfold srF; rw [hn0]; try rfl
  cases r0 with
  | none =>
    simp only [Option.isSome_none, Bool.not_false, if_true]
    refine wpAny_execs_cons (wpAny_Return_some (constNone ?_))
    dsimp only at hsr
    rw [hsr] at h
    exact h h₃ _ S₂ .none g₂ (re hO₂ (Keep.refl _) F₃) hV₂ (out F₃) (k1.trans k₂) rfl
  | some p0 =>
    simp only [Option.isSome_some, Bool.not_true, Bool.false_eq_true, if_false]
    refine wpAny_execs_nil ?_
    dsimp only at hsr
    -- found = None
    refine wpAny_execs_cons (wpAny_Assign_Name (constNone (St.st F₃ fun h₄ F₄ => ?_)))
    dsimp only
    -- i, j = m.span()
    refine wpAny_execs_cons (Assign_Tuple (spanCall (lim k₂ F₄) (hA'.le (by omega)) (hH₂.keeps F₄.keep) (fun hq => St.ld F₄ rfl hq) fun h₅ tk₅ T nT ta tb k₅ hTn hT => St.unpack2 (F₄.all k₅) hA'.handled hT fun h₆ tk₆ F₆ => ?_))
    dsimp only
    -- the loop
    refine wpAny_execs_cons (wpAny_While (codeAny_whileLoop (fun k s' => ∃ g' h' tk m S' y found vf vm i j t1 t2, s' = { s with heap := h', toks := tk } ∧ St g' h' L m (S' ++ av) ∧ Keep g₁ g' ∧ I.Ok g' S' h' y ∧ I.V y ∧
      m "prog" = some (.ref pg) ∧ m "chars" = some chars ∧ m "col" = some (.int col t) ∧ m "found" = some vf ∧ m "m" = some vm ∧ m "i" = some (.int i t1) ∧ m "j" = some (.int j t2) ∧ HitAt g' vf found ∧ HitAt g' vm (some (i, j)) ∧ (0 ≤ i ∧ i ≤ j) ∧
      srLoop I.nxt col k y found (i, j) = srF I.nxt col x ∧ col - i < k) ?_ ((col - p0.1).toNat + 1)
      ⟨g₂, h₆, _, _, S₂, x0, none, .none, v₂, p0.1, p0.2, _, _, rfl, F₆, k₂, re hO₂ (Keep.refl _) F₆, hV₂, rfl, rfl, rfl, rfl, rfl, rfl, rfl, rfl, hH₂, hb₂ p0 rfl, hsr.symm, by omega⟩))
    rintro k s' ⟨g', h', tk, m, S', y, found, vf, vm, i, j, t1, t2, rfl, F', kk, hO', hV', m1, m2, m3, m4, m5, m6, m7, hHf, hHm, ⟨hi0, hij⟩, hgoal, hk⟩
    -- return found
    have fin : ∀ (g₈ h₈ : Heap) (tk₈ : Nat) (m₈ : Str → Option Value) (S₈ : List (Addr × Obj)) (v₈ : Value), St g₈ h₈ L m₈ (S₈ ++ av) → Keep g₁ g₈ → m₈ "found" = some v₈ → I.Ok g₈ S₈ h₈ (srF I.nxt col x).2 → I.V (srF I.nxt col x).2 → HitAt g₈ v₈ (srF I.nxt col x).1 →
        wpAny (model prog w) (A.deeper (envOf "search_reverse" (sScope (defAt 1)) L f cd)) (execs ((sBody (defAt 1)).drop 5) (envOf "search_reverse" (sScope (defAt 1)) L f cd)) (fun fl s' => R (.ok (.ret (match fl with | .ret v => v | _ => .none))) s') (fun _ _ => False) { s with heap := h₈, toks := tk₈ } := by
      intro g₈ h₈ tk₈ m₈ S₈ v₈ F₈ k₈ q1 hO₈ hV₈ hH₈
      refine wpAny_execs_cons (wpAny_Return_some (St.ld F₈ q1 ?_))
      exact h h₈ _ S₈ v₈ g₈ hO₈ hV₈ (out F₈) (k1.trans k₈) hH₈
    refine isTrue_and (wpAny_isTrue_Compare1 (St.ld F' m6 (St.ld F' m3 (lt_int (wpAny_truthy_bool ?_)))))
    by_cases hic : i < col
    · simp only [hic, decide_true, if_true]
      refine isTrue_and (wpAny_isTrue_Compare1 (St.ld F' m7 (St.ld F' m3 (le_int (wpAny_truthy_bool ?_)))))
      by_cases hjc : j ≤ col
      · simp only [hjc, decide_true, if_true]
        refine isTrue_and_nil ?_
        simp only [if_true]
        obtain ⟨k', rfl⟩ : ∃ k', k = k' + 1 := ⟨k - 1, by omega⟩
        rw [srLoop, if_pos ⟨hic, hjc⟩] at hgoal
        -- found = m
        refine wpAny_execs_cons (wpAny_Assign_Name (St.ld F' m5 (St.st F' fun h₇ F₇ => ?_)))
        dsimp only
        have next : ∀ (h₈ : Heap) (tk₈ : Nat) (m₈ : Str → Option Value) (t₈ : Tok), St g' h₈ L m₈ (S' ++ av) → m₈ "prog" = some (.ref pg) → m₈ "chars" = some chars → m₈ "col" = some (.int col t) → m₈ "found" = some vm → m₈ "j" = some (.int (if i = j then j + 1 else j) t₈) →
            wpAny (model prog w) (A.deeper (envOf "search_reverse" (sScope (defAt 1)) L f cd)) (execs (match sBody (defAt 1) with | [_, _, _, _, .While _ (_ :: _ :: r) _ _, _] => r | _ => []) (envOf "search_reverse" (sScope (defAt 1)) L f cd))
              (fun fl s₃ => match fl with
                | .next | .cont => ∃ k₉, k₉ < k' + 1 ∧ ∃ g' h' tk m S' y found vf vm i j t1 t2, s₃ = { s with heap := h', toks := tk } ∧ St g' h' L m (S' ++ av) ∧ Keep g₁ g' ∧ I.Ok g' S' h' y ∧ I.V y ∧
                  m "prog" = some (.ref pg) ∧ m "chars" = some chars ∧ m "col" = some (.int col t) ∧ m "found" = some vf ∧ m "m" = some vm ∧ m "i" = some (.int i t1) ∧ m "j" = some (.int j t2) ∧ HitAt g' vf found ∧ HitAt g' vm (some (i, j)) ∧ (0 ≤ i ∧ i ≤ j) ∧
                  srLoop I.nxt col k₉ y found (i, j) = srF I.nxt col x ∧ col - i < k₉
                | .brk => ∃ g₈ h₈ tk₈ m₈ S₈ v₈, s₃ = { s with heap := h₈, toks := tk₈ } ∧ St g₈ h₈ L m₈ (S₈ ++ av) ∧ Keep g₁ g₈ ∧ m₈ "found" = some v₈ ∧ I.Ok g₈ S₈ h₈ (srF I.nxt col x).2 ∧ I.V (srF I.nxt col x).2 ∧ HitAt g₈ v₈ (srF I.nxt col x).1
                | _ => False) (fun _ _ => False) { s with heap := h₈, toks := tk₈ } := by
          intro h₈ tk₈ m₈ t₈ F₈ q1 q2 q3 q4 q5
          -- m = prog.search(chars, j)
          refine wpAny_execs_cons (wpAny_Assign_Name (srchCall I (p := if i = j then j + 1 else j) F₈ (re hO' (Keep.refl _) F₈) hV' hav.2.1 (hp.keeps (k1.trans kk)) (hA'.le (by omega)) (by split <;> omega) (fun hq => St.ld F₈ q1 hq) (fun s₁ Q E es hq => by
            have F' := F₈
            rw [← show s₁.heap = h₈ from es] at F'
            exact args_cons (St.ld F' q2 (args_cons (St.ld F' q5 (args_nil (hq _ (.inr ⟨_, rfl⟩))))))) ?_ ⟨_, _, rfl⟩))
          intro h₉ tk₉ S₉ v₉ g₉ F₉ hO₉ k₉ hH₉
          refine St.st F₉ fun h₁₀ F₁₀ => ?_
          dsimp only
          have hV₉ := (hVn (p := if i = j then j + 1 else j) hV').1
          have hb₉ := (hVn (p := if i = j then j + 1 else j) hV').2
          generalize hn9 : I.nxt y (if i = j then j + 1 else j) = r9 at hO₉ hH₉ hV₉ hb₉ hgoal
          obtain ⟨r9, x9⟩ := r9
          -- if not m: break
          refine wpAny_execs_cons (wpAny_If (isTrue_not (isTrue_plain (St.ld F₁₀ rfl (hit_truthy (hH₉.keeps F₁₀.keep) ?_)))))
          cases r9 with
          | none =>
            simp only [Option.isSome_none, Bool.not_false, if_true]
            refine wpAny_execs_cons (wpAny_Break ?_)
            dsimp only at hgoal
            refine ⟨g₉, h₁₀, _, _, S₉, vm, rfl, F₁₀, kk.trans k₉, q4, ?_, ?_, ?_⟩
            · rw [← hgoal]; exact re hO₉ (Keep.refl _) F₁₀
            · rw [← hgoal]; exact hV₉
            · rw [← hgoal]; exact hHm.keeps k₉
          | some p9 =>
            simp only [Option.isSome_some, Bool.not_true, Bool.false_eq_true, if_false]
            refine wpAny_execs_nil ?_
            dsimp only at hgoal
            -- i, j = m.span()
            refine wpAny_execs_cons (Assign_Tuple (spanCall (lim (kk.trans k₉) F₁₀) (hA'.le (by omega)) (hH₉.keeps F₁₀.keep) (fun hq => St.ld F₁₀ rfl hq) fun h₁₁ tk₁₁ T nT ta tb k₁₁ hTn hT => St.unpack2 (F₁₀.all k₁₁) hA'.handled hT fun h₁₂ tk₁₂ F₁₂ => ?_))
            dsimp only
            have hb := hb₉ p9 rfl
            refine wpAny_execs_nil ⟨k', by omega, g₉, h₁₂, _, _, S₉, x9, some (i, j), vm, v₉, p9.1, p9.2, _, _, rfl, F₁₂, kk.trans k₉, re hO₉ (Keep.refl _) F₁₂, hV₉, q1, q2, q3, q4, rfl, rfl, rfl, hHm.keeps k₉, hH₉, ⟨by have := hb.1; split at this <;> omega, hb.2⟩, hgoal, ?_⟩
            have := hb.1
            split at this <;> omega
        -- if i == j: j = j + 1
        refine wpAny_execs_cons (wpAny_If (wpAny_isTrue_Compare1 (St.ld F₇ m6 (St.ld F₇ m7 (eq_int (wpAny_truthy_bool ?_))))))
        by_cases hij2 : i = j
        · have : (i == j) = true := by simpa using hij2
          simp only [this, if_true]
          refine wpAny_execs_cons (wpAny_Assign_Name (wpAny_BinOp (St.ld F₇ m7 (wpAny_Constant_int (add_int (St.st F₇ fun h₈ F₈ => ?_))))))
          dsimp only
          refine wpAny_execs_nil ?_
          refine wpAny_mono (next h₈ _ _ _ F₈ m1 m2 m3 rfl (by rw [if_pos hij2]; rfl)) (fun fl s₃ hq => ?_) fun _ _ e => e.elim
          cases fl with
          | next => exact hq
          | cont => exact hq
          | brk =>
            obtain ⟨g₈, h₈, tk₈, m₈, S₈, v₈, rfl, F₈, kx, q1, q2, q3, q4⟩ := hq
            exact fin g₈ h₈ tk₈ m₈ S₈ v₈ F₈ kx q1 q2 q3 q4
          | ret v => exact hq.elim
        · have : (i == j) = false := by simpa using hij2
          simp only [this, Bool.false_eq_true, if_false]
          refine wpAny_execs_nil ?_
          refine wpAny_mono (next h₇ _ _ _ F₇ m1 m2 m3 rfl (by rw [if_neg hij2]; exact m7)) (fun fl s₃ hq => ?_) fun _ _ e => e.elim
          cases fl with
          | next => exact hq
          | cont => exact hq
          | brk =>
            obtain ⟨g₈, h₈, tk₈, m₈, S₈, v₈, rfl, F₈, kx, q1, q2, q3, q4⟩ := hq
            exact fin g₈ h₈ tk₈ m₈ S₈ v₈ F₈ kx q1 q2 q3 q4
          | ret v => exact hq.elim
      · simp only [hjc, decide_false, Bool.false_eq_true, if_false]
        refine wpAny_execs_nil ?_
        dsimp only
        have e : srLoop I.nxt col k y found (i, j) = (found, y) := by
          cases k with
          | zero => rfl
          | succ k => rw [srLoop, if_neg (fun q => hjc q.2)]
        rw [e] at hgoal
        exact fin g' h' _ m S' vf F' kk m4 (by rw [← hgoal]; exact hO') (by rw [← hgoal]; exact hV') (by rw [← hgoal]; exact hHf)
    · simp only [hic, decide_false, Bool.false_eq_true, if_false]
      refine wpAny_execs_nil ?_
      dsimp only
      have e : srLoop I.nxt col k y found (i, j) = (found, y) := by
        cases k with
        | zero => rfl
        | succ k => rw [srLoop, if_neg (fun q => hic q.1)]
      rw [e] at hgoal
      exact fin g' h' _ m S' vf F' kk m4 (by rw [← hgoal]; exact hO') (by rw [← hgoal]; exact hV') (by rw [← hgoal]; exact hHf)
end
end Mine

end
section
namespace Mine
/-! ### The heap functions are right -/
section
variable {β : Type} {lt : β → β → Bool}
def LeB (lt : β → β → Bool) (a b : β) : Prop := lt b a = false
structure Ord (lt : β → β → Bool) : Prop where
  asymm : ∀ {a b}, lt a b = true → lt b a = false
  trans : ∀ {a b c}, LeB lt a b → LeB lt b c → LeB lt a c
theorem Ord.refl (O : Ord lt) (a : β) : LeB lt a a := by
  unfold LeB
  cases h : lt a a with
  | false => rfl
  | true => rw [← h]; exact O.asymm h
def HeapFrom (lt : β → β → Bool) (st : Nat) (l : List β) : Prop := ∀ i x y, 0 < i → st ≤ (i - 1) / 2 → l[(i - 1) / 2]? = some x → l[i]? = some y → LeB lt x y
def Hole (lt : β → β → Bool) (st p : Nat) (l : List β) : Prop := ∀ i x y, 0 < i → st ≤ (i - 1) / 2 → i ≠ p → (i - 1) / 2 ≠ p → l[(i - 1) / 2]? = some x → l[i]? = some y → LeB lt x y
def UpOk (lt : β → β → Bool) (p : Nat) (l : List β) : Prop := ∀ i x y, 0 < i → (i - 1) / 2 = p → l[(p - 1) / 2]? = some x → l[i]? = some y → LeB lt x y
inductive Sub (st : Nat) : Nat → Prop
  | refl : Sub st st
  | step (p : Nat) : 0 < p → Sub st ((p - 1) / 2) → Sub st p
theorem Sub.le {st p : Nat} (h : Sub st p) : st ≤ p := by
  induction h with
  | refl => exact Nat.le_refl _
  | step p h0 _ ih => omega
theorem Sub.up {st p : Nat} (h : Sub st p) (hp : st < p) : Sub st ((p - 1) / 2) := by
  cases h with
  | refl => omega
  | step _ _ h => exact h
theorem Sub.zero : ∀ (p : Nat), Sub 0 p := by
  intro p
  induction p using Nat.strongRecOn with
  | _ p ih =>
    by_cases h : p = 0
    · subst h; exact .refl
    · exact .step p (by omega) (ih _ (by omega))

theorem sd_heap (O : Ord lt) (st : Nat) (x : β) : ∀ (n : Nat) (l : List β) (p : Nat), p = n → Sub st p → p < l.length → Hole lt st p l → (∀ i y, 0 < i → (i - 1) / 2 = p → l[i]? = some y → LeB lt x y) → (st < p → UpOk lt p l) → HeapFrom lt st (sdLoop lt st x l p) := by
  intro n
  induction n using Nat.strongRecOn with
  | _ n ih =>
    intro l p hn hsub hpl hH hC hU
    -- placing x at p
    have place : (∀ y, 0 < p → st ≤ (p - 1) / 2 → l[(p - 1) / 2]? = some y → LeB lt y x) → HeapFrom lt st (l.set p x) := by
      intro hpar i a b hi hst ha hb
      rw [List.getElem?_set] at ha hb
      by_cases h1 : p = i
      · subst h1
        rw [if_pos rfl, if_pos hpl] at hb
        rw [if_neg (by omega)] at ha
        cases hb
        exact hpar a hi hst ha
      · rw [if_neg h1] at hb
        by_cases h2 : p = (i - 1) / 2
        · rw [if_pos h2, if_pos hpl] at ha
          cases ha
          exact hC i b hi h2.symm hb
        · rw [if_neg h2] at ha
          exact hH i a b hi hst (Ne.symm h1) (Ne.symm h2) ha hb
    rw [sdLoop]
    by_cases hlt : st < p
    · simp only [hlt, dite_true]
      obtain ⟨q, hq⟩ : ∃ q, l[(p - 1) / 2]? = some q := ⟨_, List.getElem?_eq_getElem (by omega)⟩
      rw [hq]
      dsimp only
      have hsq := hsub.up hlt
      have hsq' := hsq.le
      by_cases hc : lt x q = true
      · rw [if_pos hc]
        have hxq : LeB lt x q := O.asymm hc
        refine ih ((p - 1) / 2) (by omega) _ _ rfl hsq (by simp; omega) ?_ ?_ ?_
        · intro i a b hi hst h1 h2 ha hb
          rw [List.getElem?_set] at ha hb
          rw [if_neg (show p ≠ i from fun e => h2 (by rw [e]))] at hb
          by_cases h3 : p = (i - 1) / 2
          · rw [if_pos h3, if_pos hpl] at ha
            cases ha
            exact hU hlt i q b hi h3.symm hq hb
          · rw [if_neg h3] at ha
            exact hH i a b hi hst (fun e => h2 (by rw [e])) (Ne.symm h3) ha hb
        · intro i b hi h1 hb
          rw [List.getElem?_set] at hb
          by_cases h3 : p = i
          · rw [if_pos h3, if_pos hpl] at hb
            cases hb; exact hxq
          · rw [if_neg h3] at hb
            exact O.trans hxq (hH i q b hi (by omega) (Ne.symm h3) (by omega) (by rw [h1]; exact hq) hb)
        · intro hlt2 i a b hi h1 ha hb
          rw [List.getElem?_set] at ha hb
          rw [if_neg (by omega)] at ha
          have hsr := (hsq.up hlt2).le
          have haq : LeB lt a q := hH ((p - 1) / 2) a q (by omega) hsr (by omega) (by omega) ha hq
          by_cases h3 : p = i
          · rw [if_pos h3, if_pos hpl] at hb
            cases hb; exact haq
          · rw [if_neg h3] at hb
            exact O.trans haq (hH i q b hi (by omega) (Ne.symm h3) (by omega) (by rw [h1]; exact hq) hb)
      · rw [if_neg hc]
        refine place fun y _ _ hy => ?_
        rw [hq] at hy
        cases hy
        exact eq_false_of_ne_true hc
    · simp only [hlt, dite_false]
      have := hsub.le
      exact place fun y h0 h1 _ => absurd h1 (by omega)
theorem sd_perm (st : Nat) (x : β) : ∀ (n : Nat) (l : List β) (p : Nat), p = n → p < l.length → (sdLoop lt st x l p).Perm (l.set p x) := by
  intro n
  induction n using Nat.strongRecOn with
  | _ n ih =>
    intro l p hn hp
    rw [sdLoop]
    by_cases hlt : st < p
    · simp only [hlt, dite_true]
      have hq' : (p - 1) / 2 < l.length := by omega
      rw [List.getElem?_eq_getElem hq']
      dsimp only
      split
      · refine (ih ((p - 1) / 2) (by omega) _ _ rfl (by simp; omega)).trans ?_
        have := List.set_set_perm (as := l.set p x) (i := p) (j := (p - 1) / 2) (by simpa using hp) (by simpa using hq')
        rw [List.getElem_set_self, List.getElem_set_ne (by omega), List.set_set] at this
        exact this
      · exact .refl _
    · simp only [hlt, dite_false]
      exact .refl _
theorem siftdown_perm (l : List β) (st p : Nat) : (siftdown lt l st p).Perm l := by
  unfold siftdown
  rcases h : l[p]? with _ | x
  · exact .refl _
  · obtain ⟨hp, e⟩ := List.getElem?_eq_some_iff.mp h
    refine (sd_perm st x p l p rfl hp).trans ?_
    rw [← e, List.set_getElem_self]

theorem child_le (O : Ord lt) {l : List β} {p : Nat} : ∀ i y z, 0 < i → (i - 1) / 2 = p → l[i]? = some y → l[child lt l p]? = some z → LeB lt z y := by
  intro i y z hi hip hy hz
  unfold child at hz
  have hi' : i = 2 * p + 1 ∨ i = 2 * p + 2 := by omega
  rcases h1 : l[2 * p + 1]? with _ | a
  · rcases hi' with rfl | rfl
    · rw [h1] at hy; cases hy
    · have := (List.getElem?_eq_some_iff.mp hy).1
      have := List.getElem?_eq_none_iff.mp h1
      omega
  · rcases h2 : l[2 * p + 2]? with _ | b
    · rw [h1, h2] at hz
      dsimp only at hz
      rcases hi' with rfl | rfl
      · rw [hz] at hy; cases hy; exact O.refl _
      · rw [h2] at hy; cases hy
    · rw [h1, h2] at hz
      dsimp only at hz
      by_cases hc : lt a b = true
      · rw [if_pos hc, h1] at hz
        cases hz
        rcases hi' with rfl | rfl
        · rw [h1] at hy; cases hy; exact O.refl _
        · rw [h2] at hy; cases hy; exact O.asymm hc
      · rw [if_neg hc, h2] at hz
        cases hz
        rcases hi' with rfl | rfl
        · rw [h1] at hy; cases hy; exact eq_false_of_ne_true hc
        · rw [h2] at hy; cases hy; exact O.refl _
theorem su_heap (O : Ord lt) (st : Nat) : ∀ (n : Nat) (l : List β) (p : Nat), l.length - p = n → Sub st p → p < l.length → Hole lt st p l → (st < p → UpOk lt p l) →
    Sub st (suLoop lt l p).2 ∧ (suLoop lt l p).2 < (suLoop lt l p).1.length ∧ Hole lt st (suLoop lt l p).2 (suLoop lt l p).1 ∧ (suLoop lt l p).1.length ≤ 2 * (suLoop lt l p).2 + 1 := by
  intro n
  induction n using Nat.strongRecOn with
  | _ n ih =>
    intro l p hn hsub hpl hH hU
    rw [suLoop]
    have hcg := child_gt lt l p
    have hcc := child_cases lt l p
    by_cases hc : child lt l p < l.length
    · simp only [hc, dite_true]
      generalize hcd : child lt l p = c at hc hcg hcc
      have hgc : l[c]? = some l[c] := List.getElem?_eq_getElem hc
      have hcl : ∀ i y, 0 < i → (i - 1) / 2 = p → l[i]? = some y → LeB lt l[c] y := fun i y hi hip hy => child_le O i y _ hi hip hy (by rw [hcd]; exact hgc)
      refine ih _ ?_ _ c rfl (.step c (by omega) (by rw [show (c - 1) / 2 = p by omega]; exact hsub)) (by simpa using hc) ?_ ?_
      · simp; omega
      · intro i a b hi hst h1 h2 ha hb
        rw [List.getElem?_set] at ha hb
        by_cases h3 : p = i
        · rw [if_pos h3, if_pos hpl] at hb
          cases hb
          subst h3
          rw [if_neg (by omega)] at ha
          have : st < p := by omega
          exact hU this c a l[c] (by omega) (by omega) ha hgc
        · rw [if_neg h3] at hb
          by_cases h4 : p = (i - 1) / 2
          · rw [if_pos h4, if_pos hpl] at ha
            cases ha
            exact hcl i b hi h4.symm hb
          · rw [if_neg h4] at ha
            exact hH i a b hi hst (Ne.symm h3) (Ne.symm h4) ha hb
      · intro _ i a b hi h1 ha hb
        rw [List.getElem?_set] at ha hb
        rw [if_pos (by omega), if_pos hpl] at ha
        rw [if_neg (by omega)] at hb
        cases ha
        exact hH i l[c] b hi (by have := hsub.le; omega) (by omega) (by omega) (by rw [h1]; exact hgc) hb
    · simp only [hc, dite_false]
      refine ⟨hsub, hpl, hH, ?_⟩
      rcases Nat.lt_or_ge (2 * p + 2) l.length with h2 | h2
      · omega
      · by_cases h3 : 2 * p + 1 < l.length
        · rcases hcc with h | h
          · omega
          · unfold child at h
            rw [List.getElem?_eq_none (show l.length ≤ 2 * p + 2 from h2)] at h
            split at h
            · rename_i h5; cases h5
            · omega
        · omega
theorem su_perm (x : β) : ∀ (n : Nat) (l : List β) (p : Nat), l.length - p = n → p < l.length → ((suLoop lt l p).1.set (suLoop lt l p).2 x).Perm (l.set p x) := by
  intro n
  induction n using Nat.strongRecOn with
  | _ n ih =>
    intro l p hn hp
    rw [suLoop]
    have hcg := child_gt lt l p
    by_cases hc : child lt l p < l.length
    · simp only [hc, dite_true]
      refine (ih _ ?_ (l.set p l[child lt l p]) (child lt l p) rfl (by simpa using hc)).trans ?_
      · simp; omega
      · have := List.set_set_perm (as := l.set p x) (i := p) (j := child lt l p) (by simpa using hp) (by simpa using hc)
        rw [List.getElem_set_self, List.getElem_set_ne (by omega), List.set_set] at this
        exact this
    · simp only [hc, dite_false]
      exact .refl _
theorem siftup_perm (l : List β) (p : Nat) : (siftup lt l p).Perm l := by
  unfold siftup
  rcases h : l[p]? with _ | x
  · exact .refl _
  · obtain ⟨hp, e⟩ := List.getElem?_eq_some_iff.mp h
    refine (siftdown_perm _ _ _).trans ((su_perm x _ l p rfl hp).trans ?_)
    rw [← e, List.set_getElem_self]
theorem siftup_heap (O : Ord lt) {l : List β} {p : Nat} (hp : p < l.length) (h : HeapFrom lt (p + 1) l) : HeapFrom lt p (siftup lt l p) := by
  have hx : l[p]? = some l[p] := List.getElem?_eq_getElem hp
  unfold siftup
  rw [hx]
  dsimp only
  obtain ⟨a1, a2, a3, a4⟩ := su_heap O p _ l p rfl .refl hp (fun i a b hi hst h1 h2 ha hb => h i a b hi (by omega) ha hb) (fun h => absurd h (Nat.lt_irrefl _))
  generalize suLoop lt l p = r at a1 a2 a3 a4
  obtain ⟨l', q⟩ := r
  dsimp only at a1 a2 a3 a4 ⊢
  have hg : (l'.set q l[p])[q]? = some l[p] := by rw [List.getElem?_set, if_pos rfl, if_pos a2]
  unfold siftdown
  rw [hg]
  dsimp only
  refine sd_heap O p l[p] q _ q rfl a1 (by simpa using a2) ?_ ?_ ?_
  · intro i a b hi hst h1 h2 ha hb
    rw [List.getElem?_set, if_neg (Ne.symm h2)] at ha
    rw [List.getElem?_set, if_neg (Ne.symm h1)] at hb
    exact a3 i a b hi hst h1 h2 ha hb
  · intro i y hi h1 hy
    have := (List.getElem?_eq_some_iff.mp hy).1
    simp at this
    omega
  · intro _ i a b hi h1 _ hb
    have := (List.getElem?_eq_some_iff.mp hb).1
    simp at this
    omega
theorem hify_perm : ∀ (k : Nat) (l : List β), (hify lt l k).Perm l
  | 0, _ => .refl _
  | k + 1, l => (hify_perm k _).trans (siftup_perm l k)
theorem heapifyF_perm (l : List β) : (heapifyF lt l).Perm l := hify_perm _ _
theorem hify_heap (O : Ord lt) : ∀ (k : Nat) (l : List β), k ≤ l.length / 2 → HeapFrom lt k l → HeapFrom lt 0 (hify lt l k)
  | 0, _, _, h => h
  | k + 1, l, hk, h => hify_heap O k _ (by rw [siftup_length]; omega) (siftup_heap O (by omega) h)
theorem heapifyF_heap (O : Ord lt) (l : List β) : HeapFrom lt 0 (heapifyF lt l) := by
  refine hify_heap O _ _ (Nat.le_refl _) fun i x y hi hst _ hy => ?_
  have := (List.getElem?_eq_some_iff.mp hy).1
  omega
theorem heap_min (O : Ord lt) {l : List β} {x : β} (h : HeapFrom lt 0 l) (hx : l[0]? = some x) : ∀ (i : Nat) (y : β), l[i]? = some y → LeB lt x y := by
  intro i
  induction i using Nat.strongRecOn with
  | _ i ih =>
    intro y hy
    by_cases hi : i = 0
    · subst hi; rw [hx] at hy; cases hy; exact O.refl _
    · have hl := (List.getElem?_eq_some_iff.mp hy).1
      have hp : l[(i - 1) / 2]? = some (l[(i - 1) / 2]'(by omega)) := List.getElem?_eq_getElem _
      exact O.trans (ih ((i - 1) / 2) (by omega) _ hp) (h i _ y (by omega) (Nat.zero_le _) hp hy)
theorem hpop_head (l : List β) (h : l ≠ []) : (hpop lt l h).1 = l.head h := by
  have hl := List.dropLast_concat_getLast h
  unfold hpop
  rcases hd : l.dropLast with _ | ⟨y, r⟩
  · rw [hd] at hl
    dsimp only
    generalize l.getLast h = z at hl
    subst hl; rfl
  · rw [hd] at hl
    dsimp only
    generalize l.getLast h = z at hl
    subst hl; rfl
theorem hpop_perm (l : List β) (h : l ≠ []) : ((hpop lt l h).1 :: (hpop lt l h).2).Perm l := by
  have hl := List.dropLast_concat_getLast h
  unfold hpop
  rcases hd : l.dropLast with _ | ⟨y, r⟩
  · rw [hd] at hl
    dsimp only
    generalize l.getLast h = z at hl
    subst hl; exact .refl _
  · rw [hd] at hl
    dsimp only
    refine ((siftup_perm _ _).cons _).trans ?_
    generalize l.getLast h = z at hl
    subst hl
    exact (List.perm_append_comm (l₁ := [z]) (l₂ := r)).cons y
theorem hpop_heap (O : Ord lt) {l : List β} (h : l ≠ []) (hp : HeapFrom lt 0 l) : HeapFrom lt 0 (hpop lt l h).2 := by
  have hl := List.dropLast_concat_getLast h
  unfold hpop
  rcases hd : l.dropLast with _ | ⟨y, r⟩
  · intro i x y _ _ hx _; simp at hx
  · dsimp only
    refine siftup_heap O (by simp) fun i a b hi hst ha hb => ?_
    rw [hd] at hl
    have key : ∀ j v, 0 < j → (l.getLast h :: r)[j]? = some v → l[j]? = some v := fun j v hj hv => by
      obtain ⟨k, rfl⟩ : ∃ k, j = k + 1 := ⟨j - 1, by omega⟩
      rw [← hl]
      simp only [List.getElem?_cons_succ, List.cons_append] at hv ⊢
      rw [List.getElem?_append_left (List.getElem?_eq_some_iff.mp hv).1]
      exact hv
    exact hp i a b hi (Nat.zero_le _) (key _ _ (by omega) ha) (key _ _ hi hb)
theorem hpush_perm (l : List β) (x : β) : (hpush lt l x).Perm (x :: l) := (siftdown_perm _ _ _).trans (List.perm_append_comm (l₁ := l) (l₂ := [x]))
theorem hpush_heap (O : Ord lt) {l : List β} {x : β} (h : HeapFrom lt 0 l) : HeapFrom lt 0 (hpush lt l x) := by
  have hx : (l ++ [x])[l.length]? = some x := by simp
  unfold hpush siftdown
  rw [hx]
  dsimp only
  refine sd_heap O 0 x _ _ _ rfl (Sub.zero _) (by simp) ?_ ?_ ?_
  · intro i a b hi hst h1 h2 ha hb
    have hi' := (List.getElem?_eq_some_iff.mp hb).1
    simp at hi'
    rw [List.getElem?_append_left (by omega)] at ha hb
    exact h i a b hi hst ha hb
  · intro i y hi h1 hy
    have := (List.getElem?_eq_some_iff.mp hy).1
    simp at this
    omega
  · intro _ i a b hi h1 _ hb
    have := (List.getElem?_eq_some_iff.mp hb).1
    simp at this
    omega
end
end Mine

end
section
namespace Mine
/-! ### What law 2 computes -/
def splt (p q : List Nat × Int) : Bool := if p.1 == q.1 then (if p.2 == q.2 then false else decide (p.2 < q.2)) else decide (p.1 < q.1)
def slt (a b : List Nat) : Bool := decide (a < b)
def letterF (x : Int) : Nat := 97 + ((((x.fmod 156).fdiv 2).fmod (if (x.fmod 156).fmod 2 = 0 then 26 else 3))).toNat
def lineF (ns : List Int) : List Nat := if ns = [] then [98, 97, 110, 97, 110, 97] else (ns.take 8).map letterF
def tailsF (u : List Nat) : List (List Nat × Int) := (List.range u.length).map fun i => (u.drop i, (i : Int))
def cutsL (heap : List (List Nat × Int)) (cuts : List Int) : List Int :=
  if h : heap = [] then cuts
  else cutsL (hpop splt heap h).2 (if (hpop splt heap h).1.2 < cuts.getLastD 0 then cuts ++ [(hpop splt heap h).1.2] else cuts)
termination_by heap.length
decreasing_by (have := hpop_length splt heap h; omega)
def cutsF (u : List Nat) : List Int := cutsL (heapifyF splt (tailsF u)) [(u.length : Int)]
def primeF (w : List Nat) : Bool := ((List.range (w.length - 1)).filter fun k => !decide (w < w.drop (k + 1))).isEmpty
def behF (u : List Nat) (first : Nat) : Nat → Nat
  | 0 => 0
  | e + 1 => if first < e + 1 ∧ primeF ((u.drop first).take (e + 1 - first)) = false then behF u first e else e + 1
def nxt2 (u : List Nat) (_ : Unit) (p : Int) : Option (Int × Int) × Unit := if (behF u p.toNat u.length : Int) ≤ p then (none, ()) else (some (p, (behF u p.toNat u.length : Int)), ())
def knownC (cuts : List Int) (col : Int) : List Int := cuts.filter fun c => decide (c ≤ col)
def wordAt (u : List Nat) (b a : Int) : List Nat := (u.drop b.toNat).take (a.toNat - b.toNat)
def wordsF (u : List Nat) (cuts : List Int) (k : Nat) : List (List Nat) :=
  (List.range k).flatMap fun (col : Nat) => if (col : Int) ∈ cuts.dropLast then [wordAt u ((knownC cuts col).getD 1 0) col] else []
def popsF (heap : List (List Nat)) : List (List Nat) :=
  if h : heap = [] then []
  else (hpop slt heap h).1 :: popsF (hpop slt heap h).2
termination_by heap.length
decreasing_by (have := hpop_length slt heap h; omega)
structure Law2Ok (u : List Nat) : Prop where
  bnd : ∀ c ∈ cutsF u, 0 ≤ c ∧ c ≤ u.length
  len : (cutsF u).length ≤ u.length + 1
  ne : cutsF u ≠ []
  told : ∀ col : Nat, col ≤ u.length → (srF (nxt2 u) col ()).1 = match knownC (cutsF u) col with | a :: b :: _ => some (b, a) | _ => none
  two : ∀ col : Nat, col ≤ u.length → (col : Int) ∈ (cutsF u).dropLast → ∃ b r, knownC (cutsF u) col = (col : Int) :: b :: r ∧ 0 ≤ b ∧ b ≤ col
  words : popsF ((wordsF u (cutsF u) (u.length + 1)).foldl (hpush slt) []) = (wordsF u (cutsF u) (u.length + 1)).reverse
end Mine

end
section
namespace Mine
/-! ### Prime words (Chen, Fox, Lyndon), plain -/
theorem ll_cons {a b : Nat} {r t : List Nat} : a :: r < b :: t ↔ a < b ∨ (a = b ∧ r < t) := List.cons_lt_cons_iff
theorem ll_nil {r : List Nat} : ¬ r < [] := by intro h; cases h
theorem ll_nil_cons (b : Nat) (t : List Nat) : ([] : List Nat) < b :: t := List.nil_lt_cons ..
theorem ll_irrefl : ∀ (a : List Nat), ¬ a < a
  | [] => ll_nil
  | x :: r => fun h => by
    rcases ll_cons.mp h with h | h
    · omega
    · exact ll_irrefl r h.2
theorem ll_trans : ∀ {a b c : List Nat}, a < b → b < c → a < c
  | _, [], _, h, _ => absurd h ll_nil
  | _, _ :: _, [], _, h => absurd h ll_nil
  | [], _ :: _, z :: t, _, _ => ll_nil_cons z t
  | x :: r, y :: q, z :: t, h1, h2 => by
    rw [ll_cons] at h1 h2 ⊢
    rcases h1 with h1 | ⟨h1, h1'⟩ <;> rcases h2 with h2 | ⟨h2, h2'⟩
    · exact .inl (by omega)
    · exact .inl (by omega)
    · exact .inl (by omega)
    · exact .inr ⟨by omega, ll_trans h1' h2'⟩
theorem ll_asymm {a b : List Nat} (h : a < b) : ¬ b < a := fun h2 => ll_irrefl a (ll_trans h h2)
theorem ll_tri : ∀ (a b : List Nat), a < b ∨ a = b ∨ b < a
  | [], [] => .inr (.inl rfl)
  | [], y :: q => .inl (ll_nil_cons y q)
  | x :: r, [] => .inr (.inr (ll_nil_cons x r))
  | x :: r, y :: q => by
    rw [ll_cons, ll_cons]
    rcases Nat.lt_trichotomy x y with h | h | h
    · exact .inl (.inl h)
    · subst h
      rcases ll_tri r q with h | h | h
      · exact .inl (.inr ⟨rfl, h⟩)
      · exact .inr (.inl (by rw [h]))
      · exact .inr (.inr (.inr ⟨rfl, h⟩))
    · exact .inr (.inr (.inl h))
theorem ll_of_not {a b : List Nat} (h : ¬ a < b) (hl : a.length ≠ b.length) : b < a := by
  rcases ll_tri a b with h1 | h1 | h1
  · exact absurd h1 h
  · exact absurd (by rw [h1]) hl
  · exact h1
theorem ll_pre : ∀ (p : List Nat) {a b : List Nat}, p ++ a < p ++ b ↔ a < b
  | [], _, _ => Iff.rfl
  | x :: p, a, b => by
    rw [List.cons_append, List.cons_append, ll_cons, ll_pre p]
    constructor
    · intro h
      rcases h with h | h
      · omega
      · exact h.2
    · intro h; exact .inr ⟨rfl, h⟩
theorem ll_take : ∀ {m m' : Nat} {a b : List Nat}, ¬ b < a → m ≤ m' → ¬ b.take m' < a.take m
  | 0, _, a, b, _, _ => by rw [List.take_zero]; exact ll_nil
  | m + 1, m' + 1, [], b, _, _ => by rw [List.take_nil]; exact ll_nil
  | m + 1, m' + 1, x :: r, [], h, _ => absurd (ll_nil_cons x r) h
  | m + 1, m' + 1, x :: r, y :: t, h, hm => by
    rw [List.take_succ_cons, List.take_succ_cons]
    rw [ll_cons] at h ⊢
    intro hq
    rcases hq with hq | hq
    · exact h (.inl hq)
    · exact ll_take (fun h3 => h (.inr ⟨hq.1, h3⟩)) (by omega) hq.2
theorem ll_cases : ∀ {x w : List Nat}, x < w → (∃ v, v ≠ [] ∧ w = x ++ v) ∨ ∀ T T' : List Nat, x ++ T < w ++ T'
  | _, [], h => absurd h ll_nil
  | [], y :: t, _ => .inl ⟨y :: t, by simp, rfl⟩
  | a :: r, b :: t, h => by
    rcases ll_cons.mp h with h | ⟨h, h'⟩
    · exact .inr fun T T' => by rw [List.cons_append, List.cons_append, ll_cons]; exact .inl h
    · subst h
      rcases ll_cases h' with ⟨v, hv, e⟩ | h2
      · exact .inl ⟨v, hv, by rw [e]; rfl⟩
      · exact .inr fun T T' => by rw [List.cons_append, List.cons_append, ll_cons]; exact .inr ⟨rfl, h2 T T'⟩

/-- a cut: less than all tails ahead of it -/
def Rec (u : List Nat) (i : Nat) : Prop := i ≤ u.length ∧ ∀ j, j < i → u.drop i < u.drop j
structure Next (u : List Nat) (d d' : Nat) : Prop where
  r : Rec u d
  r' : Rec u d'
  lt : d < d'
  no : ∀ i, d < i → i < d' → ¬ Rec u i
theorem drop_len (u : List Nat) (i : Nat) : (u.drop i).length = u.length - i := List.length_drop ..
theorem Next.inner {u : List Nat} {d d' : Nat} (N : Next u d d') : ∀ (i : Nat), d < i → i < d' → u.drop d < u.drop i := by
  intro i
  induction i using Nat.strongRecOn with
  | _ i ih =>
    intro h1 h2
    have hn := N.no i h1 h2
    have hle : i ≤ u.length := Nat.le_trans (Nat.le_of_lt h2) N.r'.1
    obtain ⟨j, hj, hjj⟩ : ∃ j, j < i ∧ ¬ u.drop i < u.drop j := by
      by_cases hq : ∃ j, j < i ∧ ¬ u.drop i < u.drop j
      · exact hq
      · refine absurd ⟨hle, fun j hj => ?_⟩ hn
        by_cases h3 : u.drop i < u.drop j
        · exact h3
        · exact absurd ⟨j, hj, h3⟩ hq
    have hji : u.drop j < u.drop i := ll_of_not hjj (by rw [drop_len, drop_len]; omega)
    rcases Nat.lt_trichotomy j d with h | h | h
    · exact ll_trans (N.r.2 j h) hji
    · rw [h] at hji; exact hji
    · exact ll_trans (ih j hj h (by omega)) hji
theorem drop_split {u : List Nat} {d d' : Nat} (h : d ≤ d') : u.drop d = (u.drop d).take (d' - d) ++ u.drop d' := by
  have e : u.drop d' = (u.drop d).drop (d' - d) := by rw [List.drop_drop]; congr 1; omega
  rw [e, List.take_append_drop]
theorem Next.prime {u : List Nat} {d d' : Nat} (N : Next u d d') {k : Nat} (hk : 1 ≤ k) (hk2 : k < d' - d) : (u.drop d).take (d' - d) < ((u.drop d).take (d' - d)).drop k := by
  have hw : ((u.drop d).take (d' - d)).length = d' - d := by rw [List.length_take, drop_len]; have := N.r'.1; omega
  have hs := drop_split (u := u) (Nat.le_of_lt N.lt)
  generalize (u.drop d).take (d' - d) = w at hw hs
  have hsk : u.drop (d + k) = w.drop k ++ u.drop d' := by
    have e : u.drop (d + k) = (u.drop d).drop k := by rw [List.drop_drop]
    rw [e, hs, List.drop_append_of_le_length (by omega)]
  have hin := N.inner (d + k) (by omega) (by omega)
  by_cases hq : w < w.drop k
  · exact hq
  · have hlt := ll_of_not hq (by rw [drop_len]; omega)
    rcases ll_cases hlt with ⟨v, hv, e⟩ | h2
    · rw [hsk, hs] at hin
      have hvl : v.length = k := by
        have := congrArg List.length e
        rw [List.length_append, drop_len] at this
        omega
      have e2 : w ++ u.drop d' = w.drop k ++ (v ++ u.drop d') := by
        rw [← List.append_assoc]
        congr 1
      rw [e2, ll_pre] at hin
      have e3 : u.drop (d' - k) = v ++ u.drop d' := by
        have e4 : u.drop (d' - k) = (u.drop d).drop (w.length - k) := by rw [List.drop_drop]; congr 1; omega
        have e5 : (w.drop k).length = w.length - k := drop_len ..
        rw [e4, hs, e2, ← e5, List.drop_left]
      rw [← e3] at hin
      exact absurd hin (ll_asymm (N.r'.2 (d' - k) (by omega)))
    · have h3 := h2 (u.drop d') (u.drop d')
      rw [← hsk, ← hs] at h3
      exact absurd h3 (ll_asymm hin)
theorem Next.longest {u : List Nat} {d d' e : Nat} (N : Next u d d') (he : d' < e) : ¬ (u.drop d).take (e - d) < ((u.drop d).take (e - d)).drop (d' - d) := by
  have hlt := N.lt
  have e1 : ((u.drop d).take (e - d)).drop (d' - d) = (u.drop d').take (e - d') := by
    rw [List.drop_take, List.drop_drop]
    congr 1
    · omega
    · congr 1; omega
  rw [e1]
  exact ll_take (ll_asymm (N.r'.2 d N.lt)) (by omega)
theorem Next.adj {u : List Nat} {b a a' : Nat} (N : Next u b a) (N' : Next u a a') : ¬ (u.drop b).take (a - b) < (u.drop a).take (a' - a) := by
  have hw : ((u.drop b).take (a - b)).length = a - b := by rw [List.length_take, drop_len]; have := N.r'.1; omega
  have hw' : ((u.drop a).take (a' - a)).length = a' - a := by rw [List.length_take, drop_len]; have := N'.r'.1; omega
  have hs := drop_split (u := u) (Nat.le_of_lt N.lt)
  have hs' := drop_split (u := u) (Nat.le_of_lt N'.lt)
  have hlt := N.lt
  have hlt' := N'.lt
  generalize (u.drop b).take (a - b) = w at hw hs
  generalize (u.drop a).take (a' - a) = w' at hw' hs'
  intro h
  have hra := N.r'.2 b N.lt
  rcases ll_cases h with ⟨v, hv, e⟩ | h2
  · have hvl : v.length = (a' - a) - (a - b) := by
      have := congrArg List.length e
      rw [List.length_append] at this
      omega
    have hv0 : 0 < v.length := List.length_pos_iff.mpr hv
    have e1 : u.drop a = w ++ (v ++ u.drop a') := by rw [hs', e, List.append_assoc]
    have hq : w ++ (v ++ u.drop a') < w ++ u.drop a := by rw [← e1, ← hs]; exact hra
    rw [ll_pre] at hq
    have e2 : u.drop (a + (a - b)) = v ++ u.drop a' := by
      have e3 : u.drop (a + (a - b)) = (u.drop a).drop (a - b) := by rw [List.drop_drop]
      rw [e3, e1, ← hw, List.drop_left]
    rw [← e2] at hq
    exact ll_asymm hq (N'.inner _ (by omega) (by omega))
  · have h3 := h2 (u.drop a) (u.drop a')
    rw [← hs, ← hs'] at h3
    exact ll_asymm hra h3
theorem rec_zero (u : List Nat) : Rec u 0 := ⟨Nat.zero_le _, fun j hj => by omega⟩
theorem rec_end (u : List Nat) : Rec u u.length := ⟨Nat.le_refl _, fun j hj => by
  rw [List.drop_length]
  rcases h : u.drop j with _ | ⟨x, r⟩
  · have := drop_len u j
    rw [h] at this
    simp at this
    omega
  · exact ll_nil_cons x r⟩
theorem next_ex {u : List Nat} {d : Nat} (hr : Rec u d) (hd : d < u.length) : ∃ d', Next u d d' := by
  have key : ∀ (k : Nat), (∃ d', Next u d d' ∧ d' ≤ d + k) ∨ ∀ i, d < i → i ≤ d + k → ¬ Rec u i := by
    intro k
    induction k with
    | zero => exact .inr fun i h1 h2 => by omega
    | succ k ih =>
      rcases ih with ⟨d', h1, h2⟩ | h
      · exact .inl ⟨d', h1, by omega⟩
      · by_cases hq : Rec u (d + k + 1)
        · exact .inl ⟨d + k + 1, ⟨hr, hq, by omega, fun i h1 h2 => h i h1 (by omega)⟩, by omega⟩
        · refine .inr fun i h1 h2 => ?_
          by_cases h3 : i = d + k + 1
          · rw [h3]; exact hq
          · exact h i h1 (by omega)
  rcases key (u.length - d) with ⟨d', h, _⟩ | h
  · exact ⟨d', h⟩
  · exact absurd (rec_end u) (h u.length hd (by omega))
end Mine

end
section
namespace Mine
theorem splt_iff {p q : List Nat × Int} : splt p q = true ↔ p.1 < q.1 ∨ (p.1 = q.1 ∧ p.2 < q.2) := by
  unfold splt
  by_cases h1 : p.1 = q.1
  · have e1 : (p.1 == q.1) = true := by simpa using h1
    simp only [e1, if_true]
    have hirr : ¬ p.1 < q.1 := by rw [h1]; exact ll_irrefl _
    by_cases h2 : p.2 = q.2
    · have e2 : (p.2 == q.2) = true := by simpa using h2
      simp only [e2, if_true]
      constructor
      · intro h; cases h
      · intro h
        rcases h with h | h
        · exact absurd h hirr
        · omega
    · have e2 : (p.2 == q.2) = false := by simpa using h2
      simp only [e2, Bool.false_eq_true, if_false, decide_eq_true_eq]
      exact ⟨fun h => .inr ⟨h1, h⟩, fun h => h.elim (fun h => absurd h hirr) (·.2)⟩
  · have e1 : (p.1 == q.1) = false := by simpa using h1
    simp only [e1, Bool.false_eq_true, if_false, decide_eq_true_eq]
    exact ⟨.inl, fun h => h.elim id fun h => absurd h.1 h1⟩
theorem sLe_iff {p q : List Nat × Int} : LeB splt p q ↔ p.1 < q.1 ∨ (p.1 = q.1 ∧ p.2 ≤ q.2) := by
  unfold LeB
  rw [← Bool.not_eq_true, splt_iff]
  constructor
  · intro h
    rcases ll_tri p.1 q.1 with h1 | h1 | h1
    · exact .inl h1
    · exact .inr ⟨h1, by
        by_cases hq : q.2 < p.2
        · exact absurd (.inr ⟨h1.symm, hq⟩) h
        · omega⟩
    · exact absurd (.inl h1) h
  · intro h h'
    rcases h with h | ⟨h, h2⟩ <;> rcases h' with h' | ⟨h', h2'⟩
    · exact ll_asymm h h'
    · rw [h'] at h; exact ll_irrefl _ h
    · rw [h] at h'; exact ll_irrefl _ h'
    · omega
theorem splt_ord : Ord splt where
  asymm := fun {a b} h => by
    have : LeB splt a b := by
      rw [sLe_iff]
      rcases splt_iff.mp h with h | h
      · exact .inl h
      · exact .inr ⟨h.1, by omega⟩
    exact this
  trans := fun {a b c} h1 h2 => by
    rw [sLe_iff] at h1 h2 ⊢
    rcases h1 with h1 | ⟨h1, h1'⟩ <;> rcases h2 with h2 | ⟨h2, h2'⟩
    · exact .inl (ll_trans h1 h2)
    · exact .inl (by rw [← h2]; exact h1)
    · exact .inl (by rw [h1]; exact h2)
    · exact .inr ⟨h1.trans h2, by omega⟩
theorem lLe_iff {a b : List Nat} : LeB slt a b ↔ ¬ b < a := by unfold LeB slt; exact decide_eq_false_iff_not
theorem slt_ord : Ord slt where
  asymm := fun {a b} h => by
    unfold slt at h ⊢
    exact decide_eq_false (ll_asymm (of_decide_eq_true h))
  trans := fun {a b c} h1 h2 => by
    rw [lLe_iff] at h1 h2 ⊢
    intro h3
    rcases ll_tri a b with h | h | h
    · exact h2 (ll_trans h3 h)
    · rw [h] at h3; exact h2 h3
    · exact h1 h
theorem lLe_anti {a b : List Nat} (h1 : LeB slt a b) (h2 : LeB slt b a) : a = b := by
  rw [lLe_iff] at h1 h2
  rcases ll_tri a b with h | h | h
  · exact absurd h h2
  · exact h
  · exact absurd h h1
theorem mem_head' {β : Type} {l : List β} (h : l ≠ []) : l[0]? = some (l.head h) := by
  cases l with
  | nil => exact absurd rfl h
  | cons x r => rfl

/-! ### The cuts -/
theorem last_le : ∀ {c : List Int} {m : Int}, c.Pairwise (· > ·) → c.getLast? = some m → ∀ x ∈ c, m ≤ x
  | [], _, _, h, _, _ => by cases h
  | [a], m, _, h, x, hx => by
    simp at h hx; omega
  | a :: b :: r, m, hp, h, x, hx => by
    rw [List.getLast?_cons_cons] at h
    have hp' := List.pairwise_cons.mp hp
    have ih := last_le hp'.2 h
    rcases List.mem_cons.mp hx with rfl | hx
    · have h1 := ih b (.head _)
      have h2 := hp'.1 b (.head _)
      omega
    · exact ih x hx
theorem lastD_of {c : List Int} {m : Int} (h : c.getLast? = some m) : c.getLastD 0 = m := by
  rw [List.getLastD_eq_getLast?, h]; rfl
theorem cutsL_spec {u : List Nat} : ∀ (k : Nat) (H : List (List Nat × Int)) (cuts : List Int) (m : Nat), H.length = k → HeapFrom splt 0 H → (H.map Prod.snd).Nodup → (∀ q ∈ H, ∃ i : Nat, i < u.length ∧ q = (u.drop i, (i : Int))) →
    cuts.getLast? = some (m : Int) → cuts.Pairwise (· > ·) → (∀ i : Nat, i < m → (u.drop i, (i : Int)) ∈ H) → (∀ q ∈ H, u.drop m < q.1) → (∀ c ∈ cuts, ∃ i : Nat, c = i ∧ i ≤ u.length) →
    (∀ i : Nat, i ≤ u.length → ((i : Int) ∈ cuts ↔ Rec u i ∧ (u.drop i, (i : Int)) ∉ H)) →
    (cutsL H cuts).Pairwise (· > ·) ∧ (cutsL H cuts).getLast? = some 0 ∧ (∀ c ∈ cutsL H cuts, ∃ i : Nat, c = i ∧ i ≤ u.length) ∧ (∀ i : Nat, i ≤ u.length → ((i : Int) ∈ cutsL H cuts ↔ Rec u i)) ∧ (cutsL H cuts).length ≤ cuts.length + k := by
  intro k
  induction k with
  | zero =>
    intro H cuts m hk hh hnd hform hlast hpw hc hd hb he
    have hHe : H = [] := List.length_eq_zero_iff.mp hk
    subst hHe
    rw [cutsL, dif_pos rfl]
    have hm : m = 0 := by
      rcases Nat.eq_zero_or_pos m with h | h
      · exact h
      · have := hc 0 h; cases this
    subst hm
    exact ⟨hpw, hlast, hb, fun i hi => (he i hi).trans ⟨fun h => h.1, fun h => ⟨h, fun q => nomatch q⟩⟩, Nat.le_refl _⟩
  | succ k ih =>
    intro H cuts m hk hh hnd hform hlast hpw hc hd hb he
    have hne : H ≠ [] := fun h => by rw [h] at hk; cases hk
    rw [cutsL, dif_neg hne]
    have hpl := hpop_length splt H hne
    have hpp := hpop_perm (lt := splt) H hne
    have hph := hpop_heap splt_ord hne hh
    have hpm : ∀ x ∈ H, LeB splt (hpop splt H hne).1 x := fun x hm => by
      obtain ⟨i, hi⟩ := List.mem_iff_getElem?.mp hm
      exact heap_min splt_ord hh (by rw [hpop_head]; exact mem_head' hne) i x hi
    generalize hpop splt H hne = pr at hpl hpp hph hpm
    obtain ⟨q, rest⟩ := pr
    dsimp only at hpl hpp hph hpm ⊢
    have hmem : ∀ x, x ∈ H ↔ x = q ∨ x ∈ rest := fun x => by rw [← hpp.mem_iff, List.mem_cons]
    obtain ⟨p, hp, rfl⟩ := hform q ((hmem q).mpr (.inl rfl))
    dsimp only
    have hnd' : (((u.drop p, (p : Int)) :: rest).map Prod.snd).Nodup := ((hpp.map Prod.snd).nodup_iff).mpr hnd
    rw [List.map_cons, List.nodup_cons] at hnd'
    have hpr : ∀ i : Nat, (u.drop i, (i : Int)) ∈ rest → i ≠ p := fun i hi q => by
      subst q
      exact hnd'.1 (List.mem_map.mpr ⟨_, hi, rfl⟩)
    have hform' : ∀ q ∈ rest, ∃ i : Nat, i < u.length ∧ q = (u.drop i, (i : Int)) := fun q hq => hform q ((hmem q).mpr (.inr hq))
    have hmin : ∀ q ∈ rest, u.drop p < q.1 := fun q' hq => by
      have h1 := sLe_iff.mp (hpm q' ((hmem q').mpr (.inr hq)))
      obtain ⟨i, hi, rfl⟩ := hform' q' hq
      rcases h1 with h1 | ⟨h1, _⟩
      · exact h1
      · have h2 := congrArg List.length h1
        have h3 := hpr i hq
        rw [drop_len, drop_len] at h2
        omega
    have hnin : ∀ i : Nat, i ≠ p → ((u.drop i, (i : Int)) ∈ H ↔ (u.drop i, (i : Int)) ∈ rest) := fun i hi => by
      rw [hmem]
      exact ⟨fun h => h.elim (fun h => absurd (by have := congrArg Prod.snd h; dsimp only at this; omega) hi) id, .inr⟩
    rw [lastD_of hlast]
    have hpH : (u.drop p, (p : Int)) ∈ H := (hmem _).mpr (.inl rfl)
    by_cases hc2 : (p : Int) < (m : Int)
    · rw [if_pos hc2]
      have hlastle := last_le hpw hlast
      have hrec : Rec u p := ⟨Nat.le_of_lt hp, fun j hj => by
        have hj2 := hc j (by omega)
        exact hmin _ ((hnin j (by omega)).mp hj2)⟩
      have := ih rest (cuts ++ [(p : Int)]) p (by omega) hph hnd'.2 hform' (by simp) (List.pairwise_append.mpr ⟨hpw, List.pairwise_singleton _ _, fun a ha b hb => by
          have h1 := hlastle a ha
          have h2 : b = (p : Int) := by simpa using hb
          show a > b
          omega⟩) (fun i hi => (hnin i (by omega)).mp (hc i (by omega))) hmin (fun c hc => by
          rcases List.mem_append.mp hc with h | h
          · exact hb c h
          · exact ⟨p, by simpa using h, Nat.le_of_lt hp⟩) (fun i hi => by
          rw [List.mem_append, List.mem_singleton]
          by_cases hip : i = p
          · subst hip
            exact ⟨fun _ => ⟨hrec, fun h => hpr i h rfl⟩, fun _ => .inr rfl⟩
          · rw [he i hi, hnin i hip]
            exact ⟨fun h => h.elim id fun h => absurd (by omega) hip, .inl⟩)
      refine ⟨this.1, this.2.1, this.2.2.1, this.2.2.2.1, ?_⟩
      have h5 := this.2.2.2.2
      simp at h5
      omega
    · rw [if_neg hc2]
      have hpmlt : u.drop m < u.drop p := hd _ hpH
      have hmp : m ≠ p := fun h => by rw [h] at hpmlt; exact ll_irrefl _ hpmlt
      have := ih rest cuts m (by omega) hph hnd'.2 hform' hlast hpw (fun i hi => (hnin i (by omega)).mp (hc i hi)) (fun q hq => hd q ((hmem q).mpr (.inr hq))) hb (fun i hi => by
        by_cases hip : i = p
        · subst hip
          rw [he i hi]
          exact ⟨fun h => absurd hpH h.2, fun h => absurd hpmlt (ll_asymm (h.1.2 m (by omega)))⟩
        · rw [he i hi, hnin i hip])
      exact ⟨this.1, this.2.1, this.2.2.1, this.2.2.2.1, by omega⟩
structure CutsOk (u : List Nat) (c : List Int) : Prop where
  pw : c.Pairwise (· > ·)
  last : c.getLast? = some 0
  nat : ∀ x ∈ c, ∃ i : Nat, x = i ∧ i ≤ u.length
  iff : ∀ i : Nat, i ≤ u.length → ((i : Int) ∈ c ↔ Rec u i)
  len : c.length ≤ u.length + 1
theorem cutsF_ok (u : List Nat) : CutsOk u (cutsF u) := by
  have hp := heapifyF_perm (lt := splt) (tailsF u)
  have hform : ∀ q ∈ heapifyF splt (tailsF u), ∃ i : Nat, i < u.length ∧ q = (u.drop i, (i : Int)) := fun q hq => by
    obtain ⟨i, hi, rfl⟩ := List.mem_map.mp (hp.mem_iff.mp hq)
    exact ⟨i, by simpa using hi, rfl⟩
  have hall : ∀ i : Nat, i < u.length → (u.drop i, (i : Int)) ∈ heapifyF splt (tailsF u) := fun i hi => hp.mem_iff.mpr (List.mem_map.mpr ⟨i, by simpa using hi, rfl⟩)
  have := cutsL_spec (u := u) u.length (heapifyF splt (tailsF u)) [(u.length : Int)] u.length (by rw [hp.length_eq]; simp [tailsF]) (heapifyF_heap splt_ord _) (((hp.map Prod.snd).nodup_iff).mpr (by
      unfold tailsF
      rw [List.map_map]
      refine List.Pairwise.map _ (fun a b (h : a ≠ b) => ?_) (List.nodup_range (n := u.length))
      show (a : Int) ≠ (b : Int)
      omega)) hform rfl (List.pairwise_singleton _ _) hall (fun q hq => by
      obtain ⟨i, hi, rfl⟩ := hform q hq
      exact (rec_end u).2 i hi) (fun c hc => ⟨u.length, by simpa using hc, Nat.le_refl _⟩) (fun i hi => by
      rw [List.mem_singleton]
      constructor
      · intro h
        have h : i = u.length := by omega
        subst h
        exact ⟨rec_end u, fun h => by
          obtain ⟨j, hj, e⟩ := hform _ h
          have := congrArg Prod.snd e
          simp at this
          omega⟩
      · intro h
        rcases Nat.lt_or_ge i u.length with h1 | h1
        · exact absurd (hall i h1) h.2
        · omega)
  exact ⟨this.1, this.2.1, this.2.2.1, this.2.2.2.1, by have := this.2.2.2.2; simp at this; unfold cutsF; omega⟩
end Mine

end
section
namespace Mine
theorem primeF_iff {w : List Nat} : primeF w = true ↔ ∀ k, 1 ≤ k → k < w.length → w < w.drop k := by
  unfold primeF
  rw [List.isEmpty_iff, List.filter_eq_nil_iff]
  constructor
  · intro h k h1 h2
    have := h (k - 1) (by rw [List.mem_range]; omega)
    rw [show k - 1 + 1 = k by omega] at this
    simpa using this
  · intro h k hk
    rw [List.mem_range] at hk
    have := h (k + 1) (by omega) (by omega)
    simpa using this
theorem beh_next {u : List Nat} {d d' : Nat} (N : Next u d d') : ∀ (k : Nat), d' + k ≤ u.length → behF u d (d' + k) = d' := by
  have hlt := N.lt
  intro k
  induction k with
  | zero =>
    intro hk
    obtain ⟨e, rfl⟩ : ∃ e, d' = e + 1 := ⟨d' - 1, by omega⟩
    show behF u d (e + 1) = e + 1
    rw [behF, if_neg]
    intro h
    have : primeF ((u.drop d).take (e + 1 - d)) = true := by
      rw [primeF_iff]
      intro k h1 h2
      rw [List.length_take, drop_len] at h2
      exact N.prime h1 (by omega)
    rw [this] at h
    exact absurd h.2 (by simp)
  | succ k ih =>
    intro hk
    show behF u d (d' + k + 1) = d'
    rw [behF, if_pos, ih (by omega)]
    refine ⟨by omega, ?_⟩
    cases hq : primeF ((u.drop d).take (d' + k + 1 - d)) with
    | false => rfl
    | true =>
      have := primeF_iff.mp hq (d' - d) (by omega) (by rw [List.length_take, drop_len]; omega)
      exact absurd this (N.longest (by omega))
theorem nxt2_next {u : List Nat} {d d' : Nat} (N : Next u d d') : nxt2 u () (d : Nat) = (some ((d : Int), (d' : Int)), ()) := by
  have h := beh_next N (u.length - d') (by have := N.r'.1; omega)
  rw [show d' + (u.length - d') = u.length by have := N.r'.1; omega] at h
  unfold nxt2
  rw [Int.toNat_natCast, h, if_neg (by have := N.lt; omega)]
theorem nxt2_end (u : List Nat) : nxt2 u () (u.length : Nat) = (none, ()) := by
  have h : behF u u.length u.length = u.length := by
    rcases hn : u.length with _ | e
    · rfl
    · rw [behF, if_neg (by omega)]
  unfold nxt2
  rw [Int.toNat_natCast, h, if_pos (Int.le_refl _)]

/-- what search_reverse tells at c -/
def Exp (u : List Nat) (c : Nat) (r : Option (Int × Int)) : Prop :=
  (r = none ∧ ∀ i, 0 < i → i ≤ c → ¬ Rec u i) ∨ ∃ b a : Nat, r = some ((b : Int), (a : Int)) ∧ Next u b a ∧ a ≤ c ∧ ∀ i, a < i → i ≤ c → ¬ Rec u i
theorem told_loop {u : List Nat} {col : Nat} (hcol : col ≤ u.length) : ∀ (fuel d d' : Nat) (found : Option (Int × Int)), Next u d d' → d ≤ col → col - d < fuel → Exp u d found →
    Exp u col (srLoop (nxt2 u) (col : Nat) fuel () found ((d : Int), (d' : Int))).1 := by
  intro fuel
  induction fuel with
  | zero => intro d d' found _ _ h; omega
  | succ fuel ih =>
    intro d d' found N hd hf hE
    have hlt := N.lt
    rw [srLoop]
    by_cases hc : d' ≤ col
    · rw [if_pos (by omega), if_neg (by omega)]
      have hE' : Exp u d' (some ((d : Int), (d' : Int))) := .inr ⟨d, d', rfl, N, Nat.le_refl _, fun i h1 h2 => by omega⟩
      rcases Nat.lt_or_ge d' u.length with h | h
      · obtain ⟨d₂, N₂⟩ := next_ex N.r' h
        rw [nxt2_next N₂]
        exact ih d' d₂ _ N₂ hc (by omega) hE'
      · have e : d' = u.length := by have := N.r'.1; omega
        have e2 : col = d' := by omega
        rw [e, nxt2_end, ← e]
        rw [e2]
        exact hE'
    · rw [if_neg (by omega)]
      have hno : ∀ i, d < i → i ≤ col → ¬ Rec u i := fun i h1 h2 => N.no i h1 (by omega)
      rcases hE with ⟨h1, h2⟩ | ⟨b, a, h1, h2, h3, h4⟩
      · refine .inl ⟨h1, fun i hi hic => ?_⟩
        rcases Nat.lt_or_ge d i with h | h
        · exact hno i h hic
        · exact h2 i hi h
      · refine .inr ⟨b, a, h1, h2, by omega, fun i hi hic => ?_⟩
        rcases Nat.lt_or_ge d i with h | h
        · exact hno i h hic
        · exact h4 i hi h
theorem told_exp {u : List Nat} {col : Nat} (hcol : col ≤ u.length) : Exp u col (srF (nxt2 u) (col : Nat) ()).1 := by
  have hz : Exp u 0 none := .inl ⟨rfl, fun i h1 h2 => by omega⟩
  rcases Nat.eq_zero_or_pos u.length with h | h
  · have e := nxt2_end u
    rw [h] at e
    have e : nxt2 u () 0 = (none, ()) := e
    unfold srF
    rw [e]
    have : col = 0 := by omega
    subst this
    exact hz
  · obtain ⟨d', N⟩ := next_ex (rec_zero u) h
    have e : nxt2 u () 0 = (some (((0 : Nat) : Int), (d' : Int)), ()) := nxt2_next N
    unfold srF
    rw [e]
    exact told_loop hcol _ 0 d' none N (Nat.zero_le _) (by omega) hz

section
variable {u : List Nat} {c : List Int}
theorem known_mem {col x : Int} : x ∈ knownC c col ↔ x ∈ c ∧ x ≤ col := by unfold knownC; rw [List.mem_filter, decide_eq_true_eq]
theorem CutsOk.zero (C : CutsOk u c) : (0 : Int) ∈ c := List.mem_of_getLast? C.last
theorem CutsOk.kpw (C : CutsOk u c) (col : Int) : (knownC c col).Pairwise (· > ·) := C.pw.sublist List.filter_sublist
theorem CutsOk.told (C : CutsOk u c) {col : Nat} (hcol : col ≤ u.length) {r : Option (Int × Int)} (hE : Exp u col r) : r = match knownC c col with | a :: b :: _ => some (b, a) | _ => none := by
  have hk := C.kpw col
  have hm := @known_mem c (col : Int)
  have h0 : (0 : Int) ∈ knownC c col := hm.mpr ⟨C.zero, by omega⟩
  have hrec : ∀ i : Nat, Rec u i → i ≤ col → (i : Int) ∈ knownC c col := fun i hi hic => hm.mpr ⟨(C.iff i (by omega)).mpr hi, by omega⟩
  have hnat : ∀ x ∈ knownC c col, ∃ i : Nat, x = i ∧ i ≤ col ∧ Rec u i := fun x hx => by
    obtain ⟨h1, h2⟩ := hm.mp hx
    obtain ⟨i, rfl, hi⟩ := C.nat x h1
    exact ⟨i, rfl, by omega, (C.iff i hi).mp h1⟩
  generalize knownC c col = K at hk h0 hrec hnat
  rcases K with _ | ⟨a, _ | ⟨b, rest⟩⟩
  · cases h0
  · have ha : a = 0 := (List.mem_singleton.mp h0).symm
    subst ha
    rcases hE with ⟨h1, _⟩ | ⟨b', a', h1, h2, h3, _⟩
    · exact h1
    · have := hrec a' h2.r' h3
      have hlt := h2.lt
      simp at this
      omega
  · dsimp only
    have hp1 := List.pairwise_cons.mp hk
    have hp2 := List.pairwise_cons.mp hp1.2
    obtain ⟨ai, rfl, hai, har⟩ := hnat a (.head _)
    obtain ⟨bi, rfl, hbi, hbr⟩ := hnat b (.tail _ (.head _))
    have hab := hp1.1 _ (.head _)
    rcases hE with ⟨_, h2⟩ | ⟨b', a', h1, h2, h3, h4⟩
    · exact absurd har (h2 ai (by omega) hai)
    · have hlt := h2.lt
      have ha' : a' = ai := by
        have h5 := hrec a' h2.r' h3
        rcases List.mem_cons.mp h5 with h5 | h5
        · omega
        · have h6 := hp1.1 _ h5
          exact absurd har (h4 ai (by omega) hai)
      subst ha'
      have hb' : b' = bi := by
        have h5 := hrec b' h2.r (by omega)
        rcases List.mem_cons.mp h5 with h5 | h5
        · omega
        · rcases List.mem_cons.mp h5 with h5 | h5
          · omega
          · have h6 := hp2.1 _ h5
            exact absurd hbr (h2.no bi (by omega) (by omega))
      subst hb'
      exact h1
theorem CutsOk.drop (C : CutsOk u c) {x : Int} : x ∈ c.dropLast ↔ x ∈ c ∧ x ≠ 0 := by
  have hne : c ≠ [] := fun h => by rw [h] at C; exact nomatch C.last
  have hl : c.getLast hne = 0 := by
    have := C.last
    rw [List.getLast?_eq_some_getLast hne] at this
    simpa using this
  have e := List.dropLast_concat_getLast hne
  have hpw := C.pw
  rw [← e, hl] at hpw
  constructor
  · intro h
    have := (List.pairwise_append.mp hpw).2.2 x h 0 (.head _)
    exact ⟨List.dropLast_subset c h, by omega⟩
  · intro h
    have h1 := h.1
    rw [← e, hl] at h1
    rcases List.mem_append.mp h1 with h1 | h1
    · exact h1
    · exact absurd (by simpa using h1) h.2
theorem CutsOk.two (C : CutsOk u c) {col : Nat} (hm : (col : Int) ∈ c.dropLast) : ∃ b r, knownC c col = (col : Int) :: b :: r ∧ 0 ≤ b ∧ b ≤ col := by
  obtain ⟨h1, h2⟩ := C.drop.mp hm
  have hk := C.kpw col
  have hk0 : (0 : Int) ∈ knownC c col := known_mem.mpr ⟨C.zero, by omega⟩
  have hkc : (col : Int) ∈ knownC c col := known_mem.mpr ⟨h1, by omega⟩
  have hall : ∀ x ∈ knownC c col, 0 ≤ x ∧ x ≤ col := fun x hx => by
    obtain ⟨a, b⟩ := known_mem.mp hx
    obtain ⟨i, rfl, _⟩ := C.nat x a
    exact ⟨by omega, b⟩
  generalize knownC c col = K at hk hk0 hkc hall
  rcases K with _ | ⟨a, _ | ⟨b, rest⟩⟩
  · cases hk0
  · simp at hk0 hkc; omega
  · have hp1 := List.pairwise_cons.mp hk
    have ha := hall a (.head _)
    have ea : a = (col : Int) := by
      rcases List.mem_cons.mp hkc with h | h
      · exact h.symm
      · have := hp1.1 _ h; omega
    subst ea
    have hb := hall b (.tail _ (.head _))
    exact ⟨b, rest, rfl, hb.1, hb.2⟩
def pairsF (u : List Nat) : List Int → List (List Nat)
  | a :: b :: r => wordAt u b a :: pairsF u (b :: r)
  | _ => []
theorem CutsOk.wordsK (C : CutsOk u c) : ∀ (k : Nat), k ≤ u.length → wordsF u c (k + 1) = (pairsF u (knownC c k)).reverse := by
  intro k
  induction k with
  | zero =>
    intro _
    have h1 : ¬ ((0 : Nat) : Int) ∈ c.dropLast := fun h => (C.drop.mp h).2 rfl
    have e1 : wordsF u c 1 = [] := by
      unfold wordsF
      simp only [List.range_one, List.flatMap_cons, List.flatMap_nil, h1, if_false, List.append_nil]
    rw [e1]
    have hk := C.kpw ((0 : Nat) : Int)
    have hall : ∀ x ∈ knownC c ((0 : Nat) : Int), 0 ≤ x ∧ x ≤ 0 := fun x hx => by
      obtain ⟨a, b⟩ := known_mem.mp hx
      obtain ⟨i, rfl, _⟩ := C.nat x a
      exact ⟨by omega, b⟩
    generalize knownC c ((0 : Nat) : Int) = K at hk hall
    rcases K with _ | ⟨a, _ | ⟨b, rest⟩⟩
    · rfl
    · rfl
    · have h3 := (List.pairwise_cons.mp hk).1 _ (.head _)
      have h4 := hall a (.head _)
      have h5 := hall b (.tail _ (.head _))
      omega
  | succ k ih =>
    intro hk
    have ih := ih (by omega)
    have e1 : wordsF u c (k + 1 + 1) = wordsF u c (k + 1) ++ (if ((k + 1 : Nat) : Int) ∈ c.dropLast then [wordAt u ((knownC c ((k + 1 : Nat) : Int)).getD 1 0) ((k + 1 : Nat) : Int)] else []) := by
      unfold wordsF
      rw [List.range_succ (n := k + 1), List.flatMap_append]
      simp only [List.flatMap_cons, List.flatMap_nil, List.append_nil]
    rw [e1, ih]
    by_cases hm : ((k + 1 : Nat) : Int) ∈ c.dropLast
    · rw [if_pos hm]
      obtain ⟨b, r, hK, _, _⟩ := C.two hm
      have hpw := C.kpw ((k + 1 : Nat) : Int)
      have e2 : knownC c (k : Nat) = b :: r := by
        have e3 : knownC c (k : Nat) = (knownC c ((k + 1 : Nat) : Int)).filter fun x => decide (x ≤ ((k : Nat) : Int)) := by
          unfold knownC
          rw [List.filter_filter]
          refine List.filter_congr fun x _ => ?_
          by_cases h : x ≤ (k : Nat)
          · simp only [h, decide_true, Bool.true_and]
            exact (decide_eq_true (by omega)).symm
          · simp only [h, decide_false, Bool.false_and]
        rw [e3, hK]
        rw [hK] at hpw
        have hp1 := List.pairwise_cons.mp hpw
        rw [List.filter_cons, if_neg (by simp; omega)]
        refine List.filter_eq_self.mpr fun x hx => ?_
        have := hp1.1 x hx
        simp; omega
      rw [hK, e2]
      simp only [pairsF, List.reverse_cons]
      rfl
    · rw [if_neg hm, List.append_nil]
      congr 2
      unfold knownC
      refine List.filter_congr fun x hx => ?_
      have hne : x ≠ ((k + 1 : Nat) : Int) := fun h => hm (C.drop.mpr ⟨h ▸ hx, by omega⟩)
      by_cases h : x ≤ (k : Nat)
      · simp only [h, decide_true]
        exact (decide_eq_true (by omega)).symm
      · simp only [h, decide_false]
        exact (decide_eq_false (by omega)).symm
/-- a row of cuts, from the greatest to nought, with no cut between -/
structure Row (u : List Nat) (L : List Int) : Prop where
  pw : L.Pairwise (· > ·)
  nat : ∀ x ∈ L, ∃ i : Nat, x = i ∧ Rec u i
  all : ∀ a r, L = a :: r → ∀ i : Nat, (i : Int) ≤ a → Rec u i → (i : Int) ∈ L
theorem Row.tail {a : Int} {r : List Int} (R : Row u (a :: r)) : Row u r where
  pw := (List.pairwise_cons.mp R.pw).2
  nat := fun x hx => R.nat x (.tail _ hx)
  all := fun b r' e i hi hr => by
    subst e
    have hab := (List.pairwise_cons.mp R.pw).1 b (.head _)
    have := R.all a _ rfl i (by omega) hr
    rcases List.mem_cons.mp this with h | h
    · omega
    · exact h
theorem Row.next {a b : Int} {r : List Int} (R : Row u (a :: b :: r)) : ∃ ai bi : Nat, a = ai ∧ b = bi ∧ Next u bi ai := by
  obtain ⟨ai, rfl, har⟩ := R.nat a (.head _)
  obtain ⟨bi, rfl, hbr⟩ := R.nat b (.tail _ (.head _))
  have hp1 := List.pairwise_cons.mp R.pw
  have hp2 := List.pairwise_cons.mp hp1.2
  have hab := hp1.1 _ (.head _)
  refine ⟨ai, bi, rfl, rfl, hbr, har, by omega, fun i h1 h2 hr => ?_⟩
  have := R.all _ _ rfl i (by omega) hr
  rcases List.mem_cons.mp this with h | h
  · omega
  · rcases List.mem_cons.mp h with h | h
    · omega
    · have := hp2.1 _ h; omega
theorem Row.sorted : ∀ {L : List Int}, Row u L → (pairsF u L).Pairwise (LeB slt)
  | [], _ => .nil
  | [_], _ => .nil
  | [a, b], _ => List.pairwise_singleton _ _
  | a :: b :: c :: r, R => by
    have ih := Row.sorted R.tail
    rw [pairsF]
    refine List.pairwise_cons.mpr ⟨?_, ih⟩
    obtain ⟨ai, bi, rfl, rfl, N⟩ := R.next
    obtain ⟨bi', ci, e, rfl, N'⟩ := R.tail.next
    have e : bi = bi' := by omega
    subst e
    have h1 : LeB slt (wordAt u (bi : Int) (ai : Int)) (wordAt u (ci : Int) (bi : Int)) := lLe_iff.mpr (by
      unfold wordAt
      simp only [Int.toNat_natCast]
      exact N'.adj N)
    rw [pairsF] at ih ⊢
    intro w hw
    rcases List.mem_cons.mp hw with rfl | hw
    · exact h1
    · exact slt_ord.trans h1 ((List.pairwise_cons.mp ih).1 w hw)
end

theorem pops_spec : ∀ (k : Nat) (H : List (List Nat)), H.length = k → HeapFrom slt 0 H → (popsF H).Pairwise (LeB slt) ∧ (popsF H).Perm H := by
  intro k
  induction k with
  | zero =>
    intro H hk _
    have : H = [] := List.length_eq_zero_iff.mp hk
    subst this
    rw [popsF, dif_pos rfl]
    exact ⟨.nil, .refl _⟩
  | succ k ih =>
    intro H hk hh
    have hne : H ≠ [] := fun h => by rw [h] at hk; cases hk
    have hpl := hpop_length slt H hne
    have hpp := hpop_perm (lt := slt) H hne
    obtain ⟨h1, h2⟩ := ih (hpop slt H hne).2 (by omega) (hpop_heap slt_ord hne hh)
    rw [popsF, dif_neg hne]
    refine ⟨List.pairwise_cons.mpr ⟨fun w hw => ?_, h1⟩, (h2.cons _).trans hpp⟩
    have hwH : w ∈ H := hpp.mem_iff.mp (.tail _ (h2.mem_iff.mp hw))
    obtain ⟨i, hi⟩ := List.mem_iff_getElem?.mp hwH
    exact heap_min slt_ord hh (by rw [hpop_head]; exact mem_head' hne) i w hi
theorem fold_spec : ∀ (ws H : List (List Nat)), HeapFrom slt 0 H → HeapFrom slt 0 (ws.foldl (hpush slt) H) ∧ (ws.foldl (hpush slt) H).Perm (ws ++ H)
  | [], _, h => ⟨h, .refl _⟩
  | w :: ws, H, h => by
    obtain ⟨h1, h2⟩ := fold_spec ws (hpush slt H w) (hpush_heap slt_ord h)
    refine ⟨h1, h2.trans ?_⟩
    refine (List.Perm.append_left ws (hpush_perm (lt := slt) H w)).trans ?_
    exact List.perm_middle
theorem law2Ok (u : List Nat) : Law2Ok u := by
  have C := cutsF_ok u
  have hbnd : ∀ c ∈ cutsF u, 0 ≤ c ∧ c ≤ u.length := fun c hc => by
    obtain ⟨i, rfl, hi⟩ := C.nat c hc
    exact ⟨by omega, by omega⟩
  refine ⟨hbnd, C.len, fun h => ?_, fun col hcol => C.told hcol (told_exp hcol), fun col hcol hm => C.two hm, ?_⟩
  · have := C.last
    rw [h] at this; cases this
  · rw [C.wordsK u.length (Nat.le_refl _)]
    have e : knownC (cutsF u) (u.length : Nat) = cutsF u := List.filter_eq_self.mpr fun x hx => by simpa using (hbnd x hx).2
    rw [e, List.reverse_reverse]
    have R : Row u (cutsF u) := ⟨C.pw, fun x hx => by
      obtain ⟨i, rfl, hi⟩ := C.nat x hx
      exact ⟨i, rfl, (C.iff i hi).mp hx⟩, fun a r e i hi hr => (C.iff i hr.1).mpr hr⟩
    obtain ⟨h1, h2⟩ := fold_spec (pairsF u (cutsF u)).reverse [] (fun i a b _ _ ha _ => by simp at ha)
    obtain ⟨h3, h4⟩ := pops_spec _ _ rfl h1
    refine List.Perm.eq_of_pairwise (le := LeB slt) (fun a b _ _ p q => lLe_anti p q) h3 R.sorted ?_
    refine h4.trans (h2.trans ?_)
    rw [List.append_nil]
    exact List.reverse_perm _
end Mine

end
section
set_option linter.unusedVariables false
namespace Mine
/-! ### Texts -/
abbrev txt (l : List Nat) : Str := ⟨l.toArray⟩
theorem txt_beq (a b : List Nat) : (txt a == txt b) = (a == b) := by
  rw [Bool.eq_iff_iff]; simp
def strKd : Kind (List Nat) where
  R := fun _ v l => ∃ t, v = .str (txt l) t
  lt := slt
  stab := fun h _ => h
  cmp := by
    rintro prog w A E s u v x y Q _ ⟨t, rfl⟩ ⟨t', rfl⟩ h
    exact PyProof.Rows.lt_str (by have := h s.toks; exact this)
def spKd : Kind (List Nat × Int) where
  R := fun h v p => ∃ a n t u, v = .ref a ∧ h.get? a = some (tup [.str (txt p.1) t, .int p.2 u] n)
  lt := splt
  stab := by
    rintro h h' v x ⟨a, n, t, u, rfl, e⟩ k
    exact ⟨a, n, t, u, rfl, k _ _ _ e⟩
  cmp := by
    rintro prog w A E s u v x y Q hA ⟨a, n, t1, t2, rfl, e⟩ ⟨b, n', u1, u2, rfl, e'⟩ h
    exact tup2_lt (b1 := x.1 == y.1) hA.units e e' (fun h => PyProof.Rows.eqBool_str (by rw [txt_beq]; exact h)) (fun h => wpAny_eqBool_int h) (fun h => PyProof.Rows.lt_str h) (fun h => lt_int h) (h s.toks)

section
variable {prog : Program} {w : World} {A : Around} {s : Shared} {E : Value → Shared → Prop} {env : Env} {g : Heap} {L : Addr} {m : Str → Option Value} {mu : List (Addr × Obj)}
theorem St.keptH {g : Heap} {L : Addr} {m : Str → Option Value} {mu : List (Addr × Obj)} : KeptH (fun h => St g h L m mu) := fun h ob F => F.all fun b o e => Heap.get?_push_of_some _ e
theorem txt_from {u : List Nat} {i : Nat} (h : i ≤ u.length) : Txt.slice (txt u) (some (i : Int)) none = txt (u.drop i) := by
  have e := StrLaws.sliceText_from (x := txt u) (i := (i : Int)) ⟨by omega, by show (i : Int) ≤ (u.length : Nat); omega⟩
  have e2 : Txt.slice (txt u) (some (i : Int)) none = StrLaws.sliceText (txt u) (some (i : Int)) none := rfl
  rw [e2, e]
  show txt ((u.drop ((i : Int)).toNat).take (((u.length : Nat) : Int) - i).toNat) = _
  rw [Int.toNat_natCast, show (((u.length : Nat) : Int) - i).toNat = (u.drop i).length by rw [List.length_drop]; omega, List.take_length]
theorem txt_mid {u : List Nat} {i j : Nat} (h : i ≤ j) (h2 : j ≤ u.length) : Txt.slice (txt u) (some (i : Int)) (some (j : Int)) = txt ((u.drop i).take (j - i)) := StrLaws.sliceText_nat (txt u) h h2
theorem sliceFrom {value lo : Expr} {p pos : Pos} {Q : Value → Shared → Prop}
    (h : wpAny (model prog w) A (eval value env) (fun o s₁ => wpAny (model prog w) A (eval lo env) (fun vl s₂ => ∃ u t, ∃ i : Nat, ∃ ui g L m mu, o = .str (txt u) t ∧ vl = .int (i : Int) ui ∧ i ≤ u.length ∧ u.length < 2 ^ 20 ∧ St g s₂.heap L m mu ∧
      ∀ h' tk t', St g h' L m mu → Q (.str (txt (u.drop i)) t') { s₂ with heap := h', toks := tk }) E s₁) E s) (ht : ∀ o r, letTemporaryGo value o r = pure () := by intro _ _; rfl) :
    wpAny (model prog w) A (eval (.Subscript value (.Slice (some lo) none none p) pos) env) Q E s := by
  refine Subscript_Slice (wpAny_mono h (fun o s₁ h₁ => wpAny_Slice (evalPart_some_step (wpAny_mono h₁ (fun vl s₂ h₂ => evalPart_none_step (evalPart_none_step ?_)) fun _ _ e => e))) fun _ _ e => e) ht
  obtain ⟨u, t, i, ui, g, L, m, mu, rfl, rfl, hi, hu, F, hq⟩ := h₂
  refine SBH.sliceItem_sn St.keptH F (fun h' t' k F' => ?_) (by show u.toArray.size ≤ sizeLine; rw [sizeLine_eq]; simp; omega)
  rw [txt_from hi]
  exact hq h' k t' F'
theorem sliceMid {value lo up : Expr} {p pos : Pos} {Q : Value → Shared → Prop}
    (h : wpAny (model prog w) A (eval value env) (fun o s₁ => wpAny (model prog w) A (eval lo env) (fun vl s₂ => wpAny (model prog w) A (eval up env) (fun vu s₃ => ∃ u t, ∃ i j : Nat, ∃ ui uj g L m mu, o = .str (txt u) t ∧ vl = .int (i : Int) ui ∧ vu = .int (j : Int) uj ∧ i ≤ j ∧ j ≤ u.length ∧ u.length < 2 ^ 20 ∧ St g s₃.heap L m mu ∧
      ∀ h' tk t', St g h' L m mu → Q (.str (txt ((u.drop i).take (j - i))) t') { s₃ with heap := h', toks := tk }) E s₂) E s₁) E s) (ht : ∀ o r, letTemporaryGo value o r = pure () := by intro _ _; rfl) :
    wpAny (model prog w) A (eval (.Subscript value (.Slice (some lo) (some up) none p) pos) env) Q E s := by
  refine Subscript_Slice (wpAny_mono h (fun o s₁ h₁ => wpAny_Slice (evalPart_some_step (wpAny_mono h₁ (fun vl s₂ h₂ => evalPart_some_step (wpAny_mono h₂ (fun vu s₃ h₃ => evalPart_none_step ?_) fun _ _ e => e)) fun _ _ e => e))) fun _ _ e => e) ht
  obtain ⟨u, t, i, j, ui, uj, g, L, m, mu, rfl, rfl, rfl, hij, hj, hu, F, hq⟩ := h₃
  refine SBH.sliceItem_ss St.keptH F (fun h' t' k F' => ?_) (by show u.toArray.size ≤ sizeLine; rw [sizeLine_eq]; simp; omega)
  rw [txt_mid hij hj]
  exact hq h' k t' F'
theorem lenS {u : List Nat} {t : Tok} {Q : Value → Shared → Prop} (hsz : u.length < 2 ^ 62) (h : ∀ t tk, Q (.int u.length t) { s with toks := tk }) : wpAny (model prog w) A (call (.builtin "len") [.str (txt u) t]) Q E s :=
  PySem.P.len_str (by show ¬ ((u.toArray.size : Nat) : Int) ≥ 2 ^ 63; simp; omega) (by have := h (s.toks + 1) (s.toks + 1 + 1); simpa [Str.length] using this)
theorem getS {value slice : Expr} {u : List Nat} {k c : Nat} {i : Int} {t t' : Tok} {Q : Value → Shared → Prop} (hi : i = (k : Int)) (hx : u[k]? = some c) (hk : k < 2 ^ 62) (h : ∀ t' tk, Q (.str (txt [c]) t') { s with toks := tk })
    (hs : subscripted slice false (.str (txt u) t) (.int i t') = operate [.str (txt u) t, .int i t'] (getItem (.str (txt u) t) (.int i t')) := by with_unfolding_all rfl) :
    wpAny (model prog w) A (subscriptTail value slice (.str (txt u) t) (.int i t')) Q E s := by
  subst hi
  have hkl : k < u.length := (List.getElem?_eq_some_iff.mp hx).1
  refine subscriptTail_builtin_flat (typeIs_str s _ t) PySem.F.slot_str_getitem.lookup (PySem.P.getItem_str (c := c) (by simp; omega) (StrLaws.at_nonneg (by omega) (by simpa using hx)) ⟨(fun _ e => nomatch e), h _ _⟩) hs
theorem le_txt {a b : List Nat} {t t' : Tok} {Q : Value → Shared → Prop} (h : Q (.bool (!decide (b < a))) s) : wpAny (model prog w) A (compareOp .LtE (.str (txt a) t) (.str (txt b) t')) Q E s := PySem.P.le_str h
/-- a text's method with one argument -/
theorem methS {o e : Expr} {name : Str} {apos pos : Pos} {id : String} {Q : Value → Shared → Prop} (slot : Slot "str" name id) (hty : typeOf (.builtin id) = pure (.type "method_descriptor"))
    (h : wpAny (model prog w) A (eval o env) (fun ov s₁ => ∃ x t, ov = .str x t ∧ wpAny (model prog w) A (callWith pos (.builtin id) [ov] (backTo pos (starEach [e] env)) []) Q E s₁) E s)
    (hbase : attributeBase o name env (eval o env) = eval o env := by rfl) (hline : (apos.endLine == pos.line) = true := by rfl)
    (hfew : ((backTo pos (starEach [e] env)).all (fun x => !x.1) && (backToKw pos (keywordEach [] env)).all (fun x => x.1.isSome)
      && decide (([e] : List Expr).length + ([] : List Keyword).length + (if ([] : List Keyword).isEmpty then 0 else 1) < 30)) = true := by rfl) :
    wpAny (model prog w) A (eval (.Call (.Attribute o name apos) [e] [] pos) env) Q E s := by
  refine wpAny_Call_method hbase hfew hline PySem.F.plainAttrs_str slot hty (wpAny_mono h (fun ov s₁ h₁ => ?_) fun _ _ x => x)
  obtain ⟨x, t, rfl, hq⟩ := h₁
  exact ⟨typeIs_str _ _ _, (fun _ e => nomatch e), hq⟩
theorem strs_of {h : Heap} {vs : List Value} {xs : List (List Nat)} (hI : Items strKd h vs xs) : StrsAre vs (xs.map txt) := by
  obtain ⟨ps, rfl, rfl, hR⟩ := hI
  induction ps with
  | nil => exact .nil
  | cons p ps ih =>
    obtain ⟨t, e⟩ := hR p (.head _)
    rw [List.map_cons, List.map_cons, List.map_cons, e]
    exact .cons _ _ (ih fun q hq => hR q (.tail _ hq))
theorem join_txt : ∀ (xs : List (List Nat)), Str.join (txt []) (xs.map txt) = txt xs.flatten
  | [] => rfl
  | [x] => by simp [Str.join]
  | x :: y :: r => by
    have ih := join_txt (y :: r)
    rw [List.map_cons, List.map_cons, Str.join]
    · rw [List.map_cons] at ih
      rw [ih]
      show (⟨x.toArray ++ ([] : List Nat).toArray ++ (List.flatten (y :: r)).toArray⟩ : Str) = _
      simp
    · intro h; cases h
theorem joinS {D : Addr} {vs : List Value} {n : Nat} {xs : List (List Nat)} {t : Tok} {Q : Value → Shared → Prop} (hl : s.heap.get? D = some (lst vs n)) (hI : Items strKd s.heap vs xs) (hw : ∀ x ∈ xs, x.length = 1) (hsz : xs.length < 100)
    (h : ∀ t' k, Q (.str (txt xs.flatten) t') { s with toks := k }) : wpAny (model prog w) A (call (.builtin "str.join") [.str (txt []) t, .ref D]) Q E s := by
  have hsum : ∀ l : List (List Nat), (∀ x ∈ l, x.length = 1) → ((l.map txt).map (·.length)).sum = l.length := by
    intro l
    induction l with
    | nil => intro _; rfl
    | cons a l ih =>
      intro ha
      have h1 := ha a (.head _)
      have h2 := ih fun x hx => ha x (.tail _ hx)
      simp only [List.map_cons, List.sum_cons, List.length_cons]
      rw [h2]
      show a.toArray.size + _ = _
      simp [h1]; omega
  refine PyProof.Rows.join_list (ys := xs.map txt) ⟨_, hl, rfl, n, rfl⟩ (strs_of hI) (by rw [hsum xs hw]; simp [Str.length]; omega) fun t' k => ?_
  have e : Txt.join (txt []) (xs.map txt) = txt xs.flatten := by
    rw [← join_txt xs]
    first | rfl | exact (StrLaws.glued_eq_join _ _)
  rw [e]
  exact h t' k
end
end Mine

end
section
set_option linter.unusedVariables false
namespace Mine
theorem Keep.none' {g h : Heap} (k : Keep g h) {a : Addr} (e : h.get? a = none) : g.get? a = none := by
  cases q : g.get? a with
  | none => rfl
  | some o => rw [k _ _ q] at e; cases e
section
variable {prog : Program} {w : World} {A : Around} {E : Value → Shared → Prop} {s : Shared} {env : Env} {g : Heap} {L : Addr} {m : Str → Option Value} {mu : List (Addr × Obj)}
/-- what the head of a comprehension walks -/
def HeadOf (prog : Program) (w : World) (A : Around) (env : Env) (iter : Expr) (s : Shared) (n : Nat) (P : Nat → Value → Prop) : Prop :=
  ∀ {Q : Value → Shared → Prop} {E : Value → Shared → Prop}, (∀ I h₁ tk oI g₁ It, Keep s.heap g₁ → Keep g₁ h₁ → g₁.get? I = none → h₁.get? I = some oI → It 0 oI → Src prog w A I g₁ n P It → Q (.ref I) { s with heap := h₁, toks := tk }) →
    wpAny (model prog w) A (eval iter env) (fun v s₁ => wpAny (model prog w) A (pyIter v) Q E s₁) E s
section
variable {elt target iter : Expr} {ifs : List Expr} {scope : Scope} {cl : List (Str × Addr)} {pos : Pos} {n : Nat} {P : Nat → Value → Prop}
theorem compE_gen {Q : Value → Shared → Prop} (F : St g s.heap L m mu) (hT : NoTup mu) (J : Nat → List Value → Heap → Prop) (hit : HeadOf prog w A env iter s n P) (hsz : n < 2 ^ 20) (J0 : ∀ g, J 0 [] g) (Jk : ∀ i ys h h', J i ys h → KeepT h h' → J i ys h')
    (step : CompStep prog w A env scope cl elt target ifs s n P J)
    (h : ∀ D h' tk g₂ ys n', St g₂ h' L m ((D, lst ys n') :: mu) → Keep g g₂ → Keep s.heap h' → ys.length ≤ n → J n ys g₂ → Q (.ref D) { s with heap := h', toks := tk })
    (hclos : closureFor scope env = pure cl := by rfl) (hcell : ∀ y ∈ scope.names, y.2 ≠ .cell := by decide) (hkind : scope.kind = .function := by rfl) (hnames : ∀ x ∈ scope.names, x.2 = .local → scope.names.lookup x.1 = some .local := by decide)
    (hs : ∀ x, foldedSetIterable iter env x = pure x := by intro _; rfl) :
    wpAny (model prog w) A (eval (.ListComp elt [⟨target, iter, ifs, 0⟩] scope pos) env) Q E s := by
  rw [eval_ListComp]
  refine wpAny_comprehension_free (use := none) rfl hs hclos hkind hnames (hit fun I hh tk₀ oI g₀ It kg₀ kg₁ hgI hI hIt hS => ?_)
  have hsI : s.heap.get? I = none := kg₀.none' hgI
  have up : ∀ c o, s.heap.get? c = some o → c ≠ I := fun c o e q => by rw [q, hsI] at e; cases e
  have kh : Keep s.heap hh := kg₀.trans kg₁
  refine comp_core (s := { s with heap := hh, toks := tk₀ }) (RR := fun acc C => compPost (model prog w) A E none Q acc C) (g₀ := g₀) hS hsz J hI hIt kg₁ hgI hcell hkind J0
    (fun i v ys C D n' oI' g₁ h₁ tk m₁ E' hP hi hyl hJ hk₁ hk₂ F₁ => step i v ys C D _ n' oI' g₁ h₁ tk m₁ E' hP hi hyl hJ (kg₀.trans hk₁) F₁) ?_
  intro D C h' tk g₁ m' ys n' F' hk hD hC hDC hyl hJ
  refine ⟨m', F'.ns, fun h'' hs'' => ?_⟩
  have k1 : Keep s.heap h'' := fun c o e => hs''.extBut c o (fun q => by
    have := kh _ _ e
    rw [q, hC] at this; cases this) (F'.keep _ _ (hk c o (up c o e) (kh _ _ e)))
  have hD' : s.heap.get? D = none := kh.none' hD
  have k2 : Keep g₁ h'' := fun c o e => hs''.extBut c o (fun q => by rw [q, F'.out] at e; cases e) (F'.keep _ _ e)
  have F₁ := (F.all k1).add (D := D) (hs''.extBut _ _ hDC (F'.get 0)) (F.keep.none' hD') (fun q => by
    obtain ⟨o, _, _, ho, _⟩ := F.ns
    rw [q, ho] at hD'; cases hD') (fun q => by
    obtain ⟨p, hp, e⟩ := List.mem_map.mp q
    rw [← e, (F.mob p hp).1] at hD'; cases hD')
  obtain ⟨g₂, F₂, k3, k4⟩ := F₁.freeze hT.lst k2
  exact h D h'' tk g₂ ys n' F₂ k3 k1 hyl (Jk _ _ _ _ hJ k4)

theorem compA_gen {y : Str} {py spos : Pos} {Q : Flow → Shared → Prop} (F : St g s.heap L m mu) (hT : NoTup mu) (J : Nat → List Value → Heap → Prop) (hit : HeadOf prog w A env iter s n P) (hsz : n < 2 ^ 20) (J0 : ∀ g, J 0 [] g) (Jk : ∀ i ys h h', J i ys h → KeepT h h' → J i ys h')
    (step : CompStep prog w A env scope cl elt target ifs s n P J)
    (h : ∀ D h' tk g₂ ys n', St g₂ h' L (upd m y (.ref D)) ((D, lst ys n') :: mu) → Keep g g₂ → ys.length ≤ n → J n ys g₂ → Q .next { s with heap := h', toks := tk })
    (hL : env.locals = L := by rfl) (hsw : swapsWith (.ListComp elt [⟨target, iter, ifs, 0⟩] scope pos) (some (.Name y py)) spos.line env = pure true := by rfl)
    (hy : env.kindOf y = some .local := by rfl) (hp : (env.scope.kind == .class || (env.scope.kind == .module && env.locals != env.globals)) = false := by rfl)
    (hclos : closureFor scope env = pure cl := by rfl) (hcell : ∀ y ∈ scope.names, y.2 ≠ .cell := by decide) (hkind : scope.kind = .function := by rfl) (hnames : ∀ x ∈ scope.names, x.2 = .local → scope.names.lookup x.1 = some .local := by decide)
    (hs : ∀ x, foldedSetIterable iter env x = pure x := by intro _; rfl) :
    wpAny (model prog w) A (exec (.Assign [.Name y py] (.ListComp elt [⟨target, iter, ifs, 0⟩] scope pos) spos) env) Q E s := by
  subst hL
  rw [exec_Assign_Name_used _ _ _ _ hsw]
  refine wpAny_bind (wpAny_standAt (wpAny_bind ?_))
  show wpAny _ A (do let _ ← comprehension (.ListComp elt [⟨target, iter, ifs, 0⟩] scope pos) scope env _ (newList []) false (eval iter env) (some (assign (.Name y py) env))) _ _ s
  refine wpAny_bind (wpAny_mono (wpAny_comprehension_free (use := some (assign (.Name y py) env)) (Q := fun _ s' => Q .next s') rfl hs hclos hkind hnames (hit fun I hh tk₀ oI g₀ It kg₀ kg₁ hgI hI hIt hS => ?_)) (fun _ s' hq => wpAny_pure (wpAny_pure hq)) fun _ _ e => e)
  have hsI : s.heap.get? I = none := kg₀.none' hgI
  have up : ∀ c o, s.heap.get? c = some o → c ≠ I := fun c o e q => by rw [q, hsI] at e; cases e
  have kh : Keep s.heap hh := kg₀.trans kg₁
  refine comp_core (s := { s with heap := hh, toks := tk₀ }) (RR := fun acc C => compPost (model prog w) A E (some (assign (.Name y py) env)) (fun _ s' => Q .next s') acc C) (g₀ := g₀) hS hsz J hI hIt kg₁ hgI hcell hkind J0
    (fun i v ys C D n' oI' g₁ h₁ tk m₁ E' hP hi hyl hJ hk₁ hk₂ F₁ => step i v ys C D _ n' oI' g₁ h₁ tk m₁ E' hP hi hyl hJ (kg₀.trans hk₁) F₁) ?_
  intro D C h' tk g₁ m' ys n' F' hk hD hC hDC hyl hJ
  have k1 : Keep s.heap h' := fun c o e => F'.keep _ _ (hk c o (up c o e) (kh _ _ e))
  have hD' : s.heap.get? D = none := kh.none' hD
  have hC' : s.heap.get? C = none := kh.none' hC
  have F₁ := (F.all k1).add (D := D) (F'.get 0) (F.keep.none' hD') (fun q => by
    obtain ⟨o, _, _, ho, _⟩ := F.ns
    rw [q, ho] at hD'; cases hD') (fun q => by
    obtain ⟨p, hp, e⟩ := List.mem_map.mp q
    rw [← e, (F.mob p hp).1] at hD'; cases hD')
  have hLC : env.locals ≠ C := fun q => by
    obtain ⟨o, _, _, ho, _⟩ := F.ns
    rw [q, hC'] at ho; cases ho
  show wpAny _ A (assign (.Name y py) env (.ref D)) _ _ _
  refine wpAny_assign_Name (wpAny_storeName_local hy F₁.ns (fun h₂ hn₂ hs₂ => ?_) hp)
  have F₂ : St g h₂ env.locals (upd m y (.ref D)) ((D, lst ys n') :: mu) := F₁.store hn₂ hs₂
  refine ⟨m', F'.ns.sameBut hs₂ (Ne.symm hLC), fun h₃ hs₃ => ?_⟩
  -- C is no object of ours
  have F₃ : St g h₃ env.locals (upd m y (.ref D)) ((D, lst ys n') :: mu) := by
    refine ⟨F₂.ns.sameBut hs₃ hLC, fun c o e => hs₃.extBut c o (fun q => by rw [q] at e; rw [F.keep _ _ e] at hC'; cases hC') (F₂.keep _ _ e), F₂.out, fun p hp => ⟨hs₃.extBut _ _ (fun q => ?_) (F₂.mob p hp).1, (F₂.mob p hp).2⟩, F₂.nd⟩
    rcases List.mem_cons.mp hp with rfl | hp
    · exact hDC q
    · rw [← q, (F.mob p hp).1] at hC'; cases hC'
  have k2 : KeepT g₁ h₃ := fun c vs n e => hs₃.extBut c _ (fun q => by rw [q, F'.out] at e; cases e) (hs₂.extBut c _ (fun q => by
    obtain ⟨o, es, ep, ho, hd, _⟩ := F₁.ns
    rw [← q, F'.keep _ _ e] at ho; cases ho; cases hd) (F'.keep _ _ e))
  obtain ⟨g₂, F₄, k3, k4⟩ := F₃.freeze hT.lst (Keep.refl h₃)
  exact h D h₃ _ g₂ ys n' F₄ k3 hyl (Jk _ _ _ _ hJ (k2.trans k4))
end
end
end Mine

end
section
set_option linter.unusedVariables false
namespace Mine
theorem Keep.none {g h : Heap} (k : Keep g h) {a : Addr} (e : h.get? a = none) : g.get? a = none := by
  cases q : g.get? a with
  | none => rfl
  | some o => rw [k _ _ q] at e; cases e
theorem St.weak {g g' h : Heap} {L : Addr} {m : Str → Option Value} {mu : List (Addr × Obj)} (F : St g' h L m mu) (k : Keep g g') : St g h L m mu :=
  ⟨F.ns, k.trans F.keep, k.none F.out, fun p hp => ⟨(F.mob p hp).1, (F.mob p hp).2.1, k.none (F.mob p hp).2.2⟩, F.nd⟩
theorem NoTup.cell {a : Addr} {v : Option Value} {mu : List (Addr × Obj)} (r : NoTup mu) : NoTup ((a, cellO v) :: mu) := .cons (fun vs n q => by simp at q) r
theorem NoTup.tail {p : Addr × Obj} {mu : List (Addr × Obj)} (r : NoTup (p :: mu)) : NoTup mu := fun q hq => r q (.tail _ hq)
theorem ItL.noTup {b : Addr} {i : Nat} {o : Obj} (h : ItL b i o) : ∀ vs n, o ≠ tup vs n := fun vs n q => by have := h.2; rw [q] at this; cases this
theorem nd_ne {l : List Addr} (h : l.Nodup) (i j : Nat) {a b : Addr} (hi : l[i]? = some a) (hj : l[j]? = some b) (hij : i ≠ j) : a ≠ b := by
  intro q
  subst q
  exact hij ((List.getElem?_inj (List.getElem?_eq_some_iff.mp hi).1 h).mp (hi.trans hj.symm))
theorem items_ints {h : Heap} : ∀ {vs : List Value} {ns : List Int}, IntsAre vs ns → Items intKd h vs ns
  | _, _, .nil => Items.nil
  | _, _, .cons n t r => by
    obtain ⟨ps, rfl, rfl, c⟩ := items_ints (h := h) r
    exact ⟨(.int n t, n) :: ps, rfl, rfl, fun p hp => by
      rcases List.mem_cons.mp hp with rfl | hp
      · exact ⟨t, rfl⟩
      · exact c p hp⟩
section
variable {prog : Program} {w : World} {A : Around} {s : Shared} {E : Value → Shared → Prop} {h₀ : Heap} {mg mb : Str → Option Value} {g : Heap} {L f : Addr} {cd : Value} {m : Str → Option Value} {mu : List (Addr × Obj)}
theorem neNilI {a b : Addr} {vs : List Value} {n' : Nat} {Q : Value → Shared → Prop} (hu : A.units < cLine) (ha : s.heap.IsList a vs.toArray) (hb : s.heap.get? b = some (lst [] n')) (h : Q (.bool (!vs.isEmpty)) s) :
    wpAny (model prog w) A (compareOp .NotEq (.ref a) (.ref b)) Q E s := by
  show wpAny _ _ (richCompare .NotEq _ _) _ _ _
  cases vs with
  | nil => exact PySem.SeqAt.RcNeAt.lists (e := fun _ => true) ha ⟨_, hb, rfl, n', rfl⟩ rfl hu (fun j h1 _ => by simp at h1) prog w E Q (by simpa using h)
  | cons v r => exact PySem.SeqAt.RcNeAt.lists_lengths ha ⟨_, hb, rfl, n', rfl⟩ (by simp) hu prog w E Q (by simpa using h)

end
theorem all_tt {α : Type} (l : List α) : (l.all fun _ => true) = true := by simp [List.all_eq_true]
section
variable {prog : Program} {w : World} {A : Around} {s : Shared} {E : Value → Shared → Prop} {g : Heap} {L : Addr} {m : Str → Option Value} {mu : List (Addr × Obj)}
theorem St.addL {l b : Addr} {vs ws : List Value} {n n' : Nat} {Q : Value → Shared → Prop} (F : St g s.heap L m mu) (hl : s.heap.get? l = some (lst vs n)) (hb : s.heap.get? b = some (lst ws n')) (hsz : vs.length + ws.length < 2 ^ 20)
    (h : ∀ a h', St g h' L m ((a, lst (vs ++ ws) 0) :: mu) → Q (.ref a) { s with heap := h' }) : wpAny (model prog w) A (binaryOp .Add (.ref l) (.ref b)) Q E s := by
  have e : vs.toArray ++ ws.toArray = (vs ++ ws).toArray := by simp
  refine concat_meets ⟨_, hl, rfl⟩ ⟨_, hb, rfl⟩ noFill_list_add seq_list_add PySem.F.slot_list_add PySem.F.entry_list_add (PySem.F.args_list_add_2 _ _) (list_addW l b vs.toArray ws.toArray n n' none none #[] #[] (by rw [sizeLine_eq]; simp; omega)) ⟨hl, hb, ?_⟩
  rw [e]
  exact h _ _ (F.push (lst (vs ++ ws) 0))
/-- xs[-k] -/
theorem getLN {value slice : Expr} {a : Addr} {vs : List Value} {n : Nat} {j : Nat} {i : Int} {u : Tok} {x : Value} {Q : Value → Shared → Prop} (ho : s.heap.get? a = some (lst vs n)) (h0 : i < 0) (h1 : (j : Int) = i + vs.length) (hx : vs[j]? = some x) (hk : vs.length < 2 ^ 62) (h : Q x s)
    (hs : subscripted slice false (.ref a) (.int i u) = operate [.ref a, .int i u] (getItem (.ref a) (.int i u)) := by with_unfolding_all rfl) :
    wpAny (model prog w) A (subscriptTail value slice (.ref a) (.int i u)) Q E s := by
  have hl : s.heap.IsList a vs.toArray := ⟨_, ho, rfl, n, rfl⟩
  have hsz : (vs.toArray.size : Int) = vs.length := by simp
  have hj : (i + vs.length).toNat = j := by omega
  exact subscriptTail_builtinR hl.typeIs slot_list_getitem.lookup (wpAny_getItem_list_neg (Q := fun r s' => r = x ∧ Q r s') hl h0 (by rw [hsz]; omega) (by omega) (by rw [hsz, hj]; simpa using hx) ⟨rfl, h⟩) hs
/-- xs[k] of what a call gave -/
theorem getLR {value slice : Expr} {a : Addr} {vs : List Value} {n : Nat} {k : Nat} {i : Int} {u : Tok} {x : Value} {Q : Value → Shared → Prop} (ho : s.heap.get? a = some (lst vs n)) (hi : i = (k : Int)) (hx : vs[k]? = some x) (hk : k < 2 ^ 62) (h : Q x s)
    (hs : subscripted slice false (.ref a) (.int i u) = operate [.ref a, .int i u] (getItem (.ref a) (.int i u)) := by with_unfolding_all rfl) :
    wpAny (model prog w) A (subscriptTail value slice (.ref a) (.int i u)) Q E s := by
  subst hi
  exact item_listR ⟨_, ho, rfl, n, rfl⟩ (Int.natCast_nonneg _) (by omega) (by simpa using hx) h hs
theorem tupEqAt {B : Around} {x y : Addr} {p : Int × Int} {t u t' u' : Tok} {n n' : Nat} (hA : B.units < cLine) (hx : s.heap.get? x = some (tup [.int p.1 t, .int p.2 u] n)) (hy : s.heap.get? y = some (tup [.int p.1 t', .int p.2 u'] n')) :
    PySem.SeqAt.EqAt B s (.ref x) (.ref y) true := by
  by_cases e : x = y
  · subst e; exact PySem.SeqAt.EqAt.same _
  · refine PySem.SeqAt.EqAt.of_refs e ?_
    have := PySem.SeqAt.RcAt.tuples (A := B) (s := s) (e := fun _ => true) (items := [Value.int p.1 t, .int p.2 u].toArray) (items2 := [Value.int p.1 t', .int p.2 u'].toArray) ⟨_, hx, rfl, n, rfl⟩ ⟨_, hy, rfl, n', rfl⟩ hA (fun j h1 h2 => by
      have hj : j = 0 ∨ j = 1 := by simp at h1; omega
      rcases hj with rfl | rfl
      · have := PySem.SeqAt.EqAt.int_int (A := B.in1) (s := s) p.1 t p.1 t'
        simpa using this
      · have := PySem.SeqAt.EqAt.int_int (A := B.in1) (s := s) p.2 u p.2 u'
        simpa using this)
    rw [all_tt] at this
    simpa using this
theorem tupNe {x y : Addr} {p : Int × Int} {t u t' u' : Tok} {n n' : Nat} {Q : Value → Shared → Prop} (hA : A.units < cLine) (hx : s.heap.get? x = some (tup [.int p.1 t, .int p.2 u] n)) (hy : s.heap.get? y = some (tup [.int p.1 t', .int p.2 u'] n')) (h : Q (.bool false) s) :
    wpAny (model prog w) A (compareOp .NotEq (.ref x) (.ref y)) Q E s := by
  show wpAny _ _ (richCompare .NotEq _ _) _ _ _
  have := PySem.SeqAt.RcNeAt.tuples (A := A) (s := s) (e := fun _ => true) (items := [Value.int p.1 t, .int p.2 u].toArray) (items2 := [Value.int p.1 t', .int p.2 u'].toArray) ⟨_, hx, rfl, n, rfl⟩ ⟨_, hy, rfl, n', rfl⟩ hA (fun j h1 h2 => by
    have hj : j = 0 ∨ j = 1 := by simp at h1; omega
    rcases hj with rfl | rfl
    · have := PySem.SeqAt.EqAt.int_int (A := A.in1) (s := s) p.1 t p.1 t'
      simpa using this
    · have := PySem.SeqAt.EqAt.int_int (A := A.in1) (s := s) p.2 u p.2 u'
      simpa using this)
  rw [all_tt] at this
  exact this prog w E Q (by simpa using h)
theorem pairsNe {a b : Addr} {vs us : List Value} {n n' : Nat} {xs : List (Int × Int)} {Q : Value → Shared → Prop} (hA : Rm A 3) (ha : s.heap.get? a = some (lst vs n)) (hb : s.heap.get? b = some (lst us n')) (hI : Items prKd s.heap vs xs) (hJ : Items prKd s.heap us xs) (h : Q (.bool false) s) :
    wpAny (model prog w) A (compareOp .NotEq (.ref a) (.ref b)) Q E s := by
  show wpAny _ _ (richCompare .NotEq _ _) _ _ _
  have l1 := hI.length
  have l2 := hJ.length
  have := PySem.SeqAt.RcNeAt.lists (A := A) (s := s) (e := fun _ => true) (items := vs.toArray) (items2 := us.toArray) ⟨_, ha, rfl, n, rfl⟩ ⟨_, hb, rfl, n', rfl⟩ (by simp; omega) hA.units (fun j h1 h2 => by
    simp only [List.size_toArray] at h1 h2
    obtain ⟨p, hp, x, nx, t, u, e, hx⟩ := hI.get (List.getElem?_eq_getElem h1)
    obtain ⟨p', hp', y, ny, t', u', e', hy⟩ := hJ.get (List.getElem?_eq_getElem h2)
    rw [hp] at hp'
    cases hp'
    simp only [List.getElem_toArray]
    rw [e, e']
    exact tupEqAt hA.in1.units hx hy)
  rw [all_tt] at this
  exact this prog w E Q (by simpa using h)
theorem Sr.re {σ : Type} {sf : Addr} {chars : Value} (I : Sr prog w sf chars σ) {g' h h' : Heap} {S av : List (Addr × Obj)} {x : σ} (hO : I.Ok g S h x) (k : Keep g g') (F : St g' h' L m (av ++ S)) : I.Ok g' S h' x :=
  I.stab hO k F.keep fun p hp => ⟨(F.mob p (List.mem_append_right _ hp)).1, (F.mob p (List.mem_append_right _ hp)).2.2⟩
/-- search_reverse(..) from a frame, what it hands back -/
theorem sr_frame {R : Result → Shared → Prop} {h₀ : Heap} {mg mb : Str → Option Value} {σ : Type} {sf : Addr} {chars : Value} (I : Sr prog w sf chars σ) {f pg : Addr} {S av : List (Addr × Obj)} {x : σ} {col : Int} {t : Tok} (G : Glb h₀ mg mb) (B : Keep h₀ g) (hf : FnIs h₀ f "search_reverse" 1)
    (F : St g s.heap L m (av ++ S)) (hO : I.Ok g S s.heap x) (hV : I.V x) (hT : NoTup av) (hp : AttrAt g pg "search" sf) (hA : Rm A 14)
    (h : ∀ h' tk S' v g', St g' h' L m (av ++ S') → I.Ok g' S' h' (srF I.nxt col x).2 → I.V (srF I.nxt col x).2 → Keep g g' → HitAt g' v (srF I.nxt col x).1 → R (.ok (.ret v)) { s with heap := h', toks := tk }) :
    codeAny (model prog w) A (.call (.ref f) ⟨[.ref pg, chars, .int col t], []⟩) R s := by
  obtain ⟨oL, hav, hn⟩ := (F.perm List.perm_append_comm).toAside hT
  refine sr_ok I G B hf hO hV hav hp hA fun h' tk S' v g' hO' hV' hav' k hH => ?_
  exact h h' tk S' v g' ((St.ofAside hn (I.keep hO') (fun p hp => ⟨(I.mob hO' p hp).1, (I.mob hO' p hp).2.1⟩) hav').perm List.perm_append_comm) hO' hV' k hH
end
section
variable {prog : Program} {w : World} {A : Around} {s : Shared} {E : Value → Shared → Prop} {h₀ : Heap} {mg mb : Str → Option Value} {g : Heap} {L f : Addr} {cd : Value} {m : Str → Option Value} {mu : List (Addr × Obj)}
theorem isNone_ {v : Value} {r : Option (Int × Int)} {Q : Value → Shared → Prop} (hH : HitAt s.heap v r) (h : Q (.bool r.isNone) s) : wpAny (model prog w) A (compareOp .Is v .none) Q E s := by
  cases r with
  | none => obtain rfl : v = .none := hH; exact wpAny_is_self rfl h
  | some p => obtain ⟨hf, sp, rfl, _⟩ := hH; exact wpAny_is_other rfl (fun q => nomatch q) h
theorem isNotNone_ {v : Value} {r : Option (Int × Int)} {Q : Value → Shared → Prop} (hH : HitAt s.heap v r) (h : Q (.bool r.isSome) s) : wpAny (model prog w) A (compareOp .IsNot v .none) Q E s := by
  cases r with
  | none => obtain rfl : v = .none := hH; exact wpAny_isNot_self rfl h
  | some p => obtain ⟨hf, sp, rfl, _⟩ := hH; exact wpAny_isNot_other rfl (fun q => nomatch q) h
theorem neBool {a b : Bool} {Q : Value → Shared → Prop} (h : Q (.bool (!(a == b))) s) : wpAny (model prog w) A (compareOp .NotEq (.bool a) (.bool b)) Q E s := PySem.SeqAt.RcNeAt.bool_bool a b prog w E Q h
theorem neInt {a b : Int} {t u : Tok} {Q : Value → Shared → Prop} (h : Q (.bool (!(a == b))) s) : wpAny (model prog w) A (compareOp .NotEq (.int a t) (.int b u)) Q E s := PySem.SeqAt.RcNeAt.int_int a t b u prog w E Q h

end
end Mine

end
section
set_option linter.unusedVariables false
namespace Mine
def abc : List Nat := (List.range 26).map fun i => 97 + i
theorem abc_get {k : Nat} (h : k < 26) : abc[k]? = some (97 + k) := by
  unfold abc
  rw [List.getElem?_map, List.getElem?_range h]; rfl
theorem abc_txt : (("abcdefghijklmnopqrstuvwxyz" : String) : Str) = txt abc := by decide +kernel
theorem banana_txt : (("banana" : String) : Str) = txt [98, 97, 110, 97, 110, 97] := by decide +kernel
theorem empty_txt : (("" : String) : Str) = txt [] := by decide +kernel
section
variable {prog : Program} {w : World} {A : Around} {R : Result → Shared → Prop} {s : Shared} {E : Value → Shared → Prop} {env : Env} {h₀ : Heap} {mg mb : Str → Option Value}
theorem getS' {value slice : Expr} {u' : Str} {u : List Nat} {k c : Nat} {i : Int} {t t' : Tok} {Q : Value → Shared → Prop} (hu : u' = txt u) (hi : i = (k : Int)) (hx : u[k]? = some c) (hk : k < 2 ^ 62) (h : ∀ t' tk, Q (.str (txt [c]) t') { s with toks := tk })
    (hs : ∀ x, subscripted slice false (.str x t) (.int i t') = operate [.str x t, .int i t'] (getItem (.str x t) (.int i t')) := by intro _; with_unfolding_all rfl) :
    wpAny (model prog w) A (subscriptTail value slice (.str u' t) (.int i t')) Q E s := by
  subst hu
  exact getS hi hx hk h (hs _)
theorem letter_ok {f : Addr} {x : Int} {t : Tok} (G : Glb h₀ mg mb) (B : Keep h₀ s.heap) (hf : FnIs h₀ f "_law_letter" 9) (hA : Rm A 2)
    (h : ∀ h' tk t', Keep s.heap h' → R (.ok (.ret (.str (txt [letterF x]) t'))) { s with heap := h', toks := tk }) :
    codeAny (model prog w) A (.call (.ref f) ⟨[.int x t], []⟩) R s := by
  refine callF [] hA (hf.keeps B) (G.nolimit.keeps B) (binds := [("x", .int x t)]) (fun _ _ _ => rfl) rfl (by simp) (by simp) ?_
  intro g h₁ L cd F hg hgs hA'
  have ks : Keep s.heap g := fun b o e => hg b o (by simp) e
  -- code = x % 156
  refine wpAny_execs_cons (wpAny_Assign_Name (wpAny_BinOp (F.ld rfl (wpAny_Constant_int (mod_int' (by decide) (F.st fun h₂ F₂ => ?_))))))
  dsimp only
  have fin : ∀ (d : Int) (t₀ t₁ t₂ : Tok) (tk : Nat), (d = if (x.fmod 156).fmod 2 = 0 then 26 else 3) → wpAny (model prog w) (A.deeper (envOf "_law_letter" (sScope (defAt 9)) L f cd)) (binaryOp .Mod (.int ((x.fmod 156).fdiv 2) t₁) (.int d t₂))
      (fun i s₂ => wpAny (model prog w) (A.deeper (envOf "_law_letter" (sScope (defAt 9)) L f cd)) (subscriptTail (match (sBody (defAt 9)) with | [_, .Return (some (.Subscript v _ _)) _] => v | _ => .Constant .none 0 default) (match (sBody (defAt 9)) with | [_, .Return (some (.Subscript _ v _)) _] => v | _ => .Constant .none 0 default) (.str (("abcdefghijklmnopqrstuvwxyz" : String) : Str) t₀) i) (fun v s' => R (.ok (.ret v)) s') (fun _ _ => False) s₂) (fun _ _ => False) { s with heap := h₂, toks := tk } := by
    intro d t₀ t₁ t₂ tk hd
    have h0 : 0 < d ∧ d ≤ 26 := by rw [hd]; split <;> decide
    refine mod_int' (by omega) ?_
    have hn := Int.fmod_nonneg_of_pos ((x.fmod 156).fdiv 2) h0.1
    have hl := Int.fmod_lt_of_pos ((x.fmod 156).fdiv 2) h0.1
    refine getS' (u := abc) (k := (((x.fmod 156).fdiv 2).fmod d).toNat) (c := letterF x) abc_txt (by omega) ?_ (by omega) fun t' tk' => ?_
    · rw [abc_get (by omega)]
      unfold letterF
      rw [← hd]
    · exact h h₂ _ t' (ks.trans F₂.keep)
  refine wpAny_execs_cons (wpAny_Return_some (Subscript_ (wpAny_Constant_str (wpAny_BinOp (wpAny_BinOp (St.ld F₂ rfl (wpAny_Constant_int (floordiv_int (by decide) (wpAny_IfExp (wpAny_isTrue_Compare1 (wpAny_BinOp (St.ld F₂ rfl (wpAny_Constant_int (mod_int' (by decide) (wpAny_Constant_int (eq_int (wpAny_truthy_bool ?_)))))))))))))))))
  by_cases hc : (x.fmod 156).fmod 2 = 0
  · have : ((x.fmod 156).fmod 2 == 0) = true := by simpa using hc
    simp only [this, if_true]
    refine wpAny_Constant_int ?_
    refine fin 26 _ _ _ _ ?_
    rw [if_pos hc]
  · have : ((x.fmod 156).fmod 2 == 0) = false := by simpa using hc
    simp only [this, Bool.false_eq_true, if_false]
    refine wpAny_Constant_int ?_
    refine fin 3 _ _ _ _ ?_
    rw [if_neg hc]
end
end Mine

end
section
set_option linter.unusedVariables false
namespace Mine
/-! ### range in the head of a comprehension -/
def ItS (a k i : Nat) (o : Obj) : Prop := o = rit ((a + i : Nat) : Int) ((k : Int) - i) 1
section
variable {prog : Program} {w : World} {A : Around} {R : Result → Shared → Prop} {s : Shared} {E : Value → Shared → Prop} {env : Env} {h₀ : Heap} {mg mb : Str → Option Value}
theorem Src.rangeS {I : Addr} {a k : Nat} {g : Heap} (hh : A.handled = none) : Src prog w A I g k (fun i v => ∃ t, v = .int ((a + i : Nat) : Int) t) (ItS a k) where
  item := fun i s oI Q E hi ho hit hk h => by
    obtain rfl := hit
    refine wpAny_pyNext_range_item ho (by omega) fun h' hit' hs' => ?_
    refine h _ h' _ _ ⟨_, rfl⟩ hs'.extBut hit' ?_
    show rit _ _ _ = rit _ _ _
    congr 1 <;> omega
  done := fun s oI Q E ho hit hk h => by
    obtain rfl := hit
    exact wpAny_pyNext_range_end hh ho (by omega) h
  self := fun i s oI Q E ho hit h => by
    obtain rfl := hit
    exact wpAny_pyIter_rangeiter ho h
  owned := fun i s oI t v Q E ho hit h => by
    obtain rfl := hit
    exact owned_of ho rfl rfl (by decide) h
  ntup := fun i oI hit vs k q => by rw [show oI = _ from hit] at q; simp [rit] at q
theorem fresh_size (h : Heap) : h.get? h.objs.size = none := by
  cases q : h.get? h.objs.size with
  | none => rfl
  | some o => exact absurd (Heap.lt_size q) (Nat.lt_irrefl _)
theorem range_head1 {n : Int} {k : Nat} {t : Tok} {Q : Value → Shared → Prop} (hh : A.handled = none) (hn : n = (k : Int)) (hk : k < 2 ^ 30)
    (h : ∀ I h₁ tk oI g₁ It, Keep s.heap g₁ → Keep g₁ h₁ → g₁.get? I = none → h₁.get? I = some oI → It 0 oI → Src prog w A I g₁ k (fun i v => ∃ t, v = .int ((0 + i : Nat) : Int) t) It → Q (.ref I) { s with heap := h₁, toks := tk }) :
    wpAny (model prog w) A (call (.type "range") [.int n t]) (fun v s₁ => wpAny (model prog w) A (pyIter v) Q E s₁) E s := by
  subst hn
  refine call_range_1 ?_
  have hz : Builtin.Range.rangeSize 0 k 1 = (k : Int) := by rw [rangeSize_one]; split <;> omega
  refine wpAny_pyIter_range (Heap.get?_push_size _ rfl) (small_one (by omega) (by omega) (by omega) (by omega)) ?_
  rw [hz]
  exact h _ _ _ _ _ (ItS 0 k) (fun b o e => Heap.get?_push_of_some _ e) (fun b o e => Heap.get?_push_of_some _ e) (fresh_size _) (Heap.get?_push_size _ rfl) (by show rit _ _ _ = rit _ _ _; congr 1) (Src.rangeS hh)
theorem range_head2 {a n : Int} {b k : Nat} {t t' : Tok} {Q : Value → Shared → Prop} (hh : A.handled = none) (ha : a = (b : Int)) (hb : b < 2 ^ 30) (hn : n - a = (k : Int) ∨ (n ≤ a ∧ k = 0)) (hn0 : 0 ≤ n) (hk : n < 2 ^ 30)
    (h : ∀ I h₁ tk oI g₁ It, Keep s.heap g₁ → Keep g₁ h₁ → g₁.get? I = none → h₁.get? I = some oI → It 0 oI → Src prog w A I g₁ k (fun i v => ∃ t, v = .int ((b + i : Nat) : Int) t) It → Q (.ref I) { s with heap := h₁, toks := tk }) :
    wpAny (model prog w) A (call (.type "range") [.int a t, .int n t']) (fun v s₁ => wpAny (model prog w) A (pyIter v) Q E s₁) E s := by
  refine call_range_2 ?_
  have hz : Builtin.Range.rangeSize a n 1 = (k : Int) := by rw [rangeSize_one]; split <;> omega
  refine wpAny_pyIter_range (Heap.get?_push_size _ rfl) (small_one (by omega) (by omega) (by omega) (by omega)) ?_
  rw [hz]
  subst ha
  exact h _ _ _ _ _ (ItS b k) (fun b o e => Heap.get?_push_of_some _ e) (fun b o e => Heap.get?_push_of_some _ e) (fresh_size _) (Heap.get?_push_size _ rfl) (by show rit _ _ _ = rit _ _ _; congr 1) (Src.rangeS hh)

/-! ### _law_prime -/
theorem primeF_len (w : List Nat) : primeF w = (((List.range (w.length - 1)).take (w.length - 1)).filter fun k => !decide (w < w.drop (k + 1))).isEmpty := by
  unfold primeF
  rw [List.take_of_length_le (by simp)]
theorem prime_ok {f : Addr} {u : List Nat} {t : Tok} (G : Glb h₀ mg mb) (B : Keep h₀ s.heap) (hf : FnIs h₀ f "_law_prime" 11) (hA : Rm A 4) (hu : u.length < 2 ^ 16)
    (h : ∀ h' tk, Keep s.heap h' → R (.ok (.ret (.bool (primeF u)))) { s with heap := h', toks := tk }) :
    codeAny (model prog w) A (.call (.ref f) ⟨[.str (txt u) t], []⟩) R s := by
  obtain ⟨o, pm, cd, doc, ho, hd, hcd⟩ := hf.keeps B
  refine callX [] hA ho hd hcd rfl (BindsTo.of_eq (binds := [("word", .str (txt u) t)]) rfl) (by simp) (by simp) ?_
  intro g h₁ L env hE F hg hgs hA'
  have ks : Keep s.heap g := fun b o e => hg b o (by simp) e
  have Bg : Keep h₀ g := B.trans ks
  subst hE
  refine bind_cons (St.stC F (i := 0) rfl (fun h₂ F₂ => ?_) rfl)
  refine bind_nil ⟨G.nolimit.keeps (Bg.trans F₂.keep), ?_⟩
  dsimp only
  have F₂' : St g h₂ L (fun _ => none) [(L + 1, cellO (some (.str (txt u) t)))] := F₂
  refine wpAny_execs_cons (wpAny_Return_some (wpAny_Compare1 (compE_gen (n := u.length - 1) (P := fun i v => ∃ t, v = .int ((1 + i : Nat) : Int) t) F₂' (.cell .nil) (fun i ys g => Items intKd g ys ((((List.range (u.length - 1)).take i).filter fun k => !decide (u < u.drop (k + 1))).map fun k => ((1 + k : Nat) : Int))) ?_ (by omega) (fun _ => Items.nil) (fun i ys h h' x k => x.stab k) ?_ ?_)))
  · intro Q E hq
    refine callT (G.keeps (Bg.trans F₂.keep)) boot_range (args_cons (wpAny_Constant_int (args_cons (callB (G.keeps (Bg.trans F₂.keep)) boot_len (args_cons (ldC (hc := rfl) (F₂'.get 0) (args_nil (lenS (by omega) fun t₁ tk₁ => args_nil ?_))))))))
    exact range_head2 (b := 1) hA'.handled rfl (by decide) (by omega) (by omega) (by omega) hq
  · intro i v ys C D I n' oI' g₁ h₃ tk₃ m₁ E' hP hi hyl hJ hk F₃
    obtain ⟨t₁, rfl⟩ := hP
    refine wpAny_assign_Name (St.st F₃ fun h₄ F₄ => ?_)
    have k4 : Keep h₂ h₄ := hk.trans F₄.keep
    refine wpAny_tests_one (wpAny_isTrue_Compare1 (sliceFrom (ldC (hc := rfl) (k4 _ _ (F₂'.get 0)) (St.ld F₄ rfl ⟨u, t, 1 + i, t₁, _, _, _, _, rfl, rfl, by omega, by omega, F₄, fun h₅ tk₅ t₅ F₅ => ?_⟩))))
    refine ldC (hc := rfl) ((hk.trans F₅.keep) _ _ (F₂'.get 0)) (le_txt (wpAny_truthy_bool ?_))
    have e : (((List.range (u.length - 1)).take (i + 1)).filter fun k => !decide (u < u.drop (k + 1))) = (((List.range (u.length - 1)).take i).filter fun k => !decide (u < u.drop (k + 1))) ++ (if (!decide (u < u.drop (1 + i))) = true then [i] else []) := by
      rw [List.take_add_one, List.getElem?_range hi, List.filter_append]
      congr 1
      simp only [Option.toList_some, List.filter_cons, List.filter_nil]
      rw [Nat.add_comm i 1]
    cases hc : !decide (u < u.drop (1 + i)) with
    | true =>
      simp only [if_true]
      refine St.ld F₅ rfl (TurnEnd.plain F₅ ?_)
      rw [e, if_pos hc, List.map_append]
      exact hJ.snoc ⟨_, rfl⟩
    | false =>
      simp only [Bool.false_eq_true, if_false]
      refine TurnEnd.plain F₅ ?_
      rw [e, if_neg (by rw [hc]; decide), List.append_nil]
      exact hJ
  intro D h₃ tk₃ g₃ ys n₃ F₃ k₃ k₃' hyl hJ
  refine List_ (args_nil (St.newL F₃ fun e₁ h₄ F₄ => eqNil hA'.units (F₄.get 1) (F₄.get 0) ?_))
  have hl := hJ.length
  have e : ys.isEmpty = primeF u := by
    rw [primeF_len]
    rw [List.length_map] at hl
    generalize (List.filter (fun k => !decide (u < List.drop (k + 1) u)) (List.take (u.length - 1) (List.range (u.length - 1)))) = zs at hl
    cases ys <;> cases zs <;> simp at hl ⊢
  rw [e]
  exact h h₄ _ (ks.trans (k₃.trans F₄.keep))
end
end Mine

end
section
set_option linter.unusedVariables false
namespace Mine
/-! ### _law_cuts -/
theorem getLastD_len {zs : List Int} (h : zs ≠ []) : zs[zs.length - 1]? = some (zs.getLastD 0) := by
  rw [← List.getLast?_eq_getElem?, List.getLastD_eq_getLast?]
  cases h2 : zs.getLast? with
  | none => exact absurd (List.getLast?_eq_none_iff.mp h2) h
  | some x => rfl
def CutsInv (s : Shared) (g₂ : Heap) (L ha ca lc : Addr) (oc : Obj) (u : List Nat) (k : Nat) (s' : Shared) : Prop :=
  ∃ h' tk m hs nh cs nc xs zs, s' = { s with heap := h', toks := tk } ∧ St g₂ h' L m [(ca, lst cs nc), (ha, lst hs nh), (lc, oc)] ∧
    m "heap" = some (.ref ha) ∧ m "cuts" = some (.ref ca) ∧ Items spKd g₂ hs xs ∧ Items intKd g₂ cs zs ∧ zs ≠ [] ∧
    cutsL xs zs = cutsF u ∧ xs.length + zs.length ≤ u.length + 1 ∧ xs.length = k
section
variable {prog : Program} {w : World} {A : Around} {R : Result → Shared → Prop} {s : Shared} {E : Value → Shared → Prop} {env : Env} {h₀ : Heap} {mg mb : Str → Option Value}
theorem cuts_ok {f : Addr} {u : List Nat} {t : Tok} (G : Glb h₀ mg mb) (B : Keep h₀ s.heap) (hf : FnIs h₀ f "_law_cuts" 10) (hA : Rm A 12) (hu : u.length < 2 ^ 16)
    (h : ∀ h' tk nl us n', Keep s.heap h' → s.heap.get? nl = none → h'.get? nl = some (lst us n') → Items intKd h' us (cutsF u) → R (.ok (.ret (.ref nl))) { s with heap := h', toks := tk }) :
    codeAny (model prog w) A (.call (.ref f) ⟨[.str (txt u) t], []⟩) R s := by
  obtain ⟨o, pm, cd, doc, ho, hd, hcd⟩ := hf.keeps B
  refine callX [] hA ho hd hcd rfl (BindsTo.of_eq (binds := [("line", .str (txt u) t)]) rfl) (by simp) (by simp) ?_
  intro g h₁ L env hE F hg hgs hA'
  have ks : Keep s.heap g := fun b o e => hg b o (by simp) e
  have Bg : Keep h₀ g := B.trans ks
  obtain ⟨fhy, hy1, hy2⟩ := G.fn (5, "heapify") (by decide)
  obtain ⟨fpo, hpo1, hpo2⟩ := G.fn (4, "heappop") (by decide)
  subst hE
  refine bind_cons (St.stC F (i := 0) rfl (fun h₂ F₂ => ?_) rfl)
  refine bind_nil ⟨G.nolimit.keeps (Bg.trans F₂.keep), ?_⟩
  dsimp only
  have F₂' : St g h₂ L (fun _ => none) [(L + 1, cellO (some (.str (txt u) t)))] := F₂
  -- heap = [(line[place:], place) for place in range(len(line))]
  refine wpAny_execs_cons (compA_gen (n := u.length) (P := fun i v => ∃ t, v = .int ((0 + i : Nat) : Int) t) F₂' (.cell .nil) (fun i ys g => Items spKd g ys ((tailsF u).take i)) ?_ (by omega) (fun _ => Items.nil) (fun i ys h h' x k => x.stab k) ?_ ?_)
  · intro Q E hq
    refine callT (G.keeps (Bg.trans F₂.keep)) boot_range (args_cons (callB (G.keeps (Bg.trans F₂.keep)) boot_len (args_cons (ldC (hc := rfl) (F₂'.get 0) (args_nil (lenS (by omega) fun t₁ tk₁ => args_nil ?_))))))
    exact range_head1 hA'.handled rfl (by omega) hq
  · intro i v ys C D I n' oI' g₁ h₃ tk₃ m₁ E' hP hi hyl hJ hk F₃
    obtain ⟨t₁, rfl⟩ := hP
    refine wpAny_assign_Name (St.st F₃ fun h₄ F₄ => ?_)
    have k4 : Keep h₂ h₄ := hk.trans F₄.keep
    refine wpAny_tests_nil ?_
    simp only [if_true]
    refine Tuple_ (args_cons (sliceFrom (ldC (hc := rfl) (k4 _ _ (F₂'.get 0)) (St.ld F₄ rfl ⟨u, t, 0 + i, t₁, _, _, _, _, rfl, rfl, by omega, by omega, F₄, fun h₅ tk₅ t₅ F₅ => ?_⟩))))
    refine args_cons (St.ld F₅ rfl (args_nil (St.newT F₅ fun T h₆ F₆ => TurnEnd.tup F₆ fun g' k' hT => ?_)))
    have e : (tailsF u).take (i + 1) = (tailsF u).take i ++ [(u.drop (0 + i), ((0 + i : Nat) : Int))] := by
      unfold tailsF
      rw [List.take_add_one, List.getElem?_map, List.getElem?_range hi, Nat.zero_add]; rfl
    rw [e]
    exact (hJ.stab k'.t).snoc ⟨T, _, _, _, rfl, hT⟩
  intro ha h₃ tk₃ g₂ hs nh F₃ k₂ hyl hJ
  dsimp only
  have htl : (tailsF u).length = u.length := by unfold tailsF; simp
  rw [← htl, List.take_length] at hJ
  have B₂ : Keep h₀ g₂ := Bg.trans k₂
  have none_of : ∀ {a : Addr}, g₂.get? a = none → h₀.get? a = none := fun {a} e => B₂.none e
  -- heapify(heap)
  refine wpAny_execs_cons (wpAny_Expr (callG (G.keeps (B₂.trans F₃.keep)) hy1 (hy2.keeps (B₂.trans F₃.keep)) (args_cons (St.ld F₃ rfl (args_nil ⟨Keep.refl _, ?_⟩)))))
  refine heapify_D spKd G (B₂.trans F₃.keep) (none_of (F₃.fresh 0)) hy2 (hA'.le (by omega)) (F₃.get 0) F₃.keep.t hJ (by omega) fun h₄ tk₄ n₄ hs₄ hx₄ ho₄ hI₄ => ?_
  have F₄ := F₃.turn 0 rfl hx₄ ho₄
  rw [List.set_cons_zero] at F₄
  dsimp only
  -- cuts = [len(line)]
  refine wpAny_execs_cons (wpAny_Assign_Name (List_ (args_cons (callB (G.keeps (B₂.trans F₄.keep)) boot_len (args_cons (ldC (hc := rfl) (F₄.get 1) (args_nil (lenS (by omega) fun t₅ tk₅ => args_nil (St.newL F₄ fun ca h₅ F₅ => St.st F₅ fun h₆ F₆ => ?_)))))))))
  dsimp only
  have hh3 : (heapifyF splt (tailsF u)).length = u.length := by unfold heapifyF; rw [hify_length, htl]
  -- the loop
  refine wpAny_execs_cons (wpAny_While (codeAny_whileLoop (CutsInv s g₂ L ha ca (L + 1) (cellO (some (.str (txt u) t))) u) ?_ u.length
    ⟨h₆, _, _, hs₄, n₄, _, 0, _, [((u.length : Nat) : Int)], rfl, F₆, rfl, rfl, hI₄, Items.nil.snoc ⟨_, rfl⟩, by simp, rfl, by show (heapifyF splt (tailsF u)).length + 1 ≤ _; omega, hh3⟩))
  rintro k s' ⟨h', tk, m, hs', nh', cs, nc, xs, zs, rfl, F', m1, m2, i1, i2, hne, hgoal, hs1, rfl⟩
  have l1 := i1.length
  have l2 := i2.length
  refine wpAny_isTrue_Compare1 (St.ld F' m1 (List_ (args_nil (St.newL F' fun e₁ h₈ F₈ => neNil hA'.units (F₈.get 2) (F₈.get 0) (wpAny_truthy_bool ?_)))))
  have F₈' := F₈.drop _ (.cons _ (List.Sublist.refl _))
  rw [cutsL] at hgoal
  by_cases hxe : xs = []
  · subst hxe
    have hcs : hs' = [] := List.length_eq_zero_iff.mp (by simpa using l1)
    subst hcs
    simp only [List.isEmpty_nil, Bool.not_true, Bool.false_eq_true, if_false]
    simp only [dite_true] at hgoal
    refine wpAny_execs_nil ?_
    dsimp only
    refine wpAny_execs_cons (wpAny_Return_some (St.ld F₈' m2 ?_))
    refine h h₈ _ ca _ _ (ks.trans (k₂.trans F₈'.keep)) ((ks.trans k₂).none (F₈'.fresh 0)) (F₈'.get 0) ?_
    rw [← hgoal]
    exact i2.stab F₈'.keep.t
  · have hcs : hs' ≠ [] := fun q => hxe (List.length_eq_zero_iff.mp (by rw [← l1, q]; rfl))
    have hcs2 : hs'.isEmpty = false := by simpa using hcs
    simp only [hcs2, Bool.not_false, if_true]
    simp only [hxe, dite_false] at hgoal
    -- place = heappop(heap)[1]
    refine wpAny_execs_cons (wpAny_Assign_Name (Subscript_ (callG (G.keeps (B₂.trans F₈'.keep)) hpo1 (hpo2.keeps (B₂.trans F₈'.keep)) (args_cons (St.ld F₈' m1 (args_nil ⟨Keep.refl _, ?_⟩))))))
    refine heappop_D spKd G (B₂.trans F₈'.keep) (none_of (F₈'.fresh 1)) hpo2 (hA'.le (by omega)) (F₈'.get 1) F₈'.keep.t i1 hxe (by omega) fun h₉ tk₉ n₉ v₉ hs₉ hx₉ ho₉ hI₉ hR₉ => ?_
    have F₉ := F₈'.turn 1 rfl hx₉ ho₉
    generalize hp : hpop spKd.lt xs hxe = p at hI₉ hR₉
    have hplen := hpop_length spKd.lt xs hxe
    rw [hp] at hplen
    have hp' : hpop splt xs hxe = p := hp
    rw [hp'] at hgoal
    obtain ⟨⟨p1, p2⟩, xr⟩ := p
    obtain ⟨T, nT, t₁, u₁, rfl, hT⟩ := hR₉
    dsimp only at hT hI₉ hgoal hplen
    refine wpAny_Constant_int (getT (F₉.keep _ _ hT) (k := 1) rfl rfl (by omega) (St.st F₉ fun h₁₀ F₁₀ => ?_))
    dsimp only
    -- if place < cuts[-1]
    have hzl : 0 < zs.length := List.length_pos_iff.mpr hne
    obtain ⟨vz, hvz, tz, rfl⟩ := i2.get' (getLastD_len hne)
    refine wpAny_execs_cons (wpAny_If (wpAny_isTrue_Compare1 (St.ld F₁₀ rfl (Subscript_ (St.ld F₁₀ m2 (wpAny_UnaryOp (wpAny_Constant_int (PySem.P.neg_int (getLN (F₁₀.get 0) (j := zs.length - 1) (by decide) (by omega) hvz (by omega) (lt_int (wpAny_truthy_bool ?_)))))))))))
    by_cases hlt : p2 < zs.getLastD 0
    · simp only [hlt, decide_true, if_true] at hgoal ⊢
      -- cuts.append(place)
      refine wpAny_execs_cons (wpAny_Expr (methL PySem.F.slot_list_append PySem.F.type_list_append (St.ld F₁₀ m2 ⟨ca, _, nc, rfl, F₁₀.get 0, callWithB1 (St.ld F₁₀ rfl (appendL (F₁₀.get 0) (by omega) fun h₁₁ hs₁₁ ho₁₁ => ?_))⟩)))
      have F₁₁ := F₁₀.turn 0 rfl (ExtS.of hs₁₁.extBut) ho₁₁
      dsimp only
      refine wpAny_execs_nil (wpAny_execs_nil ⟨xr.length, by omega, h₁₁, _, _, hs₉, n₉, _, _, xr, _, rfl, F₁₁, m1, m2, hI₉, i2.snoc ⟨_, rfl⟩, by simp, hgoal, by simp; omega, rfl⟩)
    · simp only [hlt, decide_false, if_false, Bool.false_eq_true] at hgoal ⊢
      refine wpAny_execs_nil (wpAny_execs_nil ⟨xr.length, by omega, h₁₀, _, _, hs₉, n₉, cs, nc, xr, zs, rfl, F₁₀, m1, m2, hI₉, i2, hne, hgoal, by omega, rfl⟩)
end
end Mine

end
section
set_option linter.unusedVariables false
namespace Mine
/-! ### _law_prog -/
/-- search stands at sf, its own table is P' -/
def SearchAt (h : Heap) (sf P' : Addr) (qual : Str) : Prop :=
  ∃ T₀ t₀ n₀ c' doc pm ctv, h.get? sf = some (kdv_obj "search" qual (sParams searchSt) (.stmts (sBody searchSt)) (sScope searchSt) [] (.ref T₀) doc pm c' ctv) ∧
    h.get? T₀ = some (tup [.int 0 t₀] n₀) ∧ h.CodeRec (.ref c') qual ∧ CodeHd h c' P'
theorem SearchAt.keeps {h h' : Heap} {sf P' : Addr} {q : Str} (x : SearchAt h sf P' q) (k : Keep h h') : SearchAt h' sf P' q :=
  let ⟨T₀, t₀, n₀, c', doc, pm, ctv, h1, h2, h5, h6⟩ := x; ⟨T₀, t₀, n₀, c', doc, pm, ctv, k _ _ h1, k _ _ h2, h5.keeps k, h6.keeps k⟩
section
variable {prog : Program} {w : World} {A : Around} {R : Result → Shared → Prop} {s : Shared} {E : Value → Shared → Prop} {h₀ : Heap} {mg mb : Str → Option Value}
theorem prog_ok {f c P : Addr} {av : List (Addr × Obj)} (G : Glb h₀ mg mb) (B : Keep h₀ s.heap) (hf : FnIsC h₀ f "_law_prog" 12 c) (C : CodeHd h₀ c P) (hP₀ : h₀.get? P = none) (hP : s.heap.get? P = some (tabObj #[]))
    (hav : ∀ p ∈ av, s.heap.get? p.1 = some p.2 ∧ h₀.get? p.1 = none) (hnd : (P :: av.map (·.1)).Nodup) (hA : Rm A 12)
    (h : ∀ h' tk p sf P' ps g' q, Keep g' h' → AttrAt g' p "search" sf → SearchAt g' sf P' q → (∀ x ∈ (P', tabObj #[]) :: (P, tabObj ps) :: av, h'.get? x.1 = some x.2 ∧ g'.get? x.1 = none) → (P' :: P :: av.map (·.1)).Nodup →
      (∀ b o, b ≠ P → b ∉ av.map (·.1) → s.heap.get? b = some o → g'.get? b = some o) → R (.ok (.ret (.ref p))) { s with heap := h', toks := tk }) :
    codeAny (model prog w) A (.call (.ref f) ⟨[], []⟩) R s := by
  obtain ⟨o, pm, doc, ho, hd, hcd⟩ := hf.keeps B
  refine callX ((P, tabObj #[]) :: av) hA ho hd hcd rfl (BindsTo.of_eq (binds := []) rfl) (fun p hp => ?_) hnd ?_
  · rcases List.mem_cons.mp hp with rfl | hp
    · exact hP
    · exact (hav p hp).1
  intro g h₁ L env hE F hg hgs hA'
  have hgP : ∀ b o, b ≠ P → b ∉ av.map (·.1) → s.heap.get? b = some o → g.get? b = some o := fun b o hb hb2 e => hg b o (fun hm => (List.mem_cons.mp hm).elim hb hb2) e
  have Bg : Keep h₀ g := fun b o e => hgP b o (fun q => by rw [q, hP₀] at e; cases e) (fun hm => by
    obtain ⟨x, hx, rfl⟩ := List.mem_map.mp hm
    rw [(hav x hx).2] at e; cases e) (B _ _ e)
  subst hE
  refine bind_nil ⟨G.nolimit.keeps (Bg.trans F.keep), ?_⟩
  have F₃ : St g h₁ L (fun _ => none) ((P, tabObj #[]) :: av) := F
  -- def search
  refine wpAny_execs_cons (kdv_def rfl rfl rfl (kdv_all1 (wpAny_Constant_int (kdv_all0 (St.mkDflt F₃ rfl fun T₀ h₄ F₄ => ?_)))))
  refine St.mk' (i := 1) F₄ (G.keeps Bg) rfl (C.keeps Bg) trivial rfl rfl fun sf c' P' ctv doc' h₅ tk₅ g₅ F₅ k₅ hrec hCd => ?_
  refine St.st F₅ fun h₆ F₆ => ?_
  dsimp only
  -- freeze search
  obtain ⟨g₆, F₇, k₆, r₆⟩ := F₆.rebase ((P', tabObj #[]) :: (P, tabObj (#[] ++ #[_, _, .ref c'])) :: av) (.cons _ (.cons_cons _ (.cons _ (List.Sublist.refl _))))
  have out : ∀ {a : Addr} (i : Nat), ((sf :: P' :: T₀ :: P :: av.map (·.1)) : List Addr)[i]? = some a → i ≠ 1 → i < 3 → a ∉ (P' :: P :: av.map (·.1)) := fun {a} i hi h1 h5 hm => by
    have nd : (sf :: P' :: T₀ :: P :: av.map (·.1)).Nodup := F₆.nd
    rcases List.mem_cons.mp hm with e | hm
    · exact nd_ne nd i 1 hi rfl h1 e
    · exact nd_drop nd i 3 hi h5 hm
  obtain ⟨q₆, S₆⟩ : ∃ q₆, SearchAt g₆ sf P' q₆ :=
    ⟨_, T₀, _, 0, c', doc', _, ctv, r₆ sf _ (F₆.get 0) (F₆.notL 0) (out 0 rfl (by decide) (by decide)), r₆ T₀ _ (F₆.get 2) (F₆.notL 2) (out 2 rfl (by decide) (by decide)), hrec.keeps k₆, hCd.keeps k₆⟩
  -- prog = lambda: None
  refine wpAny_execs_cons (wpAny_Assign_Name (kla_eval rfl (mkNo (St.mk' (i := 1) F₇ (G.keeps (Bg.trans (k₅.trans k₆))) rfl (C.keeps (Bg.trans (k₅.trans k₆))) trivial rfl rfl fun pf c₂ P₂ ctv₂ doc₂ h₈ tk₈ g₈ F₈ k₈ _ _ => St.st F₈ fun h₉ F₉ => ?_))))
  dsimp only
  -- prog.search = search
  refine wpAny_execs_cons (plainObj_wpAny_Assign_Attribute (St.ld F₉ rfl (St.ld F₉ rfl (St.setattr (i := 0) F₉ rfl look_search fun d h₁₀ tk₁₀ g₁₀ F₁₀ k₁₀ hn => ?_))))
  dsimp only
  refine wpAny_execs_cons (wpAny_Return_some (St.ld F₁₀ rfl ?_))
  obtain ⟨g₁₁, F₁₁, k₁₁, r₁₁⟩ := F₁₀.rebase ((P', tabObj #[]) :: (P, tabObj _) :: av) (.cons _ (.cons _ (.cons_cons _ (.cons_cons _ (List.Sublist.refl _)))))
  have kk : Keep g g₁₁ := k₅.trans (k₆.trans (k₈.trans (k₁₀.trans k₁₁)))
  exact h h₁₀ _ pf sf P' _ g₁₁ _ F₁₁.keep ⟨_, d, _, _, r₁₁ pf _ (F₁₀.get 0) (F₁₀.notL 0) (nd_drop F₁₀.nd 0 2 rfl (by decide)), rfl, rfl, rfl, hn.keeps k₁₁, rfl⟩ (S₆.keeps (k₈.trans (k₁₀.trans k₁₁))) (fun x hx => ⟨(F₁₁.mob x hx).1, (F₁₁.mob x hx).2.2⟩) F₁₁.nd (fun b o hb hb2 e => kk _ _ (hgP b o hb hb2 e))
end

section
variable {prog : Program} {w : World} {A : Around} {s : Shared} {E : Value → Shared → Prop} {env : Env} {mg mb : Str → Option Value}
/-- a call of the text's own def, whose arguments turn the heap -/
theorem callH {x : Str} {np pos : Pos} {e : Expr} {rest : List Expr} {f : Addr} {nm : Str} {i : Nat} {hz : Heap} {Q : Value → Shared → Prop} (G : Glb s.heap mg mb) (hm : mg x = some (.ref f)) (hf : FnIs hz f nm i)
    (h : wpAny (model prog w) A (spliced (backTo pos (starEach (e :: rest) env))) (fun vs s₁ => Keep hz s₁.heap ∧
      codeAny (model prog w) A (.call (.ref f) ⟨vs, []⟩) (fun r s' => match r with | .ok (.ret v) => Q v s' | .ok _ => False | .error e => E e s') s₁) E s)
    (he : starEach (e :: rest) env = (false, eval e env) :: starEach rest env := by rfl) (hg : env.globals = mainGlobals := by rfl)
    (hk : env.scope.kind = .function := by rfl) (hl : env.kindOf x = some .globalImplicit := by rfl) (hd : (x == ("__debug__" : Str)) = false := by decide) :
    wpAny (model prog w) A (eval (.Call (.Name x np) (e :: rest) [] pos) env) Q E s := by
  obtain ⟨o, pm, cd, doc, h1, h2, h3⟩ := hf
  refine Call_ (G.ldG hm ?_ hg hk hl hd) 
  exact callWith_def h2 (wpAny_mono h (fun vs s₁ h₁ => ⟨h₁.1 _ _ h1, wpAny_call h₁.2⟩) fun _ _ x => x) he
end

/-! ### search -/
abbrev srchE (sf L c' : Addr) (q : Str) : Env := newEnv (sScope searchSt) L mainGlobals (cellsFrom (L + 1) (sScope searchSt).names []) (q ++ ".<locals>.") (some sf) (.ref c') none builtinsNs
def SW (h₀ g : Heap) (sf P' : Addr) (q : Str) (ps : Array Value) (h : Heap) : Prop :=
  Keep g h ∧ Keep h₀ g ∧ SearchAt g sf P' q ∧ g.get? P' = none ∧ h.get? P' = some (tabObj ps) ∧ TabOk g q ps
section
variable {prog : Program} {w : World} {A : Around} {R : Result → Shared → Prop} {s : Shared} {E : Value → Shared → Prop} {h₀ : Heap} {mg mb : Str → Option Value}
theorem search_core {sf P' : Addr} {q : Str} {u : List Nat} {p : Nat} {tu : Tok} {ps : Array Value} {args : Args} {g₀ : Heap} {av : List (Addr × Obj)} (G : Glb h₀ mg mb) (hW : SW h₀ g₀ sf P' q ps s.heap) (hav : Aside g₀ s.heap [P'] av) (hu : u.length < 2 ^ 16) (hA : Rm A 12)
    (hbind : ∀ T₀ t₀ n₀ c' doc pm ctv, s.heap.get? T₀ = some (tup [.int 0 t₀] n₀) →
      ∃ t, BindsTo s (kdv_fn "search" q (sParams searchSt) (.stmts (sBody searchSt)) (sScope searchSt) [] (.ref T₀) doc pm (.ref c') ctv) args [("chars", .str (txt u) tu), ("pos", .int (p : Int) t)])
    (h : ∀ h' tk ps' v g', SW h₀ g' sf P' q ps' h' → Aside g' h' [P'] av → Keep g₀ g' → HitAt g' v (nxt2 u () (p : Int)).1 → R (.ok (.ret v)) { s with heap := h', toks := tk }) :
    codeAny (model prog w) A (.call (.ref sf) args) R s := by
  obtain ⟨kg, k0, hS, f3, hP, hT⟩ := hW
  have hS' := hS
  obtain ⟨T₀, t₀, n₀, c', doc, pm, ctv, o1, o2, o5, o6⟩ := hS'
  obtain ⟨t, hbind⟩ := hbind T₀ t₀ n₀ c' doc pm ctv (kg _ _ o2)
  refine callX ((P', tabObj ps) :: av) hA (kg _ _ o1) rfl (o5.keeps kg) rfl hbind (by
    intro x hx
    rcases List.mem_cons.mp hx with rfl | hx
    · exact hP
    · exact (hav.1 x hx).1) hav.2.2 ?_
  intro g h₁ L env hE F hg hgs hA'
  have k1 : Keep g₀ g := fun c o e => hg c o (fun hm => by
    rcases List.mem_cons.mp hm with rfl | hm
    · rw [f3] at e; cases e
    · obtain ⟨x, hx, rfl⟩ := List.mem_map.mp hm
      rw [(hav.1 x hx).2] at e; cases e) (kg _ _ e)
  have Bg : Keep h₀ g := k0.trans k1
  obtain ⟨fpr, hpr1, hpr2⟩ := G.fn (11, "_law_prime") (by decide)
  subst hE
  refine bind_cons (St.st F fun h₂ F₂ => ?_)
  refine bind_cons (St.st F₂ fun h₃ F₃ => ?_)
  refine bind_nil ⟨G.nolimit.keeps (Bg.trans F₃.keep), ?_⟩
  dsimp only
  have F₃' : St g h₃ L _ ((L + 2, cellO none) :: (L + 1, cellO none) :: (P', tabObj ps) :: av) := F₃
  -- first = pos
  refine wpAny_execs_cons (wpAny_Assign_Name (St.ld F₃' rfl (St.stC F₃' (i := 0) rfl (fun h₄ F₄ => ?_) rfl)))
  dsimp only
  -- behind = len(chars)
  refine wpAny_execs_cons (wpAny_Assign_Name (callB (G.keeps (Bg.trans F₄.keep)) boot_len (args_cons (St.ld F₄ rfl (args_nil (lenS (by omega) fun t₅ tk₅ => St.stC F₄ (i := 1) rfl (fun h₅ F₅ => ?_) rfl))))))
  dsimp only
  simp only [List.set_cons_zero, List.set_cons_succ] at F₅
  have hT₄ : TabOk g q ps := hT.keeps k1
  have cg : CodeHd g c' P' := o6.keeps k1
  -- the loop
  refine wpAny_execs_cons (wpAny_While (codeAny_whileLoop (fun k s' => ∃ h' tk tE, s' = { s with heap := h', toks := tk } ∧ St g h' L _ ((L + 2, cellO (some (.int (p : Int) t))) :: (L + 1, cellO (some (.int (k : Int) tE))) :: (P', tabObj ps) :: av) ∧
    k ≤ u.length ∧ behF u p k = behF u p u.length) ?_ u.length ⟨h₅, _, _, rfl, F₅, Nat.le_refl _, rfl⟩))
  rintro k s' ⟨h', tk, tE, rfl, F', hk, hgoal⟩
  -- behind the loop
  have fin : ∀ (h₆ : Heap) (tk₆ : Nat), St g h₆ L (upd (upd (fun _ => none) ("chars" : Str) (.str (txt u) tu)) ("pos" : Str) (.int (p : Int) t)) ((L + 2, cellO (some (.int (p : Int) t))) :: (L + 1, cellO (some (.int (k : Int) tE))) :: (P', tabObj ps) :: av) → behF u p u.length = k →
      wpAny (model prog w) (A.deeper (srchE sf L c' q)) (execs ((sBody searchSt).drop 3) (srchE sf L c' q)) (fun fl s' => R (.ok (.ret (match fl with | .ret v => v | _ => .none))) s') (fun _ _ => False) { s with heap := h₆, toks := tk₆ } := by
    intro h₆ tk₆ F₆ hbeh
    have done : ∀ {gg hh : Heap} {L' : Addr} {mm : Str → Option Value} {ps' : Array Value} {v : Value} {tk : Nat}, Keep g gg → St gg hh L' mm ((P', tabObj ps') :: av) → TabOk gg q ps' →
        HitAt gg v (nxt2 u () (p : Int)).1 → R (.ok (.ret v)) { s with heap := hh, toks := tk } := fun {gg hh L' mm ps' v tk} ka FF ht hH =>
      h hh tk ps' v gg ⟨FF.keep, Bg.trans ka, hS.keeps (k1.trans ka), FF.fresh 0, FF.get 0, ht⟩ ⟨fun x hx => ⟨(FF.mob x (.tail _ hx)).1, (FF.mob x (.tail _ hx)).2.2⟩, hav.2.1, FF.nd⟩ (k1.trans ka) hH
    have hnx : (nxt2 u () (p : Int)).1 = if (k : Int) ≤ (p : Int) then none else some ((p : Int), (k : Int)) := by
      unfold nxt2
      rw [Int.toNat_natCast, hbeh]
      split <;> rfl
    -- if behind <= first
    refine wpAny_execs_cons (wpAny_If (wpAny_isTrue_Compare1 (ldC (hc := rfl) (F₆.get 1) (ldC (hc := rfl) (F₆.get 0) (le_int (wpAny_truthy_bool ?_))))))
    by_cases hle : (k : Int) ≤ (p : Int)
    · simp only [hle, decide_true, if_true] at hnx ⊢
      refine wpAny_execs_cons (wpAny_Return_some (fun _ _ _ => ?_))
      refine done (Keep.refl _) (F₆.drop _ (.cons _ (.cons _ (List.Sublist.refl _)))) hT₄ ?_
      rw [hnx]; rfl
    · simp only [hle, decide_false, Bool.false_eq_true, if_false] at hnx ⊢
      refine wpAny_execs_nil ?_
      dsimp only
      rcases hT₄ with hps | ⟨c1, c2, hps, hrc⟩
      · subst hps
        -- hit = lambda: None
        refine wpAny_execs_cons (wpAny_Assign_Name (kla_eval rfl (mkNo (St.mk' (i := 2) F₆ (G.keeps Bg) rfl cg trivial rfl rfl fun hf c₁ P₁ ctv₁ doc₁ h₁₁ tk₁₁ g₁₁ F₁₁ k₁₁ _ _ => St.st F₁₁ fun h₁₂ F₁₂ => ?_))))
        dsimp only
        -- hit.span = lambda: (first, behind)
        refine wpAny_execs_cons (plainObj_wpAny_Assign_Attribute (kla_eval rfl (mkNo (St.mk' (i := 4) F₁₂ (G.keeps (Bg.trans k₁₁)) rfl (cg.keeps k₁₁) trivial rfl rfl fun sp c₂ P₂ ctv₂ doc₂ h₁₃ tk₁₃ g₁₃ F₁₃ k₁₃ hrc hcd₂ => St.ld F₁₃ rfl (St.setattr (i := 2) F₁₃ rfl look_span fun d h₁₄ tk₁₄ g₁₄ F₁₄ k₁₄ hn => ?_)))))
        dsimp only
        refine wpAny_execs_cons (wpAny_Return_some (St.ld F₁₄ rfl ?_))
        obtain ⟨g₁₅, F₁₅, k₁₅, r⟩ := F₁₄.rebase ((P', tabObj _) :: av) (.cons _ (.cons _ (.cons _ (.cons _ (.cons _ (.cons _ (List.Sublist.refl _)))))))
        have ka : Keep g g₁₅ := k₁₁.trans (k₁₃.trans (k₁₄.trans k₁₅))
        refine done ka F₁₅ (.inr ⟨c₁, c₂, rfl, hrc.keeps (k₁₄.trans k₁₅)⟩) ?_
        rw [hnx]
        exact ⟨hf, sp, rfl, ⟨_, d, _, _, r hf _ (F₁₄.get 2) (F₁₄.notL 2) (nd_drop F₁₄.nd 2 6 rfl (by decide)), rfl, rfl, rfl, hn.keeps k₁₅, rfl⟩,
          ⟨L + 2, L + 1, c₂, doc₂, _, ctv₂, _, _, t, tE, r sp _ (F₁₄.get 0) (F₁₄.notL 0) (nd_drop F₁₄.nd 0 6 rfl (by decide)), hrc.keeps (k₁₄.trans k₁₅), rfl, rfl,
            r (L + 2) _ (F₁₄.get 4) (F₁₄.notL 4) (nd_drop F₁₄.nd 4 6 rfl (by decide)), r (L + 1) _ (F₁₄.get 5) (F₁₄.notL 5) (nd_drop F₁₄.nd 5 6 rfl (by decide))⟩⟩
      · subst hps
        -- hit = lambda: None
        refine wpAny_execs_cons (wpAny_Assign_Name (kla_eval rfl (mkNo (St.mkHit (i := 2) (cv := .ref c1) F₆ (G.keeps Bg) rfl cg trivial rfl rfl fun hf ctv₁ doc₁ h₁₁ tk₁₁ F₁₁ => St.st F₁₁ fun h₁₂ F₁₂ => ?_))))
        dsimp only
        -- hit.span = lambda: (first, behind)
        refine wpAny_execs_cons (plainObj_wpAny_Assign_Attribute (kla_eval rfl (mkNo (St.mkHit (i := 3) (cv := .ref c2) F₁₂ (G.keeps Bg) rfl cg trivial rfl rfl fun sp ctv₂ doc₂ h₁₃ tk₁₃ F₁₃ => St.ld F₁₃ rfl (St.setattr (i := 1) F₁₃ rfl look_span fun d h₁₄ tk₁₄ g₁₄ F₁₄ k₁₄ hn => ?_)))))
        dsimp only
        refine wpAny_execs_cons (wpAny_Return_some (St.ld F₁₄ rfl ?_))
        obtain ⟨g₁₅, F₁₅, k₁₅, r⟩ := F₁₄.rebase ((P', tabObj _) :: av) (.cons _ (.cons _ (.cons _ (.cons _ (List.Sublist.refl _)))))
        have ka : Keep g g₁₅ := k₁₄.trans k₁₅
        refine done ka F₁₅ (.inr ⟨c1, c2, rfl, hrc.keeps ka⟩) ?_
        rw [hnx]
        exact ⟨hf, sp, rfl, ⟨_, d, _, _, r hf _ (F₁₄.get 1) (F₁₄.notL 1) (nd_drop F₁₄.nd 1 4 rfl (by decide)), rfl, rfl, rfl, hn.keeps k₁₅, rfl⟩,
          ⟨L + 2, L + 1, c2, doc₂, _, ctv₂, _, _, t, tE, r sp _ (F₁₄.get 0) (F₁₄.notL 0) (nd_drop F₁₄.nd 0 4 rfl (by decide)), hrc.keeps ka, rfl, rfl,
            r (L + 2) _ (F₁₄.get 2) (F₁₄.notL 2) (nd_drop F₁₄.nd 2 4 rfl (by decide)), r (L + 1) _ (F₁₄.get 3) (F₁₄.notL 3) (nd_drop F₁₄.nd 3 4 rfl (by decide))⟩⟩
  -- while behind > first and not _law_prime(chars[first:behind])
  refine isTrue_and (wpAny_isTrue_Compare1 (ldC (hc := rfl) (F'.get 1) (ldC (hc := rfl) (F'.get 0) (gt_int (wpAny_truthy_bool ?_)))))
  cases k with
  | zero =>
    have hgt : ¬ ((p : Int) < ((0 : Nat) : Int)) := by omega
    simp only [hgt, decide_false, Bool.false_eq_true, if_false]
    refine wpAny_execs_nil ?_
    dsimp only
    exact fin h' _ F' (by rw [← hgoal]; rfl)
  | succ e =>
    rw [behF] at hgoal
    by_cases hgt : (p : Int) < ((e + 1 : Nat) : Int)
    · simp only [hgt, decide_true, if_true]
      have hgt' : p < e + 1 := by omega
      refine isTrue_and (isTrue_not (isTrue_plain (callH (G.keeps (Bg.trans F'.keep)) hpr1 hpr2 (args_cons (sliceMid (St.ld F' rfl (ldC (hc := rfl) (F'.get 0) (ldC (hc := rfl) (F'.get 1) ⟨u, tu, p, e + 1, t, tE, _, _, _, _, rfl, rfl, rfl, by omega, hk, by omega, F', fun h₇ tk₇ t₇ F₇ => args_nil ⟨Bg.trans F₇.keep, ?_⟩⟩))))))))
      refine prime_ok G (Bg.trans F₇.keep) hpr2 (hA'.le (by omega)) (by rw [List.length_take, List.length_drop]; omega) fun h₈ tk₈ k₈ => wpAny_truthy_bool ?_
      have F₈ := F₇.all k₈
      cases hpr : primeF ((u.drop p).take (e + 1 - p)) with
      | false =>
        rw [if_pos ⟨hgt', hpr⟩] at hgoal
        simp only [Bool.not_false, if_true]
        refine isTrue_and_nil ?_
        simp only [if_true]
        -- behind -= 1
        refine wpAny_execs_cons (wpAny_AugAssign_Name (wpAny_loadName_cell (c := L + 1) rfl rfl rfl ⟨_, F₈.get 1, rfl⟩ (wpAny_Constant_int (isub_int (St.stC F₈ (i := 1) rfl (fun h₉ F₉ => ?_) rfl)))))
        dsimp only
        simp only [List.set_cons_zero, List.set_cons_succ] at F₉
        have e1 : ((e + 1 : Nat) : Int) - 1 = (e : Nat) := by omega
        rw [e1] at F₉
        exact wpAny_execs_nil ⟨e, by omega, h₉, _, _, rfl, F₉, by omega, hgoal⟩
      | true =>
        rw [if_neg (by rw [hpr]; simp)] at hgoal
        simp only [Bool.not_true, Bool.false_eq_true, if_false]
        refine wpAny_execs_nil ?_
        dsimp only
        exact fin h₈ _ F₈ hgoal.symm
    · simp only [hgt, decide_false, Bool.false_eq_true, if_false]
      refine wpAny_execs_nil ?_
      dsimp only
      rw [if_neg (by omega)] at hgoal
      exact fin h' _ F' hgoal.symm
end
end Mine

end
section
set_option linter.unusedVariables false
namespace Mine
/-! ### A comprehension whose element turns a list of the frame's -/
def TurnEndM (s : Shared) (g : Heap) (C I D X : Addr) (oI : Obj) (ys : List Value) (n : Nat) (Z : Heap → List Value → Prop) (s' : Shared) : Prop :=
  ∃ g' h' tk m' xs nx, s' = { s with heap := h', toks := tk } ∧ St g' h' C m' [(I, oI), (D, lst ys n), (X, lst xs nx)] ∧ Keep g g' ∧ Z g' xs
section
variable {prog : Program} {w : World} {A : Around} {E : Value → Shared → Prop} {s : Shared} {env : Env} {g : Heap} {L : Addr} {m : Str → Option Value} {mu : List (Addr × Obj)}
def CompStepM (prog : Program) (w : World) (A : Around) (env : Env) (scope : Scope) (cl : List (Str × Addr)) (elt target : Expr) (ifs : List Expr) (s : Shared) (g₀ : Heap) (X : Addr) (n : Nat) (P : Nat → Value → Prop) (J : Nat → List Value → Heap → List Value → Prop) : Prop :=
  ∀ i v ys C D I n' oI' xs nx g₁ h₁ tk m₁ (E' : Value → Shared → Prop), P i v → i < n → ys.length ≤ i → J i ys g₁ xs → Keep g₀ g₁ → (∀ b o, b ≠ X → s.heap.get? b = some o → g₁.get? b = some o) → St g₁ h₁ C m₁ [(I, oI'), (D, lst ys n'), (X, lst xs nx)] →
      wpAny (model prog w) A (assign target (compEnvC scope cl C env) v) (fun _ s₂ => wpAny (model prog w) A (testsOf ifs (compEnvC scope cl C env)) (fun ok s₃ =>
        if ok = true then wpAny (model prog w) A (eval elt (compEnvC scope cl C env)) (fun y s₄ => TurnEndM s g₁ C I D X oI' ys n' (J (i + 1) (ys ++ [y])) s₄) E' s₃
        else TurnEndM s g₁ C I D X oI' ys n' (J (i + 1) ys) s₃) E' s₂) E' { s with heap := h₁, toks := tk }

theorem comp_coreM {elt target iter : Expr} {ifs : List Expr} {scope : Scope} {cl : List (Str × Addr)} {pos : Pos} {I X : Addr} {oI : Obj} {g₀ : Heap} {n : Nat} {P : Nat → Value → Prop} {It : Nat → Obj → Prop} {RR : Value → Addr → Result → Shared → Prop} {xs₀ : List Value} {nx₀ : Nat}
    (S : Src prog w A I g₀ n P It) (hsz : n < 2 ^ 20) (J : Nat → List Value → Heap → List Value → Prop)
    (hI : s.heap.get? I = some oI) (hIt : It 0 oI) (hX : s.heap.get? X = some (lst xs₀ nx₀)) (hIX : I ≠ X) (hg₀ : Keep g₀ s.heap) (hg₀I : g₀.get? I = none) (hg₀X : g₀.get? X = none)
    (hcell : ∀ y ∈ scope.names, y.2 ≠ .cell) (hkind : scope.kind = .function) (J0 : ∀ g, J 0 [] g xs₀)
    (step : ∀ i v ys C D n' oI' xs nx g₁ h₁ tk m₁ (E' : Value → Shared → Prop), P i v → i < n → ys.length ≤ i → J i ys g₁ xs → Keep g₀ g₁ → (∀ b o, b ≠ I → b ≠ X → s.heap.get? b = some o → g₁.get? b = some o) → St g₁ h₁ C m₁ [(I, oI'), (D, lst ys n'), (X, lst xs nx)] →
      wpAny (model prog w) A (assign target (compEnvC scope cl C env) v) (fun _ s₂ => wpAny (model prog w) A (testsOf ifs (compEnvC scope cl C env)) (fun ok s₃ =>
        if ok = true then wpAny (model prog w) A (eval elt (compEnvC scope cl C env)) (fun y s₄ => TurnEndM s g₁ C I D X oI' ys n' (J (i + 1) (ys ++ [y])) s₄) E' s₃
        else TurnEndM s g₁ C I D X oI' ys n' (J (i + 1) ys) s₃) E' s₂) E' { s with heap := h₁, toks := tk })
    (hRR : ∀ D C h' tk g₁ m' ys n' xs nx, St g₁ h' C m' [(D, lst ys n'), (X, lst xs nx)] → (∀ b o, b ≠ I → b ≠ X → s.heap.get? b = some o → g₁.get? b = some o) → s.heap.get? D = none → s.heap.get? C = none → D ≠ C → ys.length ≤ n → J n ys g₁ xs → RR (.ref D) C (.ok .next) { s with heap := h', toks := tk }) :
    wpAny (model prog w) A (newList []) (fun acc s₃ => wpAny (model prog w) A (newFunctionEnv scope env.globals cl [] env.qual none .none (some env)) (fun cenv s₄ =>
      codeAny (model prog w) A (.compStart (.ListComp elt [⟨target, iter, ifs, 0⟩] scope pos) 0 (.ref I) acc { cenv with scope := relabel scope env }) (RR acc cenv.locals) s₄) E s₃) E s := by
  refine wpAny_newObj_type (wpAny_newFunctionEnv hcell (by intro y hy; simp at hy) (fun h₁ hns₁ hsb₁ => ?_) hkind) (by size_fits)
  dsimp only at hns₁ hsb₁ ⊢
  generalize hH2 : s.heap.push { cls := .type "list", dict := none, data := .seq ([] : List Value).toArray } = H2 at hns₁ hsb₁ ⊢
  have hC : H2.objs.size = s.heap.objs.size + 1 := by rw [← hH2, Heap.size_push]
  have hDC : s.heap.objs.size ≠ H2.objs.size := by rw [hC]; exact Nat.ne_of_lt (Nat.lt_succ_self _)
  have hIs : I < s.heap.objs.size := Heap.lt_size hI
  have hXs : X < s.heap.objs.size := Heap.lt_size hX
  have below : ∀ b, b < s.heap.objs.size → b ≠ H2.objs.size ∧ b ≠ s.heap.objs.size := fun b hb => ⟨by rw [hC]; exact Nat.ne_of_lt (Nat.lt_succ_of_lt hb), Nat.ne_of_lt hb⟩
  have old : ∀ b o, s.heap.get? b = some o → h₁.get? b = some o := fun b o e => hsb₁.extBut b o (below b (Heap.lt_size e)).1 (Heap.get?_push_of_some _ (hH2 ▸ Heap.get?_push_of_some _ e))
  have hacc : h₁.get? s.heap.objs.size = some (lst [] 0) := hsb₁.extBut _ _ hDC (Heap.get?_push_of_some _ (hH2 ▸ Heap.get?_push_size _ rfl))
  have fresh : ∀ a, s.heap.objs.size ≤ a → s.heap.get? a = none := fun a ha => by
    cases e : s.heap.get? a with
    | none => rfl
    | some o' => exact absurd (Heap.lt_size e) (Nat.not_lt.mpr ha)
  have hDf : s.heap.get? s.heap.objs.size = none := fresh _ (Nat.le_refl _)
  have hCf : s.heap.get? H2.objs.size = none := fresh _ (by rw [hC]; exact Nat.le_succ _)
  have F₁ : St (hideAll s.heap [I, X]) h₁ H2.objs.size (fun x => ([] : List (Str × Value)).reverse.lookup x) [(I, oI), (s.heap.objs.size, lst [] 0), (X, lst xs₀ nx₀)] := by
    refine ⟨hns₁, fun b o e => old b o (of_hideAll _ e), ?_, fun p hp => ?_, ?_⟩
    · cases q : (hideAll s.heap [I, X]).get? H2.objs.size with
      | none => rfl
      | some o => rw [of_hideAll _ q] at hCf; cases hCf
    · rcases List.mem_cons.mp hp with rfl | hp
      · exact ⟨old _ _ hI, (below I hIs).1, hideAll_none _ (.head _)⟩
      · rcases List.mem_cons.mp hp with rfl | hp
        · refine ⟨hacc, hDC, ?_⟩
          cases q : (hideAll s.heap [I, X]).get? s.heap.objs.size with
          | none => rfl
          | some o => rw [of_hideAll _ q] at hDf; cases hDf
        · rcases List.mem_cons.mp hp with rfl | hp
          · exact ⟨old _ _ hX, (below X hXs).1, hideAll_none _ (.tail _ (.head _))⟩
          · cases hp
    · simp [Nat.ne_of_lt hIs, hIX, Nat.ne_of_gt hXs]
  have hgI : ∀ b o, b ≠ I → b ≠ X → s.heap.get? b = some o → (hideAll s.heap [I, X]).get? b = some o := fun b o hb hb2 e => hideAll_get _ e (by simp [hb, hb2])
  have hg₁ : Keep g₀ (hideAll s.heap [I, X]) := fun b o e => hgI b o (fun q => by rw [q, hg₀I] at e; cases e) (fun q => by rw [q, hg₀X] at e; cases e) (hg₀ b o e)
  have loop : ∀ s₂ : Shared, s₂ = { s with heap := h₁, toks := s.toks + ([] : List (Str × Value)).length } →
      codeAny (model prog w) A (.compLoop (.ListComp elt [⟨target, iter, ifs, 0⟩] scope pos) 0 (.ref I) (.ref s.heap.objs.size) (compEnvC scope cl H2.objs.size env)) (RR (.ref s.heap.objs.size) H2.objs.size) s₂ := by
    rintro s₂ rfl
    refine compLoop_gen (fun k s' => ∃ g₁ h' tk m' ys n' oI' xs nx i, s' = { s with heap := h', toks := tk } ∧ St g₁ h' H2.objs.size m' [(I, oI'), (s.heap.objs.size, lst ys n'), (X, lst xs nx)] ∧ It i oI' ∧ Keep g₀ g₁ ∧ (∀ b o, b ≠ I → b ≠ X → s.heap.get? b = some o → g₁.get? b = some o) ∧
      J i ys g₁ xs ∧ ys.length ≤ i ∧ i ≤ n ∧ n + 1 - i = k) ?_ (n + 1) ⟨_, h₁, _, _, [], 0, oI, xs₀, nx₀, 0, rfl, F₁, hIt, hg₁, hgI, J0 _, Nat.le_refl _, Nat.zero_le _, rfl⟩
    rintro k s' ⟨g₁, h', tk, m', ys, n', oI', xs, nx, i, rfl, F', hIt', hk₁, hk₂, hJ, hyl, hi, rfl⟩
    by_cases hlt : i < n
    · refine S.item i _ oI' _ _ hlt (F'.get 0) hIt' (hk₁.trans F'.keep) fun v h₂ tk₂ oI₂ hPv hx₂ ho₂ hIt₂ => ?_
      have F₂ := F'.turn 0 rfl (ExtS.of hx₂) ho₂
      rw [List.set_cons_zero] at F₂
      refine S.owned (i + 1) _ oI₂ _ _ _ _ (F₂.get 0) hIt₂ ?_
      refine wpAny_mono (step i v ys _ _ n' oI₂ xs nx g₁ h₂ tk₂ m' _ hPv hlt hyl hJ hk₁ hk₂ F₂) (fun _ s₂ h₂ => ?_) fun _ _ e => e
      refine wpAny_mono h₂ (fun ok s₃ h₃ => ?_) fun _ _ e => e
      cases ok with
      | false =>
        simp only [Bool.false_eq_true, if_false] at h₃ ⊢
        obtain ⟨g₃, h₃, tk₃, m₃, xs₃, nx₃, rfl, F₃, hk₃, hZ⟩ := h₃
        exact ⟨n + 1 - (i + 1), by omega, g₃, h₃, tk₃, m₃, ys, n', oI₂, xs₃, nx₃, i + 1, rfl, F₃, hIt₂, hk₁.trans hk₃, fun b o hb hb2 e => hk₃ b o (hk₂ b o hb hb2 e), hZ, by omega, by omega, rfl⟩
      | true =>
        simp only [if_true] at h₃ ⊢
        refine wpAny_mono h₃ (fun y s₄ h₄ => ?_) fun _ _ e => e
        obtain ⟨g₄, h₄, tk₄, m₄, xs₄, nx₄, rfl, F₄, hk₄, hZ⟩ := h₄
        refine appendL (F₄.get 1) (by omega) fun h₅ hs₅ ho₅ => ?_
        have F₅ := F₄.turn 1 rfl (ExtS.of hs₅.extBut) ho₅
        exact ⟨n + 1 - (i + 1), by omega, g₄, h₅, tk₄, m₄, ys ++ [y], n' + 1, oI₂, xs₄, nx₄, i + 1, rfl, F₅, hIt₂, hk₁.trans hk₄, fun b o hb hb2 e => hk₄ b o (hk₂ b o hb hb2 e), hZ, by simp; omega, by omega, rfl⟩
    · have hin : i = n := by omega
      subst hin
      refine S.done _ oI' _ _ (F'.get 0) hIt' (hk₁.trans F'.keep) fun h₂ hx₂ => ?_
      exact hRR _ _ h₂ tk g₁ m' ys n' xs nx (F'.lose hx₂) hk₂ hDf hCf hDC hyl hJ
  exact codeAny_compStart_list (loop _ rfl) (S.self 0 _ oI _ _ (old _ _ hI) hIt (loop _ rfl))

theorem compE_mut {elt target iter : Expr} {ifs : List Expr} {scope : Scope} {cl : List (Str × Addr)} {pos : Pos} {b X : Addr} {vs xs₀ : List Value} {n nx₀ ix : Nat} {Q : Value → Shared → Prop} (F : St g s.heap L m mu) (hT : NoTup mu) (hX : mu[ix]? = some (X, lst xs₀ nx₀)) (J : Nat → List Value → Heap → List Value → Prop)
    (hit : ∀ {Q : Value → Shared → Prop} {E : Value → Shared → Prop}, Q (.ref b) s → wpAny (model prog w) A (eval iter env) Q E s)
    (hb : g.get? b = some (lst vs n)) (hsz : vs.length < 2 ^ 20) (hh : A.handled = none) (J0 : ∀ g, J 0 [] g xs₀) (Jk : ∀ i ys h h' xs, J i ys h xs → KeepT h h' → J i ys h' xs)
    (step : CompStepM prog w A env scope cl elt target ifs s g X vs.length (fun i v => vs[i]? = some v) J)
    (h : ∀ D h' tk g₂ ys n' xs nx, St g₂ h' L m ((D, lst ys n') :: mu.set ix (X, lst xs nx)) → Keep g g₂ → ys.length ≤ vs.length → J vs.length ys g₂ xs → Q (.ref D) { s with heap := h', toks := tk })
    (hclos : closureFor scope env = pure cl := by rfl) (hcell : ∀ y ∈ scope.names, y.2 ≠ .cell := by decide) (hkind : scope.kind = .function := by rfl) (hnames : ∀ x ∈ scope.names, x.2 = .local → scope.names.lookup x.1 = some .local := by decide)
    (hs : ∀ x, foldedSetIterable iter env x = pure x := by intro _; rfl) :
    wpAny (model prog w) A (eval (.ListComp elt [⟨target, iter, ifs, 0⟩] scope pos) env) Q E s := by
  rw [eval_ListComp]
  refine wpAny_comprehension_free (use := none) rfl hs hclos hkind hnames (hit (wpAny_pyIter_list ⟨_, F.keep _ _ hb, rfl, n, rfl⟩ ?_))
  have hsb := fresh_size s.heap
  have up : ∀ c o, s.heap.get? c = some o → c ≠ s.heap.objs.size := fun c o e q => by rw [q, hsb] at e; cases e
  have hX0 := F.get ix hX
  refine comp_coreM (RR := fun acc C => compPost (model prog w) A E none Q acc C) (g₀ := g) (Src.list hh hb) hsz J (Heap.get?_push_size _ rfl) ⟨rfl, rfl⟩ (Heap.get?_push_of_some _ hX0) (fun q => up _ _ hX0 q.symm) (fun b o e => Heap.get?_push_of_some _ (F.keep _ _ e)) (F.keep.none hsb) (F.fresh ix hX) hcell hkind J0
    (fun i v ys C D n' oI' xs nx g₁ h₁ tk m₁ E' hP hi hyl hJ hk₁ hk₂ F₁ => step i v ys C D _ n' oI' xs nx g₁ h₁ tk m₁ E' hP hi hyl hJ hk₁ (fun b o hb e => hk₂ b o (up b o e) hb (Heap.get?_push_of_some _ e)) F₁) ?_
  intro D C h' tk g₁ m' ys n' xs nx F' hk hD hC hDC hyl hJ
  refine ⟨m', F'.ns, fun h'' hs'' => ?_⟩
  have k1 : ExtS [X] s.heap h'' := fun c o hc e => hs''.extBut c o (fun q => by
    have := Heap.get?_push_of_some { cls := .type "list_iterator", data := .fields #[.ref b, .int 0 0] } e
    rw [q, hC] at this; cases this) (F'.keep _ _ (hk c o (up c o e) (fun q => hc (by rw [q]; exact .head _)) (Heap.get?_push_of_some _ e)))
  have hoX : h''.get? X = some (lst xs nx) := hs''.extBut _ _ (F'.notL 1) (F'.get 1)
  have hD' : s.heap.get? D = none := by
    cases q : s.heap.get? D with
    | none => rfl
    | some o => rw [Heap.get?_push_of_some _ q] at hD; cases hD
  have k2 : Keep g₁ h'' := fun c o e => hs''.extBut c o (fun q => by rw [q, F'.out] at e; cases e) (F'.keep _ _ e)
  have F₁ := (F.turn ix hX k1 hoX).add (D := D) (hs''.extBut _ _ hDC (F'.get 0)) (F.keep.none hD') (fun q => by
    obtain ⟨o, _, _, ho, _⟩ := F.ns
    rw [q, ho] at hD'; cases hD') (fun q => by
    obtain ⟨p, hp, e⟩ := List.mem_map.mp q
    rcases List.mem_or_eq_of_mem_set hp with hp | rfl
    · rw [← e, (F.mob p hp).1] at hD'; cases hD'
    · rw [← e, hX0] at hD'; cases hD')
  have hT' : NoTup (mu.set ix (X, lst xs nx)) := fun p hp vs n => by
    rcases List.mem_or_eq_of_mem_set hp with hp | rfl
    · exact hT p hp vs n
    · intro q; simp at q
  obtain ⟨g₂, F₂, k3, k4⟩ := F₁.freeze hT'.lst k2
  exact h D h'' tk g₂ ys n' xs nx F₂ k3 hyl (Jk _ _ _ _ _ hJ k4)
end
end Mine

end
section
set_option linter.unusedVariables false
namespace Mine
section
variable {prog : Program} {w : World} {h₀ : Heap} {mg mb : Str → Option Value}
def sr2 (prog : Program) (w : World) {h₀ : Heap} {mg mb : Str → Option Value} (G : Glb h₀ mg mb) (sf P' : Addr) (q : Str) (u : List Nat) (tu : Tok) (hu : u.length < 2 ^ 16) : Sr prog w sf (.str (txt u) tu) Unit where
  Ok := fun g S h _ => ∃ ps, S = [(P', tabObj ps)] ∧ SW h₀ g sf P' q ps h
  V := fun _ => True
  nxt := nxt2 u
  keep := fun ⟨_, _, k, _⟩ => k
  mob := by
    rintro g S h x ⟨ps, rfl, a1, a2, a3, a4, a5, a6⟩ p hp
    simp only [List.mem_cons, List.not_mem_nil, or_false] at hp
    subst hp
    exact ⟨a5, a4, fun _ _ e => by simp at e⟩
  stab := by
    rintro g S h x g' h' ⟨ps, rfl, a1, a2, a3, a4, a5, a6⟩ k1 k2 hS
    have s1 := hS (P', tabObj ps) (by simp)
    exact ⟨ps, rfl, k2, a2.trans k1, a3.keeps k1, s1.2, s1.1, a6.keeps k1⟩
  fn := by
    rintro g S h x ⟨ps, rfl, a1, a2, ⟨T₀, t₀, n₀, c', doc, pm, ctv, h1, _⟩, _⟩
    exact ⟨_, _, h1, rfl⟩
  Vn := by
    intro x p hV
    refine ⟨trivial, fun r hr => ?_⟩
    unfold nxt2 at hr
    split at hr
    · cases hr
    · cases hr
      exact ⟨Int.le_refl _, by omega⟩
  call := by
    rintro A R s g S x av p args hA hp0 ⟨ps, rfl, hW⟩ hV hav hargs h
    obtain ⟨n, rfl⟩ : ∃ n : Nat, p = n := ⟨p.toNat, by omega⟩
    refine search_core (p := n) (u := u) (tu := tu) G hW hav hu hA ?_ ?_
    · intro T₀ t₀ n₀ c' doc pm ctv hT
      rcases hargs with ⟨rfl, hn⟩ | ⟨t, rfl⟩
      · rw [hn]
        exact ⟨t₀, BindsTo.of_defaults rfl hT rfl rfl rfl⟩
      · exact ⟨t, BindsTo.of_defaults rfl hT rfl rfl rfl⟩
    · intro h' tk ps' v g' hW' hA' kk hH
      exact h h' tk _ v g' ⟨ps', rfl, hW'⟩ hA' kk hH
end

section
variable {prog : Program} {w : World} {A : Around} {E : Value → Shared → Prop} {s : Shared} {env : Env} {g : Heap} {L : Addr} {m : Str → Option Value} {mu : List (Addr × Obj)} {mg mb : Str → Option Value}
/-- xs[::-1] -/
theorem sliceRev {value st : Expr} {p pos : Pos} {Q : Value → Shared → Prop}
    (h : wpAny (model prog w) A (eval value env) (fun o s₁ => wpAny (model prog w) A (eval st env) (fun vk s₂ => ∃ l vs n g L m mu t, o = .ref l ∧ vk = .int (-1) t ∧ St g s₂.heap L m mu ∧ s₂.heap.get? l = some (lst vs n) ∧ vs.length < 2 ^ 20 ∧
        ∀ D h', St g h' L m ((D, lst vs.reverse 0) :: mu) → Q (.ref D) { s₂ with heap := h' }) E s₁) E s)
    (ht : ∀ o r, letTemporaryGo value o r = pure () := by intro _ _; rfl) :
    wpAny (model prog w) A (eval (.Subscript value (.Slice none none (some st) p) pos) env) Q E s := by
  refine wpAny_Subscript_Slice_step (T := "list") list_getitem_lookup (wpAny_mono h (fun o s₁ h₁ => wpAny_Slice (evalPart_none_step (evalPart_none_step (evalPart_some_step (wpAny_mono h₁ (fun vk s₂ h₂ => ?_) fun _ _ e => e))))) fun _ _ e => e) ht
  obtain ⟨l, vs, n, g, L, m, mu, t, rfl, rfl, F, hl, hsz, hq⟩ := h₂
  have hl' : s₂.heap.IsList l vs.toArray := ⟨_, hl, rfl, n, rfl⟩
  refine ⟨(hl'.push _).typeIs, wpAny_getItem_list_slice (hl'.push _) (Heap.IsSliceOf.new ..) .none .none (.int _ _) (by decide) ?_ (by rw [sizeLine_eq]; simp; omega)⟩
  rw [krv_pick]
  have F' := ((F.push { cls := .type "slice", data := .fields #[.none, .none, .int (-1) t] }).push (lst vs.reverse 0)).drop _ (.cons_cons _ (.cons _ (List.Sublist.refl _)))
  exact hq _ _ F'
/-- xs[:-1] -/
theorem pick_last (vs : List Value) : slicePick vs.toArray none (some (-1)) none = vs.dropLast.toArray := by
  have := slicePick_butLast vs.toArray 1 (by decide)
  rw [show (-((1 : Nat) : Int)) = -1 from rfl] at this
  rw [this, List.dropLast_eq_take]
  simp
/-- lists of texts that are alike -/
theorem strsEq {a b : Addr} {vs us : List Value} {n n' : Nat} {xs : List (List Nat)} {Q : Value → Shared → Prop} (hA : A.units < cLine) (ha : s.heap.get? a = some (lst vs n)) (hb : s.heap.get? b = some (lst us n')) (hI : Items strKd s.heap vs xs) (hJ : Items strKd s.heap us xs) (h : Q (.bool true) s) :
    wpAny (model prog w) A (compareOp .Eq (.ref a) (.ref b)) Q E s := by
  show wpAny _ _ (richCompare .Eq _ _) _ _ _
  have l1 := hI.length
  have l2 := hJ.length
  have := PySem.SeqAt.RcAt.lists (A := A) (s := s) (e := fun _ => true) (items := vs.toArray) (items2 := us.toArray) ⟨_, ha, rfl, n, rfl⟩ ⟨_, hb, rfl, n', rfl⟩ (by simp; omega) hA (fun j h1 h2 => by
    simp only [List.size_toArray] at h1 h2
    obtain ⟨p, hp, t, e⟩ := hI.get (List.getElem?_eq_getElem h1)
    obtain ⟨p', hp', t', e'⟩ := hJ.get (List.getElem?_eq_getElem h2)
    rw [hp] at hp'
    cases hp'
    simp only [List.getElem_toArray]
    rw [e, e']
    have := PySem.SeqAt.EqAt.str_str (A := A.in1) (s := s) (txt p) t (txt p) t'
    simpa using this)
  rw [all_tt] at this
  exact this prog w E Q h
theorem neNone {Q : Value → Shared → Prop} (h : Q (.bool false) s) : wpAny (model prog w) A (compareOp .NotEq .none .none) Q E s := PySem.SeqAt.RcNeAt.none_none prog w E Q h
/-- a col among the cuts -/
theorem ints_of {h : Heap} {vs : List Value} {xs : List Int} (hI : Items intKd h vs xs) : IntsAre vs xs := by
  obtain ⟨ps, rfl, rfl, hR⟩ := hI
  induction ps with
  | nil => exact .nil
  | cons p ps ih =>
    obtain ⟨t, e⟩ := hR p (.head _)
    rw [List.map_cons, List.map_cons, e]
    exact .cons _ _ (ih fun q hq => hR q (.tail _ hq))
theorem inInts {a : Addr} {vs : List Value} {n : Nat} {xs : List Int} {k : Int} {t : Tok} {Q : Value → Shared → Prop} (ha : s.heap.get? a = some (lst vs n)) (hI : Items intKd s.heap vs xs) (h : Q (.bool (decide (k ∈ xs))) s) :
    wpAny (model prog w) A (compareOp .In (.int k t) (.ref a)) Q E s := by
  refine in_list_ints ⟨_, ha, rfl, n, rfl⟩ (ints_of hI) ?_
  have e : xs.any (· == k) = decide (k ∈ xs) := by
    rw [Bool.eq_iff_iff, List.any_eq_true, decide_eq_true_eq]
    constructor
    · rintro ⟨x, hx, e⟩
      have : x = k := by simpa using e
      exact this ▸ hx
    · intro hk
      exact ⟨k, hk, by simp⟩
  rw [e]
  exact h
/-- a call of the text's own def, with no argument -/
theorem callN {x : Str} {np pos : Pos} {f : Addr} {nm : Str} {i : Nat} {Q : Value → Shared → Prop} (G : Glb s.heap mg mb) (hm : mg x = some (.ref f)) (hf : FnIs s.heap f nm i)
    (h : codeAny (model prog w) A (.call (.ref f) ⟨[], []⟩) (fun r s' => match r with | .ok (.ret v) => Q v s' | .ok _ => False | .error e => E e s') s) (hg : env.globals = mainGlobals := by rfl)
    (hk : env.scope.kind = .function := by rfl) (hl : env.kindOf x = some .globalImplicit := by rfl) (hd : (x == ("__debug__" : Str)) = false := by decide) :
    wpAny (model prog w) A (eval (.Call (.Name x np) [] [] pos) env) Q E s := by
  obtain ⟨o, pm, cd, doc, h1, h2, h3⟩ := hf
  refine Call_ (G.ldG hm ?_ hg hk hl hd)
  exact Calls.callWith_function (PySem.evalArgs_none ⟨⟨h1, h2⟩, wpAny_call h⟩)
/-- a slice of a list as the head of a comprehension -/
theorem head_upto {value up : Expr} {p pos : Pos} {b : Addr} {vs : List Value} {k : Nat} (hh : A.handled = none)
    (hv : ∀ {Q : Value → Shared → Prop} {E : Value → Shared → Prop}, Q (.ref b) s → wpAny (model prog w) A (eval value env) Q E s)
    (hu : ∀ {s : Shared} {Q : Value → Shared → Prop} {E : Value → Shared → Prop}, (∀ t tk, Q (.int (k : Int) t) { s with toks := tk }) → wpAny (model prog w) A (eval up env) Q E s)
    (hb : s.heap.IsList b vs.toArray) (hsz : vs.length < 2 ^ 20) (ht : ∀ o r, letTemporaryGo value o r = pure () := by intro _ _; rfl) :
    HeadOf prog w A env (.Subscript value (.Slice none (some up) none p) pos) s (vs.take k).length (fun i v => (vs.take k)[i]? = some v) := by
  intro Q E h
  refine wpAny_Subscript_list_slice (hv (evalPart_none_step (evalPart_some_step (hu fun t tk => ⟨b, _, none, some (k : Int), rfl, hb, by rw [sizeLine_eq]; simp; omega, .none, .int _ _, ?_⟩)))) ht
  rw [slicePick_upto']
  have e : (List.take k vs.toArray.toList).toArray = (vs.take k).toArray := by simp
  rw [e]
  generalize hS : s.heap.push { cls := .type "slice", data := .fields #[.none, .int (k : Int) t, .none] } = S at *
  dsimp only
  have hz : S.objs.size = s.heap.objs.size + 1 := by rw [← hS, Heap.size_push]
  have hD : (S.push (lst (vs.take k) 0)).get? (s.heap.objs.size + 1) = some (lst (vs.take k) 0) := by rw [← hz]; exact Heap.get?_push_size _ rfl
  refine wpAny_pyIter_list ⟨_, hD, rfl, 0, rfl⟩ ?_
  refine h _ _ _ _ (S.push (lst (vs.take k) 0)) (ItL (s.heap.objs.size + 1)) (fun b o e => Heap.get?_push_of_some _ (hS ▸ Heap.get?_push_of_some _ e)) (fun b o e => Heap.get?_push_of_some _ e) (fresh_size _) (Heap.get?_push_size _ rfl) ⟨rfl, rfl⟩ (Src.list hh hD)
end
end Mine

end
section
set_option linter.unusedVariables false
namespace Mine
/-! ### law -/
abbrev lawE (L f : Addr) (cd : Value) : Env := envOfC "law" (sScope (defAt 13)) L f cd
abbrev lawB : List Stmt := sBody (defAt 13)
theorem lineF_length (ns : List Int) : (lineF ns).length ≤ 8 := by
  unfold lineF
  split
  · decide
  · simp; omega
theorem flat1 : ∀ l : List Int, (l.map fun x => [letterF x]).flatten = l.map letterF
  | [] => rfl
  | x :: r => by rw [List.map_cons, List.flatten_cons, flat1 r]; rfl
theorem fresh_st {g h h' : Heap} {L : Addr} {m : Str → Option Value} {mu : List (Addr × Obj)} (F : St g h L m mu) (k : Keep h h') {a : Addr} {o : Obj} (hn : h.get? a = none) (ho : h'.get? a = some o) : St g h' L m ((a, o) :: mu) :=
  (F.all k).add ho (F.keep.none hn) (fun q => by
    obtain ⟨oL, es, ep, hL, _⟩ := F.ns
    rw [q, hL] at hn; cases hn) (fun hm => by
    obtain ⟨p, hp, rfl⟩ := List.mem_map.mp hm
    rw [(F.mob p hp).1] at hn; cases hn)
theorem Items.int' {h h' : Heap} {vs : List Value} {xs : List Int} (x : Items intKd h vs xs) : Items intKd h' vs xs := let ⟨ps, a, b, c⟩ := x; ⟨ps, a, b, fun p hp => c p hp⟩
theorem Items.str' {h h' : Heap} {vs : List Value} {xs : List (List Nat)} (x : Items strKd h vs xs) : Items strKd h' vs xs := let ⟨ps, a, b, c⟩ := x; ⟨ps, a, b, fun p hp => c p hp⟩
section
variable {prog : Program} {w : World} {A : Around} {s : Shared} {E : Value → Shared → Prop} {h₀ : Heap} {mg mb : Str → Option Value} {g : Heap} {L f : Addr} {cd : Value} {m : Str → Option Value} {mu : List (Addr × Obj)}
theorem joinS' {D : Addr} {u' : Str} {vs : List Value} {n : Nat} {xs : List (List Nat)} {t : Tok} {Q : Value → Shared → Prop} (hu : u' = txt []) (hl : s.heap.get? D = some (lst vs n)) (hI : Items strKd s.heap vs xs) (hw : ∀ x ∈ xs, x.length = 1) (hsz : xs.length < 100)
    (h : ∀ t' k, Q (.str (txt xs.flatten) t') { s with toks := k }) : wpAny (model prog w) A (call (.builtin "str.join") [.str u' t, .ref D]) Q E s := by
  subst hu
  exact joinS hl hI hw hsz h
/-- line, cuts -/
theorem law_p1 {b : Addr} {vs : List Value} {ns : List Int} {Q : Flow → Shared → Prop} (G : Glb h₀ mg mb) (k0 : Keep h₀ g) (hA : Rm A 20) (F : St g s.heap L m mu) (hT : NoTup mu) (hm : m "script" = some (.ref b)) (hb : g.IsList b vs.toArray) (hI : IntsAre vs ns) (hlen : ns.length ≤ 63)
    (h : ∀ h' tk g' m' tl nl us n', Keep g g' → St g' h' L m' mu → m' "line" = some (.str (txt (lineF ns)) tl) → m' "cuts" = some (.ref nl) → g'.get? nl = some (lst us n') → Items intKd g' us (cutsF (lineF ns)) →
      wpAny (model prog w) A (execs (lawB.drop 2) (lawE L f cd)) Q E { s with heap := h', toks := tk }) :
    wpAny (model prog w) A (execs lawB (lawE L f cd)) Q E s := by
  have hl := hI.length
  have hvl : vs.isEmpty = ns.isEmpty := by cases hI <;> rfl
  have hbI : ∀ {h}, Keep g h → h.IsList b vs.toArray := fun k => let ⟨o, a, r⟩ := hb; ⟨o, k _ _ a, r⟩
  have hul := lineF_length ns
  -- behind line
  have tail : ∀ (h₁ : Heap) (tk₁ : Nat) (g₁ : Heap) (tl : Tok), Keep g g₁ → St g₁ h₁ L (upd m "line" (.str (txt (lineF ns)) tl)) mu →
      wpAny (model prog w) A (execs (lawB.drop 1) (lawE L f cd)) Q E { s with heap := h₁, toks := tk₁ } := by
    intro h₁ tk₁ g₁ tl k₁ F₁
    have B₁ : Keep h₀ g₁ := k0.trans k₁
    obtain ⟨fc, hc1, hc2⟩ := G.fn (10, "_law_cuts") (by decide)
    refine wpAny_execs_cons (wpAny_Assign_Name (callG (G.keeps (B₁.trans F₁.keep)) hc1 (hc2.keeps (B₁.trans F₁.keep)) (args_cons (St.ld F₁ rfl (args_nil ⟨Keep.refl _, ?_⟩)))))
    refine cuts_ok G (B₁.trans F₁.keep) hc2 (hA.le (by omega)) (by omega) ?_
    intro h₂ tk₂ nl us n₂ k₂ hno ho hI₂
    have F₂ := fresh_st F₁ k₂ hno ho
    refine St.st F₂ fun h₃ F₃ => ?_
    obtain ⟨g₄, F₄, k₄, r₄⟩ := F₃.rebase mu (.cons _ (List.Sublist.refl _))
    have hN : g₄.get? nl = some (lst us n₂) := r₄ nl _ (F₃.get 0) (F₃.notL 0) (List.nodup_cons.mp F₃.nd).1
    exact h h₃ _ g₄ _ tl nl us n₂ (k₁.trans k₄) F₄ rfl rfl hN hI₂.int'
  refine wpAny_execs_cons (wpAny_Assign_Name (wpAny_IfExp (wpAny_isTrue_Compare1 (St.ld F hm (List_ (args_nil (St.newL F fun e₁ h₁ F₁ => neNilI hA.units (hbI F₁.keep) (F₁.get 0) (wpAny_truthy_bool ?_))))))))
  have F₁' := F₁.drop _ (.cons _ (List.Sublist.refl _))
  rw [hvl]
  by_cases hns : ns = []
  · subst hns
    simp only [List.isEmpty_nil, Bool.not_true, Bool.false_eq_true, if_false]
    refine wpAny_Constant_str (St.st F₁' fun h₂ F₂ => ?_)
    rw [banana_txt] at F₂
    exact tail h₂ _ g _ (Keep.refl _) F₂
  · have hne : ns.isEmpty = false := by simpa using hns
    simp only [hne, Bool.not_false, if_true]
    obtain ⟨fl, hl1, hl2⟩ := G.fn (9, "_law_letter") (by decide)
    refine methS PySem.F.slot_str_join PySem.F.type_str_join (wpAny_Constant_str ⟨_, _, rfl, callWithB1 (compE_gen F₁' hT (fun i ys g => Items strKd g ys (((ns.take 8).take i).map fun x => [letterF x])) (head_upto (k := 8) (vs := vs) hA.handled (fun hq => St.ld F₁' hm hq) (fun hq => wpAny_Constant_int (hq _ _)) (hbI F₁'.keep) (by omega)) (by simp; omega) (fun _ => Items.nil) (fun i ys h h' x k => x.stab k) ?_ ?_)⟩)
    · intro i v ys C D I n' oI' g₁ h₃ tk₃ m₁ E' hP hi hyl hJ hk F₃
      have hi8 : i < 8 := by simp at hi; omega
      obtain ⟨x, hx, t, rfl⟩ := (items_ints (h := h₁) hI).get (i := i) (v := v) (by rw [List.getElem?_take_of_lt hi8] at hP; exact hP)
      refine wpAny_assign_Name (St.st F₃ fun h₄ F₄ => ?_)
      refine wpAny_tests_nil ?_
      simp only [if_true]
      have kB : Keep h₀ h₄ := k0.trans (F₁'.keep.trans (hk.trans F₄.keep))
      refine callG (G.keeps kB) hl1 (hl2.keeps kB) (args_cons (St.ld F₄ rfl (args_nil ⟨Keep.refl _, letter_ok G kB hl2 (hA.le (by omega)) fun h₅ tk₅ t₅ k₅ => TurnEnd.plain (F₄.all k₅) ?_⟩)))
      have e : (((ns.take 8).take (i + 1)).map fun x => [letterF x]) = (((ns.take 8).take i).map fun x => [letterF x]) ++ [[letterF x]] := by
        rw [List.take_add_one, List.getElem?_take_of_lt hi8, hx]; simp
      rw [e]
      exact hJ.snoc ⟨_, rfl⟩
    intro D h₂ tk₂ g₂ ys n₂ F₂ k₂ k₂' hyl hJ
    rw [List.take_of_length_le (l := ns.take 8) (by simp; omega)] at hJ
    refine joinS' (xs := (ns.take 8).map fun x => [letterF x]) empty_txt (F₂.get 0) ?_ (fun x hx => ?_) (by simp; omega) fun t₃ tk₃ => St.st (F₂.drop _ (.cons _ (List.Sublist.refl _))) fun h₄ F₄ => ?_
    · exact hJ.str'
    · obtain ⟨y, _, rfl⟩ := List.mem_map.mp hx
      rfl
    · have el : lineF ns = ((ns.take 8).map fun x => [letterF x]).flatten := by
        rw [flat1]; unfold lineF; rw [if_neg hns]
      rw [← el] at F₄
      exact tail h₄ _ g₂ _ k₂ F₄
end
end Mine

end
section
set_option linter.unusedVariables false
namespace Mine
section
variable {prog : Program} {w : World} {A : Around} {s : Shared} {E : Value → Shared → Prop} {h₀ : Heap} {mg mb : Str → Option Value} {g : Heap} {L f : Addr} {cd : Value} {m : Str → Option Value} {mu : List (Addr × Obj)}
/-- prog, words -/
theorem law_p2 {fp c P : Addr} {Q : Flow → Shared → Prop} (G : Glb h₀ mg mb) (k0 : Keep h₀ g) (hA : Rm A 20)
    (hfp : mg "_law_prog" = some (.ref fp)) (hf : FnIsC h₀ fp "_law_prog" 12 c) (C : CodeHd h₀ c P)
    (F : St g s.heap L m [(L + 2, cellO none), (L + 1, cellO none), (P, tabObj #[])])
    (h : ∀ h' tk g' m' wl nw p sf P' ps q, Keep g g' → St g' h' L m' [(wl, lst [] nw), (L + 2, cellO none), (L + 1, cellO none), (P, tabObj ps), (P', tabObj #[])] →
      m' "line" = m "line" → m' "cuts" = m "cuts" → m' "prog" = some (.ref p) → m' "words" = some (.ref wl) → AttrAt g' p "search" sf → SearchAt g' sf P' q →
      wpAny (model prog w) A (execs (lawB.drop 4) (lawE L f cd)) Q E { s with heap := h', toks := tk }) :
    wpAny (model prog w) A (execs (lawB.drop 2) (lawE L f cd)) Q E s := by
  -- prog = _law_prog()
  refine wpAny_execs_cons (wpAny_Assign_Name (callN (G.keeps (k0.trans F.keep)) hfp (hf.is.keeps (k0.trans F.keep)) ?_))
  obtain ⟨oL, es, ep, hoL, hdL, hrL⟩ := F.ns
  have nd₈ : [L + 2, L + 1, P].Nodup := F.nd
  refine prog_ok (av := [(L + 2, cellO none), (L + 1, cellO none), (L, oL)]) G (k0.trans F.keep) hf C (k0.none (F.fresh 2)) (F.get 2) ?_ ?_ (hA.le (by omega)) ?_
  · intro x hx
    simp only [List.mem_cons, List.not_mem_nil, or_false] at hx
    rcases hx with rfl | rfl | rfl
    · exact ⟨F.get 0, k0.none (F.fresh 0)⟩
    · exact ⟨F.get 1, k0.none (F.fresh 1)⟩
    · exact ⟨hoL, k0.none F.out⟩
  · show [P, L + 2, L + 1, L].Nodup
    have e1 := F.notL 0
    have e2 := F.notL 1
    have e3 := F.notL 2
    simp only [List.nodup_cons, List.mem_cons, List.not_mem_nil, or_false, not_or] at nd₈ ⊢
    obtain ⟨⟨a1, a2⟩, b1, _⟩ := nd₈
    exact ⟨⟨Ne.symm a2, Ne.symm b1, e3⟩, ⟨a1, e1⟩, e2, not_false, .nil⟩
  intro h₉ tk₉ p sf P' ps g₉ q k₉ hat hse hmob hnd hold
  have hg : ∀ a o, g.get? a = some o → g₉.get? a = some o := fun a o e => hold a o (fun q => by rw [q, F.fresh 2] at e; cases e) (fun hm => by
    simp only [List.map_cons, List.map_nil, List.mem_cons, List.not_mem_nil, or_false] at hm
    rcases hm with rfl | rfl | rfl
    · rw [F.fresh 0] at e; cases e
    · rw [F.fresh 1] at e; cases e
    · rw [F.out] at e; cases e) (F.keep _ _ e)
  have F₉ : St g₉ h₉ L m [(L + 2, cellO none), (L + 1, cellO none), (P, tabObj ps), (P', tabObj #[])] := by
    have hLm := hmob (L, oL) (by simp)
    have nd : [P', P, L + 2, L + 1, L].Nodup := hnd
    refine ⟨⟨oL, es, ep, hLm.1, hdL, hrL⟩, k₉, hLm.2, fun x hx => ?_, ?_⟩
    · have hx' : x ∈ (P', tabObj #[]) :: (P, tabObj ps) :: [(L + 2, cellO none), (L + 1, cellO none), (L, oL)] := by
        simp only [List.mem_cons, List.not_mem_nil, or_false] at hx ⊢
        rcases hx with h | h | h | h <;> simp [h]
      refine ⟨(hmob x hx').1, fun q => ?_, (hmob x hx').2⟩
      simp only [List.nodup_cons, List.mem_cons, List.not_mem_nil, or_false, not_or] at nd
      simp only [List.mem_cons, List.not_mem_nil, or_false] at hx
      rcases hx with rfl | rfl | rfl | rfl
      · exact nd.2.2.1.2 q
      · exact nd.2.2.2.1 q
      · exact nd.2.1.2.2 q
      · exact nd.1.2.2.2 q
    · show [L + 2, L + 1, P, P'].Nodup
      have hp : [P', P, L + 2, L + 1].Perm [L + 2, L + 1, P, P'] := by
        refine .trans (List.perm_middle (l₁ := [P, L + 2, L + 1]) (l₂ := [])).symm ?_
        exact (List.perm_middle (l₁ := [L + 2, L + 1]) (l₂ := [P'])).symm
      exact (hp.nodup_iff).mp (nd.sublist (.cons_cons _ (.cons_cons _ (.cons_cons _ (.cons_cons _ (.cons _ .slnil))))))
  refine St.st F₉ fun h₁₀ F₁₀ => ?_
  dsimp only
  -- words = []
  refine wpAny_execs_cons (wpAny_Assign_Name (List_ (args_nil (St.newL F₁₀ fun wl h₁₁ F₁₁ => St.st F₁₁ fun h₁₂ F₁₂ => ?_))))
  dsimp only
  exact h h₁₂ _ g₉ _ wl 0 p sf P' ps q hg F₁₂ rfl rfl rfl rfl hat hse
end
end Mine

end
section
set_option linter.unusedVariables false
namespace Mine
def colB : List Stmt := match lawB with
  | [_, _, _, _, .For _ _ b _ _, _, _, _] => b
  | _ => []
theorem Items.dropLast {α : Type} {K : Kind α} {h : Heap} {vs : List Value} {xs : List α} (x : Items K h vs xs) : Items K h vs.dropLast xs.dropLast := by
  obtain ⟨ps, rfl, rfl, c⟩ := x
  exact ⟨ps.dropLast, List.map_dropLast .., List.map_dropLast .., fun p hp => c p (List.dropLast_subset _ hp)⟩
section
variable {prog : Program} {w : World} {A : Around} {s : Shared} {E : Value → Shared → Prop} {h₀ : Heap} {mg mb : Str → Option Value} {g : Heap} {L f : Addr} {cd : Value} {m : Str → Option Value} {mu : List (Addr × Obj)}
/-- known = [cut for cut in cuts if cut <= col] -/
theorem law_c0 {nl : Addr} {us : List Value} {n' ic : Nat} {zs : List Int} {col : Int} {t : Tok} {Q : Flow → Shared → Prop} (hA : Rm A 20)
    (F : St g s.heap L m mu) (hT : NoTup mu) (hic : mu[ic]? = some (L + 1, cellO (some (.int col t))))
    (hm2 : m "cuts" = some (.ref nl)) (hnb : g.get? nl = some (lst us n')) (hJ : Items intKd g us zs) (hz : zs.length < 2 ^ 16)
    (h : ∀ h' tk g' kn ks nk, Keep g g' → St g' h' L (upd m "known" (.ref kn)) mu → g'.get? kn = some (lst ks nk) → Items intKd g' ks (knownC zs col) →
      wpAny (model prog w) A (execs (colB.drop 1) (lawE L f cd)) Q E { s with heap := h', toks := tk }) :
    wpAny (model prog w) A (execs colB (lawE L f cd)) Q E s := by
  have hul := hJ.length
  refine wpAny_execs_cons (compA_list F hT (fun i ys g => Items intKd g ys ((zs.take i).filter fun z => decide (z ≤ col))) (fun hq => F.ld hm2 hq) (F.keep _ _ hnb) (by omega) hA.handled (fun _ => Items.nil) (fun i ys h h' x k => x.stab k) ?_ ?_)
  · intro i' v' ys C D I' n₁ oI' g₁ h₆ tk₆ m₁ E' hP' hi' hyl hJ' hk F₆
    obtain ⟨z, hz', t', rfl⟩ := hJ.get hP'
    refine wpAny_assign_Name (St.st F₆ fun h₇ F₇ => ?_)
    have k7 : Keep s.heap h₇ := hk.trans F₇.keep
    have e : (zs.take (i' + 1)).filter (fun z => decide (z ≤ col)) = (zs.take i').filter (fun z => decide (z ≤ col)) ++ (if z ≤ col then [z] else []) := by rw [List.take_add_one, hz']; simp [List.filter_cons]
    refine wpAny_tests_one (wpAny_isTrue_Compare1 (St.ld F₇ rfl (ldC (hc := rfl) (k7 _ _ (F.get ic hic)) (le_int (wpAny_truthy_bool ?_)))))
    by_cases h2 : z ≤ col
    · simp only [h2, decide_true, if_true]
      refine St.ld F₇ rfl (TurnEnd.plain F₇ ?_)
      rw [e, if_pos h2]
      exact hJ'.snoc ⟨_, rfl⟩
    · simp only [h2, decide_false, Bool.false_eq_true, if_false]
      refine TurnEnd.plain F₇ ?_
      rw [e, if_neg h2, List.append_nil]
      exact hJ'
  intro D h₅ tk₅ g₅ ws n₅ F₅ k₅ hyl hJ₅
  dsimp only
  rw [hul, List.take_length] at hJ₅
  obtain ⟨g₈, F₈, k₈, r₈⟩ := F₅.rebase mu (.cons _ (List.Sublist.refl _))
  exact h h₅ _ g₈ D ws n₅ (k₅.trans k₈) F₈ (r₈ D _ (F₅.get 0) (F₅.notL 0) (List.nodup_cons.mp F₅.nd).1) (hJ₅.stab k₈.t)

/-- told, and what it is held against -/
theorem law_c2 {kn : Addr} {ks : List Value} {nk : Nat} {kz : List Int} {v : Value} {r : Option (Int × Int)} {Q : Flow → Shared → Prop} (G : Glb h₀ mg mb) (k0 : Keep h₀ g) (hA : Rm A 20) (F : St g s.heap L m mu)
    (hm3 : m "known" = some (.ref kn)) (hm4 : m "hit" = some v) (hH : HitAt g v r) (hkn : g.get? kn = some (lst ks nk)) (hK : Items intKd g ks kz) (hkl : kz.length < 2 ^ 16)
    (hr : r = match kz with | a :: b :: _ => some (b, a) | _ => none)
    (h : ∀ h' tk m', St g h' L m' mu → (∀ x : Str, x ≠ "told" → m' x = m x) → wpAny (model prog w) A (execs (colB.drop 4) (lawE L f cd)) Q E { s with heap := h', toks := tk }) :
    wpAny (model prog w) A (execs (colB.drop 2) (lawE L f cd)) Q E s := by
  have hkl' := hK.length
  refine wpAny_execs_cons (wpAny_Assign_Name (wpAny_IfExp (wpAny_isTrue_Compare1 (St.ld F hm4 (constNone (isNone_ (hH.keeps F.keep) (wpAny_truthy_bool ?_)))))))
  cases r with
  | none =>
    simp only [Option.isNone_none, if_true]
    refine constNone (St.st F fun h₂ F₂ => ?_)
    have hlen : ¬ (1 : Int) < ((ks.length : Nat) : Int) := by
      rw [hkl']
      rcases kz with _ | ⟨a, _ | ⟨b, rest⟩⟩
      · simp
      · simp
      · cases hr
    refine wpAny_execs_cons (wpAny_If (wpAny_isTrue_Compare1 (St.ld F₂ rfl (wpAny_IfExp (wpAny_isTrue_Compare1 (callB (G.keeps (k0.trans F₂.keep)) boot_len (args_cons (St.ld F₂ (show upd m _ _ "known" = some (.ref kn) from hm3) (args_nil (lenL (F₂.keep _ _ hkn) (by omega) fun t tk => wpAny_Constant_int (gt_int (wpAny_truthy_bool ?_))))))))))))
    simp only [hlen, decide_false, Bool.false_eq_true, if_false]
    refine constNone (neNone (wpAny_truthy_bool ?_))
    simp only [Bool.false_eq_true, if_false]
    refine wpAny_execs_nil ?_
    exact h h₂ _ _ F₂ fun x hx => by show upd m _ _ x = m x; unfold upd; rw [if_neg hx]
  | some p =>
    simp only [Option.isNone_some, Bool.false_eq_true, if_false]
    refine spanCall (G.nolimit.keeps (k0.trans F.keep)) (hA.le (by omega)) (hH.keeps F.keep) (fun hq => St.ld F hm4 hq) fun h₄ tk₄ T₂ n₄ t₄ u₄ k₄ hno hT₂ => ?_
    have F₄ := fresh_st F k₄ hno hT₂
    refine St.st F₄ fun h₅ F₅ => ?_
    dsimp only
    obtain ⟨a, b, rest, rfl, rfl⟩ : ∃ a b rest, kz = a :: b :: rest ∧ p = (b, a) := by
      rcases kz with _ | ⟨a, _ | ⟨b, rest⟩⟩
      · cases hr
      · cases hr
      · exact ⟨a, b, rest, rfl, Option.some.inj hr⟩
    have hlen : (1 : Int) < ((ks.length : Nat) : Int) := by rw [hkl']; simp only [List.length_cons]; omega
    obtain ⟨va, hva, ta, rfl⟩ := hK.get' (i := 0) (y := a) rfl
    obtain ⟨vb, hvb, tb, rfl⟩ := hK.get' (i := 1) (y := b) rfl
    have hm3' : upd m ("told" : Str) (.ref T₂) "known" = some (.ref kn) := hm3
    refine wpAny_execs_cons (wpAny_If (wpAny_isTrue_Compare1 (St.ld F₅ rfl (wpAny_IfExp (wpAny_isTrue_Compare1 (callB (G.keeps (k0.trans F₅.keep)) boot_len (args_cons (St.ld F₅ hm3' (args_nil (lenL (F₅.keep _ _ hkn) (by omega) fun t tk => wpAny_Constant_int (gt_int (wpAny_truthy_bool ?_))))))))))))
    simp only [hlen, decide_true, if_true]
    refine Tuple_ (args_cons (Subscript_ (St.ld F₅ hm3' (wpAny_Constant_int (getL (F₅.keep _ _ hkn) (k := 1) rfl hvb (by omega) (args_cons (Subscript_ (St.ld F₅ hm3' (wpAny_Constant_int (getL (F₅.keep _ _ hkn) (k := 0) rfl hva (by omega) (args_nil (St.newT F₅ fun T₃ h₆ F₆ => tupNe (p := (b, a)) hA.units (F₆.get 1) (F₆.get 0) (wpAny_truthy_bool ?_)))))))))))))
    simp only [Bool.false_eq_true, if_false]
    refine wpAny_execs_nil ?_
    exact h h₆ _ _ (F₆.drop _ (.cons _ (.cons _ (List.Sublist.refl _)))) fun x hx => by show upd m _ _ x = m x; unfold upd; rw [if_neg hx]

/-- words grows where col is a cut -/
theorem law_c4 {nl kn wl : Addr} {us ks ws : List Value} {n' nk nw ic iw : Nat} {zs kz : List Int} {u : List Nat} {tl : Tok} {col : Nat} {t : Tok} {Q : Flow → Shared → Prop} (hA : Rm A 20)
    (F : St g s.heap L m mu) (hic : mu[ic]? = some (L + 1, cellO (some (.int (col : Int) t)))) (hiw : mu[iw]? = some (wl, lst ws nw))
    (hm1 : m "line" = some (.str (txt u) tl)) (hm2 : m "cuts" = some (.ref nl)) (hm3 : m "known" = some (.ref kn)) (hm4 : m "words" = some (.ref wl))
    (hnl : g.get? nl = some (lst us n')) (hJ : Items intKd g us zs) (hz : zs.length < 2 ^ 16) (hkn : g.get? kn = some (lst ks nk)) (hK : Items intKd g ks kz) (hws : ws.length < 2 ^ 16) (hu : u.length < 2 ^ 16) (hcol : col ≤ u.length)
    (htwo : (col : Int) ∈ zs.dropLast → ∃ b r, kz = (col : Int) :: b :: r ∧ 0 ≤ b ∧ b ≤ col)
    (h : ∀ h' tk ws' nw', St g h' L m (mu.set iw (wl, lst ws' nw')) → (∀ xs : List (List Nat), Items strKd g ws xs → Items strKd g ws' (xs ++ (if (col : Int) ∈ zs.dropLast then [wordAt u (kz.getD 1 0) col] else []))) → ws'.length ≤ ws.length + 1 →
      Q .next { s with heap := h', toks := tk }) :
    wpAny (model prog w) A (execs (colB.drop 4) (lawE L f cd)) Q E s := by
  have hul := hJ.length
  have hset : mu.set iw (wl, lst ws nw) = mu := by
    apply List.ext_getElem?
    intro j
    rw [List.getElem?_set]
    split
    · next e => subst e; rw [hiw]; split
                · rfl
                · next e2 => exact absurd (List.getElem?_eq_some_iff.mp hiw).1 e2
    · rfl
  refine wpAny_execs_cons (wpAny_If (wpAny_isTrue_Compare1 (ldC (hc := rfl) (F.get ic hic) (sliceR (St.ld F hm2 (wpAny_pure (wpAny_UnaryOp (wpAny_Constant_int (PySem.P.neg_int ⟨nl, us, _, none, some (-1), us.dropLast, g, L, m, mu, rfl, F, ⟨_, F.keep _ _ hnl, rfl, n', rfl⟩, by omega, rfl, .none, .int _ _, pick_last us, fun D h₂ F₂ => inInts (F₂.get 0) (hJ.dropLast.int') (wpAny_truthy_bool ?_)⟩)))))))))
  have F₂' := F₂.drop _ (.cons _ (List.Sublist.refl _))
  by_cases hin : (col : Int) ∈ zs.dropLast
  · simp only [hin, decide_true, if_true]
    obtain ⟨b, r, rfl, hb0, hbc⟩ := htwo hin
    obtain ⟨vb, hvb, tb, rfl⟩ := hK.get' (i := 1) (y := b) rfl
    have hbn : (b.toNat : Int) = b := by omega
    refine wpAny_execs_cons (wpAny_Expr (methL PySem.F.slot_list_append PySem.F.type_list_append (St.ld F₂' hm4 ⟨wl, _, nw, rfl, F₂'.get iw hiw, callWithB1 (sliceMid (St.ld F₂' hm1 (Subscript_ (St.ld F₂' hm3 (wpAny_Constant_int (getL (F₂'.keep _ _ hkn) (k := 1) rfl hvb (by omega) (ldC (hc := rfl) (F₂'.get ic hic)
      ⟨u, tl, b.toNat, col, tb, t, _, _, _, _, rfl, by rw [hbn], rfl, by omega, hcol, by omega, F₂', fun h₃ tk₃ t₃ F₃ => appendL (F₃.get iw hiw) (by omega) fun h₄ hs₄ ho₄ => ?_⟩)))))))⟩)))
    have F₄ := F₃.turn iw hiw (ExtS.of hs₄.extBut) ho₄
    dsimp only
    refine wpAny_execs_nil (wpAny_execs_nil ?_)
    refine h h₄ _ _ _ F₄ (fun xs hx => ?_) (by simp)
    rw [if_pos hin]
    refine hx.snoc ⟨t₃, ?_⟩
    unfold wordAt
    simp only [List.getD_cons_succ, List.getD_cons_zero, Int.toNat_natCast]
  · simp only [hin, decide_false, Bool.false_eq_true, if_false]
    refine wpAny_execs_nil (wpAny_execs_nil ?_)
    rw [← hset] at F₂'
    refine h h₂ _ _ _ F₂' (fun xs hx => ?_) (by omega)
    rw [if_neg hin, List.append_nil]
    exact hx
end
end Mine

end
section
set_option linter.unusedVariables false
namespace Mine
theorem wordsF_succ (u : List Nat) (cuts : List Int) (k : Nat) : wordsF u cuts (k + 1) = wordsF u cuts k ++ (if (k : Int) ∈ cuts.dropLast then [wordAt u ((knownC cuts k).getD 1 0) k] else []) := by
  unfold wordsF
  rw [List.range_succ, List.flatMap_append, List.flatMap_cons, List.flatMap_nil, List.append_nil]
theorem SW.re {h₀ g h g' h' : Heap} {sf P' L : Addr} {q : Str} {ps : Array Value} {m : Str → Option Value} {mu : List (Addr × Obj)} (x : SW h₀ g sf P' q ps h) (k : Keep g g') (F : St g' h' L m mu) (i : Nat) (hi : mu[i]? = some (P', tabObj ps)) : SW h₀ g' sf P' q ps h' :=
  ⟨F.keep, x.2.1.trans k, x.2.2.1.keeps k, F.fresh i hi, F.get i hi, x.2.2.2.2.2.keeps k⟩
section
variable {prog : Program} {w : World} {A : Around} {s : Shared} {E : Value → Shared → Prop} {h₀ : Heap} {mg mb : Str → Option Value} {g : Heap} {L f : Addr} {cd : Value} {m : Str → Option Value} {mu : List (Addr × Obj)}
theorem law_p3 {v1 : Option Value} {nl wl pg sf P P' : Addr} {q : Str} {ps : Array Value} {us : List Value} {n' nw : Nat} {u : List Nat} {tl : Tok} {Q : Flow → Shared → Prop} (G : Glb h₀ mg mb) (k0 : Keep h₀ g) (hA : Rm A 20) (hu : u.length ≤ 1000) (hok : Law2Ok u)
    (F : St g s.heap L m [(wl, lst [] nw), (L + 2, cellO none), (L + 1, cellO v1), (P, tabObj ps), (P', tabObj #[])])
    (hm1 : m "line" = some (.str (txt u) tl)) (hm2 : m "cuts" = some (.ref nl)) (hm4 : m "words" = some (.ref wl)) (hm5 : m "prog" = some (.ref pg))
    (hnl : g.get? nl = some (lst us n')) (hJ : Items intKd g us (cutsF u)) (hat : AttrAt g pg "search" sf) (hse : SearchAt g sf P' q)
    (h : ∀ h' tk g' m' ws nw v1 ps', Keep g g' → St g' h' L m' [(wl, lst ws nw), (L + 2, cellO none), (L + 1, cellO v1), (P, tabObj ps), (P', tabObj ps')] → m' "words" = some (.ref wl) → Items strKd g' ws (wordsF u (cutsF u) (u.length + 1)) → ws.length ≤ u.length + 1 →
      wpAny (model prog w) A (execs (lawB.drop 5) (lawE L f cd)) Q E { s with heap := h', toks := tk }) :
    wpAny (model prog w) A (execs (lawB.drop 4) (lawE L f cd)) Q E s := by
  obtain ⟨fs, hs1, hs2⟩ := G.fn (1, "search_reverse") (by decide)
  have hcl := hok.len
  refine wpAny_execs_cons (wpAny_For (callT (G.keeps (k0.trans F.keep)) boot_range (args_cons (wpAny_BinOp (callB (G.keeps (k0.trans F.keep)) boot_len (args_cons (St.ld F hm1 (args_nil (lenS (by omega) fun t₁ tk₁ => wpAny_Constant_int (add_int (args_nil (St.range1 F (k := u.length + 1) (by omega) fun r h₁ tk₂ t₂ u₂ w₂ F₁ => St.iterRange F₁ (by omega) fun it h₂ F₂ => ?_))))))))))))
  refine codeAny_forLoop_any (fun k s' => ∃ g' h' tk m' ps' oI i v1 ws nw, s' = { s with heap := h', toks := tk } ∧ St g' h' L m' [(it, oI), (wl, lst ws nw), (L + 2, cellO none), (L + 1, cellO v1), (P, tabObj ps), (P', tabObj ps')] ∧ Keep g g' ∧ SW h₀ g' sf P' q ps' h' ∧
    ItR (u.length + 1) i oI ∧ i ≤ u.length + 1 ∧ m' "line" = some (.str (txt u) tl) ∧ m' "cuts" = some (.ref nl) ∧ m' "words" = some (.ref wl) ∧ m' "prog" = some (.ref pg) ∧ Items strKd g' ws (wordsF u (cutsF u) i) ∧ ws.length ≤ i ∧ u.length + 2 - i = k) ?_ (u.length + 2)
    ⟨g, h₂, _, m, #[], _, 0, v1, [], nw, rfl, F₂, Keep.refl _, ⟨F₂.keep, k0, hse, F₂.fresh 5, F₂.get 5, .inl rfl⟩, rfl, by omega, hm1, hm2, hm4, hm5, Items.nil, by simp, rfl⟩
  rintro k s' ⟨g', h', tk, m', ps', oI, i, v1, ws, nw, rfl, F', kg, hW, hit, hi, m1, m2, m4, m5, hWs, hwl, rfl⟩
  have SR : Src prog w A it g' (u.length + 1) (fun i v => ∃ t, v = .int (i : Nat) t) (ItR (u.length + 1)) := Src.range hA.handled
  by_cases hlt : i < u.length + 1
  · refine SR.item i _ oI _ _ hlt (F'.get 0) hit F'.keep fun v h₃ tk₃ oI₃ hPv hx₃ ho₃ hIt₃ => ?_
    obtain ⟨t, rfl⟩ := hPv
    have F₃ := F'.turn 0 rfl (ExtS.of hx₃) ho₃
    refine SR.owned (i + 1) _ oI₃ _ _ _ _ (F₃.get 0) hIt₃ ?_
    refine wpAny_assign_Name (St.stC F₃ (i := 3) rfl (fun h₄ F₄ => ?_) rfl)
    have F₄' : St g' h₄ L m' [(it, oI₃), (wl, lst ws nw), (L + 2, cellO none), (L + 1, cellO (some (.int (i : Nat) t))), (P, tabObj ps), (P', tabObj ps')] := F₄
    have hTa : NoTup [(it, oI₃), (wl, lst ws nw), (L + 2, cellO none), (L + 1, cellO (some (.int (i : Nat) t))), (P, tabObj ps)] := .cons (SR.ntup _ _ hIt₃) (.lst (.cell (.cell (.cons (fun vs n q => by simp at q) .nil))))
    have hT₂ : NoTup [(it, oI₃), (wl, lst ws nw), (L + 2, cellO none), (L + 1, cellO (some (.int (i : Nat) t))), (P, tabObj ps), (P', tabObj ps')] := .cons (SR.ntup _ _ hIt₃) (.lst (.cell (.cell (.cons (fun vs n q => by simp at q) (.cons (fun vs n q => by simp at q) .nil)))))
    refine law_c0 (ic := 3) hA F₄' hT₂ rfl m2 (kg _ _ hnl) (hJ.stab kg.t) (by omega) fun h₅ tk₅ g₅ kn ks nk k₅ F₅ hkn hK => ?_
    have F₅' : St g₅ h₅ L (upd m' "known" (.ref kn)) ([(it, oI₃), (wl, lst ws nw), (L + 2, cellO none), (L + 1, cellO (some (.int (i : Nat) t))), (P, tabObj ps)] ++ [(P', tabObj ps')]) := F₅
    have B₅ : Keep h₀ g₅ := k0.trans (kg.trans k₅)
    -- hit = search_reverse(prog, line, col)
    refine wpAny_execs_cons (wpAny_Assign_Name (callG (G.keeps (B₅.trans F₅.keep)) hs1 (hs2.keeps (B₅.trans F₅.keep)) (args_cons (St.ld F₅ (show upd m' _ _ "prog" = _ from m5) (args_cons (St.ld F₅ (show upd m' _ _ "line" = _ from m1) (args_cons (ldC (hc := rfl) (F₅.get 3) (args_nil ⟨Keep.refl _, ?_⟩)))))))))
    refine sr_frame (sr2 prog w G sf P' q u tl (by omega)) (x := ()) G B₅ hs2 F₅' ⟨ps', rfl, hW.re k₅ F₅ 5 rfl⟩ trivial hTa (hat.keeps (kg.trans k₅)) (hA.le (by omega)) fun h₆ tk₆ S₆ v₆ g₆ F₆ hO₆ hV₆ k₆ hH₆ => ?_
    obtain ⟨ps₆, rfl, hW₆⟩ := hO₆
    have F₆' : St g₆ h₆ L (upd m' "known" (.ref kn)) [(it, oI₃), (wl, lst ws nw), (L + 2, cellO none), (L + 1, cellO (some (.int (i : Nat) t))), (P, tabObj ps), (P', tabObj ps₆)] := F₆
    refine St.st F₆' fun h₇ F₇ => ?_
    dsimp only
    have kg6 : Keep g g₆ := kg.trans (k₅.trans k₆)
    have hkl : (knownC (cutsF u) (i : Nat)).length ≤ (cutsF u).length := List.length_filter_le ..
    refine law_c2 (r := (srF (nxt2 u) (i : Nat) ()).1) G (k0.trans kg6) hA F₇ (show upd (upd m' _ _) _ _ "known" = some (.ref kn) from rfl) rfl hH₆ (k₆ _ _ hkn) (hK.stab k₆.t) (by omega) (hok.told i (by omega)) ?_
    intro h₈ tk₈ m₈ F₈ hm₈
    refine law_c4 (ic := 3) (iw := 1) (u := u) (tl := tl) hA F₈ rfl rfl (by rw [hm₈ _ (by decide)]; exact m1) (by rw [hm₈ _ (by decide)]; exact m2) (by rw [hm₈ _ (by decide)]; rfl) (by rw [hm₈ _ (by decide)]; exact m4) (kg6 _ _ hnl) (hJ.stab kg6.t) (by omega) (k₆ _ _ hkn) (hK.stab k₆.t) (by omega) (by omega) (by omega) (hok.two i (by omega)) ?_
    intro h₉ tk₉ ws₉ nw₉ F₉ hws₉ hwl₉
    have F₉' : St g₆ h₉ L m₈ [(it, oI₃), (wl, lst ws₉ nw₉), (L + 2, cellO none), (L + 1, cellO (some (.int (i : Nat) t))), (P, tabObj ps), (P', tabObj ps₆)] := F₉
    exact ⟨u.length + 2 - (i + 1), by omega, g₆, h₉, tk₉, m₈, ps₆, oI₃, i + 1, _, ws₉, nw₉, rfl, F₉', kg6, hW₆.re (Keep.refl _) F₉' 5 rfl, hIt₃, by omega, by rw [hm₈ _ (by decide)]; exact m1, by rw [hm₈ _ (by decide)]; exact m2, by rw [hm₈ _ (by decide)]; exact m4, by rw [hm₈ _ (by decide)]; exact m5, by rw [wordsF_succ]; exact hws₉ _ hWs.str', by omega, rfl⟩
  · have hin : i = u.length + 1 := by omega
    subst hin
    refine SR.done _ oI _ _ (F'.get 0) hit F'.keep fun h₃ hx₃ => ?_
    refine wpAny_execs_nil ?_
    dsimp only
    exact h h₃ _ g' m' ws nw v1 ps' kg (St.lose F' hx₃) m4 hWs (by omega)
end
end Mine

end
section
set_option linter.unusedVariables false
namespace Mine
theorem Items.reverse {α : Type} {K : Kind α} {h : Heap} {vs : List Value} {xs : List α} (x : Items K h vs xs) : Items K h vs.reverse xs.reverse := by
  obtain ⟨ps, rfl, rfl, c⟩ := x
  exact ⟨ps.reverse, List.map_reverse .., List.map_reverse .., fun p hp => c p (by simpa using hp)⟩
theorem foldl_len {β : Type} (lt : β → β → Bool) : ∀ (l H : List β), (l.foldl (hpush lt) H).length = l.length + H.length
  | [], H => by simp
  | x :: r, H => by rw [List.foldl_cons, foldl_len lt r, hpush_length, List.length_cons]; omega
theorem popsF_cons {H : List (List Nat)} (h : H ≠ []) : popsF H = (hpop slt H h).1 :: popsF (hpop slt H h).2 := by
  rw [popsF]
  simp [h]
section
variable {prog : Program} {w : World} {A : Around} {s : Shared} {E : Value → Shared → Prop} {h₀ : Heap} {mg mb : Str → Option Value} {g : Heap} {L f : Addr} {cd : Value} {m : Str → Option Value} {mu : List (Addr × Obj)}
theorem law_p4 {v1 : Option Value} {wl P P' : Addr} {ps ps' : Array Value} {ws : List Value} {nw : Nat} {W : List (List Nat)} {Q : Flow → Shared → Prop} (G : Glb h₀ mg mb) (k0 : Keep h₀ g) (hA : Rm A 20) (hlen : ws.length ≤ 1001)
    (F : St g s.heap L m [(wl, lst ws nw), (L + 2, cellO none), (L + 1, cellO v1), (P, tabObj ps), (P', tabObj ps')]) (hm4 : m "words" = some (.ref wl)) (hWs : Items strKd g ws W) (hok : popsF (W.foldl (hpush slt) []) = W.reverse)
    (h : ∀ h' tk, Keep h₀ h' → h'.get? P = some (tabObj ps) → Q (.ret (.bool true)) { s with heap := h', toks := tk }) :
    wpAny (model prog w) A (execs (lawB.drop 5) (lawE L f cd)) Q E s := by
  obtain ⟨fpo, hpo1, hpo2⟩ := G.fn (4, "heappop") (by decide)
  obtain ⟨fpu, hpu1, hpu2⟩ := G.fn (3, "heappush") (by decide)
  have hwl := hWs.length
  -- words stays as it is
  obtain ⟨g₁, F₁, k₁, r₁⟩ := F.rebase [(L + 2, cellO none), (L + 1, cellO v1), (P, tabObj ps), (P', tabObj ps')] (.cons _ (List.Sublist.refl _))
  have hw : g₁.get? wl = some (lst ws nw) := r₁ wl _ (F.get 0) (F.notL 0) (List.nodup_cons.mp F.nd).1
  have B₁ : Keep h₀ g₁ := k0.trans k₁
  -- heap = []
  refine wpAny_execs_cons (wpAny_Assign_Name (List_ (args_nil (St.newL F₁ fun hl h₂ F₂ => St.stC F₂ (i := 1) rfl (fun h₃ F₃ => ?_) rfl))))
  dsimp only
  have F₃' : St g₁ h₃ L m [(hl, lst [] 0), (L + 2, cellO (some (.ref hl))), (L + 1, cellO v1), (P, tabObj ps), (P', tabObj ps')] := F₃
  -- for word in words: heappush(heap, word)
  have S : ∀ I, Src prog w A I g₁ ws.length (fun i v => ws[i]? = some v) (ItL wl) := fun I => Src.list hA.handled hw
  refine wpAny_execs_cons (wpAny_For (St.ld F₃' hm4 (wpAny_pyIter_list ⟨_, F₃'.keep _ _ hw, rfl, nw, rfl⟩ ?_)))
  have F₄ := F₃'.push { cls := .type "list_iterator", data := .fields #[.ref wl, .int 0 0] }
  generalize hIa : h₃.objs.size = I at F₄
  generalize hH : h₃.push { cls := .type "list_iterator", data := .fields #[.ref wl, .int 0 0] } = H at F₄
  dsimp only
  refine codeAny_forLoop_any (fun k s' => ∃ h' tk m' oI i hs nh, s' = { s with heap := h', toks := tk } ∧ St g₁ h' L m' [(I, oI), (hl, lst hs nh), (L + 2, cellO (some (.ref hl))), (L + 1, cellO v1), (P, tabObj ps), (P', tabObj ps')] ∧ m' "words" = some (.ref wl) ∧ ItL wl i oI ∧ i ≤ ws.length ∧
    Items strKd g₁ hs ((W.take i).foldl (hpush slt) []) ∧ ws.length + 1 - i = k) ?_ (ws.length + 1)
    ⟨H, s.toks, m, _, 0, [], 0, rfl, F₄, hm4, ⟨rfl, rfl⟩, Nat.zero_le _, Items.nil, rfl⟩
  rintro k s' ⟨h', tk, m', oI, i, hs, nh, rfl, F', m4, hit, hi, hHs, rfl⟩
  by_cases hlt : i < ws.length
  · refine (S I).item i _ oI _ _ hlt (F'.get 0) hit F'.keep fun v h₅ tk₅ oI₅ hPv hx₅ ho₅ hIt₅ => ?_
    have F₅ := F'.turn 0 rfl (ExtS.of hx₅) ho₅
    rw [List.set_cons_zero] at F₅
    refine (S I).owned (i + 1) _ oI₅ _ _ _ _ (F₅.get 0) hIt₅ ?_
    obtain ⟨x, hx, t, rfl⟩ := hWs.get hPv
    refine wpAny_assign_Name (St.st F₅ fun h₆ F₆ => ?_)
    dsimp only
    refine wpAny_execs_cons (wpAny_Expr (callG (G.keeps (B₁.trans F₆.keep)) hpu1 (hpu2.keeps (B₁.trans F₆.keep)) (args_cons (ldC (hc := rfl) (F₆.get 2) (args_cons (St.ld F₆ rfl (args_nil ⟨Keep.refl _, ?_⟩)))))))
    have hfl := foldl_len slt (W.take i) []
    refine heappush_D strKd (y := x) G (B₁.trans F₆.keep) (B₁.none (F₆.fresh 1)) hpu2 (hA.le (by omega)) (F₆.get 1) F₆.keep.t hHs ⟨_, rfl⟩ (by simp at hfl; omega) fun h₇ tk₇ n₇ hs₇ hx₇ ho₇ hI₇ => ?_
    have F₇ := F₆.turn 1 rfl hx₇ ho₇
    dsimp only
    refine wpAny_execs_nil ⟨ws.length + 1 - (i + 1), by omega, h₇, _, _, oI₅, i + 1, hs₇, n₇, rfl, F₇, m4, hIt₅, by omega, ?_, rfl⟩
    rw [List.take_add_one, hx, Option.toList_some, List.foldl_append]
    exact hI₇
  · have hin : i = ws.length := by omega
    subst hin
    refine (S I).done _ oI _ _ (F'.get 0) hit F'.keep fun h₅ hx₅ => ?_
    refine wpAny_execs_nil ?_
    dsimp only
    have F₅ : St g₁ h₅ L m' [(hl, lst hs nh), (L + 2, cellO (some (.ref hl))), (L + 1, cellO v1), (P, tabObj ps), (P', tabObj ps')] := F'.lose hx₅
    rw [hwl, List.take_length] at hHs
    have hT₅ : NoTup [(hl, lst hs nh), (L + 2, cellO (some (.ref hl))), (L + 1, cellO v1), (P, tabObj ps), (P', tabObj ps')] := .lst (.cell (.cell (.cons (fun vs n q => by simp at q) (.cons (fun vs n q => by simp at q) .nil))))
    have nd₅ : [hl, L + 2, L + 1, P, P'].Nodup := F₅.nd
    have hne : L + 2 ≠ hl := nd_ne nd₅ 1 0 rfl rfl (by decide)
    have hfl := foldl_len slt W []
    simp only [List.length_nil, Nat.add_zero] at hfl
    -- [heappop(heap) for word in words] == words[::-1]
    refine wpAny_execs_cons (wpAny_Return_some (wpAny_Compare1 (compE_mut (ix := 0) F₅ hT₅ rfl (fun i ys g xs => ∃ H Y, Items strKd g xs H ∧ Items strKd g ys Y ∧ Y ++ popsF H = popsF (W.foldl (hpush slt) []) ∧ H.length + i = ws.length) (fun hq => St.ld F₅ m4 hq) hw (by omega) hA.handled
      (fun _ => ⟨_, [], hHs.str', Items.nil, rfl, by rw [hfl]; omega⟩) (fun i ys h h' xs x k => let ⟨H, Y, a, b, c⟩ := x; ⟨H, Y, a.str', b.str', c⟩) ?_ ?_)))
    · rintro i v ys C D I' n' oI' xs nx g₂ h₆ tk₆ m₆ E' hP hi' hyl ⟨H', Y, hH', hY, hpp, hl'⟩ hk₁ hk₂ F₆
      refine wpAny_assign_Name (St.st F₆ fun h₇ F₇ => ?_)
      refine wpAny_tests_nil ?_
      simp only [if_true]
      have B₂ : Keep h₀ g₂ := B₁.trans hk₁
      have hcell := F₇.keep _ _ (hk₂ _ _ hne (F₅.get 1))
      have hHne : H' ≠ [] := fun q => by rw [q] at hl'; simp at hl'; omega
      refine callG (G.keeps (B₂.trans F₇.keep)) hpo1 (hpo2.keeps (B₂.trans F₇.keep)) (args_cons (ldC (hc := rfl) hcell (args_nil ⟨Keep.refl _, ?_⟩)))
      refine heappop_D strKd G (B₂.trans F₇.keep) (B₂.none (F₇.fresh 2)) hpo2 (hA.le (by omega)) (F₇.get 2) F₇.keep.t hH' hHne (by omega) fun h₈ tk₈ n₈ v₈ xs₈ hx₈ ho₈ hI₈ hR₈ => ?_
      have hpl := hpop_length slt H' hHne
      refine ⟨g₂, h₈, _, _, xs₈, n₈, rfl, F₇.turn 2 rfl hx₈ ho₈, Keep.refl _, _, Y ++ [(hpop slt H' hHne).1], hI₈, hY.snoc hR₈, ?_, ?_⟩
      · rw [← hpp, popsF_cons hHne, List.append_assoc]; rfl
      · show (hpop slt H' hHne).2.length + (i + 1) = _
        omega
    rintro D h₆ tk₆ g₂ ys n₂ xs nx F₆ k₂ hyl ⟨H', Y, hH', hY, hpp, hl'⟩
    have hH0 : H' = [] := List.length_eq_zero_iff.mp (by omega)
    subst hH0
    have hp0 : popsF [] = [] := by rw [popsF]; rfl
    rw [hp0, List.append_nil, hok] at hpp
    subst hpp
    refine sliceRev (St.ld F₆ m4 (wpAny_UnaryOp (wpAny_Constant_int (PySem.P.neg_int ⟨wl, ws, nw, g₂, L, _, _, _, rfl, rfl, F₆, F₆.keep _ _ (k₂ _ _ hw), by omega, fun D₂ h₇ F₇ => strsEq hA.units (F₇.get 1) (F₇.get 0) hY.str' hWs.reverse.str' ?_⟩))))
    exact h h₇ _ (B₁.trans (k₂.trans F₇.keep)) (F₇.get 5)

theorem law_walk {b fp c P : Addr} {vs : List Value} {ns : List Int} {Q : Flow → Shared → Prop} (G : Glb h₀ mg mb) (k0 : Keep h₀ g) (hA : Rm A 20) (hfp : mg "_law_prog" = some (.ref fp)) (hf : FnIsC h₀ fp "_law_prog" 12 c) (C : CodeHd h₀ c P)
    (F : St g s.heap L m [(L + 2, cellO none), (L + 1, cellO none), (P, tabObj #[])]) (hm : m "script" = some (.ref b)) (hb : g.IsList b vs.toArray) (hI : IntsAre vs ns) (hlen : ns.length ≤ 63)
    (h : ∀ h' tk ps, Keep h₀ h' → h'.get? P = some (tabObj ps) → Q (.ret (.bool true)) { s with heap := h', toks := tk }) :
    wpAny (model prog w) A (execs lawB (lawE L f cd)) Q E s := by
  have T₁ : NoTup [(L + 2, cellO none), (L + 1, cellO none), (P, tabObj #[])] := .cell (.cell (.cons (fun vs n q => by simp at q) .nil))
  have hul := lineF_length ns
  have hok := law2Ok (lineF ns)
  refine law_p1 G k0 hA F T₁ hm hb hI hlen fun h₁ tk₁ g₁ m₁ tl nl us n₁ k₁ F₁ q1 q2 hnl hJ => ?_
  refine law_p2 G (k0.trans k₁) hA hfp hf C F₁ ?_
  intro h₂ tk₂ g₂ m₂ wl nw p sf P' ps q k₂ F₂ r1 r2 r3 r4 hat hse
  refine law_p3 G (k0.trans (k₁.trans k₂)) hA (by omega) hok F₂ (r1.trans q1) (r2.trans q2) r4 r3 (k₂ _ _ hnl) hJ.int' hat hse ?_
  intro h₃ tk₃ g₃ m₃ ws nw₃ v1 ps' k₃ F₃ m4 hWs hwl
  refine law_p4 G (k0.trans (k₁.trans (k₂.trans k₃))) hA (by omega) F₃ m4 hWs hok.words ?_
  intro h₄ tk₄ k₄ hP
  exact h h₄ _ ps k₄ hP
end
end Mine

end
section
set_option maxHeartbeats 8000000
namespace Mine
open_top hd02 for PySem.Challenge.rw_mq0133_02
end Mine

end
section
set_option maxHeartbeats 8000000
namespace Mine
theorem fn02 {K : Frag} {h : Heap} {mg : Str → Option Value} {name : Str} {i : Nat} {f : Addr} {o : Obj} {pm cd doc : Value} (X : K.In h) (g : h.Ns mainGlobals mg) (e : nsIn K mainGlobals name = some (some (.ref f))) (ho : K.lookup f = some o)
    (hd : o.data = .func (Calls.docDef name (sParams (defAt i)) (sBody (defAt i)) (sScope (defAt i)) pm cd doc)) (hc : codeIn K cd name = true) : mg name = some (.ref f) ∧ FnIs h f name i :=
  ⟨mg_of X g e, o, pm, cd, doc, X _ _ ho, hd, codeRec_of X hc⟩
theorem glb02 {p : Params} {h : Heap} {mg mb : Str → Option Value} {loose : List Str} {mean : ExcName → Option Value} {tp : Program} (X : (hd02.heap_39 p).In h) (T : Top tp loose mean mg mb h) : Glb h mg mb where
  g := T.g
  b := T.b
  nolimit := T.nolimit
  builtins := T.builtins
  bmain := T.bmain
  free := by
    intro x hx
    simp only [biNames, List.mem_cons, List.not_mem_nil, or_false] at hx
    rcases hx with rfl | rfl | rfl <;> exact mg_none_of X T.g (by with_unfolding_all rfl)
  fn := by
    intro q hq
    simp only [fnNames, List.mem_cons, List.not_mem_nil, or_false] at hq
    rcases hq with rfl | rfl | rfl | rfl | rfl | rfl | rfl | rfl | rfl
    · exact ⟨21, fn02 X T.g (by with_unfolding_all rfl) (by with_unfolding_all rfl) (by with_unfolding_all rfl) (by with_unfolding_all rfl)⟩
    · exact ⟨28, fn02 X T.g (by with_unfolding_all rfl) (by with_unfolding_all rfl) (by with_unfolding_all rfl) (by with_unfolding_all rfl)⟩
    · exact ⟨35, fn02 X T.g (by with_unfolding_all rfl) (by with_unfolding_all rfl) (by with_unfolding_all rfl) (by with_unfolding_all rfl)⟩
    · exact ⟨42, fn02 X T.g (by with_unfolding_all rfl) (by with_unfolding_all rfl) (by with_unfolding_all rfl) (by with_unfolding_all rfl)⟩
    · exact ⟨49, fn02 X T.g (by with_unfolding_all rfl) (by with_unfolding_all rfl) (by with_unfolding_all rfl) (by with_unfolding_all rfl)⟩
    · exact ⟨56, fn02 X T.g (by with_unfolding_all rfl) (by with_unfolding_all rfl) (by with_unfolding_all rfl) (by with_unfolding_all rfl)⟩
    · exact ⟨63, fn02 X T.g (by with_unfolding_all rfl) (by with_unfolding_all rfl) (by with_unfolding_all rfl) (by with_unfolding_all rfl)⟩
    · exact ⟨68, fn02 X T.g (by with_unfolding_all rfl) (by with_unfolding_all rfl) (by with_unfolding_all rfl) (by with_unfolding_all rfl)⟩
    · exact ⟨73, fn02 X T.g (by with_unfolding_all rfl) (by with_unfolding_all rfl) (by with_unfolding_all rfl) (by with_unfolding_all rfl)⟩
theorem prog02 {p : Params} {h : Heap} {mg mb : Str → Option Value} {loose : List Str} {mean : ExcName → Option Value} {tp : Program} (X : (hd02.heap_39 p).In h) (T : Top tp loose mean mg mb h) : mg "_law_prog" = some (.ref 80) ∧ FnIsC h 80 "_law_prog" 12 79 := by
  refine ⟨mg_of X T.g (by with_unfolding_all rfl), ?_⟩
  exact ⟨_, _, _, X 80 _ (by with_unfolding_all rfl), by with_unfolding_all rfl, codeRec_of X (by with_unfolding_all rfl)⟩
end Mine

end
section
set_option maxHeartbeats 8000000
namespace Mine
theorem law_call02 {prog : Program} {w : World} {s₁ : Shared} {b fa : Addr} {o : Obj} {pm cd doc : Value} {vs : List Value} {ns : List Int} {p : Params} {mg mb : Str → Option Value} {loose : List Str} {mean : ExcName → Option Value} {tp : Program}
    (X : (hd02.heap_39 p).In s₁.heap) (T : Top tp loose mean mg mb s₁.heap) (ho : s₁.heap.get? fa = some o) (hd : o.data = .func (Calls.docDef "law" (sParams (defAt 13)) (sBody (defAt 13)) (sScope (defAt 13)) pm cd doc)) (hcd : s₁.heap.CodeRec cd "law")
    (hP : s₁.heap.get? 75 = some (tabObj #[])) (hb : s₁.heap.IsList b vs.toArray) (hI : IntsAre vs ns) (hlen : ns.length ≤ 63) :
    codeAny (model prog w) callerA (.call (.ref fa) ⟨[.ref b], []⟩) (fun r s' => ∃ h' tk ps, r = .ok (.ret (.bool true)) ∧ s' = { s₁ with heap := h', toks := tk } ∧ Keep (ghostOf s₁.heap [(79, 75)]) h' ∧ h'.get? 75 = some (tabObj ps)) s₁ := by
  have C : CodeHd s₁.heap 79 75 := codeHd_of_K X (by with_unfolding_all rfl)
  have hT : TabsAt [(79, 75)] s₁.heap := List.forall_mem_cons.mpr ⟨⟨C, hP⟩, fun _ h => nomatch h⟩
  have X' := ghost_K hT X (by kernel_rfl)
  have T' := ghost_top hT T
  have G := glb02 X' T'
  obtain ⟨hfp, hf⟩ := prog02 X' T'
  have C' : CodeHd (ghostOf s₁.heap [(79, 75)]) 79 75 := (ghost_code hT).1
  have hb' := ghost_list hT hb
  have hP0 : (ghostOf s₁.heap [(79, 75)]).get? 75 = none := hideAll_none _ (.head _)
  refine callX (k := 60) [(75, tabObj #[])] ⟨rfl, by decide, by decide⟩ ho hd hcd rfl (BindsTo.of_eq (binds := [("script", .ref b)]) rfl) (by simpa using hP) (by simp) ?_
  intro g h₁ L env hE F hg hgs hA'
  have k0 : Keep (ghostOf s₁.heap [(79, 75)]) g := fun a o' e => hg a o' (fun q => by
    have : a = 75 := by simpa using q
    rw [this, hP0] at e; cases e) (of_hideAll _ e)
  subst hE
  refine bind_cons (St.st F fun h₂ F₂ => ?_)
  refine bind_nil ⟨G.nolimit.keeps (k0.trans F₂.keep), ?_⟩
  dsimp only
  refine law_walk (b := b) G k0 (hA'.le (by omega)) hfp hf C' F₂ rfl (let ⟨o, a, r⟩ := hb'; ⟨o, k0 _ _ a, r⟩) hI hlen ?_
  intro h' tk ps k' hP'
  exact ⟨h', tk, ps, rfl, rfl, k', hP'⟩
end Mine

end
section
set_option maxHeartbeats 8000000
theorem PySem.Challenge.cw_mq0133_02_holds : PySem.Challenge.rw_mq0133_02.Holds := by
  refine Mine.hd02 ?_
  k_fill
  intro w s₀ s₁ mg mb G Y fa o pm cd doc dV kV ho hd hcd hD hmg hg args vals as hpre hlay hrd hwl hlo
  have KX := km_in_of Y
  have hT8 := km_tabs_of Y
  have hP := hT8 75 (List.mem_singleton.mpr rfl)
  have T := Ground.T G
  have he := Dflts.none hD rfl
  subst he
  have he := Dflts.noKw hD
  subst he
  have hd' := fd_plain hd
  wrow_args hpre hlay hrd hwl hlo
  rename_i ns _ _ _ _ _ _ _ b vs _ hb _ _ _ hI _ hc _
  refine enter_call ?_
  refine kn_post (tabs := [(79, 75)]) (List.forall_mem_cons.mpr ⟨⟨codeHd_of_K KX (by with_unfolding_all rfl), hP⟩, fun _ h => nomatch h⟩) (fun _ _ => rfl) ?_
  refine codeAny_mono (Mine.law_call02 KX T ho hd' hcd hP hb hI (by omega)) fun r s' hr => ?_
  obtain ⟨h', tk, ps, rfl, rfl, hk, hP'⟩ := hr
  exact ⟨⟨.inl ⟨.bool true, ofPy (.bool true), [], rfl, fun _ => rfl, readsW_of_reads (.bool true), by first | with_unfolding_all rfl | kernel_rfl | exact postW_of (by wrow_shape) (by wtm_val) (by first | rfl | w_fin), fun _ => ⟨.nil, fun a ha => nomatch ha⟩⟩, hk, rfl, hg⟩, ⟨ps, hP'⟩, trivial⟩

end

import PyProof.Rows.All
import Wide.All
import OpenK.AllK
import Wide.FinOn
import Lean
import PySem.Challenge.RW_nb0252_01
set_option Elab.async false
section
open PySem PySem.W PyProof.Rows
namespace Mine
set_option maxRecDepth 100000 in
set_option maxHeartbeats 8000000 in
open_top hd for PySem.Challenge.rw_nb0252_01
end Mine
end

section
open PySem PySem.W PyProof.Rows PySem.Calls
set_option maxRecDepth 100000
namespace Mine

noncomputable abbrev KW (w : World) : Frag := hd.heap_39 w.params

/-- the ground: the text's own objects, the names -/
structure Bs (w : World) (H : Heap) : Prop where
  X : (KW w).In H
  T : ∃ p loose mg mb, TopRead p loose mg mb H

/-- what stands in H stands in h -/
structure Ov (H h : Heap) : Prop where
  st : ∀ b o, H.get? b = some o → h.get? b = some o
  sz : H.objs.size ≤ h.objs.size

theorem Ov.refl (h : Heap) : Ov h h := ⟨fun _ _ e => e, Nat.le_refl _⟩
theorem Ov.trans {a b c : Heap} (x : Ov a b) (y : Ov b c) : Ov a c := ⟨fun p o e => y.st p o (x.st p o e), Nat.le_trans x.sz y.sz⟩
theorem Ov.push {h : Heap} (o : Obj) : Ov h (h.push o) := ⟨fun _ _ e => Heap.get?_push_of_some _ e, by rw [size_push']; lia⟩

/-- all but the object at a stands -/
structure Kp (a : Addr) (h h' : Heap) : Prop where
  st : ∀ b o, b ≠ a → h.get? b = some o → h'.get? b = some o
  sz : h.objs.size ≤ h'.objs.size
theorem Kp.refl (a : Addr) (h : Heap) : Kp a h h := ⟨fun _ _ _ e => e, Nat.le_refl _⟩
theorem Kp.trans {x : Addr} {a b c : Heap} (p : Kp x a b) (q : Kp x b c) : Kp x a c := ⟨fun y o n e => q.st y o n (p.st y o n e), Nat.le_trans p.sz q.sz⟩
theorem Kp.of {a : Addr} {h h' : Heap} (x : Ov h h') : Kp a h h' := ⟨fun b o _ e => x.st b o e, x.sz⟩
theorem Kp.same {a : Addr} {h h' : Heap} (x : Heap.SameBut a h h') : Kp a h h' := ⟨fun b _ n e => (x.2 b n).trans e, Nat.le_of_eq x.1.symm⟩
theorem Ov.kp {H h h' : Heap} {a : Addr} (x : Ov H h) (k : Kp a h h') (ha : H.get? a = none) : Ov H h' :=
  ⟨fun b o e => k.st b o (fun q => by rw [q, ha] at e; cases e) (x.st b o e), Nat.le_trans x.sz k.sz⟩
theorem Fr.kp {H h h' : Heap} {L a : Addr} {m : Str → Option Value} (F : Fr H L h m) (k : Kp a h h') (ha : H.get? a = none) (hL : L ≠ a) : Fr H L h' m := by
  obtain ⟨o, es, ep, ho, r⟩ := F.ns
  exact ⟨⟨o, es, ep, k.st L o hL ho, r⟩, fun b o e => k.st b o (fun q => by rw [q, ha] at e; cases e) (F.keep b o e), F.above⟩
theorem isList_kp {h h' : Heap} {a b : Addr} {xs : Array Value} (x : h.IsList b xs) (k : Kp a h h') (hn : b ≠ a) : h'.IsList b xs := let ⟨o, e, r⟩ := x; ⟨o, k.st b o hn e, r⟩
theorem isList_lt {h : Heap} {a : Addr} {xs : Array Value} (x : h.IsList a xs) : a < h.objs.size := let ⟨_, e, _⟩ := x; Heap.lt_size e

/-- a frame's names with one more stored -/
def upd (m : Str → Option Value) (x : Str) (v : Value) : Str → Option Value := fun y => if y = x then some v else m y
theorem ups {m : Str → Option Value} {x y : Str} {v u : Value} (hne : y ≠ x) (h : m y = some u) : upd m x v y = some u := by
  simp [upd, hne, h]
theorem upe {m : Str → Option Value} {x : Str} {v : Value} : upd m x v x = some v := if_pos rfl

section
variable {prog : Program} {w : World} {A : Around} {E : Value → Shared → Prop} {s : Shared} {H : Heap}

theorem enter {R : Result → Shared → Prop} {name qual : Str} {params : Arguments} {body : List Stmt} {scope : Scope} {dV kV doc pm cdv ct oc : Value} {an od : Option Addr}
    {osl : Array (Option Value)} {f : Addr} {args : Args} {binds : List (Str × Value)}
    (hB : Bs w H) (hO : Ov H s.heap)
    (ho : (KW w).lookup f = some ⟨oc, od, .func (fnOf name qual params body scope dV kV doc pm an cdv ct), osl⟩) (hcd : codeIn (KW w) cdv qual = true)
    (hroom : A.depth < recursionLimit)
    (hbind : BindsTo s (fnOf name qual params body scope dV kV doc pm an cdv ct) args binds) (hloc : ∀ y ∈ binds, scope.names.lookup y.1 = some .local)
    (hcell : ∀ x ∈ scope.names, x.2 ≠ .cell)
    (h : ∀ h₁, Fr H s.heap.objs.size h₁ (fun x => binds.reverse.lookup x) → Ov s.heap h₁ →
      wpAny (model prog w) (A.deeper (envOf qual scope s.heap.objs.size f cdv)) (execs body (envOf qual scope s.heap.objs.size f cdv))
        (fun fl s' => R (.ok (.ret (match fl with | .ret v => v | _ => .none))) s') (fun _ _ => False) { s with heap := h₁, toks := s.toks + binds.length })
    (hco : scope.isCoroutine = false := by rfl) (hgen : scope.isGenerator = false := by rfl) (hk : scope.kind = .function := by rfl) :
    codeAny (model prog w) A (.call (.ref f) args) R s := by
  obtain ⟨_, _, _, _, T⟩ := hB.T
  have X := hB.X.keeps hO.st
  refine codeAny_call_def (fd := fnOf name qual params body scope dV kV doc pm an cdv ct) (body := body) (binds := binds) hroom (X _ _ ho) rfl
    (T.nolimit.keeps hO.st) (codeRec_of X hcd) rfl hbind hcell hloc (fun h₁ hns hk₁ => ?_) hco hgen hk
  exact wpAny_mono (h h₁ ⟨hns, fun b o e => hk₁ b o (hO.st b o e), hO.sz⟩ ⟨hk₁, Nat.le_of_lt hns.lt⟩) (fun _ _ x => x) fun _ _ x => x.elim

/-- a store of a local: the frame, the rest -/
theorem put {name : Str} {scope : Scope} {L a : Addr} {cd : Value} {m : Str → Option Value} {x : Str} {v : Value} {Q : Unit → Shared → Prop} (F : Fr H L s.heap m)
    (h : ∀ h', Fr H L h' (upd m x v) → Heap.SameBut L s.heap h' → Q () { s with heap := h', toks := s.toks + 1 })
    (hk : scope.kind = .function := by rfl) (hl : (envOf name scope L a cd).kindOf x = some .local := by rfl) :
    wpAny (model prog w) A (storeName (envOf name scope L a cd) x v) Q E s :=
  wpAny_storeName_local hl F.ns (fun h' hn hs => h h' (F.set hn hs) hs)
    (by show (scope.kind == .class || (scope.kind == .module && L != mainGlobals)) = false; rw [hk]; rfl)

theorem item {value slice : Expr} {l : Addr} {xs : Array Value} {k : Int} {u : Tok} {v : Value} {Q : Value → Shared → Prop}
    (hl : s.heap.IsList l xs) (h0 : 0 ≤ k) (hhi : k < 2 ^ 63) (hx : xs[k.toNat]? = some v) (h : Q v s)
    (hs : subscripted slice false (.ref l) (.int k u) = operate [.ref l, .int k u] (getItem (.ref l) (.int k u)) := by with_unfolding_all rfl) :
    wpAny (model prog w) A (subscriptTail value slice (.ref l) (.int k u)) Q E s :=
  tail_any hl.typeIs slot_list_getitem.lookup (wpAny_getItem_list hl h0 hhi hx h) hs
end

/-- comparing: what «x < y» answers for the values of S, wherever the objects of P stand -/
def Cmp (prog : Program) (w : World) (P : Heap → Prop) (lt : Value → Value → Bool) (S : Value → Prop) : Prop :=
  ∀ (A : Around) (E : Value → Shared → Prop) (s : Shared) (Q : Value → Shared → Prop) (x y : Value), A.units < cLine → P s.heap → S x → S y → Q (.bool (lt x y)) s →
    wpAny (model prog w) A (compareOp .Lt x y) Q E s

def sd (lt : Value → Value → Bool) (new : Value) (st : Nat) (vs : List Value) (pos : Nat) : List Value :=
  if h : st < pos then
    if lt new (vs.getD ((pos - 1) / 2) .none) then sd lt new st (vs.set pos (vs.getD ((pos - 1) / 2) .none)) ((pos - 1) / 2)
    else vs.set pos new
  else vs.set pos new
termination_by pos
decreasing_by lia

/-- the list at a, the object whole -/
def Ls (h : Heap) (a : Addr) (vs : List Value) : Prop := ∃ n, h.get? a = some (W.listOf vs.toArray n)
theorem Ls.il {h : Heap} {a : Addr} {vs : List Value} (x : Ls h a vs) : h.IsList a vs.toArray := let ⟨n, e⟩ := x; ⟨_, e, rfl, n, rfl⟩
theorem Ls.lt {h : Heap} {a : Addr} {vs : List Value} (x : Ls h a vs) : a < h.objs.size := let ⟨_, e⟩ := x; Heap.lt_size e
theorem Ls.at {h h' : Heap} {a : Addr} {vs : List Value} (x : Ls h a vs) (e : ∀ o, h.get? a = some o → h'.get? a = some o) : Ls h' a vs := let ⟨n, q⟩ := x; ⟨n, e _ q⟩

section
variable {prog : Program} {w : World} {A : Around} {E : Value → Shared → Prop} {s : Shared}
theorem setAtK {l : Addr} {vs : List Value} {k : Int} {t : Tok} {v : Value} {Q : Unit → Shared → Prop} (hl : Ls s.heap l vs) (h0 : 0 ≤ k) (hfit : k < 2 ^ 63) (hn : k < vs.length)
    (hQ : ∀ h', Ls h' l (vs.set k.toNat v) → Heap.SameBut l s.heap h' → Q () { s with heap := h' }) : wpAny (model prog w) A (setItem (.ref l) (.int k t) v) Q E s := by
  have hi := hl.il
  obtain ⟨n, ho⟩ := hl
  unfold setItem
  try with_reducible refine wpAny_holding ?_
  first | refine wpAny_bind (wpAny_pure ?_) | skip
  refine wpAny_bind (wpAny_sequenceKey hi.typeIs (by decide) ?_)
  refine wpAny_bind (wpAny_callSpecial?_slot (name := Str.ofString "__setitem__") hi.typeIs slot_list_setitem (wpAny_call_entry slot_list_setitem hi.typeIs entry_list_setitem ?_ (args_list_setitem _ _ _)))
  show wpAny _ _ (Builtin.List.listSubscript? (.int k t) >>= _) _ _ s
  refine wpAny_bind (wpAny_listSubscript_int (fitsIndex_of h0 hfit) ?_)
  clear hfit
  obtain ⟨j, rfl⟩ := Int.eq_ofNat_of_zero_le h0
  have hj : j < vs.length := by lia
  have hx : vs.toArray[j]? = some vs[j] := by simp [hj]
  show wpAny _ _ ((seqItemAt l j >>= fun r => pure (r.map (j, ·))) >>= _) _ _ s
  refine wpAny_bind (wpAny_bind (wpAny_seqItemAt ho rfl (wpAny_pure ?_)))
  rw [hx]
  show wpAny _ _ (setSeqItemAt l j v >>= _) _ _ s
  have q := get?_update_seq ho (·.setIfInBounds j v)
  have e : vs.toArray.setIfInBounds j v = (vs.set j v).toArray := by simp
  refine wpAny_bind (wpAny_setSeqItemAt ho rfl ?_)
  first
    | exact wpAny_bind (wpAny_pure (wpAny_pure ⟨.none, rfl, wpAny_pure (hQ _ ⟨_, e ▸ q⟩ (Heap.SameBut.update ..))⟩))
    | exact wpAny_pure ⟨.none, rfl, wpAny_pure (hQ _ ⟨_, e ▸ q⟩ (Heap.SameBut.update ..))⟩
theorem setAt {l : Addr} {vs : List Value} {j : Nat} {t : Tok} {v : Value} {Q : Unit → Shared → Prop} (hl : Ls s.heap l vs) (hfit : j < 2 ^ 63) (hj : j < vs.length)
    (hQ : ∀ h', Ls h' l (vs.set j v) → Heap.SameBut l s.heap h' → Q () { s with heap := h' }) : wpAny (model prog w) A (setItem (.ref l) (.int j t) v) Q E s :=
  setAtK hl (by lia) (by lia) (by lia) hQ

theorem popAt {l : Addr} {vs : List Value} {y : Value} {Q : Value → Shared → Prop} (hl : Ls s.heap l (vs ++ [y])) (hz : vs.length < 1000)
    (hQ : ∀ h', Ls h' l vs → Heap.SameBut l s.heap h' → Q y { s with heap := h' }) : wpAny (model prog w) A (call (.builtin "list.pop") [.ref l]) Q E s := by
  obtain ⟨n, ho⟩ := hl
  have hk : (vs ++ [y]).toArray.size - 1 = vs.length := by simp
  have hy : (vs ++ [y]).toArray[(vs ++ [y]).toArray.size - 1]? = some y := by rw [hk]; simp
  refine call_meets PySem.F.slot_list_pop ⟨_, ho, rfl⟩ PySem.F.entry_list_pop (PySem.F.args_list_pop_1 _) (PySem.MeetsSeq.list_pop_last l _ n y hy (by simp only [List.size_toArray, List.length_append, List.length_cons, List.length_nil]; rw [sizeLine_eq]; lia)) ⟨ho, hQ _ ?_ (Heap.SameBut.update ..)⟩
  have q := get?_update_seq ho (fun xs => xs.eraseIdxIfInBounds ((vs ++ [y]).toArray.size - 1))
  have e : (vs ++ [y]).toArray.eraseIdxIfInBounds ((vs ++ [y]).toArray.size - 1) = vs.toArray := by
    rw [hk, kl_erase, List.append_nil]
  exact ⟨_, by rw [q, e]⟩
end

/-- in a call whose frame is at L, begun at h0, the list at a holds vs -/
structure Fx (H h0 : Heap) (a L : Addr) (h : Heap) (m : Str → Option Value) (vs : List Value) : Prop where
  F : Fr H L h m
  k : Kp a h0 h
  l : Ls h a vs
  ha : H.get? a = none
  hLa : L ≠ a
  hL : h0.objs.size ≤ L
  hH : H.objs.size ≤ h0.objs.size

theorem Fx.kp {H h0 : Heap} {a L : Addr} {h h' : Heap} {m : Str → Option Value} {vs vs' : List Value} (X : Fx H h0 a L h m vs) (k : Kp a h h') (l : Ls h' a vs') : Fx H h0 a L h' m vs' :=
  ⟨Fr.kp X.F k X.ha X.hLa, X.k.trans k, l, X.ha, X.hLa, X.hL, X.hH⟩

section
variable {prog : Program} {w : World} {A : Around} {E : Value → Shared → Prop} {s : Shared} {H h0 : Heap} {a L : Addr} {m : Str → Option Value} {vs : List Value}

theorem Fx.st {name : Str} {scope : Scope} {f : Addr} {cd : Value} {x : Str} {v : Value} {Q : Unit → Shared → Prop} (X : Fx H h0 a L s.heap m vs)
    (h : ∀ h', Fx H h0 a L h' (upd m x v) vs → Q () { s with heap := h', toks := s.toks + 1 })
    (hk : scope.kind = .function := by rfl) (hl : (envOf name scope L f cd).kindOf x = some .local := by rfl) :
    wpAny (model prog w) A (storeName (envOf name scope L f cd) x v) Q E s :=
  put X.F (fun h' F' sb => h h' ⟨F', ⟨fun b o n e => (sb.2 b (Nat.ne_of_lt (Nat.lt_of_lt_of_le (Heap.lt_size e) X.hL))).trans (X.k.st b o n e), Nat.le_trans X.k.sz (Nat.le_of_eq sb.1.symm)⟩,
    X.l.at (fun _ e => (sb.2 a (Ne.symm X.hLa)).trans e), X.ha, X.hLa, X.hL, X.hH⟩) hk hl

theorem Fx.stS {name : Str} {scope : Scope} {f : Addr} {cd : Value} {x : Str} {v : Value} {Q : Unit → Shared → Prop} (X : Fx H h0 a L s.heap m vs)
    (h : ∀ h', Fx H h0 a L h' (upd m x v) vs → Heap.SameBut L s.heap h' → Q () { s with heap := h', toks := s.toks + 1 })
    (hk : scope.kind = .function := by rfl) (hl : (envOf name scope L f cd).kindOf x = some .local := by rfl) :
    wpAny (model prog w) A (storeName (envOf name scope L f cd) x v) Q E s :=
  put X.F (fun h' F' sb => h h' ⟨F', ⟨fun b o n e => (sb.2 b (Nat.ne_of_lt (Nat.lt_of_lt_of_le (Heap.lt_size e) X.hL))).trans (X.k.st b o n e), Nat.le_trans X.k.sz (Nat.le_of_eq sb.1.symm)⟩,
    X.l.at (fun _ e => (sb.2 a (Ne.symm X.hLa)).trans e), X.ha, X.hLa, X.hL, X.hH⟩ sb) hk hl

theorem Fx.get {value slice : Expr} {k : Nat} {u : Tok} {v : Value} {Q : Value → Shared → Prop} (X : Fx H h0 a L s.heap m vs) (hk : k < 2 ^ 63) (hx : vs[k]? = some v) (h : Q v s)
    (hs : subscripted slice false (.ref a) (.int k u) = operate [.ref a, .int k u] (getItem (.ref a) (.int k u)) := by with_unfolding_all rfl) :
    wpAny (model prog w) A (subscriptTail value slice (.ref a) (.int k u)) Q E s :=
  item X.l.il (by lia) (by lia) (by simpa using hx) h hs

theorem Fx.set {k : Nat} {u : Tok} {v : Value} {Q : Unit → Shared → Prop} (X : Fx H h0 a L s.heap m vs) (hk : k < 2 ^ 63) (hx : k < vs.length)
    (h : ∀ h', Fx H h0 a L h' m (vs.set k v) → Q () { s with heap := h' }) : wpAny (model prog w) A (setItem (.ref a) (.int k u) v) Q E s :=
  setAt X.l hk hx fun h' l' sb => h h' (X.kp (.same sb) l')
end

section
variable {prog : Program} {w : World} {A : Around} {E : Value → Shared → Prop} {s : Shared} {H : Heap} {L f : Addr} {m : Str → Option Value} {cn : Str} {cs : Scope} {cd : Value} {x : Str} {pos p : Pos} {v : Value} {Q : Value → Shared → Prop}

/-- a built-in's name -/
theorem bnm (hB : Bs w H) (F : Fr H L s.heap m) (h1 : nsIn (KW w) mainGlobals x = some none) (h2 : bootBuiltins x = some v) (h3 : x ≠ "__name__") (h : Q v s)
    (hk : cs.kind = .function := by rfl) (hg : (envOf cn cs L f cd).kindOf x = some .globalImplicit := by rfl) (hd : (x == ("__debug__" : Str)) = false := by decide) :
    wpAny (model prog w) A (eval (.Name x pos) (envOf cn cs L f cd)) Q E s := by
  obtain ⟨_, _, _, _, T⟩ := hB.T
  exact name_B F hB.X T h1 h2 h3 h hk hg hd
/-- a def's name -/
theorem fnm (hB : Bs w H) (F : Fr H L s.heap m) (h1 : nsIn (KW w) mainGlobals x = some (some v)) (h : Q v s)
    (hk : cs.kind = .function := by rfl) (hg : (envOf cn cs L f cd).kindOf x = some .globalImplicit := by rfl) (hd : (x == ("__debug__" : Str)) = false := by decide) :
    wpAny (model prog w) A (eval (.Name x pos) (envOf cn cs L f cd)) Q E s := by
  obtain ⟨_, _, _, _, T⟩ := hB.T
  exact name_K F hB.X T h1 h hk hg hd

/-- the call of a built-in by its name -/
theorem bcall {id : String} {e : Expr} {rest : List Expr} (hB : Bs w H) (F : Fr H L s.heap m)
    (h : wpAny (model prog w) A (spliced (backTo pos (starEach (e :: rest) (envOf cn cs L f cd)))) (fun vs s₁ => wpAny (model prog w) A (call (.builtin id) vs) Q E s₁) E s)
    (h1 : nsIn (KW w) mainGlobals x = some none := by rfl) (h2 : bootBuiltins x = some (.builtin id) := by boot_by_name) (h3 : x ≠ "__name__" := by decide)
    (he : starEach (e :: rest) (envOf cn cs L f cd) = (false, eval e (envOf cn cs L f cd)) :: starEach rest (envOf cn cs L f cd) := by rfl) (hplain : (backTo pos (starEach rest (envOf cn cs L f cd))).any (·.1) = false := by rfl)
    (hk : cs.kind = .function := by rfl) (hg : (envOf cn cs L f cd).kindOf x = some .globalImplicit := by rfl) (hd : (x == ("__debug__" : Str)) = false := by decide) :
    wpAny (model prog w) A (eval (.Call (.Name x p) (e :: rest) [] pos) (envOf cn cs L f cd)) Q E s :=
  Call_ (bnm hB F h1 h2 h3 (callWith_builtin1 h he hplain) hk hg hd)

/-- the call of a def by its name -/
theorem fcall {g : Addr} {e : Expr} {rest : List Expr} (hB : Bs w H) (F : Fr H L s.heap m) (h1 : nsIn (KW w) mainGlobals x = some (some (.ref g))) (hf : keepIn (KW w) (.ref g) = true)
    (h : wpAny (model prog w) A (spliced (backTo pos (starEach (e :: rest) (envOf cn cs L f cd)))) (fun vs s₁ => Ov H s₁.heap ∧ codeAny (model prog w) A (.call (.ref g) ⟨vs, []⟩) (fun r s' => match r with | .ok (.ret v) => Q v s' | .ok _ => False | .error e => E e s') s₁) E s)
    (he : starEach (e :: rest) (envOf cn cs L f cd) = (false, eval e (envOf cn cs L f cd)) :: starEach rest (envOf cn cs L f cd) := by rfl) (hplain : (backTo pos (starEach rest (envOf cn cs L f cd))).any (·.1) = false := by rfl)
    (hk : cs.kind = .function := by rfl) (hg : (envOf cn cs L f cd).kindOf x = some .globalImplicit := by rfl) (hd : (x == ("__debug__" : Str)) = false := by decide) :
    wpAny (model prog w) A (eval (.Call (.Name x p) (e :: rest) [] pos) (envOf cn cs L f cd)) Q E s :=
  Call_ (fnm hB F h1 (callWith_K hB.X hf (wpAny_mono h (fun _ _ x => ⟨hB.X.keeps x.1.st, wpAny_call x.2⟩) fun _ _ x => x) he hplain) hk hg hd)
end

theorem Fx.ov {H h0 : Heap} {a L : Addr} {h : Heap} {m : Str → Option Value} {vs : List Value} (X : Fx H h0 a L h m vs) : Ov H h := ⟨X.F.keep, Nat.le_trans X.F.above (Nat.le_of_lt X.F.ns.lt)⟩

theorem Fx.keep {H h0 : Heap} {a L it : Addr} {h h' : Heap} {m : Str → Option Value} {vs : List Value} (X : Fx H h0 a L h m vs) (e : Heap.ExtBut it h h') (h1 : h0.objs.size ≤ it) (h2 : it ≠ L) (h3 : it ≠ a) : Fx H h0 a L h' m vs := by
  obtain ⟨o, es, ep, ho, r⟩ := X.F.ns
  have hL := e L o (Ne.symm h2) ho
  exact ⟨⟨⟨o, es, ep, hL, r⟩, fun b o' e' => e b o' (Nat.ne_of_lt (Nat.lt_of_lt_of_le (Heap.lt_size e') (Nat.le_trans X.hH h1))) (X.F.keep b o' e'), X.F.above⟩,
    ⟨fun b o' n e' => e b o' (Nat.ne_of_lt (Nat.lt_of_lt_of_le (Heap.lt_size e') h1)) (X.k.st b o' n e'), Nat.le_trans X.hL (Nat.le_of_lt (Heap.lt_size hL))⟩,
    X.l.at (fun o' e' => e a o' (Ne.symm h3) e'), X.ha, X.hLa, X.hL, X.hH⟩
theorem extBut_of_same {a : Addr} {h h' : Heap} (x : Heap.SameBut a h h') : Heap.ExtBut a h h' := fun b _ n e => (x.2 b n).trans e
theorem Fx.push {H h0 : Heap} {a L : Addr} {h : Heap} {m : Str → Option Value} {vs : List Value} (X : Fx H h0 a L h m vs) (o : Obj) : Fx H h0 a L (h.push o) m vs :=
  X.kp (.of (.push o)) (X.l.at fun _ e' => Heap.get?_push_of_some _ e')

theorem isList_grow {h h' : Heap} {a : Addr} {xs : Array Value} (x : h.IsList a xs) (o : Ov h h') : h'.IsList a xs := let ⟨p, e, r⟩ := x; ⟨p, o.st a p e, r⟩
theorem Fr.grow' {H h h' : Heap} {L : Addr} {m : Str → Option Value} (F : Fr H L h m) (o : Ov h h') : Fr H L h' m := by
  obtain ⟨p, es, ep, ho, r⟩ := F.ns
  exact ⟨⟨p, es, ep, o.st L p ho, r⟩, fun b q e => o.st b q (F.keep b q e), F.above⟩
theorem Fx.grow {H h0 : Heap} {a L : Addr} {h h' : Heap} {m : Str → Option Value} {vs : List Value} (X : Fx H h0 a L h m vs) (o : Ov h h') : Fx H h0 a L h' m vs :=
  X.kp (.of o) (X.l.at fun _ e => o.st a _ e)

section
variable {prog : Program} {w : World} {A : Around} {E : Value → Shared → Prop} {s : Shared}
theorem range1 {n : Int} {t : Tok} {Q : Value → Shared → Prop} (h : ∀ h' tk r t u v, Ov s.heap h' → IsRange h' r 0 n 1 t u v → s.heap.objs.size ≤ r → Q (.ref r) { s with heap := h', toks := tk }) :
    wpAny (model prog w) A (call (.type "range") [.int n t]) Q E s := call_range_1 (h _ _ _ _ _ _ (Ov.push _) (IsRange.new ..) (Nat.le_refl _))
theorem range2 {a b : Int} {t u : Tok} {Q : Value → Shared → Prop} (h : ∀ h' tk r t u v, Ov s.heap h' → IsRange h' r a b 1 t u v → s.heap.objs.size ≤ r → Q (.ref r) { s with heap := h', toks := tk }) :
    wpAny (model prog w) A (call (.type "range") [.int a t, .int b u]) Q E s := call_range_2 (h _ _ _ _ _ _ (Ov.push _) (IsRange.new ..) (Nat.le_refl _))
theorem iterRange {r : Addr} {a b c : Int} {t u v : Tok} {Q : Value → Shared → Prop} (hr : IsRange s.heap r a b c t u v) (hs : Builtin.Range.small a b c = true)
    (h : ∀ h' it, Ov s.heap h' → IsRangeIter h' it a (Builtin.Range.rangeSize a b c) c → s.heap.objs.size ≤ it → Q (.ref it) { s with heap := h' }) : wpAny (model prog w) A (pyIter (.ref r)) Q E s :=
  wpAny_pyIter_range hr hs (h _ _ (Ov.push _) (Heap.get?_push_size _ rfl) (Nat.le_refl _))
end

/-- the smaller child goes up, down to a leaf -/
def su (lt : Value → Value → Bool) (vs : List Value) (pos : Nat) : List Value × Nat :=
  if h : 2 * pos + 1 < vs.length then
    if 2 * pos + 2 < vs.length ∧ lt (vs.getD (2 * pos + 1) .none) (vs.getD (2 * pos + 2) .none) = false then su lt (vs.set pos (vs.getD (2 * pos + 2) .none)) (2 * pos + 2)
    else su lt (vs.set pos (vs.getD (2 * pos + 1) .none)) (2 * pos + 1)
  else (vs, pos)
termination_by vs.length - pos
decreasing_by all_goals (simp only [List.length_set]; lia)

def sup (lt : Value → Value → Bool) (vs : List Value) (pos : Nat) : List Value :=
  sd lt (vs.getD pos .none) pos ((su lt vs pos).1.set (su lt vs pos).2 (vs.getD pos .none)) (su lt vs pos).2

theorem su_len (lt : Value → Value → Bool) : ∀ (n : Nat) (vs : List Value) (pos : Nat), vs.length - pos ≤ n → (su lt vs pos).1.length = vs.length ∧ (pos < vs.length → (su lt vs pos).2 < vs.length)
  | 0, vs, pos, h => by
    rw [su, dif_neg (by lia)]; exact ⟨rfl, fun h => h⟩
  | n + 1, vs, pos, h => by
    rw [su]
    split
    · split
      · have := su_len lt n (vs.set pos (vs.getD (2 * pos + 2) .none)) (2 * pos + 2) (by simp only [List.length_set]; lia)
        simp only [List.length_set] at this
        exact ⟨this.1, fun _ => this.2 (by lia)⟩
      · have := su_len lt n (vs.set pos (vs.getD (2 * pos + 1) .none)) (2 * pos + 1) (by simp only [List.length_set]; lia)
        simp only [List.length_set] at this
        exact ⟨this.1, fun _ => this.2 (by lia)⟩
    · exact ⟨rfl, fun h => h⟩
end Mine
end

section
open PySem PySem.W PyProof.Rows PySem.Calls
set_option maxRecDepth 100000
set_option maxHeartbeats 1000000
namespace Mine
/-- the loop's state in _siftdown, and its end -/
inductive SdI (H : Heap) (s : Shared) (a : Addr) (n : Nat) (new : Value) (st : Nat) (t : Tok) (S : Value → Prop) (lt : Value → Value → Bool) (tg : List Value) (k : Nat) (s' : Shared) : Prop where
  | mk (h' : Heap) (tk : Nat) (vs' : List Value) (p : Nat) (tp : Tok) (m : Str → Option Value) (e : s' = { s with heap := h', toks := tk }) (X : Fx H s.heap a s.heap.objs.size h' m vs')
      (m1 : m "heap" = some (.ref a)) (m2 : m "newitem" = some new) (m3 : m "startpos" = some (.int st t)) (m4 : m "pos" = some (.int (p : Nat) tp)) (hp : p < vs'.length) (hvl : vs'.length = n) (hS : ∀ v ∈ vs', S v) (ht : sd lt new st vs' p = tg) (hk : k = p) : SdI H s a n new st t S lt tg k s'
inductive SdR (H : Heap) (s : Shared) (a : Addr) (n : Nat) (new : Value) (tg : List Value) (r : Result) (s' : Shared) : Prop where
  | mk (er : r = .ok .next) (h' : Heap) (tk : Nat) (vs' : List Value) (p : Nat) (tp : Tok) (m : Str → Option Value) (e : s' = { s with heap := h', toks := tk }) (X : Fx H s.heap a s.heap.objs.size h' m vs')
      (m1 : m "heap" = some (.ref a)) (m2 : m "newitem" = some new) (m3 : m "pos" = some (.int (p : Nat) tp)) (hp : p < vs'.length) (hvl : vs'.length = n) (ht : vs'.set p new = tg) : SdR H s a n new tg r s'

theorem shr1 {p : Nat} (h : 0 < p) : ((p : Int) - 1).fdiv (2 ^ (1 : Int).toNat) = (((p - 1) / 2 : Nat) : Int) := by
  show ((p : Int) - 1).fdiv 2 = _
  rw [Int.fdiv_eq_ediv_of_nonneg _ (by decide)]; lia

theorem siftdown_spec {prog : Program} {w : World} {A : Around} {s : Shared} {H : Heap} {R : Result → Shared → Prop} {a : Addr} {vs : List Value} {lt : Value → Value → Bool}
    {P : Heap → Prop} {S : Value → Prop} {st pos : Nat} {t u : Tok}
    (hB : Bs w H) (hO : Ov H s.heap) (ha : H.get? a = none) (hl : Ls s.heap a vs) (hC : Cmp prog w P lt S) (hP : ∀ h h', P h → Kp a h h' → P h') (hPs : P s.heap)
    (hS : ∀ v ∈ vs, S v) (hpos : pos < vs.length) (hlen : vs.length < 1000) (hroom : A.depth < recursionLimit) (hu : A.units + 10 < cLine)
    (h : ∀ h' tk, Kp a s.heap h' → Ls h' a (sd lt (vs.getD pos .none) st vs pos) → R (.ok (.ret .none)) { s with heap := h', toks := tk }) :
    codeAny (model prog w) A (.call (.ref 83) ⟨[.ref a, .int st t, .int pos u], []⟩) R s := by
  refine enter (binds := [("heap", .ref a), ("startpos", .int st t), ("pos", .int pos u)]) hB hO (by rfl) (by rfl) hroom (BindsTo.of_eq rfl) (locs rfl) (by decide) fun h₁ F O => ?_
  have X : Fx H s.heap a s.heap.objs.size h₁ _ vs := ⟨F, .of O, hl.at fun _ e => O.st a _ e, ha, Nat.ne_of_gt (hl.lt), Nat.le_refl _, hO.sz⟩
  have hnew : vs[pos]? = some (vs.getD pos .none) := by simp [hpos]
  generalize hnw : vs.getD pos .none = new at *
  have hSn : S new := by
    have : new ∈ vs := by rw [← hnw]; simp [hpos]
    exact hS _ this
  generalize htg : sd lt new st vs pos = tg at *
  refine wpAny_execs_cons (wpAny_Assign_Name (Subscript_ (ld X.F rfl (ld X.F rfl (X.get (by lia) hnew ?_)))))
  refine X.st fun h₂ X2 => ?_
  refine wpAny_execs_cons (wpAny_While (codeAny_mono (codeAny_whileLoop (R := SdR H s a vs.length new tg)
    (SdI H s a vs.length new st t S lt tg)
    ?turn pos ⟨_, _, vs, pos, u, _, rfl, X2, rfl, rfl, rfl, rfl, hpos, rfl, hS, htg, rfl⟩) ?fin))
  case fin =>
    rintro r s' ⟨rfl, h', tk, vs', p, tp, m, rfl, X3, m1, m2, m3, hp, hvl, ht⟩
    refine wpAny_execs_cons (wpAny_Assign_Subscript (ld X3.F m2 (ld X3.F m1 (ld X3.F m3 (X3.set (by lia) hp fun h4 X4 => ?_)))))
    refine wpAny_execs_nil ?_
    rw [ht] at X4
    exact h _ _ X4.k X4.l
  case turn =>
    rintro p s' ⟨h', tk, vs', _, tp, m, rfl, X3, m1, m2, m3, m4, hp, hvl, hS', ht, rfl⟩
    refine wpAny_isTrue_Compare1 (ld X3.F m4 (ld X3.F m3 (gt_int (wpAny_truthy_bool ?_))))
    by_cases hlt : (st : Int) < (p : Int)
    · have hlt' : st < p := by lia
      simp only [hlt, decide_true, if_true]
      refine wpAny_execs_cons (wpAny_Assign_Name (wpAny_BinOp (wpAny_BinOp (ld X3.F m4 (wpAny_Constant_int (sub_int (wpAny_Constant_int (rshift_int (by decide) ?_))))))))
      rw [shr1 (by lia : 0 < p)]
      refine X3.st fun h4 X4 => ?_
      have hpp : (p - 1) / 2 < vs'.length := by lia
      have hpar : vs'[(p - 1) / 2]? = some (vs'.getD ((p - 1) / 2) .none) := by simp [hpp]
      have hSp : S (vs'.getD ((p - 1) / 2) .none) := hS' _ (by simp [hpp])
      rw [sd] at ht
      rw [dif_pos hlt'] at ht
      generalize vs'.getD ((p - 1) / 2) .none = par at *
      refine wpAny_execs_cons (wpAny_Assign_Name (Subscript_ (ld X4.F (ups (by decide) m1) (ld X4.F rfl (X4.get (by lia) hpar ?_)))))
      refine X4.st fun h5 X5 => ?_
      refine wpAny_execs_cons (wpAny_If (wpAny_isTrue_Compare1 (ld X5.F (ups (by decide) (ups (by decide) m2)) (ld X5.F upe (hC _ _ _ _ _ _ (by simp only [Around.deeper]; lia) (hP _ _ hPs X5.k) hSn hSp (wpAny_truthy_bool ?_))))))
      cases hc : lt new par with
      | true =>
        rw [hc] at ht
        simp only [if_true] at ht ⊢
        refine wpAny_execs_cons (wpAny_Assign_Subscript (ld X5.F rfl (ld X5.F (ups (by decide) (ups (by decide) m1)) (ld X5.F (ups (by decide) (ups (by decide) m4)) (X5.set (by lia) hp fun h6 X6 => ?_)))))
        refine wpAny_execs_cons (wpAny_Assign_Name (ld X6.F (ups (by decide) rfl) (X6.st fun h7 X7 => ?_)))
        refine wpAny_execs_cons (SiftDown.continue_ ?_)
        refine ⟨(p - 1) / 2, by lia, h7, _, _, (p - 1) / 2, _, _, rfl, X7, ?_, ?_, ?_, rfl, ?_, ?_, ?_, ht, rfl⟩
        · exact ups (by decide) (ups (by decide) (ups (by decide) m1))
        · exact ups (by decide) (ups (by decide) (ups (by decide) m2))
        · exact ups (by decide) (ups (by decide) (ups (by decide) m3))
        · simpa using hpp
        · simpa using hvl
        · exact fun v hv => (List.mem_or_eq_of_mem_set hv).elim (hS' v) (fun e => e ▸ hSp)
      | false =>
        rw [hc] at ht
        simp only [Bool.false_eq_true, if_false] at ht ⊢
        refine wpAny_execs_nil (wpAny_execs_cons (SiftDown.break_ ?_))
        exact ⟨rfl, h5, _, vs', p, tp, _, rfl, X5, ups (by decide) (ups (by decide) m1), ups (by decide) (ups (by decide) m2), ups (by decide) (ups (by decide) m4), hp, hvl, ht⟩
    · have hlt' : ¬ st < p := by lia
      simp only [hlt, decide_false, Bool.false_eq_true, if_false]
      rw [sd, dif_neg hlt'] at ht
      exact wpAny_execs_nil ⟨rfl, h', tk, vs', p, tp, m, rfl, X3, m1, m2, m4, hp, hvl, ht⟩

theorem siftdown_max_spec {prog : Program} {w : World} {A : Around} {s : Shared} {H : Heap} {R : Result → Shared → Prop} {a : Addr} {vs : List Value} {lt : Value → Value → Bool}
    {P : Heap → Prop} {S : Value → Prop} {st pos : Nat} {t u : Tok}
    (hB : Bs w H) (hO : Ov H s.heap) (ha : H.get? a = none) (hl : Ls s.heap a vs) (hC : Cmp prog w P lt S) (hP : ∀ h h', P h → Kp a h h' → P h') (hPs : P s.heap)
    (hS : ∀ v ∈ vs, S v) (hpos : pos < vs.length) (hlen : vs.length < 1000) (hroom : A.depth < recursionLimit) (hu : A.units + 10 < cLine)
    (h : ∀ h' tk, Kp a s.heap h' → Ls h' a (sd (fun x y => lt y x) (vs.getD pos .none) st vs pos) → R (.ok (.ret .none)) { s with heap := h', toks := tk }) :
    codeAny (model prog w) A (.call (.ref 97) ⟨[.ref a, .int st t, .int pos u], []⟩) R s := by
  refine enter (binds := [("heap", .ref a), ("startpos", .int st t), ("pos", .int pos u)]) hB hO (by rfl) (by rfl) hroom (BindsTo.of_eq rfl) (locs rfl) (by decide) fun h₁ F O => ?_
  have X : Fx H s.heap a s.heap.objs.size h₁ _ vs := ⟨F, .of O, hl.at fun _ e => O.st a _ e, ha, Nat.ne_of_gt (hl.lt), Nat.le_refl _, hO.sz⟩
  have hnew : vs[pos]? = some (vs.getD pos .none) := by simp [hpos]
  generalize hnw : vs.getD pos .none = new at *
  have hSn : S new := by
    have : new ∈ vs := by rw [← hnw]; simp [hpos]
    exact hS _ this
  generalize htg : sd (fun x y => lt y x) new st vs pos = tg at *
  refine wpAny_execs_cons (wpAny_Assign_Name (Subscript_ (ld X.F rfl (ld X.F rfl (X.get (by lia) hnew ?_)))))
  refine X.st fun h₂ X2 => ?_
  refine wpAny_execs_cons (wpAny_While (codeAny_mono (codeAny_whileLoop (R := SdR H s a vs.length new tg)
    (SdI H s a vs.length new st t S (fun x y => lt y x) tg)
    ?turn pos ⟨_, _, vs, pos, u, _, rfl, X2, rfl, rfl, rfl, rfl, hpos, rfl, hS, htg, rfl⟩) ?fin))
  case fin =>
    rintro r s' ⟨rfl, h', tk, vs', p, tp, m, rfl, X3, m1, m2, m3, hp, hvl, ht⟩
    refine wpAny_execs_cons (wpAny_Assign_Subscript (ld X3.F m2 (ld X3.F m1 (ld X3.F m3 (X3.set (by lia) hp fun h4 X4 => ?_)))))
    refine wpAny_execs_nil ?_
    rw [ht] at X4
    exact h _ _ X4.k X4.l
  case turn =>
    rintro p s' ⟨h', tk, vs', _, tp, m, rfl, X3, m1, m2, m3, m4, hp, hvl, hS', ht, rfl⟩
    refine wpAny_isTrue_Compare1 (ld X3.F m4 (ld X3.F m3 (gt_int (wpAny_truthy_bool ?_))))
    by_cases hlt : (st : Int) < (p : Int)
    · have hlt' : st < p := by lia
      simp only [hlt, decide_true, if_true]
      refine wpAny_execs_cons (wpAny_Assign_Name (wpAny_BinOp (wpAny_BinOp (ld X3.F m4 (wpAny_Constant_int (sub_int (wpAny_Constant_int (rshift_int (by decide) ?_))))))))
      rw [shr1 (by lia : 0 < p)]
      refine X3.st fun h4 X4 => ?_
      have hpp : (p - 1) / 2 < vs'.length := by lia
      have hpar : vs'[(p - 1) / 2]? = some (vs'.getD ((p - 1) / 2) .none) := by simp [hpp]
      have hSp : S (vs'.getD ((p - 1) / 2) .none) := hS' _ (by simp [hpp])
      rw [sd] at ht
      rw [dif_pos hlt'] at ht
      generalize vs'.getD ((p - 1) / 2) .none = par at *
      refine wpAny_execs_cons (wpAny_Assign_Name (Subscript_ (ld X4.F (ups (by decide) m1) (ld X4.F rfl (X4.get (by lia) hpar ?_)))))
      refine X4.st fun h5 X5 => ?_
      refine wpAny_execs_cons (wpAny_If (wpAny_isTrue_Compare1 (ld X5.F upe (ld X5.F (ups (by decide) (ups (by decide) m2)) (hC _ _ _ _ _ _ (by simp only [Around.deeper]; lia) (hP _ _ hPs X5.k) hSp hSn (wpAny_truthy_bool ?_))))))
      cases hc : lt par new with
      | true =>
        rw [hc] at ht
        simp only [if_true] at ht ⊢
        refine wpAny_execs_cons (wpAny_Assign_Subscript (ld X5.F rfl (ld X5.F (ups (by decide) (ups (by decide) m1)) (ld X5.F (ups (by decide) (ups (by decide) m4)) (X5.set (by lia) hp fun h6 X6 => ?_)))))
        refine wpAny_execs_cons (wpAny_Assign_Name (ld X6.F (ups (by decide) rfl) (X6.st fun h7 X7 => ?_)))
        refine wpAny_execs_cons (SiftDown.continue_ ?_)
        refine ⟨(p - 1) / 2, by lia, h7, _, _, (p - 1) / 2, _, _, rfl, X7, ?_, ?_, ?_, rfl, ?_, ?_, ?_, ht, rfl⟩
        · exact ups (by decide) (ups (by decide) (ups (by decide) m1))
        · exact ups (by decide) (ups (by decide) (ups (by decide) m2))
        · exact ups (by decide) (ups (by decide) (ups (by decide) m3))
        · simpa using hpp
        · simpa using hvl
        · exact fun v hv => (List.mem_or_eq_of_mem_set hv).elim (hS' v) (fun e => e ▸ hSp)
      | false =>
        rw [hc] at ht
        simp only [Bool.false_eq_true, if_false] at ht ⊢
        refine wpAny_execs_nil (wpAny_execs_cons (SiftDown.break_ ?_))
        exact ⟨rfl, h5, _, vs', p, tp, _, rfl, X5, ups (by decide) (ups (by decide) m1), ups (by decide) (ups (by decide) m2), ups (by decide) (ups (by decide) m4), hp, hvl, ht⟩
    · have hlt' : ¬ st < p := by lia
      simp only [hlt, decide_false, Bool.false_eq_true, if_false]
      rw [sd, dif_neg hlt'] at ht
      exact wpAny_execs_nil ⟨rfl, h', tk, vs', p, tp, m, rfl, X3, m1, m2, m4, hp, hvl, ht⟩
end Mine
end

section
open PySem PySem.W PyProof.Rows PySem.Calls
set_option maxRecDepth 100000
set_option maxHeartbeats 1000000
namespace Mine
/-- the loop's state in _siftup, and its end -/
inductive SuI (H : Heap) (s : Shared) (a : Addr) (n : Nat) (new : Value) (pos : Nat) (S : Value → Prop) (lt : Value → Value → Bool) (tg : List Value × Nat) (k : Nat) (s' : Shared) : Prop where
  | mk (h' : Heap) (tk : Nat) (vs' : List Value) (p : Nat) (tp tq : Tok) (m : Str → Option Value) (e : s' = { s with heap := h', toks := tk }) (X : Fx H s.heap a s.heap.objs.size h' m vs')
      (m1 : m "heap" = some (.ref a)) (m2 : m "newitem" = some new) (m3 : m "startpos" = some (.int pos tq)) (m4 : m "pos" = some (.int (p : Nat) tp)) (m5 : ∃ tc, m "endpos" = some (.int (n : Nat) tc)) (m6 : ∃ tc, m "childpos" = some (.int (2 * p + 1 : Nat) tc))
      (hp : p < vs'.length) (hvl : vs'.length = n) (hS : ∀ v ∈ vs', S v) (ht : su lt vs' p = tg) (hk : k = n - p) : SuI H s a n new pos S lt tg k s'
inductive SuR (H : Heap) (s : Shared) (a : Addr) (n : Nat) (new : Value) (pos : Nat) (S : Value → Prop) (tg : List Value × Nat) (r : Result) (s' : Shared) : Prop where
  | mk (er : r = .ok .next) (h' : Heap) (tk : Nat) (vs' : List Value) (p : Nat) (tp tq : Tok) (m : Str → Option Value) (e : s' = { s with heap := h', toks := tk }) (X : Fx H s.heap a s.heap.objs.size h' m vs')
      (m1 : m "heap" = some (.ref a)) (m2 : m "newitem" = some new) (m3 : m "startpos" = some (.int pos tq)) (m4 : m "pos" = some (.int (p : Nat) tp)) (hp : p < vs'.length) (hvl : vs'.length = n) (hS : ∀ v ∈ vs', S v) (ht : (vs', p) = tg) : SuR H s a n new pos S tg r s'


theorem siftup_spec {prog : Program} {w : World} {A : Around} {s : Shared} {H : Heap} {R : Result → Shared → Prop} {a : Addr} {vs : List Value} {lt : Value → Value → Bool}
    {P : Heap → Prop} {S : Value → Prop} {pos : Nat} {u : Tok}
    (hB : Bs w H) (hO : Ov H s.heap) (ha : H.get? a = none) (hl : Ls s.heap a vs) (hC : Cmp prog w P lt S) (hP : ∀ h h', P h → Kp a h h' → P h') (hPs : P s.heap)
    (hS : ∀ v ∈ vs, S v) (hpos : pos < vs.length) (hlen : vs.length < 1000) (hroom : A.depth + 1 < recursionLimit) (hu : A.units + 20 < cLine)
    (h : ∀ h' tk, Kp a s.heap h' → Ls h' a (sup lt vs pos) → R (.ok (.ret .none)) { s with heap := h', toks := tk }) :
    codeAny (model prog w) A (.call (.ref 90) ⟨[.ref a, .int pos u], []⟩) R s := by
  refine enter (binds := [("heap", .ref a), ("pos", .int pos u)]) hB hO (by rfl) (by rfl) (by lia) (BindsTo.of_eq rfl) (locs rfl) (by decide) fun h₁ F O => ?_
  have X : Fx H s.heap a s.heap.objs.size h₁ _ vs := ⟨F, .of O, hl.at fun _ e => O.st a _ e, ha, Nat.ne_of_gt (hl.lt), Nat.le_refl _, hO.sz⟩
  have hnew : vs[pos]? = some (vs.getD pos .none) := by simp [hpos]
  have hul := su_len lt _ vs pos (Nat.le_refl _)
  unfold sup at h
  generalize hnw : vs.getD pos .none = new at *
  have hSn : S new := by
    have : new ∈ vs := by rw [← hnw]; simp [hpos]
    exact hS _ this
  generalize htg : su lt vs pos = tg at *
  refine wpAny_execs_cons (wpAny_Assign_Name (bcall hB X.F (spliced_more (ld X.F rfl (spliced_none (len_list X.l.il (by simp; lia) (X.st fun h2 X2 => ?_)))))))
  refine wpAny_execs_cons (wpAny_Assign_Name (ld X2.F rfl (X2.st fun h3 X3 => ?_)))
  refine wpAny_execs_cons (wpAny_Assign_Name (Subscript_ (ld X3.F rfl (ld X3.F rfl (X3.get (by lia) hnew (X3.st fun h4 X4 => ?_))))))
  refine wpAny_execs_cons (wpAny_Assign_Name (wpAny_BinOp (wpAny_BinOp (wpAny_Constant_int (ld X4.F rfl (mul_int (wpAny_Constant_int (add_int (X4.st fun h5 X5 => ?_))) (by mul_fits)))))))
  refine wpAny_execs_cons (wpAny_While (codeAny_mono (codeAny_whileLoop (R := SuR H s a vs.length new pos S tg)
    (SuI H s a vs.length new pos S lt tg)
    ?turn (vs.length - pos) ⟨_, _, vs, pos, u, _, _, rfl, X5, rfl, rfl, rfl, rfl, ⟨_, by simp [upd]; rfl⟩, ⟨_, rfl⟩, hpos, rfl, hS, htg, rfl⟩) ?fin))
  case fin =>
    rintro r s' ⟨rfl, h', tk, vs', p, tp, tq, m, rfl, X6, m1, m2, m3, m4, hp, hvl, hS', rfl⟩
    refine wpAny_execs_cons (wpAny_Assign_Subscript (ld X6.F m2 (ld X6.F m1 (ld X6.F m4 (X6.set (by lia) hp fun h7 X7 => ?_)))))
    refine wpAny_execs_cons (wpAny_Expr (fcall hB X7.F (by rfl) (by rfl) (spliced_more (ld X7.F m1 (spliced_more (ld X7.F m3 (spliced_more (ld X7.F m4 (spliced_none ⟨X7.ov, siftdown_spec hB X7.ov X7.ha X7.l hC hP (hP _ _ hPs X7.k) ?_ ?_ ?_ ?_ ?_ ?_⟩)))))))))
    · exact fun v hv => (List.mem_or_eq_of_mem_set hv).elim (hS' v) (fun e => e ▸ hSn)
    · simpa using hp
    · simp only [List.length_set]; lia
    · simp only [Around.deeper]; lia
    · simp only [Around.deeper]; lia
    · intro h8 tk8 k8 l8
      refine wpAny_execs_nil (h _ _ (X7.k.trans k8) ?_)
      have e : (vs'.set p new).getD p .none = new := by simp [hp]
      rw [e] at l8
      exact l8
  case turn =>
    rintro k s' ⟨h', tk, vs', p, tp, tq, m, rfl, X3, m1, m2, m3, m4, ⟨tc, m5⟩, ⟨td, m6⟩, hp, hvl, hS', ht, rfl⟩
    refine wpAny_isTrue_Compare1 (ld X3.F m6 (ld X3.F m5 (lt_int (wpAny_truthy_bool ?_))))
    by_cases hlt : ((2 * p + 1 : Nat) : Int) < ((vs.length : Nat) : Int)
    · have hlt' : 2 * p + 1 < vs'.length := by lia
      simp only [hlt, decide_true, if_true]
      have hch : vs'[2 * p + 1]? = some (vs'.getD (2 * p + 1) .none) := by simp [hlt']
      have hSc : S (vs'.getD (2 * p + 1) .none) := hS' _ (by simp [hlt'])
      rw [su, dif_pos hlt'] at ht
      refine wpAny_execs_cons (wpAny_Assign_Name (wpAny_BinOp (ld X3.F m6 (wpAny_Constant_int (add_int ?_)))))
      rw [show ((2 * p + 1 : Nat) : Int) + 1 = ((2 * p + 2 : Nat) : Int) by lia]
      refine X3.st fun h4 X4 => ?_
      refine wpAny_execs_cons (wpAny_If (isTrue_and (wpAny_isTrue_Compare1 (ld X4.F upe (ld X4.F (ups (by decide) m5) (lt_int (wpAny_truthy_bool ?_)))))))
      by_cases hr : ((2 * p + 2 : Nat) : Int) < ((vs.length : Nat) : Int)
      · have hr' : 2 * p + 2 < vs'.length := by lia
        have hrh : vs'[2 * p + 2]? = some (vs'.getD (2 * p + 2) .none) := by simp [hr']
        have hSr : S (vs'.getD (2 * p + 2) .none) := hS' _ (by simp [hr'])
        simp only [hr, decide_true, if_true]
        refine isTrue_and (isTrue_not (wpAny_isTrue_Compare1 (Subscript_ (ld X4.F (ups (by decide) m1) (ld X4.F (ups (by decide) m6) (X4.get (by lia) hch (Subscript_ (ld X4.F (ups (by decide) m1) (ld X4.F upe (X4.get (by lia) hrh (hC _ _ _ _ _ _ (by simp only [Around.deeper]; lia) (hP _ _ hPs X4.k) hSc hSr (wpAny_truthy_bool ?_))))))))))))
        cases hc : lt (vs'.getD (2 * p + 1) .none) (vs'.getD (2 * p + 2) .none) with
        | false =>
          rw [if_pos ⟨hr', hc⟩] at ht
          simp only [Bool.not_false, if_true]
          refine isTrue_and_nil ?_
          simp only [if_true]
          refine wpAny_execs_cons (wpAny_Assign_Name (ld X4.F upe (X4.st fun h5 X5 => ?_)))
          refine wpAny_execs_nil ?_
          refine wpAny_execs_cons (wpAny_Assign_Subscript (Subscript_ (ld X5.F (ups (by decide) (ups (by decide) (m1))) (ld X5.F (upe) (X5.get (by lia) hrh (ld X5.F (ups (by decide) (ups (by decide) (m1))) (ld X5.F (ups (by decide) (ups (by decide) (m4))) (X5.set (by lia) hp fun h6 X6 => ?_))))))))
          refine wpAny_execs_cons (wpAny_Assign_Name (ld X6.F (upe) (X6.st fun h7 X7 => ?_)))
          refine wpAny_execs_cons (wpAny_Assign_Name (wpAny_BinOp (wpAny_BinOp (wpAny_Constant_int (ld X7.F upe (mul_int (wpAny_Constant_int (add_int (X7.st fun h8 X8 => ?_))) (by mul_fits)))))))
          refine wpAny_execs_nil ⟨vs.length - (2 * p + 2), by lia, h8, _, _, (2 * p + 2), _, _, _, rfl, X8, ups (by decide) (ups (by decide) (ups (by decide) (ups (by decide) (m1)))), ups (by decide) (ups (by decide) (ups (by decide) (ups (by decide) (m2)))), ups (by decide) (ups (by decide) (ups (by decide) (ups (by decide) (m3)))), ups (by decide) upe, ⟨_, ups (by decide) (ups (by decide) (ups (by decide) (ups (by decide) (m5))))⟩, ⟨_, upe.trans (congrArg (fun i => some (Value.int i _)) (by lia : _ = ((2 * (2 * p + 2) + 1 : Nat) : Int)))⟩, ?_, ?_, ?_, ht, rfl⟩
          · simp only [List.length_set]; lia
          · simp only [List.length_set]; exact hvl
          · exact fun v hv => (List.mem_or_eq_of_mem_set hv).elim (hS' v) (fun e => e ▸ hSr)
          
        | true =>
          rw [if_neg (fun x => Bool.noConfusion (hc.symm.trans x.2))] at ht
          simp only [Bool.not_true, Bool.false_eq_true, if_false]
          refine wpAny_execs_nil ?_
          refine wpAny_execs_cons (wpAny_Assign_Subscript (Subscript_ (ld X4.F (ups (by decide) (m1)) (ld X4.F (ups (by decide) (m6)) (X4.get (by lia) hch (ld X4.F (ups (by decide) (m1)) (ld X4.F (ups (by decide) (m4)) (X4.set (by lia) hp fun h6 X6 => ?_))))))))
          refine wpAny_execs_cons (wpAny_Assign_Name (ld X6.F (ups (by decide) (m6)) (X6.st fun h7 X7 => ?_)))
          refine wpAny_execs_cons (wpAny_Assign_Name (wpAny_BinOp (wpAny_BinOp (wpAny_Constant_int (ld X7.F upe (mul_int (wpAny_Constant_int (add_int (X7.st fun h8 X8 => ?_))) (by mul_fits)))))))
          refine wpAny_execs_nil ⟨vs.length - (2 * p + 1), by lia, h8, _, _, (2 * p + 1), _, _, _, rfl, X8, ups (by decide) (ups (by decide) (ups (by decide) (m1))), ups (by decide) (ups (by decide) (ups (by decide) (m2))), ups (by decide) (ups (by decide) (ups (by decide) (m3))), ups (by decide) upe, ⟨_, ups (by decide) (ups (by decide) (ups (by decide) (m5)))⟩, ⟨_, upe.trans (congrArg (fun i => some (Value.int i _)) (by lia : _ = ((2 * (2 * p + 1) + 1 : Nat) : Int)))⟩, ?_, ?_, ?_, ht, rfl⟩
          · simp only [List.length_set]; lia
          · simp only [List.length_set]; exact hvl
          · exact fun v hv => (List.mem_or_eq_of_mem_set hv).elim (hS' v) (fun e => e ▸ hSc)
          
      · have hr' : ¬ 2 * p + 2 < vs'.length := by lia
        rw [if_neg (by simp only [hr', false_and, not_false_eq_true])] at ht
        simp only [hr, decide_false, Bool.false_eq_true, if_false]
        refine wpAny_execs_nil ?_
        refine wpAny_execs_cons (wpAny_Assign_Subscript (Subscript_ (ld X4.F (ups (by decide) (m1)) (ld X4.F (ups (by decide) (m6)) (X4.get (by lia) hch (ld X4.F (ups (by decide) (m1)) (ld X4.F (ups (by decide) (m4)) (X4.set (by lia) hp fun h6 X6 => ?_))))))))
        refine wpAny_execs_cons (wpAny_Assign_Name (ld X6.F (ups (by decide) (m6)) (X6.st fun h7 X7 => ?_)))
        refine wpAny_execs_cons (wpAny_Assign_Name (wpAny_BinOp (wpAny_BinOp (wpAny_Constant_int (ld X7.F upe (mul_int (wpAny_Constant_int (add_int (X7.st fun h8 X8 => ?_))) (by mul_fits)))))))
        refine wpAny_execs_nil ⟨vs.length - (2 * p + 1), by lia, h8, _, _, (2 * p + 1), _, _, _, rfl, X8, ups (by decide) (ups (by decide) (ups (by decide) (m1))), ups (by decide) (ups (by decide) (ups (by decide) (m2))), ups (by decide) (ups (by decide) (ups (by decide) (m3))), ups (by decide) upe, ⟨_, ups (by decide) (ups (by decide) (ups (by decide) (m5)))⟩, ⟨_, upe.trans (congrArg (fun i => some (Value.int i _)) (by lia : _ = ((2 * (2 * p + 1) + 1 : Nat) : Int)))⟩, ?_, ?_, ?_, ht, rfl⟩
        · simp only [List.length_set]; lia
        · simp only [List.length_set]; exact hvl
        · exact fun v hv => (List.mem_or_eq_of_mem_set hv).elim (hS' v) (fun e => e ▸ hSc)
        
    · have hlt' : ¬ 2 * p + 1 < vs'.length := by lia
      simp only [hlt, decide_false, Bool.false_eq_true, if_false]
      rw [su, dif_neg hlt'] at ht
      exact wpAny_execs_nil ⟨rfl, h', tk, vs', p, tp, tq, m, rfl, X3, m1, m2, m3, m4, hp, hvl, hS', ht⟩

theorem siftup_max_spec {prog : Program} {w : World} {A : Around} {s : Shared} {H : Heap} {R : Result → Shared → Prop} {a : Addr} {vs : List Value} {lt : Value → Value → Bool}
    {P : Heap → Prop} {S : Value → Prop} {pos : Nat} {u : Tok}
    (hB : Bs w H) (hO : Ov H s.heap) (ha : H.get? a = none) (hl : Ls s.heap a vs) (hC : Cmp prog w P lt S) (hP : ∀ h h', P h → Kp a h h' → P h') (hPs : P s.heap)
    (hS : ∀ v ∈ vs, S v) (hpos : pos < vs.length) (hlen : vs.length < 1000) (hroom : A.depth + 1 < recursionLimit) (hu : A.units + 20 < cLine)
    (h : ∀ h' tk, Kp a s.heap h' → Ls h' a (sup (fun x y => lt y x) vs pos) → R (.ok (.ret .none)) { s with heap := h', toks := tk }) :
    codeAny (model prog w) A (.call (.ref 104) ⟨[.ref a, .int pos u], []⟩) R s := by
  refine enter (binds := [("heap", .ref a), ("pos", .int pos u)]) hB hO (by rfl) (by rfl) (by lia) (BindsTo.of_eq rfl) (locs rfl) (by decide) fun h₁ F O => ?_
  have X : Fx H s.heap a s.heap.objs.size h₁ _ vs := ⟨F, .of O, hl.at fun _ e => O.st a _ e, ha, Nat.ne_of_gt (hl.lt), Nat.le_refl _, hO.sz⟩
  have hnew : vs[pos]? = some (vs.getD pos .none) := by simp [hpos]
  have hul := su_len (fun x y => lt y x) _ vs pos (Nat.le_refl _)
  unfold sup at h
  generalize hnw : vs.getD pos .none = new at *
  have hSn : S new := by
    have : new ∈ vs := by rw [← hnw]; simp [hpos]
    exact hS _ this
  generalize htg : su (fun x y => lt y x) vs pos = tg at *
  refine wpAny_execs_cons (wpAny_Assign_Name (bcall hB X.F (spliced_more (ld X.F rfl (spliced_none (len_list X.l.il (by simp; lia) (X.st fun h2 X2 => ?_)))))))
  refine wpAny_execs_cons (wpAny_Assign_Name (ld X2.F rfl (X2.st fun h3 X3 => ?_)))
  refine wpAny_execs_cons (wpAny_Assign_Name (Subscript_ (ld X3.F rfl (ld X3.F rfl (X3.get (by lia) hnew (X3.st fun h4 X4 => ?_))))))
  refine wpAny_execs_cons (wpAny_Assign_Name (wpAny_BinOp (wpAny_BinOp (wpAny_Constant_int (ld X4.F rfl (mul_int (wpAny_Constant_int (add_int (X4.st fun h5 X5 => ?_))) (by mul_fits)))))))
  refine wpAny_execs_cons (wpAny_While (codeAny_mono (codeAny_whileLoop (R := SuR H s a vs.length new pos S tg)
    (SuI H s a vs.length new pos S (fun x y => lt y x) tg)
    ?turn (vs.length - pos) ⟨_, _, vs, pos, u, _, _, rfl, X5, rfl, rfl, rfl, rfl, ⟨_, by simp [upd]; rfl⟩, ⟨_, rfl⟩, hpos, rfl, hS, htg, rfl⟩) ?fin))
  case fin =>
    rintro r s' ⟨rfl, h', tk, vs', p, tp, tq, m, rfl, X6, m1, m2, m3, m4, hp, hvl, hS', rfl⟩
    refine wpAny_execs_cons (wpAny_Assign_Subscript (ld X6.F m2 (ld X6.F m1 (ld X6.F m4 (X6.set (by lia) hp fun h7 X7 => ?_)))))
    refine wpAny_execs_cons (wpAny_Expr (fcall hB X7.F (by rfl) (by rfl) (spliced_more (ld X7.F m1 (spliced_more (ld X7.F m3 (spliced_more (ld X7.F m4 (spliced_none ⟨X7.ov, siftdown_max_spec hB X7.ov X7.ha X7.l hC hP (hP _ _ hPs X7.k) ?_ ?_ ?_ ?_ ?_ ?_⟩)))))))))
    · exact fun v hv => (List.mem_or_eq_of_mem_set hv).elim (hS' v) (fun e => e ▸ hSn)
    · simpa using hp
    · simp only [List.length_set]; lia
    · simp only [Around.deeper]; lia
    · simp only [Around.deeper]; lia
    · intro h8 tk8 k8 l8
      refine wpAny_execs_nil (h _ _ (X7.k.trans k8) ?_)
      have e : (vs'.set p new).getD p .none = new := by simp [hp]
      rw [e] at l8
      exact l8
  case turn =>
    rintro k s' ⟨h', tk, vs', p, tp, tq, m, rfl, X3, m1, m2, m3, m4, ⟨tc, m5⟩, ⟨td, m6⟩, hp, hvl, hS', ht, rfl⟩
    refine wpAny_isTrue_Compare1 (ld X3.F m6 (ld X3.F m5 (lt_int (wpAny_truthy_bool ?_))))
    by_cases hlt : ((2 * p + 1 : Nat) : Int) < ((vs.length : Nat) : Int)
    · have hlt' : 2 * p + 1 < vs'.length := by lia
      simp only [hlt, decide_true, if_true]
      have hch : vs'[2 * p + 1]? = some (vs'.getD (2 * p + 1) .none) := by simp [hlt']
      have hSc : S (vs'.getD (2 * p + 1) .none) := hS' _ (by simp [hlt'])
      rw [su, dif_pos hlt'] at ht
      refine wpAny_execs_cons (wpAny_Assign_Name (wpAny_BinOp (ld X3.F m6 (wpAny_Constant_int (add_int ?_)))))
      rw [show ((2 * p + 1 : Nat) : Int) + 1 = ((2 * p + 2 : Nat) : Int) by lia]
      refine X3.st fun h4 X4 => ?_
      refine wpAny_execs_cons (wpAny_If (isTrue_and (wpAny_isTrue_Compare1 (ld X4.F upe (ld X4.F (ups (by decide) m5) (lt_int (wpAny_truthy_bool ?_)))))))
      by_cases hr : ((2 * p + 2 : Nat) : Int) < ((vs.length : Nat) : Int)
      · have hr' : 2 * p + 2 < vs'.length := by lia
        have hrh : vs'[2 * p + 2]? = some (vs'.getD (2 * p + 2) .none) := by simp [hr']
        have hSr : S (vs'.getD (2 * p + 2) .none) := hS' _ (by simp [hr'])
        simp only [hr, decide_true, if_true]
        refine isTrue_and (isTrue_not (wpAny_isTrue_Compare1 (Subscript_ (ld X4.F (ups (by decide) m1) (ld X4.F upe (X4.get (by lia) hrh (Subscript_ (ld X4.F (ups (by decide) m1) (ld X4.F (ups (by decide) m6) (X4.get (by lia) hch (hC _ _ _ _ _ _ (by simp only [Around.deeper]; lia) (hP _ _ hPs X4.k) hSr hSc (wpAny_truthy_bool ?_))))))))))))
        cases hc : lt (vs'.getD (2 * p + 2) .none) (vs'.getD (2 * p + 1) .none) with
        | false =>
          rw [if_pos ⟨hr', hc⟩] at ht
          simp only [Bool.not_false, if_true]
          refine isTrue_and_nil ?_
          simp only [if_true]
          refine wpAny_execs_cons (wpAny_Assign_Name (ld X4.F upe (X4.st fun h5 X5 => ?_)))
          refine wpAny_execs_nil ?_
          refine wpAny_execs_cons (wpAny_Assign_Subscript (Subscript_ (ld X5.F (ups (by decide) (ups (by decide) (m1))) (ld X5.F (upe) (X5.get (by lia) hrh (ld X5.F (ups (by decide) (ups (by decide) (m1))) (ld X5.F (ups (by decide) (ups (by decide) (m4))) (X5.set (by lia) hp fun h6 X6 => ?_))))))))
          refine wpAny_execs_cons (wpAny_Assign_Name (ld X6.F (upe) (X6.st fun h7 X7 => ?_)))
          refine wpAny_execs_cons (wpAny_Assign_Name (wpAny_BinOp (wpAny_BinOp (wpAny_Constant_int (ld X7.F upe (mul_int (wpAny_Constant_int (add_int (X7.st fun h8 X8 => ?_))) (by mul_fits)))))))
          refine wpAny_execs_nil ⟨vs.length - (2 * p + 2), by lia, h8, _, _, (2 * p + 2), _, _, _, rfl, X8, ups (by decide) (ups (by decide) (ups (by decide) (ups (by decide) (m1)))), ups (by decide) (ups (by decide) (ups (by decide) (ups (by decide) (m2)))), ups (by decide) (ups (by decide) (ups (by decide) (ups (by decide) (m3)))), ups (by decide) upe, ⟨_, ups (by decide) (ups (by decide) (ups (by decide) (ups (by decide) (m5))))⟩, ⟨_, upe.trans (congrArg (fun i => some (Value.int i _)) (by lia : _ = ((2 * (2 * p + 2) + 1 : Nat) : Int)))⟩, ?_, ?_, ?_, ht, rfl⟩
          · simp only [List.length_set]; lia
          · simp only [List.length_set]; exact hvl
          · exact fun v hv => (List.mem_or_eq_of_mem_set hv).elim (hS' v) (fun e => e ▸ hSr)
          
        | true =>
          rw [if_neg (fun x => Bool.noConfusion (hc.symm.trans x.2))] at ht
          simp only [Bool.not_true, Bool.false_eq_true, if_false]
          refine wpAny_execs_nil ?_
          refine wpAny_execs_cons (wpAny_Assign_Subscript (Subscript_ (ld X4.F (ups (by decide) (m1)) (ld X4.F (ups (by decide) (m6)) (X4.get (by lia) hch (ld X4.F (ups (by decide) (m1)) (ld X4.F (ups (by decide) (m4)) (X4.set (by lia) hp fun h6 X6 => ?_))))))))
          refine wpAny_execs_cons (wpAny_Assign_Name (ld X6.F (ups (by decide) (m6)) (X6.st fun h7 X7 => ?_)))
          refine wpAny_execs_cons (wpAny_Assign_Name (wpAny_BinOp (wpAny_BinOp (wpAny_Constant_int (ld X7.F upe (mul_int (wpAny_Constant_int (add_int (X7.st fun h8 X8 => ?_))) (by mul_fits)))))))
          refine wpAny_execs_nil ⟨vs.length - (2 * p + 1), by lia, h8, _, _, (2 * p + 1), _, _, _, rfl, X8, ups (by decide) (ups (by decide) (ups (by decide) (m1))), ups (by decide) (ups (by decide) (ups (by decide) (m2))), ups (by decide) (ups (by decide) (ups (by decide) (m3))), ups (by decide) upe, ⟨_, ups (by decide) (ups (by decide) (ups (by decide) (m5)))⟩, ⟨_, upe.trans (congrArg (fun i => some (Value.int i _)) (by lia : _ = ((2 * (2 * p + 1) + 1 : Nat) : Int)))⟩, ?_, ?_, ?_, ht, rfl⟩
          · simp only [List.length_set]; lia
          · simp only [List.length_set]; exact hvl
          · exact fun v hv => (List.mem_or_eq_of_mem_set hv).elim (hS' v) (fun e => e ▸ hSc)
          
      · have hr' : ¬ 2 * p + 2 < vs'.length := by lia
        rw [if_neg (by simp only [hr', false_and, not_false_eq_true])] at ht
        simp only [hr, decide_false, Bool.false_eq_true, if_false]
        refine wpAny_execs_nil ?_
        refine wpAny_execs_cons (wpAny_Assign_Subscript (Subscript_ (ld X4.F (ups (by decide) (m1)) (ld X4.F (ups (by decide) (m6)) (X4.get (by lia) hch (ld X4.F (ups (by decide) (m1)) (ld X4.F (ups (by decide) (m4)) (X4.set (by lia) hp fun h6 X6 => ?_))))))))
        refine wpAny_execs_cons (wpAny_Assign_Name (ld X6.F (ups (by decide) (m6)) (X6.st fun h7 X7 => ?_)))
        refine wpAny_execs_cons (wpAny_Assign_Name (wpAny_BinOp (wpAny_BinOp (wpAny_Constant_int (ld X7.F upe (mul_int (wpAny_Constant_int (add_int (X7.st fun h8 X8 => ?_))) (by mul_fits)))))))
        refine wpAny_execs_nil ⟨vs.length - (2 * p + 1), by lia, h8, _, _, (2 * p + 1), _, _, _, rfl, X8, ups (by decide) (ups (by decide) (ups (by decide) (m1))), ups (by decide) (ups (by decide) (ups (by decide) (m2))), ups (by decide) (ups (by decide) (ups (by decide) (m3))), ups (by decide) upe, ⟨_, ups (by decide) (ups (by decide) (ups (by decide) (m5)))⟩, ⟨_, upe.trans (congrArg (fun i => some (Value.int i _)) (by lia : _ = ((2 * (2 * p + 1) + 1 : Nat) : Int)))⟩, ?_, ?_, ?_, ht, rfl⟩
        · simp only [List.length_set]; lia
        · simp only [List.length_set]; exact hvl
        · exact fun v hv => (List.mem_or_eq_of_mem_set hv).elim (hS' v) (fun e => e ▸ hSc)
        
    · have hlt' : ¬ 2 * p + 1 < vs'.length := by lia
      simp only [hlt, decide_false, Bool.false_eq_true, if_false]
      rw [su, dif_neg hlt'] at ht
      exact wpAny_execs_nil ⟨rfl, h', tk, vs', p, tp, tq, m, rfl, X3, m1, m2, m3, m4, hp, hvl, hS', ht⟩
end Mine
end

section
open PySem PySem.W PyProof.Rows PySem.Calls
namespace Mine

theorem hole {l : List Value} {i j : Nat} {x d : Value} (hi : i < l.length) (hj : j < l.length) (hne : i ≠ j) : ((l.set i (l.getD j d)).set j x).Perm (l.set i x) := by
  have h := List.set_set_perm (as := l.set i x) (i := i) (j := j) (by simpa using hi) (by simpa using hj)
  have e1 : (l.set i x)[j]'(by simpa using hj) = l.getD j d := by
    rw [List.getElem_set_ne hne]; simp [hj]
  have e2 : (l.set i x)[i]'(by simpa using hi) = x := by simp
  rw [e1, e2, List.set_set] at h
  exact h

theorem sd_perm (lt : Value → Value → Bool) (new : Value) (st : Nat) : ∀ (n : Nat) (vs : List Value) (pos : Nat), pos ≤ n → pos < vs.length → (sd lt new st vs pos).Perm (vs.set pos new)
  | n, vs, pos, hn, hp => by
    rw [sd]
    split
    · rename_i h
      split
      · obtain ⟨k, rfl⟩ : ∃ k, n = k + 1 := ⟨n - 1, by lia⟩
        have hlt : (pos - 1) / 2 < (vs.set pos (vs.getD ((pos - 1) / 2) .none)).length := by simp only [List.length_set]; lia
        have ih := sd_perm lt new st k (vs.set pos (vs.getD ((pos - 1) / 2) .none)) ((pos - 1) / 2) (by lia) hlt
        exact ih.trans (hole hp (by lia) (by lia))
      · exact .refl _
    · exact .refl _

theorem su_perm (lt : Value → Value → Bool) (x : Value) : ∀ (n : Nat) (vs : List Value) (pos : Nat), vs.length - pos ≤ n → pos < vs.length → ((su lt vs pos).1.set (su lt vs pos).2 x).Perm (vs.set pos x)
  | n, vs, pos, hn, hp => by
    rw [su]
    split
    · rename_i h
      obtain ⟨k, rfl⟩ : ∃ k, n = k + 1 := ⟨n - 1, by lia⟩
      split
      · rename_i h2
        have ih := su_perm lt x k (vs.set pos (vs.getD (2 * pos + 2) .none)) (2 * pos + 2) (by simp only [List.length_set]; lia) (by simp only [List.length_set]; lia)
        exact ih.trans (hole hp h2.1 (by lia))
      · have ih := su_perm lt x k (vs.set pos (vs.getD (2 * pos + 1) .none)) (2 * pos + 1) (by simp only [List.length_set]; lia) (by simp only [List.length_set]; lia)
        exact ih.trans (hole hp h (by lia))
    · exact .refl _

theorem set_getD (vs : List Value) (pos : Nat) (d : Value) (h : pos < vs.length) : vs.set pos (vs.getD pos d) = vs := by
  simp [h]

theorem sup_perm (lt : Value → Value → Bool) (vs : List Value) (pos : Nat) (hp : pos < vs.length) : (sup lt vs pos).Perm vs := by
  unfold sup
  have hl := su_len lt _ vs pos (Nat.le_refl _)
  refine (sd_perm lt _ _ _ _ _ (Nat.le_refl _) (by simp only [List.length_set]; rw [hl.1]; exact hl.2 hp)).trans ?_
  rw [List.set_set]
  refine (su_perm lt _ _ vs pos (Nat.le_refl _) hp).trans ?_
  rw [set_getD _ _ _ hp]

/-- i = k - 1, .., 0 -/
def hfy (lt : Value → Value → Bool) (vs : List Value) : Nat → List Value
  | 0 => vs
  | k + 1 => hfy lt (sup lt vs k) k
theorem hfy_perm (lt : Value → Value → Bool) : ∀ (k : Nat) (vs : List Value), k ≤ vs.length → (hfy lt vs k).Perm vs
  | 0, _, _ => .refl _
  | k + 1, vs, h => by
    have p := sup_perm lt vs k (by lia)
    exact (hfy_perm lt k (sup lt vs k) (by rw [p.length_eq]; lia)).trans p
end Mine
end

section
open PySem PySem.W PyProof.Rows PySem.Calls
set_option maxRecDepth 100000
set_option maxHeartbeats 1000000
namespace Mine

section
variable {prog : Program} {w : World} {A : Around} {E : Value → Shared → Prop} {s : Shared}

theorem sub_ri_reversed : isSubtype (.type "range_iterator") (.type "reversed") = pure false := by rw [isSubtype_type]; kernel_rfl

theorem asInt_int (i : Int) (t : Tok) : asInt? (.int i t) = pure (some i) := rfl
abbrev riObj (x left step : Int) : Obj := { cls := .type "range_iterator", data := .fields #[rawInt x, rawInt left, rawInt step] }

theorem rangeFields_at {M : Model} {r : Addr} {a b c : Int} {t u v : Tok} {Q : Int × Int × Int → Shared → Prop} (hr : IsRange s.heap r a b c t u v) (h : Q (a, b, c) s) :
    wpAny M A (Builtin.Range.rangeFields (.ref r)) Q E s := by
  unfold Builtin.Range.rangeFields
  refine wpAny_bind (wpAny_field hr rfl (x := .int a t) rfl ?_)
  refine wpAny_bind (wpAny_of_eq (asInt_int _ _) ?_)
  refine wpAny_bind (wpAny_field hr rfl (x := .int b u) rfl ?_)
  refine wpAny_bind (wpAny_of_eq (asInt_int _ _) ?_)
  refine wpAny_bind (wpAny_field hr rfl (x := .int c v) rfl ?_)
  refine wpAny_bind (wpAny_of_eq (asInt_int _ _) ?_)
  exact wpAny_pure h

theorem call_range_rev {r : Addr} {n : Nat} {t u v : Tok} {Q : Value → Shared → Prop} (hr : IsRange s.heap r 0 n 1 t u v) (hn : n < 1000)
    (h : Q (.ref s.heap.objs.size) { s with heap := s.heap.push (riObj ((n : Int) - 1) n (-1)) }) : wpAny (model prog w) A (call (.builtin "range.__reversed__") [.ref r]) Q E s := by
  have hT : s.TypeIs (.ref r) "range" := ⟨_, hr, rfl⟩
  refine wpAny_call_entry F.slot_range_reversed hT F.entry_range_reversed ?_ (F.args_range_reversed_1 _)
  unfold Builtin.«range.__reversed__»
  refine wpAny_bind (wpAny_of_eq (a := Value.ref r) rfl ?_)
  refine wpAny_bind (rangeFields_at hr ?_)
  have e : Builtin.Range.rangeSize 0 n 1 = n := by rw [rangeSize_one]; split <;> lia
  have e2 : (Builtin.Range.rangeFitsLong 0 && Builtin.Range.rangeFitsLong (n : Int) && Builtin.Range.rangeFitsLong 1 && Builtin.Range.rangeFitsLong (-1) && Builtin.Range.rangeFitsLong (0 - 1) && Builtin.Range.rangeFitsLong (n : Int)) = true := by
    simp only [Builtin.Range.rangeFitsLong, Bool.and_eq_true, decide_eq_true_eq]; lia
  dsimp only
  rw [e, e2]
  simp only [Bool.not_true, Bool.false_eq_true, if_false, if_true]
  refine wpAny_bind (wpAny_newObj_type (wpAny_pure ⟨_, rfl, ?_⟩))
  have e3 : (0 : Int) + ((n : Int) - 1) * 1 = (n : Int) - 1 := by lia
  rw [e3]
  exact h

theorem call_reversed_range {r : Addr} {n : Nat} {t u v : Tok} {Q : Value → Shared → Prop} (hr : IsRange s.heap r 0 n 1 t u v) (hn : n < 1000)
    (h' : ∀ h' it, Ov s.heap h' → IsRangeIter h' it ((n : Int) - 1) n (-1) → s.heap.objs.size ≤ it → Q (.ref it) { s with heap := h' }) : wpAny (model prog w) A (call (.type "reversed") [.ref r]) Q E s := by
  have h := h' _ _ (Ov.push (riObj ((n : Int) - 1) n (-1))) (Heap.get?_push_size _ rfl) (Nat.le_refl _)
  have hT : s.TypeIs (.ref r) "range" := ⟨_, hr, rfl⟩
  refine callType_other (U := "range_iterator") (Q₁ := fun obj s₁ => obj = .ref s.heap.objs.size ∧ s₁ = { s with heap := s.heap.push (riObj ((n : Int) - 1) n (-1)) }) (by decide +kernel) F.create_reversed ⟨_, _, F.mro_reversed⟩ F.made_reversed sub_ri_reversed (F.typeCall_reversed_1 _) ?_ ?_
  · refine codeAny_of_tree ?_
    show wpAny _ _ (do checkBuiltinCall "reversed.__new__" ⟨[.type "reversed", .ref r], []⟩; again (.builtin "reversed.__new__" ⟨[.type "reversed", .ref r], []⟩)) _ _ s
    refine wpAny_bind (wpAny_of_eq (F.newCall_reversed_1 _) (wpAny_pure ⟨plainId_quiet F.plain_reversed_new _, codeAny_builtin F.entry_reversed_new ?_⟩))
    unfold Builtin.«reversed.__new__»
    refine wpAny_bind (wpAny_of_eq (newClass_reversed _) ?_)
    dsimp only
    refine wpAny_bind (wpAny_of_eq (a := ()) rfl ?_)
    refine wpAny_bind (wpAny_of_eq (a := ()) rfl ?_)
    refine wpAny_bind (wpAny_specialOf hT F.slot_range_reversed.lookup ?_)
    refine wpAny_bind (wpAny_of_eq (F.slot_range_reversed.bind _) ?_)
    rw [if_neg (show ¬ ((Value.builtin "range.__reversed__" == Value.none) = true) from Bool.false_ne_true)]
    refine wpAny_bind (wpAny_rule ?_)
    refine wpAny_bind (m := runValue (.call (.builtin "range.__reversed__") ⟨[.ref r], []⟩)) (show wpAny _ _ (call (.builtin "range.__reversed__") [.ref r]) _ _ _ from call_range_rev hr hn ?_)
    exact wpAny_pure ⟨rfl, rfl⟩
  · rintro obj s₁ ⟨rfl, rfl⟩
    exact ⟨⟨_, Heap.get?_push_size _ rfl, rfl⟩, h⟩
end

theorem heapify_spec {prog : Program} {w : World} {A : Around} {s : Shared} {H : Heap} {R : Result → Shared → Prop} {a : Addr} {vs : List Value} {lt : Value → Value → Bool}
    {P : Heap → Prop} {S : Value → Prop}
    (hB : Bs w H) (hO : Ov H s.heap) (ha : H.get? a = none) (hl : Ls s.heap a vs) (hC : Cmp prog w P lt S) (hP : ∀ h h', P h → Kp a h h' → P h') (hPs : P s.heap)
    (hS : ∀ v ∈ vs, S v) (hlen : vs.length < 1000) (hh : A.handled = none) (hroom : A.depth + 2 < recursionLimit) (hu : A.units + 30 < cLine)
    (h : ∀ h' tk, Kp a s.heap h' → Ls h' a (hfy lt vs (vs.length / 2)) → R (.ok (.ret .none)) { s with heap := h', toks := tk }) :
    codeAny (model prog w) A (.call (.ref 62) ⟨[.ref a], []⟩) R s := by
  refine enter (binds := [("x", .ref a)]) hB hO (by rfl) (by rfl) (by lia) (BindsTo.of_eq rfl) (locs rfl) (by decide) fun h₁ F O => ?_
  have X : Fx H s.heap a s.heap.objs.size h₁ _ vs := ⟨F, .of O, hl.at fun _ e => O.st a _ e, ha, Nat.ne_of_gt (hl.lt), Nat.le_refl _, hO.sz⟩
  refine wpAny_execs_cons (wpAny_Assign_Name (bcall hB X.F (spliced_more (ld X.F rfl (spliced_none (len_list X.l.il (by simp; lia) (X.st fun h2 X2 => ?_)))))))
  refine wpAny_execs_cons (wpAny_For ?_)
  refine Call_ (bnm hB X2.F (by rfl) (by boot_by_name) (by decide) (callWith_type1 (spliced_more ?_)))
  refine Call_ (bnm hB X2.F (by rfl) (by boot_by_name) (by decide) (callWith_type1 (spliced_more ?_)))
  refine wpAny_BinOp (ld X2.F rfl (wpAny_Constant_int (floordiv_int (by decide) ?_)))
  have e2 : Int.fdiv ((vs.toArray.size : Nat) : Int) 2 = ((vs.length / 2 : Nat) : Int) := by
    rw [Int.fdiv_eq_ediv_of_nonneg _ (by decide), List.size_toArray]; lia
  rw [e2]
  refine spliced_none (range1 fun h3 tk3 r t3 u3 v3 o3 hr3 _ => ?_)
  refine spliced_none (call_reversed_range hr3 (by lia) fun h4 it o4 hit4 hi4 => ?_)
  refine wpAny_pyIter_rangeiter hit4 ?_
  have X4 := (X2.grow o3).grow o4
  have hit0 : s.heap.objs.size < it := Nat.lt_of_lt_of_le (X2.grow o3).F.ns.lt hi4
  have hita : it ≠ a := Nat.ne_of_gt (Nat.lt_trans (hl.lt) hit0)
  generalize htg : hfy lt vs (vs.length / 2) = tg at h
  refine codeAny_mono (codeAny_forLoop (R := fun r s' => r = .ok .next ∧ ∃ h' tk, s' = { s with heap := h', toks := tk } ∧ Kp a s.heap h' ∧ Ls h' a tg)
    (fun k s' => ∃ h' tk vs' i m, s' = { s with heap := h', toks := tk } ∧ Fx H s.heap a s.heap.objs.size h' m vs' ∧
      m "x" = some (.ref a) ∧ IsRangeIter h' it ((i : Nat) - 1 : Int) i (-1) ∧ vs'.Perm vs ∧ i ≤ vs.length / 2 ∧ hfy lt vs' i = tg ∧ k = i)
    ?turn (vs.length / 2) ⟨h4, _, vs, vs.length / 2, _, rfl, X4, rfl, hit4, .refl _, Nat.le_refl _, htg, rfl⟩) ?fin
  case fin =>
    rintro r s' ⟨rfl, h', tk, rfl, k, l⟩
    exact wpAny_execs_nil (h _ _ k l)
  case turn =>
    rintro i s' ⟨h', tk, vs', _, m, rfl, X5, m1, hit5, hp5, hi5, ht, rfl⟩
    cases i with
    | zero =>
      refine wpAny_pyNext_range_end hh hit5 (by lia) fun h6 e6 => ?_
      have X6 := X5.keep e6 (Nat.le_of_lt hit0) (Nat.ne_of_gt hit0) hita
      exact wpAny_execs_nil ⟨rfl, _, _, rfl, X6.k, (show hfy lt vs' 0 = tg from ht) ▸ X6.l⟩
    | succ i =>
      refine wpAny_pyNext_range_item hit5 (by lia) fun h6 hit6 sb6 => ?_
      have X6 := X5.keep (extBut_of_same sb6) (Nat.le_of_lt hit0) (Nat.ne_of_gt hit0) hita
      refine wpAny_assign_Name ?_
      rw [show (((i + 1 : Nat) : Int) - 1) = (i : Int) by lia]
      refine X6.stS fun h7 X7 sb7 => ?_
      have hit7 : IsRangeIter h7 it ((i : Nat) - 1 : Int) i (-1) := by
        have e := (sb7.2 it (Nat.ne_of_gt hit0)).trans hit6
        have q1 : (((i + 1 : Nat) : Int) - 1 + -1) = (i : Int) - 1 := by lia
        have q2 : (((i + 1 : Nat) : Int) - 1) = (i : Int) := by lia
        rw [q1, q2] at e
        exact e
      have hl5 : vs'.length = vs.length := hp5.length_eq
      refine wpAny_execs_cons (wpAny_Expr (fcall hB X7.F (by rfl) (by rfl) (spliced_more (ld X7.F (ups (by decide) m1) (spliced_more (ld X7.F upe (spliced_none ⟨X7.ov, siftup_spec hB X7.ov X7.ha X7.l hC hP (hP _ _ hPs X7.k) ?_ ?_ ?_ ?_ ?_ ?_⟩)))))))
      · exact fun v hv => hS v (hp5.mem_iff.mp hv)
      · lia
      · lia
      · simp only [Around.deeper]; lia
      · simp only [Around.deeper]; lia
      · intro h8 tk8 k8 l8
        refine wpAny_execs_nil ⟨i, by lia, h8, tk8, sup lt vs' i, i, _, rfl, X7.kp k8 l8, ups (by decide) m1, k8.st it _ hita hit7, (sup_perm lt vs' i (by lia)).trans hp5, by lia, ht, rfl⟩

theorem heapify_max_spec {prog : Program} {w : World} {A : Around} {s : Shared} {H : Heap} {R : Result → Shared → Prop} {a : Addr} {vs : List Value} {lt : Value → Value → Bool}
    {P : Heap → Prop} {S : Value → Prop}
    (hB : Bs w H) (hO : Ov H s.heap) (ha : H.get? a = none) (hl : Ls s.heap a vs) (hC : Cmp prog w P lt S) (hP : ∀ h h', P h → Kp a h h' → P h') (hPs : P s.heap)
    (hS : ∀ v ∈ vs, S v) (hlen : vs.length < 1000) (hh : A.handled = none) (hroom : A.depth + 2 < recursionLimit) (hu : A.units + 30 < cLine)
    (h : ∀ h' tk, Kp a s.heap h' → Ls h' a (hfy (fun x y => lt y x) vs (vs.length / 2)) → R (.ok (.ret .none)) { s with heap := h', toks := tk }) :
    codeAny (model prog w) A (.call (.ref 76) ⟨[.ref a], []⟩) R s := by
  refine enter (binds := [("x", .ref a)]) hB hO (by rfl) (by rfl) (by lia) (BindsTo.of_eq rfl) (locs rfl) (by decide) fun h₁ F O => ?_
  have X : Fx H s.heap a s.heap.objs.size h₁ _ vs := ⟨F, .of O, hl.at fun _ e => O.st a _ e, ha, Nat.ne_of_gt (hl.lt), Nat.le_refl _, hO.sz⟩
  refine wpAny_execs_cons (wpAny_Assign_Name (bcall hB X.F (spliced_more (ld X.F rfl (spliced_none (len_list X.l.il (by simp; lia) (X.st fun h2 X2 => ?_)))))))
  refine wpAny_execs_cons (wpAny_For ?_)
  refine Call_ (bnm hB X2.F (by rfl) (by boot_by_name) (by decide) (callWith_type1 (spliced_more ?_)))
  refine Call_ (bnm hB X2.F (by rfl) (by boot_by_name) (by decide) (callWith_type1 (spliced_more ?_)))
  refine wpAny_BinOp (ld X2.F rfl (wpAny_Constant_int (floordiv_int (by decide) ?_)))
  have e2 : Int.fdiv ((vs.toArray.size : Nat) : Int) 2 = ((vs.length / 2 : Nat) : Int) := by
    rw [Int.fdiv_eq_ediv_of_nonneg _ (by decide), List.size_toArray]; lia
  rw [e2]
  refine spliced_none (range1 fun h3 tk3 r t3 u3 v3 o3 hr3 _ => ?_)
  refine spliced_none (call_reversed_range hr3 (by lia) fun h4 it o4 hit4 hi4 => ?_)
  refine wpAny_pyIter_rangeiter hit4 ?_
  have X4 := (X2.grow o3).grow o4
  have hit0 : s.heap.objs.size < it := Nat.lt_of_lt_of_le (X2.grow o3).F.ns.lt hi4
  have hita : it ≠ a := Nat.ne_of_gt (Nat.lt_trans (hl.lt) hit0)
  generalize htg : hfy (fun x y => lt y x) vs (vs.length / 2) = tg at h
  refine codeAny_mono (codeAny_forLoop (R := fun r s' => r = .ok .next ∧ ∃ h' tk, s' = { s with heap := h', toks := tk } ∧ Kp a s.heap h' ∧ Ls h' a tg)
    (fun k s' => ∃ h' tk vs' i m, s' = { s with heap := h', toks := tk } ∧ Fx H s.heap a s.heap.objs.size h' m vs' ∧
      m "x" = some (.ref a) ∧ IsRangeIter h' it ((i : Nat) - 1 : Int) i (-1) ∧ vs'.Perm vs ∧ i ≤ vs.length / 2 ∧ hfy (fun x y => lt y x) vs' i = tg ∧ k = i)
    ?turn (vs.length / 2) ⟨h4, _, vs, vs.length / 2, _, rfl, X4, rfl, hit4, .refl _, Nat.le_refl _, htg, rfl⟩) ?fin
  case fin =>
    rintro r s' ⟨rfl, h', tk, rfl, k, l⟩
    exact wpAny_execs_nil (h _ _ k l)
  case turn =>
    rintro i s' ⟨h', tk, vs', _, m, rfl, X5, m1, hit5, hp5, hi5, ht, rfl⟩
    cases i with
    | zero =>
      refine wpAny_pyNext_range_end hh hit5 (by lia) fun h6 e6 => ?_
      have X6 := X5.keep e6 (Nat.le_of_lt hit0) (Nat.ne_of_gt hit0) hita
      exact wpAny_execs_nil ⟨rfl, _, _, rfl, X6.k, (show hfy (fun x y => lt y x) vs' 0 = tg from ht) ▸ X6.l⟩
    | succ i =>
      refine wpAny_pyNext_range_item hit5 (by lia) fun h6 hit6 sb6 => ?_
      have X6 := X5.keep (extBut_of_same sb6) (Nat.le_of_lt hit0) (Nat.ne_of_gt hit0) hita
      refine wpAny_assign_Name ?_
      rw [show (((i + 1 : Nat) : Int) - 1) = (i : Int) by lia]
      refine X6.stS fun h7 X7 sb7 => ?_
      have hit7 : IsRangeIter h7 it ((i : Nat) - 1 : Int) i (-1) := by
        have e := (sb7.2 it (Nat.ne_of_gt hit0)).trans hit6
        have q1 : (((i + 1 : Nat) : Int) - 1 + -1) = (i : Int) - 1 := by lia
        have q2 : (((i + 1 : Nat) : Int) - 1) = (i : Int) := by lia
        rw [q1, q2] at e
        exact e
      have hl5 : vs'.length = vs.length := hp5.length_eq
      refine wpAny_execs_cons (wpAny_Expr (fcall hB X7.F (by rfl) (by rfl) (spliced_more (ld X7.F (ups (by decide) m1) (spliced_more (ld X7.F upe (spliced_none ⟨X7.ov, siftup_max_spec hB X7.ov X7.ha X7.l hC hP (hP _ _ hPs X7.k) ?_ ?_ ?_ ?_ ?_ ?_⟩)))))))
      · exact fun v hv => hS v (hp5.mem_iff.mp hv)
      · lia
      · lia
      · simp only [Around.deeper]; lia
      · simp only [Around.deeper]; lia
      · intro h8 tk8 k8 l8
        refine wpAny_execs_nil ⟨i, by lia, h8, tk8, sup (fun x y => lt y x) vs' i, i, _, rfl, X7.kp k8 l8, ups (by decide) m1, k8.st it _ hita hit7, (sup_perm (fun x y => lt y x) vs' i (by lia)).trans hp5, by lia, ht, rfl⟩
end Mine
end

section
open PySem PySem.W PyProof.Rows PySem.Calls
set_option maxRecDepth 100000
set_option maxHeartbeats 1000000
namespace Mine

theorem heappop_spec {prog : Program} {w : World} {A : Around} {s : Shared} {H : Heap} {R : Result → Shared → Prop} {a : Addr} {vs : List Value} {y : Value} {lt : Value → Value → Bool}
    {P : Heap → Prop} {S : Value → Prop}
    (hB : Bs w H) (hO : Ov H s.heap) (ha : H.get? a = none) (hl : Ls s.heap a (vs ++ [y])) (hC : Cmp prog w P lt S) (hP : ∀ h h', P h → Kp a h h' → P h') (hPs : P s.heap)
    (hS : ∀ v ∈ vs ++ [y], S v) (hlen : vs.length < 900) (hroom : A.depth + 2 < recursionLimit) (hu : A.units + 30 < cLine)
    (h : ∀ h' tk, Kp a s.heap h' → Ls h' a (if vs = [] then [] else sup lt (vs.set 0 y) 0) → R (.ok (.ret (vs.getD 0 y))) { s with heap := h', toks := tk }) :
    codeAny (model prog w) A (.call (.ref 48) ⟨[.ref a], []⟩) R s := by
  refine enter (binds := [("heap", .ref a)]) hB hO (by rfl) (by rfl) (by lia) (BindsTo.of_eq rfl) (locs rfl) (by decide) fun h₁ F O => ?_
  have X : Fx H s.heap a s.heap.objs.size h₁ _ (vs ++ [y]) := ⟨F, .of O, hl.at fun _ e => O.st a _ e, ha, Nat.ne_of_gt hl.lt, Nat.le_refl _, hO.sz⟩
  refine wpAny_execs_cons (wpAny_Assign_Name (wpAny_Call_method rfl (by rfl) (by rfl) PySem.F.plainAttrs_list PySem.F.slot_list_pop PySem.F.type_list_pop (ld X.F rfl ⟨X.l.il.typeIs, fun b e => by cases e; exact let ⟨n, q⟩ := X.l; ⟨_, q, rfl⟩, callWith_method0 (popAt X.l (by lia) fun h2 l2 sb2 => ?_)⟩)))
  have X2 := X.kp (.same sb2) l2
  refine X2.st fun h3 X3 => ?_
  refine wpAny_execs_cons (wpAny_If (isTrue_plain (ld X3.F rfl (wpAny_truthy_list X3.l.il (by simp; lia) ?_))))
  cases vs with
  | nil =>
    refine wpAny_execs_nil (wpAny_execs_cons (wpAny_Return_some (ld X3.F upe ?_)))
    exact h _ _ X3.k X3.l
  | cons v0 vr =>
    refine wpAny_execs_cons (wpAny_Assign_Name (Subscript_ (ld X3.F rfl (wpAny_Constant_int (X3.get (k := 0) (by lia) rfl (X3.st fun h4 X4 => ?_))))))
    refine wpAny_execs_cons (wpAny_Assign_Subscript (ld X4.F rfl (ld X4.F rfl (wpAny_Constant_int (X4.set (k := 0) (by lia) (by simp) fun h5 X5 => ?_)))))
    refine wpAny_execs_cons (wpAny_Expr (fcall hB X5.F (by rfl) (by rfl) (spliced_more (ld X5.F rfl (spliced_more (wpAny_Constant_int (spliced_none ⟨X5.ov, siftup_spec (pos := 0) hB X5.ov X5.ha X5.l hC hP (hP _ _ hPs X5.k) ?_ ?_ ?_ ?_ ?_ ?_⟩)))))))
    · intro v hv
      rcases List.mem_or_eq_of_mem_set hv with q | q
      · exact hS v (List.mem_append_left _ q)
      · rw [q]; exact hS y (List.mem_append_right _ (.head _))
    · simp
    · simp only [List.length_set]; lia
    · simp only [Around.deeper]; lia
    · simp only [Around.deeper]; lia
    · intro h6 tk6 k6 l6
      have X6 := X5.kp k6 l6
      refine wpAny_execs_cons (wpAny_Return_some (ld X6.F rfl ?_))
      exact h _ _ X6.k X6.l
theorem heapreplace_spec {prog : Program} {w : World} {A : Around} {s : Shared} {H : Heap} {R : Result → Shared → Prop} {a : Addr} {vs : List Value} {y : Value} {lt : Value → Value → Bool}
    {P : Heap → Prop} {S : Value → Prop}
    (hB : Bs w H) (hO : Ov H s.heap) (ha : H.get? a = none) (hl : Ls s.heap a vs) (hC : Cmp prog w P lt S) (hP : ∀ h h', P h → Kp a h h' → P h') (hPs : P s.heap)
    (hS : ∀ v ∈ vs, S v) (hy : S y) (h0 : 0 < vs.length) (hlen : vs.length < 1000) (hroom : A.depth + 2 < recursionLimit) (hu : A.units + 30 < cLine)
    (h : ∀ h' tk, Kp a s.heap h' → Ls h' a (sup lt (vs.set 0 y) 0) → R (.ok (.ret (vs.getD 0 .none))) { s with heap := h', toks := tk }) :
    codeAny (model prog w) A (.call (.ref 55) ⟨[.ref a, y], []⟩) R s := by
  refine enter (binds := [("heap", .ref a), ("item", y)]) hB hO (by rfl) (by rfl) (by lia) (BindsTo.of_eq rfl) (locs rfl) (by decide) fun h₁ F O => ?_
  have X : Fx H s.heap a s.heap.objs.size h₁ _ vs := ⟨F, .of O, hl.at fun _ e => O.st a _ e, ha, Nat.ne_of_gt hl.lt, Nat.le_refl _, hO.sz⟩
  have hv0 : vs[0]? = some (vs.getD 0 .none) := by simp [h0]
  refine wpAny_execs_cons (wpAny_Assign_Name (Subscript_ (ld X.F rfl (wpAny_Constant_int (X.get (k := 0) (by lia) hv0 (X.st fun h4 X4 => ?_))))))
  refine wpAny_execs_cons (wpAny_Assign_Subscript (ld X4.F rfl (ld X4.F rfl (wpAny_Constant_int (X4.set (k := 0) (by lia) h0 fun h5 X5 => ?_)))))
  refine wpAny_execs_cons (wpAny_Expr (fcall hB X5.F (by rfl) (by rfl) (spliced_more (ld X5.F rfl (spliced_more (wpAny_Constant_int (spliced_none ⟨X5.ov, siftup_spec (pos := 0) hB X5.ov X5.ha X5.l hC hP (hP _ _ hPs X5.k) ?_ ?_ ?_ ?_ ?_ ?_⟩)))))))
  · intro v hv
    rcases List.mem_or_eq_of_mem_set hv with q | q
    · exact hS v q
    · rw [q]; exact hy
  · simpa using h0
  · simpa using hlen
  · simp only [Around.deeper]; lia
  · simp only [Around.deeper]; lia
  · intro h6 tk6 k6 l6
    have X6 := X5.kp k6 l6
    refine wpAny_execs_cons (wpAny_Return_some (ld X6.F rfl ?_))
    exact h _ _ X6.k X6.l

theorem heapreplace_max_spec {prog : Program} {w : World} {A : Around} {s : Shared} {H : Heap} {R : Result → Shared → Prop} {a : Addr} {vs : List Value} {y : Value} {lt : Value → Value → Bool}
    {P : Heap → Prop} {S : Value → Prop}
    (hB : Bs w H) (hO : Ov H s.heap) (ha : H.get? a = none) (hl : Ls s.heap a vs) (hC : Cmp prog w P lt S) (hP : ∀ h h', P h → Kp a h h' → P h') (hPs : P s.heap)
    (hS : ∀ v ∈ vs, S v) (hy : S y) (h0 : 0 < vs.length) (hlen : vs.length < 1000) (hroom : A.depth + 2 < recursionLimit) (hu : A.units + 30 < cLine)
    (h : ∀ h' tk, Kp a s.heap h' → Ls h' a (sup (fun x y => lt y x) (vs.set 0 y) 0) → R (.ok (.ret (vs.getD 0 .none))) { s with heap := h', toks := tk }) :
    codeAny (model prog w) A (.call (.ref 69) ⟨[.ref a, y], []⟩) R s := by
  refine enter (binds := [("heap", .ref a), ("item", y)]) hB hO (by rfl) (by rfl) (by lia) (BindsTo.of_eq rfl) (locs rfl) (by decide) fun h₁ F O => ?_
  have X : Fx H s.heap a s.heap.objs.size h₁ _ vs := ⟨F, .of O, hl.at fun _ e => O.st a _ e, ha, Nat.ne_of_gt hl.lt, Nat.le_refl _, hO.sz⟩
  have hv0 : vs[0]? = some (vs.getD 0 .none) := by simp [h0]
  refine wpAny_execs_cons (wpAny_Assign_Name (Subscript_ (ld X.F rfl (wpAny_Constant_int (X.get (k := 0) (by lia) hv0 (X.st fun h4 X4 => ?_))))))
  refine wpAny_execs_cons (wpAny_Assign_Subscript (ld X4.F rfl (ld X4.F rfl (wpAny_Constant_int (X4.set (k := 0) (by lia) h0 fun h5 X5 => ?_)))))
  refine wpAny_execs_cons (wpAny_Expr (fcall hB X5.F (by rfl) (by rfl) (spliced_more (ld X5.F rfl (spliced_more (wpAny_Constant_int (spliced_none ⟨X5.ov, siftup_max_spec (pos := 0) hB X5.ov X5.ha X5.l hC hP (hP _ _ hPs X5.k) ?_ ?_ ?_ ?_ ?_ ?_⟩)))))))
  · intro v hv
    rcases List.mem_or_eq_of_mem_set hv with q | q
    · exact hS v q
    · rw [q]; exact hy
  · simpa using h0
  · simpa using hlen
  · simp only [Around.deeper]; lia
  · simp only [Around.deeper]; lia
  · intro h6 tk6 k6 l6
    have X6 := X5.kp k6 l6
    refine wpAny_execs_cons (wpAny_Return_some (ld X6.F rfl ?_))
    exact h _ _ X6.k X6.l
end Mine
end

section
open PySem PySem.W PyProof.Rows PySem.Calls
set_option maxRecDepth 100000
set_option maxHeartbeats 1000000
namespace Mine

/-- in a call whose frame is at L, begun at h0, that changes nothing of h0 -/
structure Fo (H h0 : Heap) (L : Addr) (h : Heap) (m : Str → Option Value) : Prop where
  F : Fr H L h m
  o : Ov h0 h
  hL : h0.objs.size ≤ L
  hH : H.objs.size ≤ h0.objs.size

theorem Fo.ov {H h0 : Heap} {L : Addr} {h : Heap} {m : Str → Option Value} (X : Fo H h0 L h m) : Ov H h := ⟨X.F.keep, Nat.le_trans X.F.above (Nat.le_of_lt X.F.ns.lt)⟩
theorem Fo.grow {H h0 : Heap} {L : Addr} {h h' : Heap} {m : Str → Option Value} (X : Fo H h0 L h m) (o : Ov h h') : Fo H h0 L h' m := ⟨Fr.grow' X.F o, X.o.trans o, X.hL, X.hH⟩
theorem Fo.keep {H h0 : Heap} {L it : Addr} {h h' : Heap} {m : Str → Option Value} (X : Fo H h0 L h m) (e : Heap.ExtBut it h h') (h1 : h0.objs.size ≤ it) (h2 : it ≠ L) : Fo H h0 L h' m := by
  obtain ⟨o, es, ep, ho, r⟩ := X.F.ns
  have hL := e L o (Ne.symm h2) ho
  exact ⟨⟨⟨o, es, ep, hL, r⟩, fun b o' e' => e b o' (Nat.ne_of_lt (Nat.lt_of_lt_of_le (Heap.lt_size e') (Nat.le_trans X.hH h1))) (X.F.keep b o' e'), X.F.above⟩,
    ⟨fun b o' e' => e b o' (Nat.ne_of_lt (Nat.lt_of_lt_of_le (Heap.lt_size e') h1)) (X.o.st b o' e'), Nat.le_trans X.hL (Nat.le_of_lt (Heap.lt_size hL))⟩, X.hL, X.hH⟩
theorem Fo.kp {H h0 : Heap} {L a : Addr} {h h' : Heap} {m : Str → Option Value} (X : Fo H h0 L h m) (k : Kp a h h') (h1 : h0.objs.size ≤ a) (h2 : a ≠ L) : Fo H h0 L h' m := X.keep k.st h1 h2

section
variable {prog : Program} {w : World} {A : Around} {E : Value → Shared → Prop} {s : Shared} {H h0 : Heap} {L : Addr} {m : Str → Option Value}

theorem Fo.st {name : Str} {scope : Scope} {f : Addr} {cd : Value} {x : Str} {v : Value} {Q : Unit → Shared → Prop} (X : Fo H h0 L s.heap m)
    (h : ∀ h', Fo H h0 L h' (upd m x v) → Heap.SameBut L s.heap h' → Q () { s with heap := h', toks := s.toks + 1 })
    (hk : scope.kind = .function := by rfl) (hl : (envOf name scope L f cd).kindOf x = some .local := by rfl) :
    wpAny (model prog w) A (storeName (envOf name scope L f cd) x v) Q E s :=
  put X.F (fun h' F' sb => h h' ⟨F', ⟨fun b o e => (sb.2 b (Nat.ne_of_lt (Nat.lt_of_lt_of_le (Heap.lt_size e) X.hL))).trans (X.o.st b o e), Nat.le_trans X.o.sz (Nat.le_of_eq sb.1.symm)⟩, X.hL, X.hH⟩ sb) hk hl
end

theorem Ls.same {h h' : Heap} {a b : Addr} {vs : List Value} (x : Ls h a vs) (e : Heap.SameBut b h h') (hn : a ≠ b) : Ls h' a vs := x.at fun _ q => (e.2 a hn).trans q
theorem Ls.grow {h h' : Heap} {a : Addr} {vs : List Value} (x : Ls h a vs) (o : Ov h h') : Ls h' a vs := x.at fun _ q => o.st a _ q
theorem Ls.ext {h h' : Heap} {a b : Addr} {vs : List Value} (x : Ls h a vs) (e : Heap.ExtBut b h h') (hn : a ≠ b) : Ls h' a vs := x.at fun _ q => e a _ hn q
theorem Ls.kp {h h' : Heap} {a b : Addr} {vs : List Value} (x : Ls h a vs) (k : Kp b h h') (hn : a ≠ b) : Ls h' a vs := x.at fun _ q => k.st a _ hn q

theorem itemN {prog : Program} {w : World} {A : Around} {E : Value → Shared → Prop} {s : Shared} {value slice : Expr} {l : Addr} {vs : List Value} {k : Nat} {u : Tok} {v : Value} {Q : Value → Shared → Prop} (hl : s.heap.IsList l vs.toArray) (hk : k < 1000) (hx : vs[k]? = some v) (h : Q v s)
    (hs : subscripted slice false (.ref l) (.int k u) = operate [.ref l, .int k u] (getItem (.ref l) (.int k u)) := by with_unfolding_all rfl) :
    wpAny (model prog w) A (subscriptTail value slice (.ref l) (.int k u)) Q E s :=
  item hl (by lia) (by lia) (by simpa using hx) h hs

theorem lenN {prog : Program} {w : World} {A : Around} {E : Value → Shared → Prop} {s : Shared} {l : Addr} {vs : List Value} {n : Nat} {Q : Value → Shared → Prop} (hl : s.heap.IsList l vs.toArray) (hn : vs.length = n) (hb : n < 1000)
    (h : ∀ tk t, Q (.int n t) { s with toks := tk }) : wpAny (model prog w) A (call (.builtin "len") [.ref l]) Q E s := by
  subst hn
  exact len_list hl (by simp only [List.size_toArray]; lia) (by simp only [List.size_toArray]; exact h _ _)

theorem ift {P Q : Prop} (h : P) : if (true = true) then P else Q := h
theorem iff' {P Q : Prop} (h : Q) : if (false = true) then P else Q := h
theorem fdiv2 (n : Nat) : Int.fdiv (n : Int) 2 = ((n / 2 : Nat) : Int) := by
  rw [Int.fdiv_eq_ediv_of_nonneg _ (by decide)]; lia
theorem fmod2 (n : Nat) : Int.fmod (n : Int) 2 = ((n % 2 : Nat) : Int) := by
  rw [Int.fmod_eq_emod_of_nonneg _ (by decide)]; lia
section
variable {prog : Program} {w : World} {A : Around} {E : Value → Shared → Prop} {s : Shared} {Q : Value → Shared → Prop} {t u : Tok}
theorem half {n k : Nat} (hk : n / 2 = k) (h : ∀ tk t, Q (.int k t) { s with toks := tk }) : wpAny (model prog w) A (binaryOp .FloorDiv (.int n t) (.int 2 u)) Q E s :=
  floordiv_int (by decide) (by rw [fdiv2, hk]; exact h _ _)
theorem rem2 {n k : Nat} (hk : n % 2 = k) (h : ∀ tk t, Q (.int k t) { s with toks := tk }) : wpAny (model prog w) A (binaryOp .Mod (.int n t) (.int 2 u)) Q E s :=
  mod_int' (by decide) (by rw [fmod2, hk]; exact h _ _)
theorem subI {a b c : Int} (hc : a - b = c) (h : ∀ tk t, Q (.int c t) { s with toks := tk }) : wpAny (model prog w) A (binaryOp .Sub (.int a t) (.int b u)) Q E s :=
  sub_int (by rw [hc]; exact h _ _)
theorem addI {a b c : Int} (hc : a + b = c) (h : ∀ tk t, Q (.int c t) { s with toks := tk }) : wpAny (model prog w) A (binaryOp .Add (.int a t) (.int b u)) Q E s :=
  add_int (by rw [hc]; exact h _ _)
theorem eqB {a b : Int} {c : Bool} (hc : (a == b) = c) (h : Q (.bool c) s) : wpAny (model prog w) A (compareOp .Eq (.int a t) (.int b u)) Q E s := eq_int (by rw [hc]; exact h)
theorem ltB {a b : Int} {c : Bool} (hc : decide (a < b) = c) (h : Q (.bool c) s) : wpAny (model prog w) A (compareOp .Lt (.int a t) (.int b u)) Q E s := lt_int (by rw [hc]; exact h)
end

/-- a grown heap: objects at or above h's size may be anything -/
theorem sortedHeap_ov {h0 h : Heap} {a : Addr} {vs : List Value} {out : Array Value} (o : Ov h0 h) (ha : h0.objs.size ≤ a) : Ov h0 (sortedHeap h a vs out) := by
  unfold sortedHeap
  refine ⟨fun b ob e => ?_, ?_⟩
  · have hb : b ≠ a := Nat.ne_of_lt (Nat.lt_of_lt_of_le (Heap.lt_size e) ha)
    rw [Heap.get?_update_ne _ _ _ _ hb]
    refine Heap.get?_push_of_some _ (Heap.get?_push_of_some _ ?_)
    rw [Heap.get?_update_ne _ _ _ _ hb]
    exact o.st b ob e
  · rw [Heap.size_update, size_push', size_push', Heap.size_update]
    have := o.sz; lia
theorem sortedHeap_ls {h : Heap} {a : Addr} {ws : List Value} {n : Nat} {vs : List Value} {out : Array Value} (ho : h.get? a = some (W.listOf ws.toArray n)) : Ls (sortedHeap h a vs out) a out.toList := by
  unfold sortedHeap
  have q1 := get?_update_seq ho (fun _ => #[])
  have q2 := get?_update_seq (c := "list") (Heap.get?_push_of_some (seqObj "list" #[] 0) (Heap.get?_push_of_some (seqObj "tuple" vs.toArray 0) q1)) (fun _ => out)
  exact ⟨_, by rw [q2]⟩

section
variable {prog : Program} {w : World} {A : Around} {E : Value → Shared → Prop} {s : Shared}

theorem sortedAll_ov (h : Heap) (vs : List Value) (out : Array Value) : Ov h (sortedAll h vs out) := by
  unfold sortedAll
  refine sortedHeap_ov ⟨fun b ob e => ?_, ?_⟩ (Nat.le_succ _)
  · refine Heap.get?_push_of_some _ ?_
    rw [Heap.get?_update_ne _ _ _ _ (Nat.ne_of_lt (Heap.lt_size e))]
    exact Heap.get?_push_of_some _ e
  · rw [size_push', Heap.size_update, size_push']; lia
theorem sortedAll_ls (h : Heap) (vs : List Value) (out : Array Value) : Ls (sortedAll h vs out) (h.objs.size + 1) out.toList := by
  unfold sortedAll
  refine sortedHeap_ls (ws := vs) (n := 0) ?_
  have hsz : ((h.push (seqObj "list" #[] 0)).update h.objs.size (Obj.mapSeq (· ++ vs.toArray))).objs.size = h.objs.size + 1 := by rw [Heap.size_update, size_push']
  rw [← hsz]; exact Heap.get?_push_size _ rfl

theorem srt {l : Addr} {vs : List Value} {ns : List Int} {Q : Value → Shared → Prop} (hl : s.heap.IsList l vs.toArray) (hI : IntsAre vs ns) (h64 : vs.length < 64)
    (h : ∀ h' l' out ns', Ov s.heap h' → Ls h' l' out → s.heap.objs.size ≤ l' → IntsAre out ns' → ns'.Perm ns → ns'.Pairwise (· ≤ ·) → Q (.ref l') { s with heap := h' }) :
    wpAny (model prog w) A (call (.builtin "sorted") [.ref l]) Q E s :=
  sorted_ints hl hI h64 fun out ns' a1 a2 a3 => h _ _ _ _ (sortedAll_ov _ _ _) (sortedAll_ls _ _ _) (Nat.le_succ _) a1 a2 a3
end
end Mine
end

section
open PySem PySem.W PyProof.Rows PySem.Calls
set_option maxRecDepth 100000
set_option maxHeartbeats 4000000
namespace Mine

theorem intsAre_get {vs : List Value} {ns : List Int} (h : IntsAre vs ns) (i : Nat) (hi : i < ns.length) : ∃ t, vs[i]? = some (.int (ns.getD i 0) t) := by
  have hl : i < vs.length := by rw [h.length]; exact hi
  have e : vs[i]? = some vs[i] := List.getElem?_eq_getElem hl
  obtain ⟨t, q⟩ := IntsAre.int_at h i _ e
  exact ⟨t, by rw [e, q]⟩

theorem median_high_spec {prog : Program} {w : World} {A : Around} {s : Shared} {H : Heap} {R : Result → Shared → Prop} {l : Addr} {vs : List Value} {ns : List Int}
    (hB : Bs w H) (hO : Ov H s.heap) (hl : s.heap.IsList l vs.toArray) (hI : IntsAre vs ns) (h0 : 0 < ns.length) (h64 : ns.length < 64) (hroom : A.depth < recursionLimit)
    (h : ∀ h' tk t (ns' : List Int), Ov s.heap h' → ns'.Perm ns → ns'.Pairwise (· ≤ ·) → R (.ok (.ret (.int (ns'.getD (ns.length / 2) 0) t))) { s with heap := h', toks := tk }) :
    codeAny (model prog w) A (.call (.ref 41) ⟨[.ref l], []⟩) R s := by
  refine enter (binds := [("data", .ref l)]) hB hO (by rfl) (by rfl) hroom (BindsTo.of_eq rfl) (locs rfl) (by decide) fun h₁ F O => ?_
  have X : Fo H s.heap s.heap.objs.size h₁ _ := ⟨F, O, Nat.le_refl _, hO.sz⟩
  have hvl := hI.length
  refine wpAny_execs_cons (wpAny_Assign_Name (bcall hB X.F (spliced_more (ld X.F rfl (spliced_none (srt (isList_grow hl O) hI (by lia) fun h2 l2 out ns' o2 ls2 hl2 hI2 hp hs => ?_))))))
  have X2 := X.grow o2
  have hL2 : l2 ≠ s.heap.objs.size := Nat.ne_of_gt (Nat.lt_of_lt_of_le X.F.ns.lt hl2)
  refine X2.st fun h3 X3 sb3 => ?_
  have ls3 := ls2.same sb3 hL2
  have hol : out.length = ns.length := by rw [hI2.length, hp.length_eq]
  refine wpAny_execs_cons (wpAny_Assign_Name (bcall hB X3.F (spliced_more (ld X3.F upe (spliced_none (lenN ls3.il hol (by lia) fun tk4 t4 => X3.st fun h4 X4 sb4 => ?_))))))
  have ls4 := ls3.same sb4 hL2
  refine wpAny_execs_cons (wpAny_If (wpAny_isTrue_Compare1 (ld X4.F upe (wpAny_Constant_int (eqB (beq_eq_false_iff_ne.mpr (by lia)) (wpAny_truthy_bool (iff' (wpAny_execs_nil ?_))))))))
  obtain ⟨t, ht⟩ := intsAre_get hI2 (ns.length / 2) (by rw [hp.length_eq]; lia)
  refine wpAny_execs_cons (wpAny_Return_some (Subscript_ (ld X4.F (ups (by decide) upe) (wpAny_BinOp (ld X4.F upe (wpAny_Constant_int (half rfl fun _ _ => itemN ls4.il (by lia) ht (h _ _ _ _ X4.o hp hs))))))))

theorem median_low_spec {prog : Program} {w : World} {A : Around} {s : Shared} {H : Heap} {R : Result → Shared → Prop} {l : Addr} {vs : List Value} {ns : List Int}
    (hB : Bs w H) (hO : Ov H s.heap) (hl : s.heap.IsList l vs.toArray) (hI : IntsAre vs ns) (h0 : 0 < ns.length) (h64 : ns.length < 64) (hroom : A.depth < recursionLimit)
    (h : ∀ h' tk t (ns' : List Int), Ov s.heap h' → ns'.Perm ns → ns'.Pairwise (· ≤ ·) → R (.ok (.ret (.int (ns'.getD ((ns.length - 1) / 2) 0) t))) { s with heap := h', toks := tk }) :
    codeAny (model prog w) A (.call (.ref 34) ⟨[.ref l], []⟩) R s := by
  refine enter (binds := [("data", .ref l)]) hB hO (by rfl) (by rfl) hroom (BindsTo.of_eq rfl) (locs rfl) (by decide) fun h₁ F O => ?_
  have X : Fo H s.heap s.heap.objs.size h₁ _ := ⟨F, O, Nat.le_refl _, hO.sz⟩
  have hvl := hI.length
  refine wpAny_execs_cons (wpAny_Assign_Name (bcall hB X.F (spliced_more (ld X.F rfl (spliced_none (srt (isList_grow hl O) hI (by lia) fun h2 l2 out ns' o2 ls2 hl2 hI2 hp hs => ?_))))))
  have X2 := X.grow o2
  have hL2 : l2 ≠ s.heap.objs.size := Nat.ne_of_gt (Nat.lt_of_lt_of_le X.F.ns.lt hl2)
  refine X2.st fun h3 X3 sb3 => ?_
  have ls3 := ls2.same sb3 hL2
  have hol : out.length = ns.length := by rw [hI2.length, hp.length_eq]
  refine wpAny_execs_cons (wpAny_Assign_Name (bcall hB X3.F (spliced_more (ld X3.F upe (spliced_none (lenN ls3.il hol (by lia) fun tk4 t4 => X3.st fun h4 X4 sb4 => ?_))))))
  have ls4 := ls3.same sb4 hL2
  refine wpAny_execs_cons (wpAny_If (wpAny_isTrue_Compare1 (ld X4.F upe (wpAny_Constant_int (eqB (beq_eq_false_iff_ne.mpr (by lia)) (wpAny_truthy_bool (iff' (wpAny_execs_nil ?_))))))))
  obtain ⟨t, ht⟩ := intsAre_get hI2 ((ns.length - 1) / 2) (by rw [hp.length_eq]; lia)
  by_cases hodd : ns.length % 2 = 1
  · refine wpAny_execs_cons (wpAny_If (wpAny_isTrue_Compare1 (wpAny_BinOp (ld X4.F upe (wpAny_Constant_int (rem2 hodd fun _ _ => (wpAny_Constant_int (eqB rfl (wpAny_truthy_bool (ift ?_))))))))))
    refine wpAny_execs_cons (wpAny_Return_some (Subscript_ (ld X4.F (ups (by decide) upe) (wpAny_BinOp (ld X4.F upe (wpAny_Constant_int (half (k := (ns.length - 1) / 2) (by lia) fun _ _ => itemN ls4.il (by lia) ht (h _ _ _ _ X4.o hp hs))))))))
  · refine wpAny_execs_cons (wpAny_If (wpAny_isTrue_Compare1 (wpAny_BinOp (ld X4.F upe (wpAny_Constant_int (rem2 (k := 0) (by lia) fun _ _ => (wpAny_Constant_int (eqB rfl (wpAny_truthy_bool (iff' ?_))))))))))
    refine wpAny_execs_cons (wpAny_Return_some (Subscript_ (ld X4.F (ups (by decide) upe) (wpAny_BinOp (wpAny_BinOp (ld X4.F upe (wpAny_Constant_int (half rfl fun _ _ => (wpAny_Constant_int (subI (c := ((ns.length - 1) / 2 : Nat)) (by lia) fun _ _ => itemN ls4.il (by lia) ht (h _ _ _ _ X4.o hp hs)))))))))))
end Mine
end

section
open PySem PySem.W PyProof.Rows PySem.Calls
set_option maxRecDepth 100000
set_option maxHeartbeats 1000000
namespace Mine

section
variable {prog : Program} {w : World} {A : Around} {E : Value → Shared → Prop} {s : Shared} {H : Heap} {m : Str → Option Value} {env : Env} {x : Str} {pos p : Pos} {v : Value} {Q : Value → Shared → Prop} {L : Addr}

/-- a local's name, in any block of a def -/
theorem ldE {M : Model} (F : s.heap.Ns env.locals m) (hv : m x = some v) (h : Q v s)
    (hk : env.scope.kind = .function := by rfl) (hx : env.kindOf x = some .local := by rfl) (hd : (x == ("__debug__" : Str)) = false := by decide) :
    wpAny M A (eval (.Name x pos) env) Q E s := wpAny_Name (wpAny_loadName_local hk hx F hv h) hd
/-- a cell's name -/
theorem lcE {M : Model} {c : Addr} (hc : s.heap.IsCell c (some v)) (h : Q v s) (hl : env.cells.lookup x = some c := by rfl)
    (hk : env.scope.kind = .function := by rfl) (hx : env.kindOf x = some .cell := by rfl) (hd : (x == ("__debug__" : Str)) = false := by decide) :
    wpAny M A (eval (.Name x pos) env) Q E s := wpAny_Name (wpAny_loadName_cell hk hx hl hc h) hd
theorem bnmE {M : Model} (hB : Bs w H) (O : ∀ b o, H.get? b = some o → s.heap.get? b = some o) (h : Q v s) (h1 : nsIn (KW w) mainGlobals x = some none := by rfl) (h2 : bootBuiltins x = some v := by boot_by_name) (h3 : x ≠ "__name__" := by decide)
    (hk : env.scope.kind = .function := by rfl) (hx : env.kindOf x = some .globalImplicit := by rfl) (hd : (x == ("__debug__" : Str)) = false := by decide) (hg : env.globals = mainGlobals := by rfl) (hb : env.builtins = builtinsNs := by rfl) :
    wpAny M A (eval (.Name x pos) env) Q E s := by
  obtain ⟨_, _, _, _, T⟩ := hB.T
  exact Name_function_global hk hx (loadGlobal_builtin (env := env) (hg ▸ T.g.keeps O) (mg_none_of hB.X T.g h1) (hb ▸ T.b.keeps O) ((T.builtins x h3).trans h2) h) hd
theorem fnmE {M : Model} (hB : Bs w H) (O : ∀ b o, H.get? b = some o → s.heap.get? b = some o) (h1 : nsIn (KW w) mainGlobals x = some (some v)) (h : Q v s)
    (hk : env.scope.kind = .function := by rfl) (hx : env.kindOf x = some .globalImplicit := by rfl) (hd : (x == ("__debug__" : Str)) = false := by decide) (hg : env.globals = mainGlobals := by rfl) :
    wpAny M A (eval (.Name x pos) env) Q E s := by
  obtain ⟨_, _, _, _, T⟩ := hB.T
  exact Name_function_global hk hx (loadGlobal_global (env := env) (hg ▸ T.g.keeps O) (mg_of hB.X T.g h1) h) hd
theorem bcallE {id : String} {e : Expr} {rest : List Expr} (hB : Bs w H) (O : ∀ b o, H.get? b = some o → s.heap.get? b = some o)
    (h : wpAny (model prog w) A (spliced (backTo pos (starEach (e :: rest) env))) (fun vs s₁ => wpAny (model prog w) A (call (.builtin id) vs) Q E s₁) E s)
    (h1 : nsIn (KW w) mainGlobals x = some none := by rfl) (h2 : bootBuiltins x = some (.builtin id) := by boot_by_name) (h3 : x ≠ "__name__" := by decide)
    (he : starEach (e :: rest) env = (false, eval e env) :: starEach rest env := by rfl) (hplain : (backTo pos (starEach rest env)).any (·.1) = false := by rfl)
    (hk : env.scope.kind = .function := by rfl) (hx : env.kindOf x = some .globalImplicit := by rfl) (hd : (x == ("__debug__" : Str)) = false := by decide) (hg : env.globals = mainGlobals := by rfl) (hb : env.builtins = builtinsNs := by rfl) :
    wpAny (model prog w) A (eval (.Call (.Name x p) (e :: rest) [] pos) env) Q E s :=
  Call_ (bnmE hB O (callWith_builtin1 h he hplain) h1 h2 h3 hk hx hd hg hb)
/-- the call of a type by its name -/
theorem tcallE {T : String} {e : Expr} {rest : List Expr} (hB : Bs w H) (O : ∀ b o, H.get? b = some o → s.heap.get? b = some o)
    (h : wpAny (model prog w) A (spliced (backTo pos (starEach (e :: rest) env))) (fun vs s₁ => wpAny (model prog w) A (call (.type T) vs) Q E s₁) E s)
    (h1 : nsIn (KW w) mainGlobals x = some none := by rfl) (h2 : bootBuiltins x = some (.type T) := by boot_by_name) (h3 : x ≠ "__name__" := by decide)
    (he : starEach (e :: rest) env = (false, eval e env) :: starEach rest env := by rfl) (hplain : (backTo pos (starEach rest env)).any (·.1) = false := by rfl)
    (hk : env.scope.kind = .function := by rfl) (hx : env.kindOf x = some .globalImplicit := by rfl) (hd : (x == ("__debug__" : Str)) = false := by decide) (hg : env.globals = mainGlobals := by rfl) (hb : env.builtins = builtinsNs := by rfl) :
    wpAny (model prog w) A (eval (.Call (.Name x p) (e :: rest) [] pos) env) Q E s :=
  Call_ (bnmE hB O (callWith_type1 h he hplain) h1 h2 h3 hk hx hd hg hb)
theorem fcallE {g : Addr} {e : Expr} {rest : List Expr} (hB : Bs w H) (O : ∀ b o, H.get? b = some o → s.heap.get? b = some o) (h1 : nsIn (KW w) mainGlobals x = some (some (.ref g))) (hf : keepIn (KW w) (.ref g) = true)
    (h : wpAny (model prog w) A (spliced (backTo pos (starEach (e :: rest) env))) (fun vs s₁ => Ov H s₁.heap ∧ codeAny (model prog w) A (.call (.ref g) ⟨vs, []⟩) (fun r s' => match r with | .ok (.ret v) => Q v s' | .ok _ => False | .error e => E e s') s₁) E s)
    (he : starEach (e :: rest) env = (false, eval e env) :: starEach rest env := by rfl) (hplain : (backTo pos (starEach rest env)).any (·.1) = false := by rfl)
    (hk : env.scope.kind = .function := by rfl) (hx : env.kindOf x = some .globalImplicit := by rfl) (hd : (x == ("__debug__" : Str)) = false := by decide) (hg : env.globals = mainGlobals := by rfl) :
    wpAny (model prog w) A (eval (.Call (.Name x p) (e :: rest) [] pos) env) Q E s :=
  Call_ (fnmE hB O h1 (callWith_K hB.X hf (wpAny_mono h (fun _ _ x => ⟨hB.X.keeps x.1.st, wpAny_call x.2⟩) fun _ _ x => x) he hplain) hk hx hd hg)
end

section
variable {prog : Program} {w : World} {A : Around} {E : Value → Shared → Prop} {s : Shared} {H h0 : Heap} {m : Str → Option Value} {env : Env} {x : Str} {v : Value} {Q : Unit → Shared → Prop}
theorem Fo.stE (X : Fo H h0 env.locals s.heap m)
    (h : ∀ h', Fo H h0 env.locals h' (upd m x v) → Heap.SameBut env.locals s.heap h' → Q () { s with heap := h', toks := s.toks + 1 })
    (hk : env.scope.kind = .function := by rfl) (hl : env.kindOf x = some .local := by rfl) :
    wpAny (model prog w) A (storeName env x v) Q E s :=
  wpAny_storeName_local hl X.F.ns (fun h' hn sb => h h' ⟨X.F.set hn sb, ⟨fun b o e => (sb.2 b (Nat.ne_of_lt (Nat.lt_of_lt_of_le (Heap.lt_size e) X.hL))).trans (X.o.st b o e), Nat.le_trans X.o.sz (Nat.le_of_eq sb.1.symm)⟩, X.hL, X.hH⟩ sb)
    (by rw [hk]; rfl)
theorem Fo.stC {c : Addr} {v0 : Option Value} (X : Fo H h0 env.locals s.heap m) (hc : s.heap.IsCell c v0) (hn : h0.objs.size ≤ c) (hne : c ≠ env.locals)
    (h : ∀ h', Fo H h0 env.locals h' m → h'.IsCell c (some v) → Heap.SameBut c s.heap h' → Q () { s with heap := h' }) (hl : env.cells.lookup x = some c := by rfl)
    (hk : env.scope.kind = .function := by rfl) (hx : env.kindOf x = some .cell := by rfl) :
    wpAny (model prog w) A (storeName env x v) Q E s :=
  wpAny_storeName_cell hk hx hl hc fun h' c' sb => h h' (X.keep (extBut_of_same sb) hn hne) c' sb
end

section
variable {prog : Program} {w : World} {A : Around} {s : Shared} {H : Heap}
/-- entering a def that has cells -/
theorem enterC {R : Result → Shared → Prop} {name qual : Str} {params : Arguments} {body : List Stmt} {scope : Scope} {dV kV doc pm cdv ct oc : Value} {an od : Option Addr}
    {osl : Array (Option Value)} {f : Addr} {args : Args} {binds : List (Str × Value)}
    (hB : Bs w H) (hO : Ov H s.heap)
    (ho : (KW w).lookup f = some ⟨oc, od, .func (fnOf name qual params body scope dV kV doc pm an cdv ct), osl⟩) (hcd : codeIn (KW w) cdv qual = true)
    (hroom : A.depth < recursionLimit)
    (hbind : BindsTo s (fnOf name qual params body scope dV kV doc pm an cdv ct) args binds)
    (hkind : (binds.all fun y => scope.names.lookup y.1 == some .local || scope.names.lookup y.1 == some .cell) = true)
    (h : ∀ h₁ tk, Fo H s.heap s.heap.objs.size h₁ (bindL (envOfC qual scope s.heap.objs.size f cdv).kindOf binds fun _ => none) →
      (∀ n c, (cellsFrom (s.heap.objs.size + 1) scope.names []).lookup n = some c → h₁.IsCell c (bindC (envOfC qual scope s.heap.objs.size f cdv).kindOf binds (fun _ => none) n)) →
      wpAny (model prog w) (A.deeper (envOfC qual scope s.heap.objs.size f cdv)) (execs body (envOfC qual scope s.heap.objs.size f cdv))
        (fun fl s' => R (.ok (.ret (match fl with | .ret v => v | _ => .none))) s') (fun _ _ => False) { s with heap := h₁, toks := tk })
    (hco : scope.isCoroutine = false := by rfl) (hgen : scope.isGenerator = false := by rfl) (hk : scope.kind = .function := by rfl) :
    codeAny (model prog w) A (.call (.ref f) args) R s := by
  obtain ⟨_, _, _, _, T⟩ := hB.T
  have X := hB.X.keeps hO.st
  refine codeAny_call_function hroom (X _ _ ho) rfl hco hgen rfl (codeRec_of X hcd) (hbind _ _ _ _ ?_)
  refine wpAny_newFunctionEnv_cells hk (kindsX hkind _) fun env' he s' x => ?_
  subst he
  refine ⟨(T.nolimit.keeps hO.st).keeps x.toInCall.keep, codeAny_func ?_⟩
  obtain ⟨h₁, tk, rfl, _⟩ := x.done
  have hk₁ := x.toInCall.keep
  exact wpAny_mono (h h₁ tk ⟨⟨x.toInCall.ns, fun b o e => hk₁ b o (hO.st b o e), hO.sz⟩, ⟨hk₁, Nat.le_of_lt x.toInCall.ns.lt⟩, Nat.le_refl _, hO.sz⟩ x.cell) (fun _ _ x => x) fun _ _ x => x.elim
end
end Mine
end

section
open PySem PySem.W PyProof.Rows PySem.Calls
set_option maxRecDepth 100000
set_option maxHeartbeats 1000000
namespace Mine

section
variable {prog : Program} {w : World} {A : Around} {E : Value → Shared → Prop} {s : Shared} {env : Env}

theorem appendAt {l : Addr} {vs : List Value} {y : Value} {Q : Value → Shared → Prop} (hl : Ls s.heap l vs) (hz : vs.length < 1000)
    (hQ : ∀ h', Ls h' l (vs ++ [y]) → Heap.SameBut l s.heap h' → Q .none { s with heap := h' }) : wpAny (model prog w) A (call (.builtin "list.append") [.ref l, y]) Q E s := by
  refine wpAny_list_append_plain (items := vs.toArray) hl (fun h' l' sb => hQ h' ?_ sb) (by rw [List.size_toArray, sizeLine_eq]; lia)
  obtain ⟨n, e⟩ := l'
  exact ⟨n, by simpa using e⟩

/-- a list comprehension of one clause: entered, left -/
theorem lcomp {elt target iter : Expr} {ifs : List Expr} {scope : Scope} {cl : List (Str × Addr)} {pos : Pos} {Q : Value → Shared → Prop}
    (hclos : closureFor scope env = pure cl) (hcell : ∀ y ∈ scope.names, y.2 ≠ .cell) (hkind : scope.kind = .function)
    (hnames : ∀ y ∈ scope.names, y.2 = .local → scope.names.lookup y.1 = some .local)
    (h : wpAny (model prog w) A (eval iter env) (fun xv s₁ => wpAny (model prog w) A (pyIter xv) (fun it s₂ =>
      (∀ h₃, Ov s₂.heap h₃ → ∀ (E' : Value → Shared → Prop) (Q' : Value → Shared → Prop), Q' it { s₂ with heap := h₃ } → wpAny (model prog w) A (pyIter it) Q' E' { s₂ with heap := h₃ }) ∧
      ∀ h₃ D C, Ov s₂.heap h₃ → s₂.heap.objs.size ≤ D → D < C → Ls h₃ D [] → h₃.Ns C (fun _ => none) →
        codeAny (model prog w) A (.compLoop (.ListComp elt [⟨target, iter, ifs, 0⟩] scope pos) 0 it (.ref D) (compEnvC scope cl C env))
          (fun r s' => r = .ok .next ∧ ∃ m, s'.heap.Ns C m ∧ ∀ h', Heap.SameBut C s'.heap h' → Q (.ref D) { s' with heap := h' }) { s₂ with heap := h₃ }) E s₁) E s)
    (hs : ∀ x, foldedSetIterable iter env x = pure x := by intro _; rfl) :
    wpAny (model prog w) A (eval (.ListComp elt [⟨target, iter, ifs, 0⟩] scope pos) env) Q E s := by
  rw [eval_ListComp]
  refine wpAny_comprehension_free (use := none) rfl hs hclos hkind hnames (wpAny_mono h (fun xv s₁ h₁ => wpAny_mono h₁ (fun it s₂ h₂ => ?_) fun _ _ e => e) fun _ _ e => e)
  obtain ⟨hself, hloop⟩ := h₂
  refine wpAny_newObj_type (wpAny_newFunctionEnv hcell (by intro y hy; simp at hy) (fun h₁ hns₁ hsb₁ => ?_) hkind)
  dsimp only at hns₁ hsb₁ ⊢
  have o1 : Ov s₂.heap (s₂.heap.push { cls := .type "list", dict := none, data := .seq ([] : List Value).toArray }) := .push _
  have sz1 : (s₂.heap.push { cls := .type "list", dict := none, data := .seq ([] : List Value).toArray }).objs.size = s₂.heap.objs.size + 1 := size_push' _ _
  have l1 : Ls (s₂.heap.push { cls := .type "list", dict := none, data := .seq ([] : List Value).toArray }) s₂.heap.objs.size [] := ⟨0, Heap.get?_push_size _ rfl⟩
  generalize s₂.heap.push { cls := .type "list", dict := none, data := .seq ([] : List Value).toArray } = H2 at *
  have o2 : Ov H2 h₁ := ⟨fun b o e => hsb₁.extBut b o (Nat.ne_of_lt (Heap.lt_size e)) (Heap.get?_push_of_some _ e), Nat.le_of_lt hns₁.lt⟩
  have hD : Ls h₁ s₂.heap.objs.size [] := l1.grow o2
  have loop := hloop h₁ s₂.heap.objs.size H2.objs.size (o1.trans o2) (Nat.le_refl _) (by lia) hD hns₁
  have loop' : codeAny (model prog w) A (.compLoop (.ListComp elt [⟨target, iter, ifs, 0⟩] scope pos) 0 it (.ref s₂.heap.objs.size) (compEnvC scope cl H2.objs.size env))
      (compPost (model prog w) A E none Q (.ref s₂.heap.objs.size) H2.objs.size) { s₂ with heap := h₁ } :=
    codeAny_mono loop fun r s' hr => by obtain ⟨rfl, hr⟩ := hr; exact hr
  exact codeAny_compStart_list loop' (hself h₁ (o1.trans o2) _ _ loop')

/-- «y = [..]», y a local: the store stands ahead of the block's leaving -/
theorem lcompA {elt target iter : Expr} {ifs : List Expr} {scope : Scope} {cl : List (Str × Addr)} {pos spos py : Pos} {y : Str} {Q : Flow → Shared → Prop}
    (hsw : swapsWith (.ListComp elt [⟨target, iter, ifs, 0⟩] scope pos) (some (.Name y py)) spos.line env = pure true)
    (hclos : closureFor scope env = pure cl) (hcell : ∀ y ∈ scope.names, y.2 ≠ .cell) (hkind : scope.kind = .function)
    (hnames : ∀ y ∈ scope.names, y.2 = .local → scope.names.lookup y.1 = some .local)
    (h : wpAny (model prog w) A (eval iter env) (fun xv s₁ => wpAny (model prog w) A (pyIter xv) (fun it s₂ =>
      (∀ h₃, Ov s₂.heap h₃ → ∀ (E' : Value → Shared → Prop) (Q' : Value → Shared → Prop), Q' it { s₂ with heap := h₃ } → wpAny (model prog w) A (pyIter it) Q' E' { s₂ with heap := h₃ }) ∧
      ∀ h₃ D C, Ov s₂.heap h₃ → s₂.heap.objs.size ≤ D → D < C → Ls h₃ D [] → h₃.Ns C (fun _ => none) →
        codeAny (model prog w) A (.compLoop (.ListComp elt [⟨target, iter, ifs, 0⟩] scope pos) 0 it (.ref D) (compEnvC scope cl C env))
          (fun r s' => r = .ok .next ∧ ∃ m, s'.heap.Ns C m ∧ wpAny (model prog w) A (storeName env y (.ref D)) (fun _ s'' => s''.heap.Ns C m ∧ ∀ h', Heap.SameBut C s''.heap h' → Q .next { s'' with heap := h' }) E s') { s₂ with heap := h₃ }) E s₁) E s)
    (hs : ∀ x, foldedSetIterable iter env x = pure x := by intro _; rfl) :
    wpAny (model prog w) A (exec (.Assign [.Name y py] (.ListComp elt [⟨target, iter, ifs, 0⟩] scope pos) spos) env) Q E s := by
  rw [exec_Assign_Name_used _ _ _ _ hsw]
  refine wpAny_bind (wpAny_standAt (wpAny_bind ?_))
  show wpAny _ A (do let _ ← comprehension (.ListComp elt [⟨target, iter, ifs, 0⟩] scope pos) scope env _ (newList []) false (eval iter env) (some (assign (.Name y py) env))) _ _ s
  refine wpAny_bind (wpAny_mono (wpAny_comprehension_free (use := some (assign (.Name y py) env)) (Q := fun _ s' => Q .next s') rfl hs hclos hkind hnames
    (wpAny_mono h (fun xv s₁ h₁ => wpAny_mono h₁ (fun it s₂ h₂ => ?_) fun _ _ e => e) fun _ _ e => e)) (fun _ s' hq => wpAny_pure (wpAny_pure hq)) fun _ _ e => e)
  obtain ⟨hself, hloop⟩ := h₂
  refine wpAny_newObj_type (wpAny_newFunctionEnv hcell (by intro y hy; simp at hy) (fun h₁ hns₁ hsb₁ => ?_) hkind)
  dsimp only at hns₁ hsb₁ ⊢
  have o1 : Ov s₂.heap (s₂.heap.push { cls := .type "list", dict := none, data := .seq ([] : List Value).toArray }) := .push _
  have sz1 : (s₂.heap.push { cls := .type "list", dict := none, data := .seq ([] : List Value).toArray }).objs.size = s₂.heap.objs.size + 1 := size_push' _ _
  have l1 : Ls (s₂.heap.push { cls := .type "list", dict := none, data := .seq ([] : List Value).toArray }) s₂.heap.objs.size [] := ⟨0, Heap.get?_push_size _ rfl⟩
  generalize s₂.heap.push { cls := .type "list", dict := none, data := .seq ([] : List Value).toArray } = H2 at *
  have o2 : Ov H2 h₁ := ⟨fun b o e => hsb₁.extBut b o (Nat.ne_of_lt (Heap.lt_size e)) (Heap.get?_push_of_some _ e), Nat.le_of_lt hns₁.lt⟩
  have hD : Ls h₁ s₂.heap.objs.size [] := l1.grow o2
  have loop := hloop h₁ s₂.heap.objs.size H2.objs.size (o1.trans o2) (Nat.le_refl _) (by lia) hD hns₁
  have loop' : codeAny (model prog w) A (.compLoop (.ListComp elt [⟨target, iter, ifs, 0⟩] scope pos) 0 it (.ref s₂.heap.objs.size) (compEnvC scope cl H2.objs.size env))
      (compPost (model prog w) A E (some (assign (.Name y py) env)) (fun _ s' => Q .next s') (.ref s₂.heap.objs.size) H2.objs.size) { s₂ with heap := h₁ } :=
    codeAny_mono loop fun r s' hr => by
      obtain ⟨rfl, m, hm, hr⟩ := hr
      exact wpAny_mono (wpAny_assign_Name hr) (fun _ s'' q => ⟨m, q.1, q.2⟩) fun _ _ e => e
  exact codeAny_compStart_list loop' (hself h₁ (o1.trans o2) _ _ loop')
end
end Mine
end

section
open PySem PySem.W PyProof.Rows PySem.Calls
set_option maxRecDepth 100000
set_option maxHeartbeats 1000000
namespace Mine

theorem Fo.growG {H h0 : Heap} {L : Addr} {h h' : Heap} {m : Str → Option Value} (X : Fo H h0 L h m) (o : ∀ b o, h.get? b = some o → h'.get? b = some o) : Fo H h0 L h' m := by
  obtain ⟨p, es, ep, ho, r⟩ := X.F.ns
  have hL := o L p ho
  exact ⟨⟨⟨p, es, ep, hL, r⟩, fun b q e => o b q (X.F.keep b q e), X.F.above⟩, ⟨fun b q e => o b q (X.o.st b q e), Nat.le_trans X.hL (Nat.le_of_lt (Heap.lt_size hL))⟩, X.hL, X.hH⟩

/-- every object of the heap, as a ledger -/
theorem allN {H h : Heap} {L : Addr} : ∃ news, News H L h news ∧ ∀ b o, b ≠ L → h.get? b = some o → H.get? b = some o ∨ (b, o) ∈ news ∨ (∃ o', H.get? b = some o') := by
  refine ⟨(List.range h.objs.size).filterMap fun a => if a = L then none else match H.get? a with | some _ => none | none => (h.get? a).map fun o => (a, o), fun p hp => ?_, fun b o hb e => ?_⟩
  · obtain ⟨a, _, e⟩ := List.mem_filterMap.mp hp
    split at e
    · cases e
    · rename_i hne
      split at e
      · cases e
      · rename_i hH
        obtain ⟨o, ho, rfl⟩ := Option.map_eq_some_iff.mp e
        exact ⟨ho, hne, hH⟩
  · cases hH : H.get? b with
    | some o' => exact .inr (.inr ⟨o', rfl⟩)
    | none =>
      refine .inr (.inl (List.mem_filterMap.mpr ⟨b, List.mem_range.mpr (Heap.lt_size e), ?_⟩))
      rw [if_neg hb, hH, e]; rfl
theorem extOf {H h h' : Heap} {L : Addr} {m m' : Str → Option Value} {news : List (Addr × Obj)} (F : Fr H L h m) (F' : Fr H L h' m') (N' : News H L h' news)
    (c : ∀ b o, b ≠ L → h.get? b = some o → H.get? b = some o ∨ (b, o) ∈ news ∨ (∃ o', H.get? b = some o')) : Heap.ExtBut L h h' := fun b o hb e => by
  rcases c b o hb e with q | q | ⟨o', q⟩
  · exact F'.keep b o q
  · exact (N' _ q).1
  · have := F.keep b o' q
    rw [e] at this; cases this
    exact F'.keep b o q
theorem Fo.of {H h0 h h' : Heap} {L : Addr} {m : Str → Option Value} (X : Fo H h0 L h m) (F' : Fr H L h' m) (e : Heap.ExtBut L h h') : Fo H h0 L h' m :=
  ⟨F', ⟨fun b o q => e b o (Nat.ne_of_lt (Nat.lt_of_lt_of_le (Heap.lt_size q) X.hL)) (X.o.st b o q), Nat.le_trans X.hL (Nat.le_of_lt F'.ns.lt)⟩, X.hL, X.hH⟩

section
variable {prog : Program} {w : World} {A : Around} {E : Value → Shared → Prop} {s : Shared} {H h0 : Heap} {L : Addr} {m : Str → Option Value} {Q : Value → Shared → Prop}

theorem mulL {l : Addr} {v : Value} {x : Int} {u : Tok} (X : Fo H h0 L s.heap m) (hl : Ls s.heap l [v]) (h1 : -1000 ≤ x) (h2 : x < 1000)
    (h : ∀ h' l', Fo H h0 L h' m → Heap.ExtBut L s.heap h' → Ls h' l' (List.replicate x.toNat v) → s.heap.objs.size ≤ l' → Q (.ref l') { s with heap := h' }) :
    wpAny (model prog w) A (binaryOp .Mult (.ref l) (.int x u)) Q E s := by
  obtain ⟨news, N, c⟩ := allN (H := H) (h := s.heap) (L := L)
  obtain ⟨n, ho⟩ := hl
  refine mul_list X.F N ho (by lia) (by lia) (by simp; lia) fun h' F' N' => ?_
  have e := extOf X.F F' (fun p hp => N' p (.tail _ hp)) c
  refine h h' _ (X.of F' e) e ⟨0, ?_⟩ (Nat.le_refl _)
  rw [(N' _ (.head _)).1]
  have q : ∀ k : Nat, (List.foldl (fun x1 x2 : Array Value => x1 ++ x2) #[] (List.replicate k [v].toArray)) = (List.replicate k v).toArray := by
    intro k
    induction k with
    | zero => rfl
    | succ k ih => rw [List.replicate_succ' (a := [v].toArray), List.foldl_append, ih, List.replicate_succ' (a := v)]; exact Array.toList_inj.mp (by simp)
  rw [show (if [v].toArray.isEmpty = true then 0 else x.toNat) = x.toNat from rfl, q]

theorem addL {l b : Addr} {us vs : List Value} (X : Fo H h0 L s.heap m) (hl : Ls s.heap l us) (hb : Ls s.heap b vs) (h1 : us.length < 1000) (h2 : vs.length < 1000)
    (h : ∀ h' l', Fo H h0 L h' m → Heap.ExtBut L s.heap h' → Ls h' l' (us ++ vs) → s.heap.objs.size ≤ l' → Q (.ref l') { s with heap := h' }) :
    wpAny (model prog w) A (binaryOp .Add (.ref l) (.ref b)) Q E s := by
  obtain ⟨news, N, c⟩ := allN (H := H) (h := s.heap) (L := L)
  refine add_arrays X.F N hl.il hb.il (fun h' F' N' => ?_) (by simp only [List.size_toArray]; rw [sizeLine_eq]; lia)
  have e := extOf X.F F' (fun p hp => N' p (.tail _ hp)) c
  exact h h' _ (X.of F' e) e ⟨0, (N' _ (.head _)).1⟩ (Nat.le_refl _)

theorem newL {vs : List Value} (hz : vs.length < 1000) (h : ∀ h' l', Ov s.heap h' → Ls h' l' vs → s.heap.objs.size ≤ l' → Q (.ref l') { s with heap := h' }) : wpAny (model prog w) A (newList vs) Q E s :=
  wpAny_newList (h _ _ (.push _) ⟨0, Heap.get?_push_size _ rfl⟩ (Nat.le_refl _)) (by rw [sizeLine_eq]; lia)

theorem sumL {l : Addr} {vs : List Value} {ns : List Int} (hh : A.handled = none) (hl : s.heap.IsList l vs.toArray) (hI : IntsAre vs ns)
    (h : ∀ h' tk t, (∀ b o, s.heap.get? b = some o → h'.get? b = some o) → Q (.int ns.sum t) { s with heap := h', toks := tk }) :
    wpAny (model prog w) A (call (.builtin "sum") [.ref l]) Q E s := by
  have hall := hI.allInts
  have hn := hI.numsOf
  obtain ⟨xs, e⟩ := hall.items
  have hn2 : numsOf (intItems xs).toList = ns := by rw [← e]; exact hn
  rw [nums_intItems] at hn2
  rw [e] at hl
  refine sum_intListG hh hl fun h' tk t' hk => ?_
  have := h h' tk t' hk
  rw [preSum_eq, List.take_of_length_le (by simp)]
  rw [← hn2] at this
  exact this
end
end Mine
end

section
open PySem PySem.W PyProof.Rows PySem.Calls
set_option maxRecDepth 100000
set_option maxHeartbeats 1000000
namespace Mine

def lift (ns : List Int) (p : Nat) : List Int := ns ++ List.replicate (ns.length - (2 * p + 1)) (-1) ++ List.replicate (2 * p + 1 - ns.length) 16
theorem intsAre_rep (x : Int) (t : Tok) : ∀ k : Nat, IntsAre (List.replicate k (.int x t)) (List.replicate k x)
  | 0 => .nil
  | k + 1 => .cons _ _ (intsAre_rep x t k)

theorem lifted_spec {prog : Program} {w : World} {A : Around} {s : Shared} {H : Heap} {R : Result → Shared → Prop} {l : Addr} {vs : List Value} {ns : List Int} {p : Nat} {u : Tok}
    (hB : Bs w H) (hO : Ov H s.heap) (hl : Ls s.heap l vs) (hI : IntsAre vs ns) (h64 : ns.length < 64) (hp : p < 64) (hroom : A.depth < recursionLimit)
    (h : ∀ h' tk l' ws, Ov s.heap h' → Ls h' l' ws → IntsAre ws (lift ns p) → R (.ok (.ret (.ref l'))) { s with heap := h', toks := tk }) :
    codeAny (model prog w) A (.call (.ref 133) ⟨[.ref l, .int p u], []⟩) R s := by
  refine enter (binds := [("row", .ref l), ("place", .int p u)]) hB hO (by rfl) (by rfl) hroom (BindsTo.of_eq rfl) (locs rfl) (by decide) fun h₁ F O => ?_
  have X : Fo H s.heap s.heap.objs.size h₁ _ := ⟨F, O, Nat.le_refl _, hO.sz⟩
  have hlL : l ≠ s.heap.objs.size := Nat.ne_of_lt hl.lt
  have hvl := hI.length
  have q1 : ((ns.length : Int) - (2 * (p : Int) + 1)).toNat = ns.length - (2 * p + 1) := by lia
  have q2 : (-((ns.length : Int) - (2 * (p : Int) + 1))).toNat = 2 * p + 1 - ns.length := by lia
  have a1 : ns.length < 1000 := by lia
  have a2 : vs.length < 1000 := by lia
  have a3 : -1000 ≤ (ns.length : Int) - (2 * (p : Int) + 1) := by lia
  have a4 : (ns.length : Int) - (2 * (p : Int) + 1) < 1000 := by lia
  have a5 : -1000 ≤ -((ns.length : Int) - (2 * (p : Int) + 1)) := by lia
  have a6 : -((ns.length : Int) - (2 * (p : Int) + 1)) < 1000 := by lia
  have a7 : (ns.length : Int) - 2 * (p : Int) - 1 = (ns.length : Int) - (2 * (p : Int) + 1) := by lia
  have a8 : ∀ v : Value, (List.replicate ((ns.length : Int) - (2 * (p : Int) + 1)).toNat v).length < 1000 := fun v => by rw [List.length_replicate]; lia
  have a9 : ∀ v : Value, (List.replicate (-((ns.length : Int) - (2 * (p : Int) + 1))).toNat v).length < 1000 := fun v => by rw [List.length_replicate]; lia
  have a10 : ∀ v : Value, (vs ++ List.replicate ((ns.length : Int) - (2 * (p : Int) + 1)).toNat v).length < 1000 := fun v => by rw [List.length_append, List.length_replicate]; lia
  have hone : ∀ v : Value, [v].length < 1000 := fun _ => Nat.lt_of_le_of_lt (Nat.le_refl 1) (Nat.lt_of_sub_pos (Nat.le_of_ble_eq_true rfl))
  have ls1 := hl.grow O
  refine wpAny_execs_cons (wpAny_Assign_Name (wpAny_BinOp (wpAny_BinOp (bcall hB X.F (spliced_more (ld X.F rfl (spliced_none (lenN (n := ns.length) ls1.il hvl a1 fun tk1 t1 => ?_))))))))
  refine wpAny_BinOp (wpAny_Constant_int (ld X.F rfl (mul_int (subI (c := (ns.length : Int) - 2 * (p : Int)) rfl fun tk2 t2 => wpAny_Constant_int (subI (c := (ns.length : Int) - (2 * (p : Int) + 1)) a7 fun tk3 t3 => ?_)) (by mul_fits))))
  refine X.st fun h2 X2 sb2 => ?_
  have ls2 := ls1.same sb2 hlL
  refine wpAny_execs_cons (wpAny_Return_some (wpAny_BinOp (wpAny_BinOp (ld X2.F rfl ?_))))
  refine wpAny_BinOp (List_ (spliced_more (wpAny_UnaryOp (wpAny_Constant_int (neg_int (spliced_none (newL (hone _) fun h3 l3 o3 ls3 hl3 => ?_))))))) 
  have X3 := X2.grow o3
  dsimp only
  refine ld X3.F rfl (mulL X3 ls3 a3 a4 fun h4 l4 X4 e4 ls4 hl4 => ?_)
  have ls24 := (ls2.grow o3).ext e4 hlL
  refine addL X4 ls24 ls4 a2 (a8 _) fun h5 l5 X5 e5 ls5 hl5 => ?_
  refine wpAny_BinOp (List_ (spliced_more (wpAny_Constant_int (spliced_none (newL (hone _) fun h6 l6 o6 ls6 hl6 => ?_)))))
  have X6 := X5.grow o6
  dsimp only
  have hL5 : l5 ≠ s.heap.objs.size := Nat.ne_of_gt (Nat.lt_of_lt_of_le X4.F.ns.lt hl5)
  refine wpAny_UnaryOp (ld X6.F rfl (neg_int (mulL X6 ls6 a5 a6 fun h7 l7 X7 e7 ls7 hl7 => ?_)))
  have ls57 := (ls5.grow o6).ext e7 hL5
  refine addL X7 ls57 ls7 (a10 _) (a9 _) fun h8 l8 X8 e8 ls8 hl8 => ?_
  dsimp only
  refine h _ _ _ _ X8.o ls8 ?_
  unfold lift
  rw [q1, q2]
  exact (hI.append (intsAre_rep _ _ _)).append (intsAre_rep _ _ _)
end Mine
end

section
open PySem PySem.W PyProof.Rows PySem.Calls
set_option maxRecDepth 100000
set_option maxHeartbeats 1000000
namespace Mine

def pV (pz : Int → Bool) : Value → Bool
  | .int n _ => pz n
  | _ => false
def fV (f : Int → Int) (v y : Value) : Prop := ∃ n t u, v = .int n t ∧ y = .int (f n) u

theorem intsAre_of_getD : ∀ (vs : List Value) (gs : List Int), vs.length = gs.length → (∀ (j : Nat) (v : Value), vs[j]? = some v → ∃ t, v = .int (gs.getD j 0) t) → IntsAre vs gs
  | [], [], _, _ => .nil
  | [], _ :: _, h, _ => by cases h
  | _ :: _, [], h, _ => by cases h
  | v :: vs, g :: gs, h, k => by
    obtain ⟨t, rfl⟩ := k 0 v rfl
    exact .cons _ _ (intsAre_of_getD vs gs (by simpa using h) fun j u e => by simpa using k (j + 1) u (by simpa using e))
theorem paired_ints {pz : Int → Bool} {f : Int → Int} : ∀ {vs : List Value} {gs : List Int} {ys : List Value}, IntsAre vs gs → Paired (fV f) (vs.filter (pV pz)) ys → IntsAre ys ((gs.filter pz).map f) := by
  intro vs gs ys h
  induction h generalizing ys with
  | nil => intro q; cases q; exact .nil
  | cons n t _ ih =>
    intro q
    rw [List.filter_cons] at q ⊢
    cases hp : pz n with
    | true =>
      rw [if_pos (show pV pz (.int n t) = true from hp)] at q
      rw [if_pos rfl]
      cases q with
      | cons hF hr =>
        obtain ⟨n', t', u, e, rfl⟩ := hF
        cases e
        exact .cons _ _ (ih hr)
    | false =>
      rw [if_neg (show ¬ pV pz (.int n t) = true by simp [pV, hp])] at q
      rw [if_neg (by simp)]
      exact ih q

section
variable {prog : Program} {w : World} {A : Around} {E : Value → Shared → Prop} {s : Shared} {env : Env}

/-- a quiet comprehension of ints over a source of ints -/
theorem qcomp {elt iter : Expr} {x : Str} {px : Pos} {ifs : List Expr} {scope : Scope} {cl : List (Str × Addr)} {pos : Pos} {Q : Value → Shared → Prop} (gs : List Int) (pz : Int → Bool) (f : Int → Int)
    (hclos : closureFor scope env = pure cl) (hcell : ∀ y ∈ scope.names, y.2 ≠ .cell) (hkind : scope.kind = .function)
    (hnames : ∀ y ∈ scope.names, y.2 = .local → scope.names.lookup y.1 = some .local) (hx : scope.names.lookup x = some .local) (hsz : gs.length < 1000)
    (h : wpAny (model prog w) A (eval iter env) (fun xv s₁ => wpAny (model prog w) A (pyIter xv) (fun it s₂ => ∃ I fp wr P St, it = .ref I ∧ Walks prog w A I fp wr gs.length P St ∧ St 0 s₂.heap ∧ (∀ b ∈ fp, b < s₂.heap.objs.size) ∧
      (∀ b ∈ wr, s.heap.get? b = none) ∧ (∀ b o, s.heap.get? b = some o → s₂.heap.get? b = some o) ∧ (∃ h tk, s₂ = { s with heap := h, toks := tk }) ∧ (∀ i v, P i v → ∃ t, v = .int (gs.getD i 0) t ∧ gs.getD i 0 ∈ gs)) E s₁) E s)
    (tests : ∀ C n t s₃ m₃ E', s.heap.get? C = none → s₃.heap.Ns C m₃ → m₃ x = some (.int n t) → n ∈ gs → (∀ b o, s.heap.get? b = some o → s₃.heap.get? b = some o) →
      wpAny (model prog w) A (forIn ifs true fun c r => if r = true then do let ok ← isTrue c (compEnvC scope cl C env) (eval c (compEnvC scope cl C env)); pure (ForInStep.yield ok) else pure (ForInStep.yield r))
      (fun ok s₄ => ok = pz n ∧ Keeps s₃ s₄) E' s₃)
    (el : ∀ C n t s₃ m₃ E', s.heap.get? C = none → s₃.heap.Ns C m₃ → m₃ x = some (.int n t) → n ∈ gs → (∀ b o, s.heap.get? b = some o → s₃.heap.get? b = some o) →
      wpAny (model prog w) A (eval elt (compEnvC scope cl C env)) (fun y s₄ => (∃ u, y = .int (f n) u) ∧ Keeps s₃ s₄) E' s₃)
    (hQ : ∀ D h' tk ws, s.heap.get? D = none → Ls h' D ws → IntsAre ws ((gs.filter pz).map f) → (∀ b o, s.heap.get? b = some o → h'.get? b = some o) → Q (.ref D) { s with heap := h', toks := tk })
    (hs : ∀ x, foldedSetIterable iter env x = pure x := by intro _; rfl) :
    wpAny (model prog w) A (eval (.ListComp elt [⟨.Name x px, iter, ifs, 0⟩] scope pos) env) Q E s := by
  refine wpAny_ListComp_free (pV pz) (fV f) hclos hcell hkind hnames hx (wpAny_mono h (fun xv s₁ h₁ => wpAny_mono h₁ (fun it s₂ h₂ => ?_) fun _ _ e => e) fun _ _ e => e) hs
  obtain ⟨I, fp, wr, P, St, rfl, W, hst, hfp, hwr, hk, ⟨h2, tk2, rfl⟩, hP⟩ := h₂
  have hwk : ∀ {h3 : Heap}, (∀ b o, b ∉ wr → h2.get? b = some o → h3.get? b = some o) → ∀ b o, s.heap.get? b = some o → h3.get? b = some o := fun q b o e => q b o (fun hb => by rw [hwr b hb] at e; cases e) (hk b o e)
  have hC : ∀ C, h2.objs.size ≤ C → s.heap.get? C = none := fun C hC => by
    cases q : s.heap.get? C with
    | none => rfl
    | some o => exact absurd (Heap.lt_size (hk C o q)) (Nat.not_lt.mpr hC)
  refine ⟨I, fp, wr, gs.length, P, St, rfl, W, by rw [sizeLine_eq]; lia, hst, hfp, ⟨?_, ?_⟩, ?_⟩
  · intro C i v s₃ m₃ E' hCs hv hn hm hkk _
    obtain ⟨t, rfl, hmem⟩ := hP i v hv
    exact tests C _ t s₃ m₃ E' (hC C hCs) hn hm hmem (hwk hkk)
  · intro C i v s₃ m₃ E' hCs hv _ hn hm hkk _
    obtain ⟨t, rfl, hmem⟩ := hP i v hv
    exact wpAny_mono (el C _ t s₃ m₃ E' (hC C hCs) hn hm hmem (hwk hkk)) (fun y s₄ q => ⟨let ⟨u, e⟩ := q.1; ⟨_, _, u, rfl, e⟩, q.2⟩) fun _ _ e => e
  · intro D h' tk ys vs' hD _ hpl hlen hPj hpair hkk
    obtain ⟨n, e⟩ := hpl
    have hD' : s.heap.get? D = none := by
      cases q : s.heap.get? D with
      | none => rfl
      | some o => have := hk D o q; rw [hD] at this; cases this
    refine hQ D h' tk ys.toList hD' ⟨n, by simpa using e⟩ (paired_ints (intsAre_of_getD vs' gs hlen fun j v q => ?_) hpair) (hwk hkk)
    obtain ⟨t, e, _⟩ := hP j v (hPj j v q)
    exact ⟨t, e⟩

/-- its source: a list -/
theorem srcL {src : Addr} {vs : List Value} {gs : List Int} {s₁ : Shared} (hh : A.handled = none) (hl : s₁.heap.IsList src vs.toArray) (hI : IntsAre vs gs) (hs1 : ∃ tk, s₁ = { s with toks := tk }) :
    wpAny (model prog w) A (pyIter (.ref src)) (fun it s₂ => ∃ I fp wr P St, it = .ref I ∧ Walks prog w A I fp wr gs.length P St ∧ St 0 s₂.heap ∧ (∀ b ∈ fp, b < s₂.heap.objs.size) ∧
      (∀ b ∈ wr, s.heap.get? b = none) ∧ (∀ b o, s.heap.get? b = some o → s₂.heap.get? b = some o) ∧ (∃ h tk, s₂ = { s with heap := h, toks := tk }) ∧ (∀ i v, P i v → ∃ t, v = .int (gs.getD i 0) t ∧ gs.getD i 0 ∈ gs)) E s₁ := by
  obtain ⟨tk, rfl⟩ := hs1
  have hlt : src < s.heap.objs.size := isList_lt hl
  have W := Walks.list (prog := prog) (w := w) hh s.heap.objs.size src (Nat.ne_of_lt hlt) vs.toArray
  rw [show vs.toArray.size = gs.length by rw [List.size_toArray, hI.length]] at W
  refine wpAny_pyIter_list hl ⟨s.heap.objs.size, _, _, _, _, rfl, W, ⟨⟨_, Heap.get?_push_size _ rfl, rfl, rfl⟩, isList_grow hl (.push _)⟩, ?_, ?_, fun b o e => Heap.get?_push_of_some _ e, ⟨_, _, rfl⟩, ?_⟩
  · intro b hb
    rw [size_push']
    simp at hb
    rcases hb with rfl | rfl
    · exact Nat.lt_succ_self _
    · exact Nat.lt_succ_of_lt hlt
  · intro b hb
    simp at hb
    subst hb
    cases q : s.heap.get? s.heap.objs.size with
    | none => rfl
    | some o => exact absurd (Heap.lt_size q) (Nat.lt_irrefl _)
  · intro i v hv
    have hv' : vs[i]? = some v := by simpa using hv
    obtain ⟨t, e⟩ := IntsAre.int_at hI i v hv'
    have hi : i < gs.length := by
      rw [← hI.length]
      exact (List.getElem?_eq_some_iff.mp hv').1
    exact ⟨t, e, by simp [hi]⟩
end
end Mine
end

section
open PySem PySem.W PyProof.Rows PySem.Calls
set_option maxRecDepth 100000
set_option maxHeartbeats 1000000
namespace Mine

def far (p : Int) (n : Int) : Int := if n - p < 0 then -(n - p) else n - p

theorem Keeps.refl' (s : Shared) : Keeps s s := ⟨s.heap, s.toks, rfl, fun _ _ e => e⟩
theorem Keeps.tk {s : Shared} {tk : Nat} : Keeps s { s with toks := tk } := ⟨s.heap, tk, rfl, fun _ _ e => e⟩

theorem paid_spec {prog : Program} {w : World} {A : Around} {s : Shared} {H : Heap} {R : Result → Shared → Prop} {l : Addr} {vs : List Value} {ns : List Int} {p : Int} {u : Tok}
    (hB : Bs w H) (hO : Ov H s.heap) (hl : s.heap.IsList l vs.toArray) (hI : IntsAre vs ns) (h64 : ns.length < 64) (hh : A.handled = none) (hroom : A.depth < recursionLimit)
    (h : ∀ h' tk t, Ov s.heap h' → R (.ok (.ret (.int (ns.map (far p)).sum t))) { s with heap := h', toks := tk }) :
    codeAny (model prog w) A (.call (.ref 138) ⟨[.ref l, .int p u], []⟩) R s := by
  refine enterC (binds := [("row", .ref l), ("point", .int p u)]) hB hO (by rfl) (by rfl) hroom (BindsTo.of_eq rfl) (by rfl) fun h₁ tk₁ X hc => ?_
  have hc1 : h₁.IsCell (s.heap.objs.size + 1) (some (.int p u)) := hc "point" _ rfl
  have hl1 := isList_grow hl X.o
  refine wpAny_execs_cons (wpAny_Return_some (bcallE hB X.ov.st (spliced_more ?_)))
  refine qcomp ns (fun _ => true) (far p) (cl := [("point", s.heap.objs.size + 1)]) (by rfl) (by decide) rfl (by decide) rfl (by lia) (ldE X.F.ns rfl (srcL hh hl1 hI ⟨_, rfl⟩)) ?_ ?_ ?_
  · intro C n t s₃ m₃ E' _ _ _ _ _
    exact wpAny_tests_nil ⟨rfl, Keeps.refl' _⟩
  · intro C n t s₃ m₃ E' hC hn hm hmem hk
    refine bcallE hB (fun b o e => hk b o (X.ov.st b o e)) (spliced_more (wpAny_BinOp (ldE hn hm (lcE (hc1.keeps hk) (sub_int (spliced_none (call_abs_int fun u tk => ⟨⟨_, rfl⟩, Keeps.tk⟩)))))))
  · intro D h' tk ws hD ls hIw hk
    have e : (ns.filter fun _ => true).map (far p) = ns.map (far p) := by rw [List.filter_eq_self.mpr fun _ _ => rfl]
    rw [e] at hIw
    refine spliced_none (sumL hh ls.il hIw fun h2 tk2 t2 hk2 => ?_)
    exact h _ _ _ ((X.growG hk).growG hk2).o
end Mine
end

section
open PySem PySem.W PyProof.Rows PySem.Calls
set_option maxRecDepth 100000
set_option maxHeartbeats 1000000
namespace Mine

section
variable {prog : Program} {w : World} {A : Around} {E : Value → Shared → Prop} {s : Shared} {env : Env}

theorem newEnvC {M : Model} {scope : Scope} {x a b c : Str} {g : Addr} {cl : List (Str × Addr)} {q : Str} {Q : Env → Shared → Prop} (hn : scope.names = [(a, .local), (x, .cell), (b, .globalImplicit), (c, .free)])
    (h : ∀ h', Ov s.heap h' → h'.Ns s.heap.objs.size (fun _ => none) → h'.IsCell (s.heap.objs.size + 1) none →
      Q { scope, locals := s.heap.objs.size, globals := g, cells := (x, s.heap.objs.size + 1) :: cl, qual := q, func := none, code := env.code, frame := env.frame, builtins := env.builtins } { s with heap := h' }) :
    wpAny M A (newFunctionEnv scope g cl [] q none .none (some env)) Q E s := by
  unfold newFunctionEnv
  rw [hn]
  refine wpAny_bind (wpAny_alloc ?_)
  simp only [List.forIn_cons, List.forIn_nil]
  have k1 : (NameKind.local == NameKind.cell) = false := rfl
  have k2 : (NameKind.cell == NameKind.cell) = true := rfl
  have k3 : (NameKind.globalImplicit == NameKind.cell) = false := rfl
  have k4 : (NameKind.free == NameKind.cell) = false := rfl
  simp only [k1, k2, k3, k4, if_true, Bool.false_eq_true, if_false, pure_bind, bind_assoc]
  refine wpAny_bind (wpAny_alloc (wpAny_pure ?_))
  have sz : (s.heap.push { cls := Value.type (if (some env).isSome = true then "dict" else "frame"), data := Data.dict #[] }).objs.size = s.heap.objs.size + 1 := size_push' _ _
  dsimp only at sz ⊢
  rw [sz]
  refine h _ ((Ov.push _).trans (.push _)) ⟨_, #[], 0, Heap.get?_push_of_some _ (Heap.get?_push_size _ rfl), rfl, ?_, fun _ => rfl⟩ ⟨{ cls := Value.type "cell", data := Data.cell none }, ?_, rfl⟩
  · intro e he; simp at he
  · rw [← sz]; exact Heap.get?_push_size _ rfl

/-- a comprehension whose own name is a cell -/
theorem lcompC {elt target iter : Expr} {ifs : List Expr} {scope : Scope} {cl : List (Str × Addr)} {pos : Pos} {Q : Value → Shared → Prop} {x a b c : Str}
    (hclos : closureFor scope env = pure cl) (hn4 : scope.names = [(a, .local), (x, .cell), (b, .globalImplicit), (c, .free)]) (hkind : scope.kind = .function)
    (hnames : ∀ y ∈ scope.names, y.2 = .local → scope.names.lookup y.1 = some .local)
    (h : wpAny (model prog w) A (eval iter env) (fun xv s₁ => wpAny (model prog w) A (pyIter xv) (fun it s₂ =>
      (∀ h₃, Ov s₂.heap h₃ → ∀ (E' : Value → Shared → Prop) (Q' : Value → Shared → Prop), Q' it { s₂ with heap := h₃ } → wpAny (model prog w) A (pyIter it) Q' E' { s₂ with heap := h₃ }) ∧
      ∀ h₃ D C, Ov s₂.heap h₃ → s₂.heap.objs.size ≤ D → D < C → Ls h₃ D [] → h₃.Ns C (fun _ => none) → h₃.IsCell (C + 1) none →
        codeAny (model prog w) A (.compLoop (.ListComp elt [⟨target, iter, ifs, 0⟩] scope pos) 0 it (.ref D) (compEnvC scope ((x, C + 1) :: cl) C env))
          (fun r s' => r = .ok .next ∧ ∃ m, s'.heap.Ns C m ∧ ∀ h', Heap.SameBut C s'.heap h' → Q (.ref D) { s' with heap := h' }) { s₂ with heap := h₃ }) E s₁) E s)
    (hs : ∀ x, foldedSetIterable iter env x = pure x := by intro _; rfl) :
    wpAny (model prog w) A (eval (.ListComp elt [⟨target, iter, ifs, 0⟩] scope pos) env) Q E s := by
  rw [eval_ListComp]
  refine wpAny_comprehension_free (use := none) rfl hs hclos hkind hnames (wpAny_mono h (fun xv s₁ h₁ => wpAny_mono h₁ (fun it s₂ h₂ => ?_) fun _ _ e => e) fun _ _ e => e)
  obtain ⟨hself, hloop⟩ := h₂
  refine newL (Nat.lt_of_sub_pos (Nat.le_of_ble_eq_true rfl)) fun h3 D o3 ls3 hD => ?_
  refine newEnvC (env := env) hn4 fun h4 o4 ns4 c4 => ?_
  have loop := hloop h4 D h3.objs.size (o3.trans o4) hD ls3.lt (ls3.grow o4) ns4 c4
  have loop' : codeAny (model prog w) A (.compLoop (.ListComp elt [⟨target, iter, ifs, 0⟩] scope pos) 0 it (.ref D) (compEnvC scope ((x, h3.objs.size + 1) :: cl) h3.objs.size env))
      (compPost (model prog w) A E none Q (.ref D) h3.objs.size) { s₂ with heap := h4 } :=
    codeAny_mono loop fun r s' hr => by obtain ⟨rfl, hr⟩ := hr; exact hr
  exact codeAny_compStart_list loop' (hself h4 (o3.trans o4) _ _ loop')
end
end Mine
end

section
open PySem PySem.W PyProof.Rows PySem.Calls
set_option maxRecDepth 100000
set_option maxHeartbeats 1000000
namespace Mine

theorem intsAre_snoc {vs : List Value} {ns : List Int} {n : Int} {t : Tok} (h : IntsAre vs ns) : IntsAre (vs ++ [.int n t]) (ns ++ [n]) := h.append (.cons _ _ .nil)

/-- the turns of «[.. for x in range(N)]», x a cell -/
theorem idxLoop {prog : Program} {w : World} {A : Around} {s : Shared} {h3 : Heap} {elt iter : Expr} {x : Str} {px : Pos} {scope : Scope} {pos : Pos} {env : Env} {C D it : Addr} {N : Nat} {R : Result → Shared → Prop} (g : Nat → Int)
    (hx : env.kindOf x = some .cell) (hk : env.scope.kind = .function) (hl : env.cells.lookup x = some (C + 1)) (hh : A.handled = none) (hN : N < 1000)
    (hit : IsRangeIter h3 it 0 N 1) (hD : Ls h3 D []) (hc : h3.IsCell (C + 1) none) (n1 : it ≠ D) (n2 : it ≠ C + 1) (n3 : D ≠ C + 1)
    (el : ∀ (i : Nat) t (s₃ : Shared) (E' : Value → Shared → Prop), i < N → (∀ b o, b ≠ it → b ≠ C + 1 → b ≠ D → h3.get? b = some o → s₃.heap.get? b = some o) → s₃.heap.IsCell (C + 1) (some (.int i t)) →
      wpAny (model prog w) A (eval elt env) (fun y s₄ => (∃ u, y = .int (g i) u) ∧ Keeps s₃ s₄) E' s₃)
    (hR : ∀ h' tk ys, IntsAre ys ((List.range N).map g) → Ls h' D ys → (∀ b o, b ≠ it → b ≠ C + 1 → b ≠ D → h3.get? b = some o → h'.get? b = some o) → R (.ok .next) { s with heap := h', toks := tk }) :
    codeAny (model prog w) A (.compLoop (.ListComp elt [⟨.Name x px, iter, [], 0⟩] scope pos) 0 (.ref it) (.ref D) env) R { s with heap := h3 } := by
  refine codeAny_compLoop_tests (fun k s' => ∃ h' tk i ys v0, s' = { s with heap := h', toks := tk } ∧ (∀ b o, b ≠ it → b ≠ C + 1 → b ≠ D → h3.get? b = some o → h'.get? b = some o) ∧
    IsRangeIter h' it (i : Nat) ((N : Int) - (i : Nat)) 1 ∧ Ls h' D ys ∧ IntsAre ys ((List.range i).map g) ∧ h'.IsCell (C + 1) v0 ∧ i ≤ N ∧ k = N - i) ?turn N
    ⟨h3, s.toks, 0, [], none, rfl, fun _ _ _ _ _ e => e, by simpa using hit, hD, .nil, hc, Nat.zero_le _, rfl⟩
  rintro k s' ⟨h', tk, i, ys, v0, rfl, K, hit', ls, hI, hc', hi, rfl⟩
  by_cases hlt : i < N
  · refine wpAny_pyNext_range_item hit' (by lia) fun h4 hit4 sb4 => ?_
    refine wpAny_assign_Name (wpAny_storeName_cell hk hx hl (let ⟨o, e, d⟩ := hc'; ⟨o, (sb4.2 _ (Ne.symm n2)).trans e, d⟩) fun h5 c5 sb5 => ?_)
    refine wpAny_tests_nil (ift ?_)
    refine wpAny_mono (el i tk _ _ hlt (fun b o q1 q2 q3 e => (sb5.2 b q2).trans ((sb4.2 b q1).trans (K b o q1 q2 q3 e))) c5) (fun y s6 q => ?_) fun _ _ e => e
    obtain ⟨⟨u, rfl⟩, h6, tk6, rfl, hk6⟩ := q
    have ls6 : Ls h6 D ys := ((ls.same sb4 (Ne.symm n1)).same sb5 n3).at fun _ e => hk6 D _ e
    have hyl : ys.length = i := by rw [hI.length]; simp
    refine appendAt ls6 (by lia) fun h7 ls7 sb7 => ?_
    refine ⟨N - (i + 1), by lia, h7, _, i + 1, _, some (.int i tk), rfl, fun b o q1 q2 q3 e => (sb7.2 b q3).trans (hk6 b o ((sb5.2 b q2).trans ((sb4.2 b q1).trans (K b o q1 q2 q3 e)))), ?_, ls7, ?_, ?_, hlt, rfl⟩
    · have e := (sb7.2 it n1).trans (hk6 it _ ((sb5.2 it n2).trans hit4))
      rw [show ((i : Nat) : Int) + 1 = ((i + 1 : Nat) : Int) by lia, show (N : Int) - (i : Nat) - 1 = (N : Int) - ((i + 1 : Nat) : Int) by lia] at e
      exact e
    · rw [List.range_succ, List.map_append]; exact intsAre_snoc hI
    · obtain ⟨o, e, d⟩ := c5
      exact ⟨o, (sb7.2 _ (Ne.symm n3)).trans (hk6 _ _ e), d⟩
  · obtain rfl : i = N := by lia
    refine wpAny_pyNext_range_end hh hit' (by lia) fun h4 e4 => ?_
    exact hR h4 _ ys hI (ls.ext e4 (Ne.symm n1)) fun b o q1 q2 q3 e => e4 b o q1 (K b o q1 q2 q3 e)
end Mine
end

section
open PySem PySem.W PyProof.Rows PySem.Calls
set_option maxRecDepth 100000
set_option maxHeartbeats 1000000
namespace Mine

theorem leN {a b : Nat} (h : a ≤ b) : a ≤ b := h
def cnt (ns : List Int) (k : Nat) : Int := ((ns.filter fun n => decide (n ≤ (k : Int))).length : Nat)
def counts (ns : List Int) : List Int := (List.range 16).map (cnt ns)
def rising (ns : List Int) : List Int := (List.range ns.length).map (cnt (counts ns))

theorem rising_spec {prog : Program} {w : World} {A : Around} {s : Shared} {H : Heap} {R : Result → Shared → Prop} {l : Addr} {vs : List Value} {ns : List Int}
    (hB : Bs w H) (hO : Ov H s.heap) (hl : s.heap.IsList l vs.toArray) (hI : IntsAre vs ns) (h64 : ns.length < 64) (hh : A.handled = none) (hroom : A.depth < recursionLimit)
    (h : ∀ h' tk l' ws, Ov s.heap h' → Ls h' l' ws → IntsAre ws (rising ns) → R (.ok (.ret (.ref l'))) { s with heap := h', toks := tk }) :
    codeAny (model prog w) A (.call (.ref 121) ⟨[.ref l], []⟩) R s := by
  refine enterC (binds := [("row", .ref l)]) hB hO (by rfl) (by rfl) hroom (BindsTo.of_eq rfl) (by rfl) fun h₁ tk₁ X hc => ?_
  have c1 : h₁.IsCell (s.heap.objs.size + 1) (some (.ref l)) := hc "row" _ rfl
  have c2 : h₁.IsCell (s.heap.objs.size + 2) none := hc "counts" _ rfl
  have hl1 := isList_grow hl X.o
  have hb1 : s.heap.objs.size + 2 < h₁.objs.size := let ⟨_, e, _⟩ := c2; Heap.lt_size e
  have hvl := hI.length
  refine wpAny_execs_cons (wpAny_Assign_Name (lcompC (x := "step") (cl := [("row", s.heap.objs.size + 1)]) (by rfl) (by rfl) rfl (by decide) ?_))
  refine tcallE hB X.ov.st (spliced_more (wpAny_Constant_int (spliced_none (range1 fun h2 tk2 r t2 u2 v2 o2 hr2 _ => ?_))))
  refine iterRange hr2 (by decide +kernel) fun h3 it o3 hit3 hi3 => ?_
  refine ⟨fun h4 o4 E' Q' q => wpAny_pyIter_rangeiter (o4.st _ _ hit3) q, fun h4 D C o4 hD hDC ls4 ns4 c4 => ?_⟩
  dsimp only
  have hh2 := o2.sz
  have hh3 := o3.sz
  dsimp only at hi3 hh2 hh3 hD
  have hitD := ltN (Nat.lt_of_lt_of_le (Heap.lt_size hit3) hD)
  have hDC' := ltN hDC
  have hi1 := leN (Nat.le_trans hh2 hi3)
  have O14 := (o2.trans o3).trans o4
  refine idxLoop (s := { s with toks := tk2 }) (N := 16) (C := C) (cnt ns) (by rfl) (by rfl) (by rfl) hh (by decide) (o4.st _ _ hit3) ls4 c4 (neN (by lia)) (neN (by lia)) (neN (by lia)) ?_ ?_
  · intro i t s5 E' hi K hc5
    have K1 : ∀ b o, h₁.get? b = some o → s5.heap.get? b = some o := fun b o e => K b o (neN (by have := ltN (Heap.lt_size e); lia)) (neN (by have := ltN (Heap.lt_size e); lia)) (neN (by have := ltN (Heap.lt_size e); lia)) (O14.st b o e)
    refine bcallE hB (fun b o e => K1 b o (X.ov.st b o e)) (spliced_more ?_)
    refine qcomp ns (fun n => decide (n ≤ (i : Int))) (fun n => n) (cl := [("step", C + 1)]) (by rfl) (by decide) rfl (by decide) rfl (by lia) (lcE (c1.keeps K1) (srcL hh ((isList_grow hl X.o).at fun o e => K1 _ o e) hI ⟨_, rfl⟩)) ?_ ?_ ?_
    · intro C' n t' s₃ m₃ E'' hC' hn hm hmem hk
      exact wpAny_tests_one (wpAny_isTrue_Compare1 (ldE hn hm (lcE (hc5.keeps hk) (le_int (wpAny_truthy_bool ⟨rfl, Keeps.refl' _⟩)))))
    · intro C' n t' s₃ m₃ E'' hC' hn hm hmem hk
      exact ldE hn hm ⟨⟨_, rfl⟩, Keeps.refl' _⟩
    · intro D' h' tk ws hD' ls' hIw hk
      refine spliced_none (lenN (n := (ns.filter fun n => decide (n ≤ (i : Int))).length) ls'.il (by rw [hIw.length, List.length_map]) (Nat.lt_of_le_of_lt (List.length_filter_le _ _) (by lia)) fun tk6 t6 => ?_)
      exact ⟨⟨_, rfl⟩, h', tk6, rfl, hk⟩
  · intro h5 tk5 ys hIy ls5 K
    have K1 : ∀ b o, h₁.get? b = some o → h5.get? b = some o := fun b o e => K b o (neN (by have := ltN (Heap.lt_size e); lia)) (neN (by have := ltN (Heap.lt_size e); lia)) (neN (by have := ltN (Heap.lt_size e); lia)) (O14.st b o e)
    have hC5 : h5.Ns C (fun _ => none) := let ⟨o, es, ep, e, r⟩ := ns4; ⟨o, es, ep, K C o (neN (by lia)) (neN (by lia)) (neN (by lia)) e, r⟩
    refine ⟨rfl, _, hC5, fun h6 sb6 => ?_⟩
    dsimp only at sb6 ⊢
    have hCne : ∀ b o, h₁.get? b = some o → b ≠ C := fun b o e => neN (by have := ltN (Heap.lt_size e); lia)
    have X6 := X.growG fun b o e => (sb6.2 b (hCne b o e)).trans (K1 b o e)
    have ls6 := ls5.same sb6 (neN (by lia))
    have k16 : ∀ b o, h₁.get? b = some o → h6.get? b = some o := fun b o e => (sb6.2 b (hCne b o e)).trans (K1 b o e)
    refine X6.stC (c2.keeps k16) (Nat.le_succ_of_le (Nat.le_succ _)) (show s.heap.objs.size + 2 ≠ s.heap.objs.size from Nat.ne_of_gt (Nat.lt_succ_of_lt (Nat.lt_succ_self _))) fun h7 X7 c27 sb7 => ?_
    have hlt := isList_lt hl
    have c17 : h7.IsCell (s.heap.objs.size + 1) (some (.ref l)) := let ⟨o, e, d⟩ := c1.keeps k16; ⟨o, (sb7.2 _ (neN (by lia))).trans e, d⟩
    have hl7 : h7.IsList l vs.toArray := (hl1.at fun o e => k16 _ o e).at fun o e => (sb7.2 _ (neN (by have := ltN hlt; lia))).trans e
    have lsD : Ls h7 D ys := ls6.same sb7 (neN (by lia))
    have hb7 : s.heap.objs.size + 2 < h7.objs.size := let ⟨_, e, _⟩ := c27; Heap.lt_size e
    have hD7 := ltN lsD.lt
    clear K K1 k16 hCne X6 ls6 sb6 sb7 hC5 ls5 ns4 c4 ls4 O14 o4 o3 o2 hit3 hr2 hi3 hD hDC hitD hDC' hi1 hh2 hh3 hb1 c1 c2 X hc hl1
    have hcl : (counts ns).length = 16 := by simp [counts]
    dsimp only
    refine wpAny_execs_cons (wpAny_Return_some (lcompC (x := "place") (cl := [("counts", s.heap.objs.size + 2)]) (by rfl) (by rfl) rfl (by decide) ?_))
    refine tcallE hB X7.ov.st (spliced_more (bcallE hB X7.ov.st (spliced_more (lcE c17 (spliced_none (lenN hl7 hvl (by lia) fun tk8 t8 => ?_))))))
    refine spliced_none (range1 fun h8 tk8 r t8 u8 v8 o8 hr8 _ => ?_)
    refine iterRange hr8 (small_one (by lia) (by lia) (by lia) (by lia)) fun h9 it o9 hit9 hi9 => ?_
    refine ⟨fun h4 o4 E' Q' q => wpAny_pyIter_rangeiter (o4.st _ _ hit9) q, fun h10 D2 C2 o10 hD2 hDC2 ls10 ns10 c10 => ?_⟩
    have hh8 := o8.sz
    have hh9 := o9.sz
    dsimp only at hi9 hh8 hh9 hD2 hit9 ⊢
    have hitD := ltN (Nat.lt_of_lt_of_le (Heap.lt_size hit9) hD2)
    have hDC' := ltN hDC2
    have hi1 := leN (Nat.le_trans hh8 hi9)
    have O7 := (o8.trans o9).trans o10
    rw [show Builtin.Range.rangeSize 0 (ns.length : Nat) 1 = (ns.length : Int) by rw [rangeSize_one]; split <;> lia] at hit9
    refine idxLoop (s := { s with toks := tk8 }) (N := ns.length) (C := C2) (cnt (counts ns)) (by rfl) (by rfl) (by rfl) hh (by lia) (o10.st _ _ hit9) ls10 c10 (neN (by lia)) (neN (by lia)) (neN (by lia)) ?_ ?_
    · intro i t s5 E' hi K hc5
      have K1 : ∀ b o, h7.get? b = some o → s5.heap.get? b = some o := fun b o e => K b o (neN (by have := ltN (Heap.lt_size e); lia)) (neN (by have := ltN (Heap.lt_size e); lia)) (neN (by have := ltN (Heap.lt_size e); lia)) (O7.st b o e)
      refine bcallE hB (fun b o e => K1 b o (X7.ov.st b o e)) (spliced_more ?_)
      refine qcomp (counts ns) (fun n => decide (n ≤ (i : Int))) (fun n => n) (cl := [("place", C2 + 1)]) (by rfl) (by decide) rfl (by decide) rfl (by lia) (lcE (c27.keeps K1) (srcL hh (lsD.il.at fun o e => K1 _ o e) hIy ⟨_, rfl⟩)) ?_ ?_ ?_
      · intro C' n t' s₃ m₃ E'' hC' hn hm hmem hk
        exact wpAny_tests_one (wpAny_isTrue_Compare1 (ldE hn hm (lcE (hc5.keeps hk) (le_int (wpAny_truthy_bool ⟨rfl, Keeps.refl' _⟩)))))
      · intro C' n t' s₃ m₃ E'' hC' hn hm hmem hk
        exact ldE hn hm ⟨⟨_, rfl⟩, Keeps.refl' _⟩
      · intro D' h' tk ws hD' ls' hIw hk
        refine spliced_none (lenN (n := ((counts ns).filter fun n => decide (n ≤ (i : Int))).length) ls'.il (by rw [hIw.length, List.length_map]) (Nat.lt_of_le_of_lt (List.length_filter_le _ _) (by lia)) fun tk6 t6 => ?_)
        exact ⟨⟨_, rfl⟩, h', tk6, rfl, hk⟩
    · intro h11 tk11 zs hIz ls11 K
      have K1 : ∀ b o, h7.get? b = some o → h11.get? b = some o := fun b o e => K b o (neN (by have := ltN (Heap.lt_size e); lia)) (neN (by have := ltN (Heap.lt_size e); lia)) (neN (by have := ltN (Heap.lt_size e); lia)) (O7.st b o e)
      have hC11 : h11.Ns C2 (fun _ => none) := let ⟨o, es, ep, e, r⟩ := ns10; ⟨o, es, ep, K C2 o (neN (by lia)) (neN (by lia)) (neN (by lia)) e, r⟩
      refine ⟨rfl, _, hC11, fun h12 sb12 => ?_⟩
      dsimp only at sb12 ⊢
      have X12 := X7.growG fun b o e => (sb12.2 b (neN (by have := ltN (Heap.lt_size e); lia))).trans (K1 b o e)
      exact h _ _ _ _ X12.o (ls11.same sb12 (neN (by lia))) hIz
end Mine
end

section
open PySem PySem.W PyProof.Rows PySem.Calls
set_option maxRecDepth 100000
set_option maxHeartbeats 1000000
namespace Mine

section
variable {prog : Program} {w : World} {A : Around} {E : Value → Shared → Prop} {s : Shared} {env : Env}
theorem sliceL {value slice : Expr} {l sl : Addr} {vs : List Value} {vl vu vk : Value} {lo hi st : Option Int} {ops : List Value} {Q : Value → Shared → Prop} (hl : s.heap.IsList l vs.toArray) (hsl : s.heap.IsSliceOf sl vl vu vk)
    (pl : IsPart vl lo) (pu : IsPart vu hi) (pk : IsPart vk st) (h0 : st ≠ some 0) (hz : vs.length < 1000)
    (h : ∀ h' l', Ov s.heap h' → Ls h' l' (slicePick vs.toArray lo hi st).toList → s.heap.objs.size ≤ l' → Q (.ref l') { s with heap := h' })
    (hs : subscripted slice false (.ref l) (.ref sl) = operate ops (getItem (.ref l) (.ref sl)) := by with_unfolding_all rfl) :
    wpAny (model prog w) A (subscriptTail value slice (.ref l) (.ref sl)) Q E s :=
  tail_any hl.typeIs slot_list_getitem.lookup (wpAny_getItem_list_slice hl hsl pl pu pk h0 (h _ _ (.push _) ⟨0, by simpa using Heap.get?_push_size _ rfl⟩ (Nat.le_refl _)) (by rw [List.size_toArray, sizeLine_eq]; lia)) hs

theorem mkSlice {lower upper step : Option Expr} {p : Pos} {Q : Value → Shared → Prop}
    (h : wpAny (model prog w) A (evalPart lower env) (fun l s₁ => wpAny (model prog w) A (evalPart upper env) (fun u s₂ => wpAny (model prog w) A (evalPart step env) (fun st s₃ =>
      ∀ h' sl, Ov s₃.heap h' → h'.IsSliceOf sl l u st → s₃.heap.objs.size ≤ sl → Q (.ref sl) { s₃ with heap := h' }) E s₂) E s₁) E s) :
    wpAny (model prog w) A (eval (.Slice lower upper step p) env) Q E s :=
  wpAny_Slice (wpAny_mono h (fun _ _ h1 => wpAny_mono h1 (fun _ _ h2 => wpAny_mono h2 (fun _ _ h3 => h3 _ _ (.push _) (Heap.IsSliceOf.new ..) (Nat.le_refl _)) fun _ _ e => e) fun _ _ e => e) fun _ _ e => e)
end

def numV : Value → Int
  | .int a _ => a
  | _ => 0
def ltV (x y : Value) : Bool := decide (numV x < numV y)
def isI (v : Value) : Prop := ∃ n t, v = .int n t
theorem cmp_ints {prog : Program} {w : World} : Cmp prog w (fun _ => True) ltV isI := by
  rintro A E s Q x y _ _ ⟨a, t, rfl⟩ ⟨b, u, rfl⟩ h
  exact lt_int h
theorem intsAre_isI : ∀ {vs : List Value} {ns : List Int}, IntsAre vs ns → ∀ v ∈ vs, isI v := fun h v hv => IntsAre.all h v hv

def popV (vs : List Value) : Value := vs.dropLast.getD 0 (vs.getLastD .none)
def popL (lt : Value → Value → Bool) (vs : List Value) : List Value := if vs.dropLast = [] then [] else sup lt (vs.dropLast.set 0 (vs.getLastD .none)) 0
def pops (lt : Value → Value → Bool) : Nat → List Value → List Value
  | 0, _ => []
  | k + 1, vs => popV vs :: pops lt k (popL lt vs)

theorem popL_perm {lt : Value → Value → Bool} {vs : List Value} {y : Value} : (popV (vs ++ [y]) :: popL lt (vs ++ [y])).Perm (vs ++ [y]) := by
  unfold popV popL
  rw [List.dropLast_concat, show (vs ++ [y]).getLastD .none = y by simp]
  cases vs with
  | nil => simp
  | cons v r =>
    rw [if_neg (by simp)]
    have p := sup_perm lt ((v :: r).set 0 y) 0 (by simp)
    refine (List.Perm.cons _ p).trans ?_
    simp only [List.set_cons_zero, List.getD_cons_zero]
    refine (List.Perm.cons _ ?_).trans (List.Perm.refl _)
    exact (List.perm_append_comm (l₁ := [y]) (l₂ := r))
theorem popL_len {lt : Value → Value → Bool} {vs : List Value} (h : 0 < vs.length) : (popL lt vs).length + 1 = vs.length := by
  obtain ⟨us, y, rfl⟩ : ∃ us y, vs = us ++ [y] := ⟨vs.dropLast, vs.getLast (by intro e; simp [e] at h), (List.dropLast_concat_getLast _).symm⟩
  have := (popL_perm (lt := lt) (vs := us) (y := y)).length_eq
  simpa using this
end Mine
end

section
open PySem PySem.W PyProof.Rows PySem.Calls
set_option maxRecDepth 100000
set_option maxHeartbeats 1000000
namespace Mine

/-- the state of the popping comprehension -/
inductive PoI (s : Shared) (h7 : Heap) (it C D hp l : Addr) (n : Nat) (us : List Value) (k : Nat) (s' : Shared) : Prop where
  | mk (h' : Heap) (tk i : Nat) (ys us' : List Value) (m' : Str → Option Value) (e : s' = { s with heap := h', toks := tk }) (K : ∀ b o, b ≠ it → b ≠ C → b ≠ D → b ≠ hp → h7.get? b = some o → h'.get? b = some o)
      (hit : h'.IsListIter it l i) (nsC : h'.Ns C m') (lsD : Ls h' D ys) (lsh : Ls h' hp us') (hI : ∀ v ∈ us', isI v) (hlen : us'.length + i = n) (hyl : ys.length = i) (htg : ys ++ pops ltV (n - i) us' = pops ltV n us) (hk : k = n - i) : PoI s h7 it C D hp l n us k s'

theorem popped_spec {prog : Program} {w : World} {A : Around} {s : Shared} {H : Heap} {R : Result → Shared → Prop} {l : Addr} {vs : List Value}
    (hB : Bs w H) (hO : Ov H s.heap) (hl : Ls s.heap l vs) (hI : ∀ v ∈ vs, isI v) (h64 : vs.length < 64) (hh : A.handled = none) (hroom : A.depth + 4 < recursionLimit) (hu : A.units + 40 < cLine)
    (h : ∀ h' tk l', Ov s.heap h' → Ls h' l' (pops ltV vs.length (hfy ltV vs (vs.length / 2))) → R (.ok (.ret (.ref l'))) { s with heap := h', toks := tk }) :
    codeAny (model prog w) A (.call (.ref 126) ⟨[.ref l], []⟩) R s := by
  refine enterC (binds := [("row", .ref l)]) hB hO (by rfl) (by rfl) (by lia) (BindsTo.of_eq rfl) (by rfl) fun h₁ tk₁ X hc => ?_
  have c1 : h₁.IsCell (s.heap.objs.size + 1) none := hc "heap" _ rfl
  have hl1 := hl.grow X.o
  have hb1 : s.heap.objs.size + 1 < h₁.objs.size := let ⟨_, e, _⟩ := c1; Heap.lt_size e
  have hll := ltN hl.lt
  have z1 : vs.length < 1000 := by lia
  have hd1 : A.depth + 1 + 2 < recursionLimit := by lia
  have hu1 : A.units + 3 + 30 < cLine := by lia
  refine wpAny_execs_cons (wpAny_Assign_Name (Subscript_ (ldE X.F.ns rfl (mkSlice (evalPart_none_step (evalPart_none_step (evalPart_none_step fun h2 sl o2 hsl2 _ => ?_)))))))
  refine sliceL (hl1.grow o2).il hsl2 .none .none .none (by simp) z1 fun h3 hp o3 ls3 hhp => ?_
  rw [slicePick_all, show vs.toArray.toList = vs from rfl] at ls3
  have X3 := (X.grow o2).grow o3
  have c3 := (c1.keeps o2.st).keeps o3.st
  have hl3 := (hl1.grow o2).grow o3
  have hhp1 := leN (Nat.le_trans o2.sz hhp)
  have hhp3 := ltN ls3.lt
  dsimp only at hhp hhp1 ⊢
  refine X3.stC c3 (Nat.le_succ _) (show s.heap.objs.size + 1 ≠ s.heap.objs.size from Nat.ne_of_gt (Nat.lt_succ_self _)) fun h4 X4 c4 sb4 => ?_
  have ls4 : Ls h4 hp vs := ls3.same sb4 (neN (by lia))
  have hl4 : Ls h4 l vs := hl3.same sb4 (neN (by lia))
  have hs4 : h4.objs.size = h3.objs.size := sb4.1
  have hH4 : H.get? hp = none := by
    cases q : H.get? hp with
    | none => rfl
    | some o => have := ltN (Heap.lt_size q); have := X.hH; lia
  refine wpAny_execs_cons (wpAny_Expr (fcallE hB X4.ov.st (by rfl) (by rfl) (spliced_more (lcE c4 (spliced_none ⟨X4.ov, heapify_spec hB X4.ov hH4 ls4 cmp_ints (fun _ _ _ _ => trivial) trivial hI z1 hh hd1 hu1 fun h5 tk5 k5 ls5 => ?_⟩)))))
  have X5 := X4.kp k5 (leN (by lia)) (show hp ≠ s.heap.objs.size from neN (by lia))
  have hl5 : Ls h5 l vs := hl4.kp k5 (neN (by lia))
  have c5 : h5.IsCell (s.heap.objs.size + 1) (some (.ref hp)) := let ⟨o, e, d⟩ := c4; ⟨o, k5.st _ _ (neN (by lia)) e, d⟩
  have hs5 := k5.sz
  dsimp only at hs5 ⊢
  have hperm := hfy_perm ltV (vs.length / 2) vs (by lia)
  generalize hfy ltV vs (vs.length / 2) = us at *
  have hIu : ∀ v ∈ us, isI v := fun v hv => hI v (hperm.mem_iff.mp hv)
  have hul := hperm.length_eq
  clear X X3 X4 ls3 ls4 hl1 hl3 hl4 c1 c3 c4 sb4 k5 o2 o3 hc hsl2 hperm
  refine wpAny_execs_cons (wpAny_Return_some (lcomp (cl := [("heap", s.heap.objs.size + 1)]) (by rfl) (by decide) rfl (by decide) ?_))
  refine ldE X5.F.ns rfl (wpAny_pyIter_list hl5.il ?_)
  have o6 : Ov h5 (h5.push { cls := .type "list_iterator", data := .fields #[.ref l, .int 0 0] }) := .push _
  have i6 : (h5.push { cls := .type "list_iterator", data := .fields #[.ref l, .int 0 0] }).IsListIter h5.objs.size l 0 := ⟨_, Heap.get?_push_size _ rfl, rfl, rfl⟩
  dsimp only
  generalize h5.push { cls := .type "list_iterator", data := .fields #[.ref l, .int 0 0] } = h6 at *
  generalize hit : h5.objs.size = it at *
  have X6 := X5.grow o6
  have hl6 := hl5.grow o6
  have ls6 := ls5.grow o6
  have c6 := c5.keeps o6.st
  have hit6 : it < h6.objs.size := let ⟨_, e, _⟩ := i6; Heap.lt_size e
  refine ⟨fun h7 o7 E' Q' q => wpAny_pyIter_listiter (let ⟨o, e, r⟩ := i6; ⟨o, o7.st _ _ e, r⟩) q, fun h7 D C o7 hD hDC ls7 ns7 => ?_⟩
  try dsimp only at hD ⊢
  have hD' := leN hD
  have hDC' := ltN hDC
  have hit6' := ltN hit6
  have X7 := X6.grow o7
  have hl7 := hl6.grow o7
  have lsh7 := ls6.grow o7
  have c7 := c6.keeps o7.st
  have i7 : h7.IsListIter it l 0 := let ⟨o, e, r⟩ := i6; ⟨o, o7.st _ _ e, r⟩
  clear X5 X6 hl5 hl6 ls5 ls6 c5 c6 i6 o6 o7
  refine codeAny_compLoop_tests (PoI s h7 it C D hp l vs.length us) ?turn vs.length
    ⟨h7, _, 0, [], us, _, rfl, fun _ _ _ _ _ _ e => e, i7, ns7, ls7, lsh7, hIu, hul, rfl, rfl, rfl⟩
  rintro k s' ⟨h', tk, i, ys, us', m', rfl, K, hit', nsC, lsD, lsh, hIu', hlen, hyl, htg, rfl⟩
  have K1 : ∀ b o, b < it → b ≠ hp → h7.get? b = some o → h'.get? b = some o := fun b o q1 q2 e => K b o (neN (by have := ltN q1; lia)) (neN (by have := ltN q1; lia)) (neN (by have := ltN q1; lia)) q2 e
  have hl' : Ls h' l vs := hl7.at fun o e => K1 l o (by have := ltN (show l < s.heap.objs.size from hll); exact ltN (by lia)) (neN (by lia)) e
  by_cases hlt : i < vs.length
  · obtain ⟨us0, y, rfl⟩ : ∃ us0 y, us' = us0 ++ [y] := ⟨us'.dropLast, us'.getLast (by intro e; simp [e] at hlen; lia), (List.dropLast_concat_getLast _).symm⟩
    refine wpAny_pyNext_list_item hit' hl'.il (x := vs[i]) (by simp [hlt]) fun h8 hit8 sb8 => ?_
    have nsC8 : h8.Ns C m' := nsC.sameBut sb8 (neN (by lia))
    refine wpAny_assign_Name (wpAny_storeName_local (by rfl) nsC8 (fun h9 ns9 sb9 => ?_) (by rfl))
    refine wpAny_tests_nil (ift ?_)
    have ns9' : h9.Ns C (upd m' "number" vs[i]) := ns9
    have sb9' : Heap.SameBut C h8 h9 := sb9
    have K9 : ∀ b o, b < it → b ≠ hp → h7.get? b = some o → h9.get? b = some o := fun b o q1 q2 e => (sb9'.2 b (neN (by have := ltN q1; lia))).trans ((sb8.2 b (neN (by have := ltN q1; lia))).trans (K1 b o q1 q2 e))
    have c9 : h9.IsCell (s.heap.objs.size + 1) (some (.ref hp)) := let ⟨o, e, d⟩ := c7; ⟨o, K9 _ o (ltN (by lia)) (neN (by lia)) e, d⟩
    have hO9 : Ov H h9 := ⟨fun b o e => K9 b o (by have := ltN (Heap.lt_size e); have := X7.hH; exact ltN (by lia)) (by have := ltN (Heap.lt_size e); have := X7.hH; exact neN (by lia)) (X7.ov.st b o e), by have := ltN ns9'.lt; have := X7.hH; lia⟩
    have lsh9 : Ls h9 hp (us0 ++ [y]) := (lsh.same sb8 (neN (by lia))).same sb9' (neN (by lia))
    have lsD9 : Ls h9 D ys := (lsD.same sb8 (neN (by lia))).same sb9' (neN (by lia))
    have hz0 : us0.length < 900 := by simp only [List.length_append, List.length_cons, List.length_nil] at hlen; lia
    refine fcallE hB hO9.st (by rfl) (by rfl) (spliced_more (lcE c9 (spliced_none ⟨hO9, heappop_spec hB hO9 hH4 lsh9 cmp_ints (fun _ _ _ _ => trivial) trivial hIu' hz0 hd1 hu1 fun h10 tk10 k10 ls10 => ?_⟩)))
    have lsD10 : Ls h10 D ys := lsD9.kp k10 (neN (by lia))
    refine appendAt lsD10 (by lia) fun h11 ls11 sb11 => ?_
    have e1 : popV (us0 ++ [y]) = us0.getD 0 y := by unfold popV; rw [List.dropLast_concat, show (us0 ++ [y]).getLastD .none = y by simp]
    have e2 : popL ltV (us0 ++ [y]) = if us0 = [] then [] else sup ltV (us0.set 0 y) 0 := by unfold popL; rw [List.dropLast_concat, show (us0 ++ [y]).getLastD .none = y by simp]
    have pp := popL_perm (lt := ltV) (vs := us0) (y := y)
    have pl := popL_len (lt := ltV) (vs := us0 ++ [y]) (by simp)
    rw [← e2] at ls10
    rw [← e1] at ls11
    refine ⟨vs.length - (i + 1), by lia, h11, _, i + 1, _, popL ltV (us0 ++ [y]), upd m' "number" vs[i], rfl, fun b o q1 q2 q3 q4 e => (sb11.2 b q3).trans (k10.st b o q4 ((sb9'.2 b q2).trans ((sb8.2 b q1).trans (K b o q1 q2 q3 q4 e)))), ?_, ?_, ls11, ?_, ?_, ?_, ?_, ?_, rfl⟩
    · obtain ⟨o, e, r⟩ := hit8
      exact ⟨o, (sb11.2 _ (neN (by lia))).trans (k10.st _ _ (neN (by lia)) ((sb9'.2 _ (neN (by lia))).trans e)), r⟩
    · obtain ⟨o, es, ep, e, r⟩ := ns9'
      exact ⟨o, es, ep, (sb11.2 _ (neN (by lia))).trans (k10.st _ _ (neN (by lia)) e), r⟩
    · exact ls10.same sb11 (neN (by lia))
    · exact fun v hv => hIu' v (pp.mem_iff.mp (List.mem_cons_of_mem _ hv))
    · lia
    · simp [hyl]
    · rw [← htg, show vs.length - i = (vs.length - (i + 1)) + 1 by lia]
      simp [pops]
  · obtain rfl : i = vs.length := by lia
    refine wpAny_pyNext_list_end hh hit' hl'.il (by simp) fun h8 e8 => ?_
    refine ⟨rfl, m', let ⟨o, es, ep, e, r⟩ := nsC; ⟨o, es, ep, e8 _ _ (neN (by lia)) e, r⟩, fun h9 sb9 => ?_⟩
    dsimp only at sb9 ⊢
    have ls9 : Ls h9 D ys := (lsD.ext e8 (neN (by lia))).same sb9 (neN (by lia))
    rw [show vs.length - vs.length = 0 by lia, show pops ltV 0 us' = [] from rfl, List.append_nil] at htg
    rw [htg] at ls9
    refine h _ _ _ ⟨fun b o e => ?_, ?_⟩ ls9
    · have hb := ltN (Heap.lt_size e)
      exact (sb9.2 b (neN (by lia))).trans (e8 b o (neN (by lia)) (K1 b o (ltN (by lia)) (neN (by lia)) (X7.o.st b o e)))
    · have := ltN ls9.lt; lia
end Mine
end

section
open PySem PySem.W PyProof.Rows PySem.Calls
set_option maxRecDepth 100000
set_option maxHeartbeats 1000000
namespace Mine

def bst (bt : Value → Value → Bool) : Value → List Value → Value
  | b, [] => b
  | b, v :: r => bst bt (if bt v b then v else b) r

theorem treeKw {prog : Program} {w : World} {A : Around} {E : Value → Shared → Prop} {s : Shared} {id : String} {b : Builtin} {args : List Value} {kw : List (Str × Value)} {Q : Value → Shared → Prop} (hk : builtinKind id = none) (hp : plainId id = true)
    (hb : entryFor table id = some b) (ha : argsOk id ⟨args, kw⟩)
    (hc : wpAny (model prog w) A.in1 (b ⟨args, kw⟩) (fun fin s' => match fin with
      | .done f => (match (Except.ok f : Result) with | .ok (.ret v) => Q v s' | .ok _ => False | .error e => E e s')
      | .again c' => c'.quiet = true ∧ codeAny (model prog w) A c' (fun r s' => match r with | .ok (.ret v) => Q v s' | .ok _ => False | .error e => E e s') s') E s) :
    wpAny (model prog w) A (call (.builtin id) args kw) Q E s := by
  refine wpAny_call (codeAny_call_builtin hp hb ?_)
  simp only [checkBuiltinCall, hk]
  cases hsig : Manifest.signature? id with
  | none => exact wpAny_pure hc
  | some sig =>
    have ha' : Bind.checkArgs id sig ⟨args, kw⟩ = pure () := by simpa only [argsOk, hsig] using ha
    simp only [ha']
    exact wpAny_pure hc
theorem drop_cons {vs : List Value} {i : Nat} (h : i < vs.length) : vs.drop i = vs[i] :: vs.drop (i + 1) := List.drop_eq_getElem_cons h

theorem minLoop {prog : Program} {w : World} {A : Around} {R : Result → Shared → Prop} {I S l : Addr} {vs : List Value} {d : Value} (hh : A.handled = none) (hI : ∀ v ∈ vs, isI v) (hSl : S ≠ l) (hSI : S ≠ I) (hIl : I ≠ l) :
    ∀ (k i : Nat) (s : Shared) (vb : Value) (c : Nat), vs.length - i = k → i ≤ vs.length → s.heap.IsListIter I l i → s.heap.IsList l vs.toArray → isI vb →
    s.heap.get? S = some { cls := .type "list", dict := none, data := .seq #[vb, vb] c, slots := #[] } →
    (∀ h' tk, (∀ b o, b ≠ I → b ≠ S → s.heap.get? b = some o → h'.get? b = some o) → R (.ok (.ret (bst ltV vb (vs.drop i)))) { s with heap := h', toks := tk }) →
    codeAny (model prog w) A (.builtin "min.loop" ⟨[.ref I, .none, .ref S], [(Str.ofString "default", d)]⟩) R s := by
  have hname : (toString "min" ++ toString ".loop" : String) = "min.loop" := by decide
  have hh1 : A.in1.handled = none := hh
  intro k
  induction k with
  | zero =>
    intro i s vb c hk hi hit hl hb hS hR
    have hin : i = vs.length := by lia
    subst hin
    refine codeAny_builtin PySem.F.entry_min_loop ?_
    rw [Around.under_plainId PySem.F.plain_min_loop _]
    show wpAny _ A.in1 (seqItems? (.ref S) >>= _) _ _ s
    refine wpAny_bind (wpAny_seqItems hS rfl ?_)
    show wpAny _ A.in1 (tryCatch (pyNext (.ref I)) _ >>= _) _ _ s
    refine wpAny_bind (wpAny_tryCatch (wpAny_pyNext_list_end hh1 hit hl (by simp) fun h' e' => ?_))
    have hS' := e' S _ hSI hS
    show wpAny _ A.in1 (updateSeq S (fun _ => #[]) >>= _) _ _ _
    refine wpAny_bind ?_
    refine wpAny_updateSeq hS' rfl (wpAny_bind (wpAny_letGo (wpAny_pure ?_)))
    have := hR (h'.update S (Obj.mapSeq fun _ => #[])) s.toks fun b o hbI hbS e => (Heap.get?_update_other _ _ (Ne.symm hbS)).trans (e' b o hbI e)
    rw [List.drop_length] at this
    exact this
  | succ k ih =>
    intro i s vb c hk hi hit hl hb hS hR
    have hlt : i < vs.length := by lia
    refine codeAny_builtin PySem.F.entry_min_loop ?_
    rw [Around.under_plainId PySem.F.plain_min_loop _]
    show wpAny _ A.in1 (seqItems? (.ref S) >>= _) _ _ s
    refine wpAny_bind (wpAny_seqItems hS rfl ?_)
    show wpAny _ A.in1 (tryCatch (pyNext (.ref I)) _ >>= _) _ _ s
    refine wpAny_bind (wpAny_tryCatch (wpAny_pyNext_list_item hit hl (x := vs[i]) (by simp [hlt]) fun h' hit' sb' => ?_))
    have hS' := (sb'.2 S hSI).trans hS
    have hvi : isI vs[i] := hI _ (List.getElem_mem hlt)
    rw [drop_cons hlt] at hR
    generalize vs[i] = v at *
    have hl' : h'.IsList l vs.toArray := hl.at fun o e => (sb'.2 l (Ne.symm hIl)).trans e
    obtain ⟨a, ta, rfl⟩ := hvi
    obtain ⟨b, tb, rfl⟩ := hb
    show wpAny _ A.in1 (tryCatch (holding [.int a ta, .int a ta] (richCompare .Lt (.int a ta) (.int b tb) >>= _)) _ >>= _) _ _ _
    refine wpAny_bind (wpAny_tryCatch (wpAny_holding (wpAny_bind (show wpAny _ _ (compareOp .Lt (.int a ta) (.int b tb)) _ _ _ from lt_int ?_))))
    refine wpAny_bind (wpAny_holding (wpAny_truthy_bool ?_))
    refine wpAny_bind (wpAny_letGo (wpAny_pure ?_))
    simp only [bst] at hR
    show wpAny _ _ (if ltV (.int a ta) (.int b tb) = true then _ else _) _ _ _
    cases hbt : ltV (.int a ta) (.int b tb) with
    | true =>
      rw [if_pos hbt] at hR
      rw [if_pos rfl]
      refine wpAny_bind ?_
      refine wpAny_updateSeq hS' rfl (wpAny_bind (wpAny_letGo ?_))
      rw [hname]
      refine wpAny_pure ⟨plainId_quiet PySem.F.plain_min_loop _, ih (i + 1) _ (.int a ta) _ (by lia) hlt ?_ ?_ ⟨_, _, rfl⟩ (Heap.get?_update_self _ hS' rfl) fun h'' tk'' hk'' => ?_⟩
      · obtain ⟨o, e, r⟩ := hit'
        exact ⟨o, (Heap.get?_update_other _ _ hSI).trans e, r⟩
      · exact hl'.at fun o e => (Heap.get?_update_other _ _ hSl).trans e
      · exact hR h'' tk'' fun b o hbI hbS e => hk'' b o hbI hbS ((Heap.get?_update_other _ _ (Ne.symm hbS)).trans ((sb'.2 b hbI).trans e))
    | false =>
      rw [if_neg (by rw [hbt]; decide)] at hR
      rw [if_neg Bool.false_ne_true]
      refine wpAny_bind (wpAny_letGo ?_)
      rw [hname]
      refine wpAny_pure ⟨plainId_quiet PySem.F.plain_min_loop _, ih (i + 1) _ (.int b tb) c (by lia) hlt hit' hl' ⟨_, _, rfl⟩ hS' fun h'' tk'' hk'' => ?_⟩
      exact hR h'' tk'' fun b o hbI hbS e => hk'' b o hbI hbS ((sb'.2 b hbI).trans e)

theorem minCall {prog : Program} {w : World} {A : Around} {E : Value → Shared → Prop} {s : Shared} {I l : Addr} {v0 : Value} {vs : List Value} {d : Value} {Q : Value → Shared → Prop} (hh : A.handled = none) (hI : ∀ v ∈ v0 :: vs, isI v) (hIl : I ≠ l)
    (hit : s.heap.IsListIter I l 0) (hl : s.heap.IsList l (v0 :: vs).toArray)
    (h : ∀ h' tk, (∀ b o, b ≠ I → s.heap.get? b = some o → h'.get? b = some o) → Q (bst ltV v0 vs) { s with heap := h', toks := tk }) :
    wpAny (model prog w) A (call (.builtin "min") [.ref I] [(Str.ofString "default", d), (Str.ofString "key", .none)]) Q E s := by
  have hname : (toString "min" ++ toString ".loop" : String) = "min.loop" := by decide
  have hIlt : I < s.heap.objs.size := let ⟨_, e, _⟩ := hit; Heap.lt_size e
  have hllt : l < s.heap.objs.size := isList_lt hl
  refine treeKw PySem.F.kind_min PySem.F.plain_min PySem.F.entry_min (by unfold argsOk; kernel_rfl) ?_
  show wpAny _ A.in1 (Builtin.Builtins.bindParams "min" ["key", "default"] 0 ⟨[], [(Str.ofString "default", d), (Str.ofString "key", .none)]⟩ >>= _) _ _ s
  refine wpAny_bind (wpAny_of_eq (show Builtin.Builtins.bindParams "min" ["key", "default"] 0 ⟨[], [(Str.ofString "default", d), (Str.ofString "key", .none)]⟩ = pure [some .none, some d] from rfl) ?_)
  refine wpAny_bind (wpAny_pure ?_)
  refine wpAny_bind (wpAny_pyIter_listiter hit ?_)
  refine wpAny_bind (wpAny_newObj_type ?_)
  rw [hname]
  refine wpAny_pure ⟨plainId_quiet PySem.F.plain_min_loop _, codeAny_builtin PySem.F.entry_min_loop ?_⟩
  rw [Around.under_plainId PySem.F.plain_min_loop _]
  show wpAny _ A.in1 (seqItems? (.ref s.heap.objs.size) >>= _) _ _ _
  refine wpAny_bind (wpAny_seqItems (Heap.get?_push_size _ rfl) rfl ?_)
  show wpAny _ A.in1 (tryCatch (pyNext (.ref I)) _ >>= _) _ _ _
  refine wpAny_bind (wpAny_tryCatch (wpAny_pyNext_list_item (let ⟨o, e, r⟩ := hit; ⟨o, Heap.get?_push_of_some _ e, r⟩) (isList_grow hl (.push _)) (x := v0) rfl fun h' hit' sb' => ?_))
  have hS' := (sb'.2 s.heap.objs.size (Nat.ne_of_gt hIlt)).trans (Heap.get?_push_size s.heap rfl)
  have hl' := (isList_grow hl (.push _)).at fun o e => (sb'.2 l (Ne.symm hIl)).trans e
  show wpAny _ A.in1 (updateSeq s.heap.objs.size (fun _ => #[v0, v0]) >>= _) _ _ _
  refine wpAny_bind ?_
  refine wpAny_updateSeq hS' rfl ?_
  rw [hname]
  refine wpAny_pure ⟨plainId_quiet PySem.F.plain_min_loop _, minLoop (vs := v0 :: vs) hh hI (Nat.ne_of_gt hllt) (Nat.ne_of_gt hIlt) hIl _ 1 _ v0 _ rfl (by simp) ?_ ?_ (hI _ (.head _)) (Heap.get?_update_self _ hS' rfl) fun h'' tk'' hk'' => ?_⟩
  · obtain ⟨o, e, r⟩ := hit'
    exact ⟨o, (Heap.get?_update_other _ _ (Nat.ne_of_gt hIlt)).trans e, r⟩
  · exact hl'.at fun o e => (Heap.get?_update_other _ _ (Nat.ne_of_gt hllt)).trans e
  · exact h h'' tk'' fun b o hbI e => hk'' b o hbI (Nat.ne_of_lt (Heap.lt_size e)) ((Heap.get?_update_other _ _ (Nat.ne_of_gt (Heap.lt_size e))).trans ((sb'.2 b hbI).trans (Heap.get?_push_of_some _ e)))

theorem maxLoop {prog : Program} {w : World} {A : Around} {R : Result → Shared → Prop} {I S l : Addr} {vs : List Value} {d : Value} (hh : A.handled = none) (hI : ∀ v ∈ vs, isI v) (hSl : S ≠ l) (hSI : S ≠ I) (hIl : I ≠ l) :
    ∀ (k i : Nat) (s : Shared) (vb : Value) (c : Nat), vs.length - i = k → i ≤ vs.length → s.heap.IsListIter I l i → s.heap.IsList l vs.toArray → isI vb →
    s.heap.get? S = some { cls := .type "list", dict := none, data := .seq #[vb, vb] c, slots := #[] } →
    (∀ h' tk, (∀ b o, b ≠ I → b ≠ S → s.heap.get? b = some o → h'.get? b = some o) → R (.ok (.ret (bst (fun x y => ltV y x) vb (vs.drop i)))) { s with heap := h', toks := tk }) →
    codeAny (model prog w) A (.builtin "max.loop" ⟨[.ref I, .none, .ref S], [(Str.ofString "default", d)]⟩) R s := by
  have hname : (toString "max" ++ toString ".loop" : String) = "max.loop" := by decide
  have hh1 : A.in1.handled = none := hh
  intro k
  induction k with
  | zero =>
    intro i s vb c hk hi hit hl hb hS hR
    have hin : i = vs.length := by lia
    subst hin
    refine codeAny_builtin PySem.F.entry_max_loop ?_
    rw [Around.under_plainId PySem.F.plain_max_loop _]
    show wpAny _ A.in1 (seqItems? (.ref S) >>= _) _ _ s
    refine wpAny_bind (wpAny_seqItems hS rfl ?_)
    show wpAny _ A.in1 (tryCatch (pyNext (.ref I)) _ >>= _) _ _ s
    refine wpAny_bind (wpAny_tryCatch (wpAny_pyNext_list_end hh1 hit hl (by simp) fun h' e' => ?_))
    have hS' := e' S _ hSI hS
    show wpAny _ A.in1 (updateSeq S (fun _ => #[]) >>= _) _ _ _
    refine wpAny_bind ?_
    refine wpAny_updateSeq hS' rfl (wpAny_bind (wpAny_letGo (wpAny_pure ?_)))
    have := hR (h'.update S (Obj.mapSeq fun _ => #[])) s.toks fun b o hbI hbS e => (Heap.get?_update_other _ _ (Ne.symm hbS)).trans (e' b o hbI e)
    rw [List.drop_length] at this
    exact this
  | succ k ih =>
    intro i s vb c hk hi hit hl hb hS hR
    have hlt : i < vs.length := by lia
    refine codeAny_builtin PySem.F.entry_max_loop ?_
    rw [Around.under_plainId PySem.F.plain_max_loop _]
    show wpAny _ A.in1 (seqItems? (.ref S) >>= _) _ _ s
    refine wpAny_bind (wpAny_seqItems hS rfl ?_)
    show wpAny _ A.in1 (tryCatch (pyNext (.ref I)) _ >>= _) _ _ s
    refine wpAny_bind (wpAny_tryCatch (wpAny_pyNext_list_item hit hl (x := vs[i]) (by simp [hlt]) fun h' hit' sb' => ?_))
    have hS' := (sb'.2 S hSI).trans hS
    have hvi : isI vs[i] := hI _ (List.getElem_mem hlt)
    rw [drop_cons hlt] at hR
    generalize vs[i] = v at *
    have hl' : h'.IsList l vs.toArray := hl.at fun o e => (sb'.2 l (Ne.symm hIl)).trans e
    obtain ⟨a, ta, rfl⟩ := hvi
    obtain ⟨b, tb, rfl⟩ := hb
    show wpAny _ A.in1 (tryCatch (holding [.int a ta, .int a ta] (richCompare .Gt (.int a ta) (.int b tb) >>= _)) _ >>= _) _ _ _
    refine wpAny_bind (wpAny_tryCatch (wpAny_holding (wpAny_bind (show wpAny _ _ (compareOp .Gt (.int a ta) (.int b tb)) _ _ _ from gt_int ?_))))
    refine wpAny_bind (wpAny_holding (wpAny_truthy_bool ?_))
    refine wpAny_bind (wpAny_letGo (wpAny_pure ?_))
    simp only [bst] at hR
    show wpAny _ _ (if ltV (.int b tb) (.int a ta) = true then _ else _) _ _ _
    cases hbt : ltV (.int b tb) (.int a ta) with
    | true =>
      rw [if_pos hbt] at hR
      rw [if_pos rfl]
      refine wpAny_bind ?_
      refine wpAny_updateSeq hS' rfl (wpAny_bind (wpAny_letGo ?_))
      rw [hname]
      refine wpAny_pure ⟨plainId_quiet PySem.F.plain_max_loop _, ih (i + 1) _ (.int a ta) _ (by lia) hlt ?_ ?_ ⟨_, _, rfl⟩ (Heap.get?_update_self _ hS' rfl) fun h'' tk'' hk'' => ?_⟩
      · obtain ⟨o, e, r⟩ := hit'
        exact ⟨o, (Heap.get?_update_other _ _ hSI).trans e, r⟩
      · exact hl'.at fun o e => (Heap.get?_update_other _ _ hSl).trans e
      · exact hR h'' tk'' fun b o hbI hbS e => hk'' b o hbI hbS ((Heap.get?_update_other _ _ (Ne.symm hbS)).trans ((sb'.2 b hbI).trans e))
    | false =>
      rw [if_neg (by rw [hbt]; decide)] at hR
      rw [if_neg Bool.false_ne_true]
      refine wpAny_bind (wpAny_letGo ?_)
      rw [hname]
      refine wpAny_pure ⟨plainId_quiet PySem.F.plain_max_loop _, ih (i + 1) _ (.int b tb) c (by lia) hlt hit' hl' ⟨_, _, rfl⟩ hS' fun h'' tk'' hk'' => ?_⟩
      exact hR h'' tk'' fun b o hbI hbS e => hk'' b o hbI hbS ((sb'.2 b hbI).trans e)

theorem maxCall {prog : Program} {w : World} {A : Around} {E : Value → Shared → Prop} {s : Shared} {I l : Addr} {v0 : Value} {vs : List Value} {d : Value} {Q : Value → Shared → Prop} (hh : A.handled = none) (hI : ∀ v ∈ v0 :: vs, isI v) (hIl : I ≠ l)
    (hit : s.heap.IsListIter I l 0) (hl : s.heap.IsList l (v0 :: vs).toArray)
    (h : ∀ h' tk, (∀ b o, b ≠ I → s.heap.get? b = some o → h'.get? b = some o) → Q (bst (fun x y => ltV y x) v0 vs) { s with heap := h', toks := tk }) :
    wpAny (model prog w) A (call (.builtin "max") [.ref I] [(Str.ofString "default", d), (Str.ofString "key", .none)]) Q E s := by
  have hname : (toString "max" ++ toString ".loop" : String) = "max.loop" := by decide
  have hIlt : I < s.heap.objs.size := let ⟨_, e, _⟩ := hit; Heap.lt_size e
  have hllt : l < s.heap.objs.size := isList_lt hl
  refine treeKw PySem.F.kind_max PySem.F.plain_max PySem.F.entry_max (by unfold argsOk; kernel_rfl) ?_
  show wpAny _ A.in1 (Builtin.Builtins.bindParams "max" ["key", "default"] 0 ⟨[], [(Str.ofString "default", d), (Str.ofString "key", .none)]⟩ >>= _) _ _ s
  refine wpAny_bind (wpAny_of_eq (show Builtin.Builtins.bindParams "max" ["key", "default"] 0 ⟨[], [(Str.ofString "default", d), (Str.ofString "key", .none)]⟩ = pure [some .none, some d] from rfl) ?_)
  refine wpAny_bind (wpAny_pure ?_)
  refine wpAny_bind (wpAny_pyIter_listiter hit ?_)
  refine wpAny_bind (wpAny_newObj_type ?_)
  rw [hname]
  refine wpAny_pure ⟨plainId_quiet PySem.F.plain_max_loop _, codeAny_builtin PySem.F.entry_max_loop ?_⟩
  rw [Around.under_plainId PySem.F.plain_max_loop _]
  show wpAny _ A.in1 (seqItems? (.ref s.heap.objs.size) >>= _) _ _ _
  refine wpAny_bind (wpAny_seqItems (Heap.get?_push_size _ rfl) rfl ?_)
  show wpAny _ A.in1 (tryCatch (pyNext (.ref I)) _ >>= _) _ _ _
  refine wpAny_bind (wpAny_tryCatch (wpAny_pyNext_list_item (let ⟨o, e, r⟩ := hit; ⟨o, Heap.get?_push_of_some _ e, r⟩) (isList_grow hl (.push _)) (x := v0) rfl fun h' hit' sb' => ?_))
  have hS' := (sb'.2 s.heap.objs.size (Nat.ne_of_gt hIlt)).trans (Heap.get?_push_size s.heap rfl)
  have hl' := (isList_grow hl (.push _)).at fun o e => (sb'.2 l (Ne.symm hIl)).trans e
  show wpAny _ A.in1 (updateSeq s.heap.objs.size (fun _ => #[v0, v0]) >>= _) _ _ _
  refine wpAny_bind ?_
  refine wpAny_updateSeq hS' rfl ?_
  rw [hname]
  refine wpAny_pure ⟨plainId_quiet PySem.F.plain_max_loop _, maxLoop (vs := v0 :: vs) hh hI (Nat.ne_of_gt hllt) (Nat.ne_of_gt hIlt) hIl _ 1 _ v0 _ rfl (by simp) ?_ ?_ (hI _ (.head _)) (Heap.get?_update_self _ hS' rfl) fun h'' tk'' hk'' => ?_⟩
  · obtain ⟨o, e, r⟩ := hit'
    exact ⟨o, (Heap.get?_update_other _ _ (Nat.ne_of_gt hIlt)).trans e, r⟩
  · exact hl'.at fun o e => (Heap.get?_update_other _ _ (Nat.ne_of_gt hllt)).trans e
  · exact h h'' tk'' fun b o hbI e => hk'' b o hbI (Nat.ne_of_lt (Heap.lt_size e)) ((Heap.get?_update_other _ _ (Nat.ne_of_gt (Heap.lt_size e))).trans ((sb'.2 b hbI).trans (Heap.get?_push_of_some _ e)))
end Mine
end

section
open PySem PySem.W PyProof.Rows PySem.Calls
set_option maxRecDepth 100000
set_option maxHeartbeats 1000000
namespace Mine

abbrev tupOf (i j : Int) (t u : Tok) : Obj := { cls := .type "tuple", data := .seq #[.int i t, .int j u] }
/-- v is the pair k in h -/
def Pr (h : Heap) (v : Value) (k : Int × Int) : Prop := ∃ a t u, v = .ref a ∧ h.get? a = some (tupOf k.1 k.2 t u)
def lx (a b : Int × Int) : Bool := if a.1 = b.1 then decide (a.2 < b.2) else decide (a.1 < b.1)

theorem Pr.uniq {h : Heap} {v : Value} {k k' : Int × Int} (x : Pr h v k) (y : Pr h v k') : k = k' := by
  obtain ⟨a, t, u, rfl, e⟩ := x
  obtain ⟨a', t', u', q, e'⟩ := y
  cases q
  rw [e] at e'
  obtain ⟨k1, k2⟩ := k
  obtain ⟨k1', k2'⟩ := k'
  simp only [tupOf, Option.some.injEq, Obj.mk.injEq, Data.seq.injEq] at e'
  have := e'.2.2.1.1
  simp at this
  simp [this]

section
variable {prog : Program} {w : World} {A : Around} {E : Value → Shared → Prop} {s : Shared} {Q : Value → Shared → Prop}
theorem lt_pairs {x y : Value} {k l : Int × Int} (hx : Pr s.heap x k) (hy : Pr s.heap y l) (hu : A.units < cLine) (h : Q (.bool (lx k l)) s) : wpAny (model prog w) A (compareOp .Lt x y) Q E s := by
  obtain ⟨a, t, u, rfl, ea⟩ := hx
  obtain ⟨b, t', u', rfl, eb⟩ := hy
  show wpAny _ _ (richCompare .Lt (.ref a) (.ref b)) Q E s
  refine wpAny_richCompare_same_room (T := "tuple") ⟨_, ea, rfl⟩ ⟨_, eb, rfl⟩ PySem.F.slot_tuple_lt (wpAny_call_entry PySem.F.slot_tuple_lt ⟨_, ea, rfl⟩ PySem.F.entry_tuple_lt ?_ (PySem.F.args_tuple_lt_2 _ _)) hu
  have hTb : s.TypeIs (.ref b) "tuple" := ⟨_, eb, rfl⟩
  show wpAny _ _ (isInstance (.ref b) (.type "tuple") >>= _) _ _ s
  refine wpAny_bind (wpAny_isInstance hTb isSubtype_tuple_tuple ?_)
  simp only [Bool.not_true, Bool.false_eq_true, if_false]
  refine wpAny_bind (wpAny_tupleItemsOf ea rfl ?_)
  refine wpAny_bind (wpAny_tupleItemsOf eb rfl ?_)
  have hz : (#[Value.int k.fst t, Value.int k.snd u].toList.zip #[Value.int l.fst t', Value.int l.snd u'].toList) = [(.int k.fst t, .int l.fst t'), (.int k.snd u, .int l.snd u')] := rfl
  rw [hz]
  simp only [List.forIn_cons, List.forIn_nil, bind_assoc]
  refine wpAny_bind (wpAny_eqBool_int ?_)
  unfold lx at h
  by_cases h1 : k.1 = l.1
  · rw [if_pos h1] at h
    have e1 : (k.1 == l.1) = true := by rw [h1]; exact beq_self_eq_true _
    rw [e1]
    simp only [Bool.not_true, Bool.false_eq_true, if_false, pure_bind, bind_assoc]
    refine wpAny_bind (wpAny_eqBool_int ?_)
    by_cases h2 : k.2 = l.2
    · have e2 : (k.2 == l.2) = true := by rw [h2]; exact beq_self_eq_true _
      rw [e2]
      simp only [Bool.not_true, Bool.false_eq_true, if_false, pure_bind]
      rw [show decide (k.2 < l.2) = false by rw [h2]; simp] at h
      exact wpAny_pure ⟨.bool false, rfl, by simp, h⟩
    · have e2 : (k.2 == l.2) = false := beq_eq_false_iff_ne.mpr h2
      rw [e2]
      simp only [Bool.not_false, if_true, pure_bind, bind_assoc]
      refine wpAny_bind (wpAny_rule (wpAny_bind (show wpAny _ _ (compareOp .Lt (.int k.2 u) (.int l.2 u')) _ _ _ from lt_int ?_)))
      exact wpAny_bind (wpAny_pure (wpAny_pure ⟨_, rfl, by simp, h⟩))
  · rw [if_neg h1] at h
    have e1 : (k.1 == l.1) = false := beq_eq_false_iff_ne.mpr h1
    rw [e1]
    simp only [Bool.not_false, if_true, pure_bind, bind_assoc]
    refine wpAny_bind (wpAny_rule (wpAny_bind (show wpAny _ _ (compareOp .Lt (.int k.1 t) (.int l.1 t')) _ _ _ from lt_int ?_)))
    exact wpAny_bind (wpAny_pure (wpAny_pure ⟨_, rfl, by simp, h⟩))
end

/-- the pair that stands at v in h -/
noncomputable def keyAt (h : Heap) (v : Value) : Int × Int := by
  classical exact if x : ∃ k, Pr h v k then Classical.choose x else (0, 0)
theorem keyAt_eq {h : Heap} {v : Value} {k : Int × Int} (x : Pr h v k) : keyAt h v = k := by
  unfold keyAt
  have e : ∃ k, Pr h v k := ⟨k, x⟩
  rw [dif_pos e]
  exact (Classical.choose_spec e).uniq x
theorem Pr.keep {h h' : Heap} {v : Value} {k : Int × Int} (x : Pr h v k) (e : ∀ a o, v = .ref a → h.get? a = some o → h'.get? a = some o) : Pr h' v k := by
  obtain ⟨a, t, u, rfl, q⟩ := x
  exact ⟨a, t, u, rfl, e a _ rfl q⟩

/-- the order of pairs, as h has them -/
noncomputable def ltP (h : Heap) (x y : Value) : Bool := lx (keyAt h x) (keyAt h y)
/-- x is a pair in h, not at a -/
def isP (a : Addr) (h : Heap) (x : Value) : Prop := x ≠ .ref a ∧ ∃ k, Pr h x k
theorem cmp_pairs {prog : Program} {w : World} (a : Addr) (h : Heap) : Cmp prog w (fun h' => ∀ x k, isP a h x → Pr h x k → Pr h' x k) (ltP h) (isP a h) := by
  rintro A E s Q x y hu hP hx hy hq
  obtain ⟨k, hk⟩ := hx.2
  obtain ⟨l, hl⟩ := hy.2
  refine lt_pairs (hP x k hx hk) (hP y l hy hl) hu ?_
  unfold ltP at hq
  rw [keyAt_eq hk, keyAt_eq hl] at hq
  exact hq
theorem pairs_stay {a : Addr} {h h1 h2 : Heap} (P : ∀ x k, isP a h x → Pr h x k → Pr h1 x k) (K : Kp a h1 h2) : ∀ x k, isP a h x → Pr h x k → Pr h2 x k := fun x k hx hk =>
  (P x k hx hk).keep fun b o e q => K.st b o (fun z => hx.1 (by rw [e, z])) q
end Mine
end

section
open PySem PySem.W PyProof.Rows
set_option maxHeartbeats 1000000
namespace Mine

/-- the asks of a tree stay under n, the answers are lt's, the end is Q's -/
def spec {α : Type} (lt : Nat → Nat → Bool) (n : Nat) : KasT α → (α → Prop) → Prop
  | .ret a, Q => Q a
  | .ask i j k, Q => i < n ∧ j < n ∧ spec lt n (k (lt i j)) Q
theorem spec_bind {α β : Type} {lt : Nat → Nat → Bool} {n : Nat} {f : α → KasT β} {Q : β → Prop} : ∀ (t : KasT α), spec lt n t (fun a => spec lt n (f a) Q) → spec lt n (t.bind f) Q
  | .ret _, h => h
  | .ask _ _ k, h => ⟨h.1, h.2.1, spec_bind (k _) h.2.2⟩
theorem spec_mono {α : Type} {lt : Nat → Nat → Bool} {n : Nat} {Q Q' : α → Prop} (hq : ∀ a, Q a → Q' a) : ∀ (t : KasT α), spec lt n t Q → spec lt n t Q'
  | .ret _, h => hq _ h
  | .ask _ _ k, h => ⟨h.1, h.2.1, spec_mono hq (k _) h.2.2⟩
theorem spec_wp {α : Type} {lt : Nat → Nat → Bool} {n : Nat} {Q : α → Prop} {cmp : Nat → Nat → (Bool → Shared → Prop) → Shared → Prop} {s : Shared} (hc : ∀ i j C, i < n → j < n → C (lt i j) s → cmp i j C s) :
    ∀ (t : KasT α), spec lt n t Q → t.kasWp cmp (fun a s' => s' = s ∧ Q a) s
  | .ret _, h => ⟨rfl, h⟩
  | .ask i j k, h => hc i j _ h.1 h.2.1 (spec_wp hc (k _) h.2.2)

section
variable {lt : Nat → Nat → Bool} {n : Nat} (hir : ∀ i, lt i i = false) (htr : ∀ i j k, lt i j = false → lt j k = false → lt i k = false) (has : ∀ i j, lt i j = true → lt j i = false) (hn : 0 < n)

def gg (p : Array Nat) (i : Nat) : Nat := p.getD i 0
def Pm (n : Nat) (p : Array Nat) : Prop := p.toList.Perm (List.range n)
/-- not falling up to m -/
def Srt (lt : Nat → Nat → Bool) (p : Array Nat) (m : Nat) : Prop := ∀ i j, i ≤ j → j < m → lt (gg p j) (gg p i) = false
def Nic (lt : Nat → Nat → Bool) (p : Array Nat) (m : Nat) : Prop := ∀ i j, i ≤ j → j < m → lt (gg p i) (gg p j) = false

theorem Pm.size {p : Array Nat} (h : Pm n p) : p.size = n := by have := h.length_eq; simpa using this
include hn in
theorem Pm.ltn {p : Array Nat} (h : Pm n p) (i : Nat) : gg p i < n := by
  unfold gg
  by_cases hi : i < p.size
  · have : p.getD i 0 ∈ p.toList := by simp [Array.getD, hi]
    exact List.mem_range.mp (h.mem_iff.mp this)
  · simp [Array.getD, hi]; exact hn
theorem gg_rev {p : Array Nat} {i j k : Nat} (hj : j ≤ p.size) : gg (kas_rev p i j) k = if i ≤ k ∧ k < j then gg p (i + j - 1 - k) else gg p k := by
  have e := getElem?_mirror_all (xs := p) (i := i) hj k
  unfold gg kas_rev
  simp only [Array.getD_eq_getD_getElem?]
  rw [e]
  split <;> rfl
theorem gg_bub {p : Array Nat} {src d k : Nat} (hs : src < p.size) (hd : d ≤ src) : gg (bubble p src d) k = if k = src - d then gg p src else if src - d < k ∧ k ≤ src then gg p (k - 1) else gg p k := by
  have e := getElem?_bubble hs d hd k
  unfold gg
  simp only [Array.getD_eq_getD_getElem?]
  rw [e]
  split
  · rfl
  · split <;> rfl
theorem Pm.rev {p : Array Nat} (h : Pm n p) (i j : Nat) : Pm n (kas_rev p i j) := (Array.perm_iff_toList_perm.mp (mirror_perm p i j _)).trans h
theorem Pm.bub {p : Array Nat} (h : Pm n p) (i j : Nat) : Pm n (bubble p i j) := (Array.perm_iff_toList_perm.mp (bubble_perm p i j)).trans h

include hir htr hn in
theorem asc_spec {p : Array Nat} (hp : Pm n p) : ∀ (f m : Nat), 1 ≤ m → m + f ≤ n → Srt lt p m → spec lt n (kas_asc p f m) (fun r => m ≤ r ∧ r ≤ m + f ∧ Srt lt p r ∧ (r = m + f ∨ lt (gg p r) (gg p (r - 1)) = true))
  | 0, m, _, _, hs => ⟨Nat.le_refl _, Nat.le_refl _, hs, .inl rfl⟩
  | f + 1, m, h1, hf, hs => by
    refine ⟨Pm.ltn hn hp m, Pm.ltn hn hp (m - 1), ?_⟩
    cases hc : lt (p.getD m 0) (p.getD (m - 1) 0) with
    | true => exact ⟨Nat.le_refl _, by lia, hs, .inr hc⟩
    | false =>
      have hs' : Srt lt p (m + 1) := fun i j hij hj => by
        by_cases hjm : j < m
        · exact hs i j hij hjm
        · obtain rfl : j = m := by lia
          by_cases him : i = j
          · subst him
            exact hir _
          · exact htr _ _ _ hc (hs i (j - 1) (by lia) (by lia))
      refine spec_mono (fun r q => ?_) _ (asc_spec hp f (m + 1) (by lia) (by lia) hs')
      exact ⟨by lia, by lia, q.2.2.1, q.2.2.2.imp (fun e => by lia) id⟩

/-- the last q + 1 places ahead of m are alike -/
def Eqs (lt : Nat → Nat → Bool) (p : Array Nat) (m q : Nat) : Prop := q + 1 ≤ m ∧ ∀ i, m - (q + 1) ≤ i → i < m → lt (gg p i) (gg p (m - 1)) = false ∧ lt (gg p (m - 1)) (gg p i) = false

include htr in
theorem nic_rev {p : Array Nat} {m q k : Nat} (hk : m ≤ k) (hz : k ≤ p.size) (hN : Nic lt p k) (hE : Eqs lt p m q) : Nic lt (kas_rev p (m - (q + 1)) m) k := fun i j hij hj => by
  rw [gg_rev (by lia), gg_rev (by lia)]
  by_cases h1 : m - (q + 1) ≤ i ∧ i < m
  · rw [if_pos h1]
    have a := hE.2 (m - (q + 1) + m - 1 - i) (by lia) (by lia)
    by_cases h2 : m - (q + 1) ≤ j ∧ j < m
    · rw [if_pos h2]
      exact htr _ _ _ a.1 (hE.2 (m - (q + 1) + m - 1 - j) (by lia) (by lia)).2
    · rw [if_neg h2]
      exact htr _ _ _ a.1 (hN (m - 1) j (by lia) hj)
  · rw [if_neg h1]
    by_cases h2 : m - (q + 1) ≤ j ∧ j < m
    · rw [if_pos h2]
      exact hN i _ (by lia) (by lia)
    · rw [if_neg h2]
      exact hN i j hij hj

include hir htr has hn in
theorem desc_spec : ∀ (f : Nat) (p : Array Nat) (m q : Nat), Pm n p → m + f ≤ n → Nic lt p m → Eqs lt p m q →
    spec lt n (kas_desc f p m q) (fun r => Pm n r.1 ∧ m ≤ r.2.1 ∧ r.2.1 ≤ m + f ∧ Nic lt r.1 r.2.1 ∧ Eqs lt r.1 r.2.1 r.2.2)
  | 0, p, m, q, hp, _, hN, hE => ⟨hp, Nat.le_refl _, Nat.le_refl _, hN, hE⟩
  | f + 1, p, m, q, hp, hf, hN, hE => by
    refine ⟨Pm.ltn hn hp m, Pm.ltn hn hp (m - 1), ?_⟩
    have hsz := hp.size
    have hm1 := hE.1
    have ext : lt (gg p (m - 1)) (gg p m) = false → Nic lt p (m + 1) := fun hc i j hij hj => by
      by_cases hjm : j < m
      · exact hN i j hij hjm
      · obtain rfl : j = m := by lia
        by_cases him : i = j
        · subst him; exact hir _
        · exact htr _ _ _ (hN i (j - 1) (by lia) (by lia)) hc
    cases hc : lt (p.getD m 0) (p.getD (m - 1) 0) with
    | true =>
      have hN' := ext (has _ _ hc)
      dsimp only
      rw [if_pos rfl]
      by_cases hq : q > 0
      · rw [if_pos hq]
        have hE' : Eqs lt (kas_rev p (m - (q + 1)) m) (m + 1) 0 := ⟨by lia, fun i h1 h2 => by (obtain rfl : i = m := (by lia)); exact ⟨hir _, hir _⟩⟩
        refine spec_mono (fun r z => ⟨z.1, by lia, by lia, z.2.2.2⟩) _ (desc_spec f _ (m + 1) 0 (hp.rev _ _) (by lia) (nic_rev htr (by lia) (by lia) hN' hE) hE')
      · rw [if_neg hq]
        have hE' : Eqs lt p (m + 1) 0 := ⟨by lia, fun i h1 h2 => by (obtain rfl : i = m := (by lia)); exact ⟨hir _, hir _⟩⟩
        refine spec_mono (fun r z => ⟨z.1, by lia, by lia, z.2.2.2⟩) _ (desc_spec f _ (m + 1) 0 hp (by lia) hN' hE')
    | false =>
      dsimp only
      rw [if_neg Bool.false_ne_true]
      refine ⟨Pm.ltn hn hp (m - 1), Pm.ltn hn hp m, ?_⟩
      cases hd : lt (p.getD (m - 1) 0) (p.getD m 0) with
      | true => exact ⟨hp, Nat.le_refl _, Nat.le_add_right _ _, hN, hE⟩
      | false =>
        dsimp only
        rw [if_neg Bool.false_ne_true]
        have hE' : Eqs lt p (m + 1) (q + 1) := ⟨by lia, fun i h1 h2 => by
          by_cases him : i = m
          · subst him; exact ⟨hir _, hir _⟩
          · have z := hE.2 i (by lia) (by lia)
            exact ⟨htr _ _ _ z.1 hd, htr _ _ _ hc z.2⟩⟩
        refine spec_mono (fun r z => ⟨z.1, by lia, by lia, z.2.2.2⟩) _ (desc_spec f _ (m + 1) (q + 1) hp (by lia) (ext hd) hE')

theorem srt_of_nic {p : Array Nat} {m : Nat} (hm : m ≤ p.size) (hN : Nic lt p m) : Srt lt (kas_rev p 0 m) m := fun i j hij hj => by
  rw [gg_rev hm, gg_rev hm, if_pos ⟨by lia, by lia⟩, if_pos ⟨by lia, by lia⟩]
  exact hN _ _ (by lia) (by lia)

include hir htr hn in
theorem tail_spec {p : Array Nat} {m : Nat} (hp : Pm n p) (h1 : 1 ≤ m) (hm : m ≤ n) (hN : Nic lt p m) : spec lt n (kas_tail3 m n p) (fun r => 1 ≤ r.1 ∧ r.1 ≤ n ∧ Pm n r.2 ∧ Srt lt r.2 r.1) := by
  have hsz := hp.size
  refine spec_bind _ (spec_mono (fun r z => ?_) _ (asc_spec hir htr hn (hp.rev 0 m) (n - m) m h1 (by lia) (srt_of_nic (by lia) hN)))
  exact ⟨by lia, by lia, hp.rev _ _, z.2.2.1⟩

include hir htr has hn in
theorem descPart_spec {p : Array Nat} {m : Nat} (hp : Pm n p) (hm : m + 1 ≤ n) (hN : Nic lt p (m + 1)) : spec lt n (kas_descPart m n p) (fun r => 1 ≤ r.1 ∧ r.1 ≤ n ∧ Pm n r.2 ∧ Srt lt r.2 r.1) := by
  have hE : Eqs lt p (m + 1) 0 := ⟨by lia, fun i h1 h2 => by (obtain rfl : i = m := (by lia)); exact ⟨hir _, hir _⟩⟩
  refine spec_bind _ (spec_mono (fun r z => ?_) _ (desc_spec hir htr has hn (n - (m + 1)) p (m + 1) 0 hp (by lia) hN hE))
  obtain ⟨z1, z2, z3, z4, z5⟩ := z
  have hsz := z1.size
  split
  · exact tail_spec hir htr hn (z1.rev _ _) (by lia) (by lia) (nic_rev htr (Nat.le_refl _) (by lia) z4 z5)
  · exact tail_spec hir htr hn z1 (by lia) (by lia) z4

include hir htr has hn in
theorem count_spec {p : Array Nat} (hp : Pm n p) : spec lt n (kas_count n p) (fun r => 1 ≤ r.1 ∧ r.1 ≤ n ∧ Pm n r.2 ∧ Srt lt r.2 r.1) := by
  have hsz := hp.size
  have hs1 : Srt lt p 1 := fun i j hij hj => by (obtain rfl : i = j := (by lia)); exact hir _
  refine spec_bind _ (spec_mono (fun m z => ?_) _ (asc_spec hir htr hn hp (n - 1) 1 (Nat.le_refl _) (by lia) hs1))
  obtain ⟨z1, z2, z3, z4⟩ := z
  by_cases e : (m == n) = true
  · rw [if_pos e]
    exact ⟨z1, by lia, hp, z3⟩
  · rw [if_neg e]
    have hne : m ≠ n := fun q => e (by rw [q]; exact beq_self_eq_true _)
    have hlt : lt (gg p m) (gg p (m - 1)) = true := z4.resolve_left (by lia)
    by_cases h1 : m > 1
    · rw [if_pos h1]
      refine ⟨Pm.ltn hn hp 0, Pm.ltn hn hp (m - 1), ?_⟩
      cases hc : lt (p.getD 0 0) (p.getD (m - 1) 0) with
      | true => exact ⟨z1, by lia, hp, z3⟩
      | false =>
        dsimp only
        rw [if_neg Bool.false_ne_true]
        have hall : ∀ i j, i < m → j < m → lt (gg p i) (gg p j) = false := fun i j hi hj => by
          exact htr _ _ _ (htr _ _ _ (z3 0 i (by lia) hi) hc) (z3 j (m - 1) (by lia) (by lia))
        refine descPart_spec hir htr has hn (hp.rev 0 m) (by lia) fun i j hij hj => ?_
        rw [gg_rev (by lia), gg_rev (by lia)]
        by_cases hi : i < m
        · rw [if_pos ⟨by lia, hi⟩]
          by_cases hj' : j < m
          · rw [if_pos ⟨by lia, hj'⟩]; exact hall _ _ (by lia) (by lia)
          · rw [if_neg (by lia)]
            obtain rfl : j = m := by lia
            exact htr _ _ _ (hall _ (j - 1) (by lia) (by lia)) (has _ _ hlt)
        · obtain rfl : i = j := by lia
          split <;> exact hir _
    · rw [if_neg h1]
      obtain rfl : m = 1 := by lia
      refine descPart_spec hir htr has hn hp (by lia) fun i j hij hj => ?_
      by_cases hij' : i = j
      · subst hij'; exact hir _
      · obtain rfl : i = 0 := by lia
        obtain rfl : j = 1 := by lia
        exact has _ _ hlt

include htr has hn in
theorem place_spec {p : Array Nat} {k : Nat} (hp : Pm n p) (hs : Srt lt p k) : ∀ (f l r : Nat), r - l ≤ f → l ≤ r → r ≤ k → (∀ i, i < l → lt (gg p k) (gg p i) = false) → (∀ i, r ≤ i → i < k → lt (gg p k) (gg p i) = true) →
    spec lt n (kas_place p k f l r) (fun x => x ≤ k ∧ (∀ i, i < x → lt (gg p k) (gg p i) = false) ∧ ∀ i, x ≤ i → i < k → lt (gg p k) (gg p i) = true)
  | 0, l, r, hf, hlr, hrk, h1, h2 => by
    obtain rfl : l = r := by lia
    exact ⟨hrk, h1, h2⟩
  | f + 1, l, r, hf, hlr, hrk, h1, h2 => by
    unfold kas_place
    by_cases hge : l ≥ r
    · rw [if_pos hge]
      obtain rfl : l = r := by lia
      exact ⟨hrk, h1, h2⟩
    · rw [if_neg hge]
      refine ⟨Pm.ltn hn hp _, Pm.ltn hn hp _, ?_⟩
      cases hc : lt (p.getD k 0) (p.getD ((l + r) / 2) 0) with
      | true =>
        dsimp only
        rw [if_pos rfl]
        refine place_spec hp hs f l ((l + r) / 2) (by lia) (by lia) (by lia) h1 fun i hi hik => ?_
        cases hq : lt (gg p k) (gg p i) with
        | true => rfl
        | false =>
          have := htr _ _ _ hq (hs ((l + r) / 2) i hi hik)
          rw [show lt (gg p k) (gg p ((l + r) / 2)) = true from hc] at this
          cases this
      | false =>
        dsimp only
        rw [if_neg Bool.false_ne_true]
        refine place_spec hp hs f ((l + r) / 2 + 1) r (by lia) (by lia) (by lia) (fun i hi => ?_) h2
        exact htr _ _ _ hc (hs i ((l + r) / 2) (by lia) (by lia))

include hir htr has hn in
theorem bin_spec : ∀ (f : Nat) (p : Array Nat) (k : Nat), Pm n p → 1 ≤ k → k + f = n → Srt lt p k → spec lt n (kas_bin f p k) (fun r => Pm n r ∧ Srt lt r n)
  | 0, p, k, hp, _, hk, hs => by
    obtain rfl : k = n := by lia
    exact ⟨hp, hs⟩
  | f + 1, p, k, hp, h1, hk, hs => by
    have hsz := hp.size
    refine spec_bind _ (spec_mono (fun x z => ?_) _ (place_spec htr has hn hp hs k 0 k (by lia) (by lia) (Nat.le_refl _) (fun i hi => absurd hi (Nat.not_lt_zero _)) fun i h1 h2 => absurd h1 (by lia)))
    obtain ⟨z1, z2, z3⟩ := z
    refine bin_spec f _ (k + 1) (hp.bub _ _) (by lia) (by lia) fun i j hij hj => ?_
    rw [gg_bub (by lia) (by lia), gg_bub (by lia) (by lia), show k - (k - x) = x by lia]
    by_cases ei : i = x
    · rw [if_pos ei]
      by_cases ej : j = x
      · rw [if_pos ej]; exact hir _
      · rw [if_neg ej, if_pos ⟨by lia, by lia⟩]
        exact has _ _ (z3 (j - 1) (by lia) (by lia))
    · rw [if_neg ei]
      by_cases ej : j = x
      · rw [if_pos ej, if_neg (by lia)]
        exact z2 i (by lia)
      · rw [if_neg ej]
        by_cases hj' : x < j ∧ j ≤ k
        · rw [if_pos hj']
          by_cases hi' : x < i ∧ i ≤ k
          · rw [if_pos hi']; exact hs _ _ (by lia) (by lia)
          · rw [if_neg hi']; exact hs _ _ (by lia) (by lia)
        · rw [if_neg hj', if_neg (by lia)]
          exact hs _ _ hij (by lia)

include hir htr has hn in
/-- the sort's tree sorts -/
theorem sort_spec : spec lt n (kas_sort n) (fun p => Pm n p ∧ Srt lt p n) := by
  have hp0 : Pm n (List.toArray (List.range n)) := List.Perm.refl _
  refine spec_bind _ (spec_mono (fun r z => ?_) _ (count_spec hir htr has hn hp0))
  obtain ⟨z1, z2, z3, z4⟩ := z
  split
  · rw [show max r.1 1 = r.1 by lia]
    exact bin_spec hir htr has hn (n - r.1) r.2 r.1 z3 z1 (by lia) z4
  · obtain e : r.1 = n := by lia
    rw [e] at z4
    exact ⟨z3, z4⟩
end
end Mine
end

section
open PySem PySem.W PyProof.Rows PySem.Calls
set_option maxRecDepth 100000
set_option maxHeartbeats 1000000
namespace Mine

theorem sort_plain_rev (a : Addr) : Builtin.«list.sort» ⟨[.ref a], []⟩ = Builtin.«list.sort» ⟨[.ref a], [(Str.ofString "reverse", .bool false)]⟩ := by
  rw [list_sort_plain, list_sort_rev]; rfl

section
variable {prog : Program} {w : World} {A : Around} {E : Value → Shared → Prop} {s : Shared}

theorem keyLt_pairs {x y : Value} {k l : Int × Int} {Q : Bool → Shared → Prop} (hx : Pr s.heap x k) (hy : Pr s.heap y l) (h : Q (lx k l) s) : wpAny (model prog w) A (keyLt' (tuples' true) x y) Q E s := by
  obtain ⟨a, t, u, rfl, ea⟩ := hx
  obtain ⟨b, t', u', rfl, eb⟩ := hy
  refine kat_lt ea rfl eb rfl (kat_cons (wpAny_eqBool_int ?_))
  unfold lx at h
  refine kat_go (fun e => kat_yes (kat_cons (wpAny_eqBool_int (kat_go (fun e2 => kat_yes (kat_nil ?_)) fun e2 => kat_no (kat_one _ _ (lt_int ?_)))))) fun e => kat_no (oneLt_int ?_)
  · have e1 : k.1 = l.1 := by simpa using e
    have e2 : k.2 = l.2 := by simpa using e2
    rw [if_pos e1, show decide (k.2 < l.2) = false by rw [e2]; simp] at h
    exact h
  · have e1 : k.1 = l.1 := by simpa using e
    rw [if_pos e1] at h
    exact h
  · have e1 : ¬ k.1 = l.1 := by simpa using e
    rw [if_neg e1] at h
    exact h

theorem katTups_of {h : Heap} : ∀ (us : List Value), (∀ v ∈ us, ∃ k, Pr h v k) → ∃ fs : List Value, KatTups h us fs ∧ fs.length = us.length ∧ ∀ v ∈ fs, ∃ i t, v = .int i t
  | [], _ => ⟨[], .nil, rfl, fun _ h => nomatch h⟩
  | v :: us, hp => by
    obtain ⟨fs, h1, h2, h3⟩ := katTups_of us fun v hv => hp v (.tail _ hv)
    obtain ⟨k, a, t, u, rfl, e⟩ := hp v (.head _)
    exact ⟨.int k.1 t :: fs, .cons e rfl rfl rfl h1, by simp [h2], fun v hv => by
      cases hv with
      | head => exact ⟨_, _, rfl⟩
      | tail _ q => exact h3 v q⟩

theorem lx_irr (a : Int × Int) : lx a a = false := by simp [lx]
theorem lx_asy (a b : Int × Int) (h : lx a b = true) : lx b a = false := by
  unfold lx at *
  by_cases e : a.1 = b.1
  · rw [if_pos e] at h
    rw [if_pos e.symm]
    simp only [decide_eq_true_eq] at h
    exact decide_eq_false (by lia)
  · rw [if_neg e] at h
    rw [if_neg (fun q => e q.symm)]
    simp only [decide_eq_true_eq] at h
    exact decide_eq_false (by lia)
theorem lx_tr (a b c : Int × Int) (h1 : lx a b = false) (h2 : lx b c = false) : lx a c = false := by
  unfold lx at *
  split at h1 <;> split at h2 <;> split <;> simp only [decide_eq_false_iff_not] at * <;> lia

theorem sortCore {ws : List Value} (hp : ∀ v ∈ ws, ∃ k, Pr s.heap v k) (h2 : 2 ≤ ws.length) (h64 : ws.length < 64) :
    wpAny (model prog w) A ((sortRuns').run (SortSt.mk' (tuples' true) (ws.toArray.zip ws.toArray) #[] 7 none)) (fun r s' => s' = s ∧ failedOf r.2 = none ∧ ∃ out : List Value, (arrOf r.2).map (·.2) = out.toArray ∧ out.Perm ws ∧ out.Pairwise (fun x y => ltP s.heap y x = false)) E s := by
  have hget : ∀ i, i < ws.length → Pr s.heap (ws.getD i .none) (keyAt s.heap (ws.getD i .none)) := fun i hi => by
    obtain ⟨k, hk⟩ := hp (ws.getD i .none) (by simp [hi])
    rw [keyAt_eq hk]; exact hk
  have sp := sort_spec (lt := fun i j => lx (keyAt s.heap (ws.getD i .none)) (keyAt s.heap (ws.getD j .none))) (n := ws.length) (fun i => lx_irr _) (fun i j k h1 h2 => lx_tr _ _ _ h1 h2) (fun i j h => lx_asy _ _ h) (by lia)
  have wp := spec_wp (cmp := kas_ask prog w A (tuples' true) ws) (s := s) (fun i j C hi hj hC => keyLt_pairs (hget i hi) (hget j hj) hC) _ sp
  refine kat_run (Q := fun st s' => s' = s ∧ failedOf st = none ∧ ∃ out : List Value, (arrOf st).map (·.2) = out.toArray ∧ out.Perm ws ∧ out.Pairwise (fun x y => ltP s.heap y x = false)) rfl h2 h64 (fun p st' s' hps har hf hG => ?_) wp
  obtain ⟨rfl, hpm, hsrt⟩ := hG
  refine ⟨rfl, hf, p.toList.map fun i => ws.getD i .none, kat_snds rfl har, ?_, ?_⟩
  · refine (List.Perm.map _ hpm).trans ?_
    have e : (List.range ws.length).map (fun i => ws.getD i Value.none) = ws := by
      apply List.ext_getElem
      · simp
      · intro i h1 h2
        simp at h1 ⊢
        simp [h1]
    rw [e]
  · rw [List.pairwise_map, List.pairwise_iff_getElem]
    intro i j hi hj hij
    have hsz := hpm.size
    have hi' : i < p.size := by simpa using hi
    have hj' : j < p.size := by simpa using hj
    have z := hsrt i j (by lia) (by lia)
    unfold gg at z
    simpa [Array.getD, hi', hj', ltP] using z

theorem sortP {a : Addr} {us : List Value} {b : Bool} {P : PySem.Fin → Shared → Prop} (hl : Ls s.heap a us) (hp : ∀ v ∈ us, isP a s.heap v) (h2 : 2 ≤ us.length) (h64 : us.length < 64)
    (h : ∀ h' us', Kp a s.heap h' → Ls h' a us' → us'.Perm us → us'.Pairwise (fun x y => if b = true then ltP s.heap x y = false else ltP s.heap y x = false) → P (.done (.ret .none)) { s with heap := h' }) :
    wpAny (model prog w) A (Builtin.«list.sort» ⟨[.ref a], [(Str.ofString "reverse", .bool b)]⟩) P E s := by
  rw [list_sort_rev]
  have ha := hl.lt
  obtain ⟨n, ho⟩ := hl
  refine wpAny_bind (listItems_at ho rfl ?_)
  refine wpAny_bind (listUpdate_at ho rfl ?_ (by rw [List.size_toArray, sizeLine_eq]; lia) (Nat.zero_le _))
  obtain ⟨e1, ho1⟩ : ∃ e1, (s.heap.update a (Obj.mapSeq fun _ => #[])).get? a = some (seqObj "list" #[] e1) := ⟨_, get?_update_seq ho (fun _ => #[])⟩
  refine wpAny_bind (seqEpoch_at ho1 rfl ?_)
  refine wpAny_bind (wpAny_newTuple ?_ (by rw [sizeLine_eq, show us.toArray.toList = us from rfl]; lia))
  refine wpAny_bind (wpAny_newList ?_)
  refine wpAny_holding ?_
  have k6 : Kp a s.heap (((s.heap.update a (Obj.mapSeq fun _ => (#[] : Array Value))).push (seqObj "tuple" us.toArray 0)).push (seqObj "list" #[] 0)) :=
    (Kp.same (Heap.SameBut.update ..)).trans (.of ((Ov.push _).trans (.push _)))
  have ho6 : (((s.heap.update a (Obj.mapSeq fun _ => (#[] : Array Value))).push (seqObj "tuple" us.toArray 0)).push (seqObj "list" #[] 0)).get? a = some (seqObj "list" #[] e1) := Heap.get?_push_of_some _ (Heap.get?_push_of_some _ ho1)
  show wpAny (model prog w) A _ P E { s with heap := ((s.heap.update a (Obj.mapSeq fun _ => #[])).push (seqObj "tuple" us.toArray 0)).push (seqObj "list" #[] 0) }
  generalize ((s.heap.update a (Obj.mapSeq fun _ => (#[] : Array Value))).push (seqObj "tuple" us.toArray 0)).push (seqObj "list" #[] 0) = h6 at *
  have hp6 : ∀ v ∈ us, ∃ k, Pr h6 v k := fun v hv => by
    obtain ⟨hne, k, hk⟩ := hp v hv
    exact ⟨k, hk.keep fun b o e q => k6.st b o (fun z => hne (by rw [e, z])) q⟩
  have hltP : ∀ x y, x ∈ us → y ∈ us → ltP h6 x y = ltP s.heap x y := fun x y hx hy => by
    obtain ⟨hne, k, hk⟩ := hp x hx
    obtain ⟨hne', l, hl'⟩ := hp y hy
    unfold ltP
    rw [keyAt_eq hk, keyAt_eq hl', keyAt_eq (hk.keep fun b o e q => k6.st b o (fun z => hne (by rw [e, z])) q), keyAt_eq (hl'.keep fun b o e q => k6.st b o (fun z => hne' (by rw [e, z])) q)]
  have hsz : ¬ us.toArray.size < 2 := by rw [List.size_toArray]; lia
  obtain ⟨fs, ht, hfl, hfi⟩ := katTups_of us hp6
  have kk : ∀ {Q' : SortKind → Shared → Prop} {E' : Value → Shared → Prop}, Q' (tuples' true) { s with heap := h6 } → wpAny (model prog w) A (keyKind' us.toArray) Q' E' { s with heap := h6 } := fun hq =>
    kat_kind (T := .type "int") ht (by lia) (fun v hv => by obtain ⟨i, t, rfl⟩ := hfi v hv; exact Looks.of_pure rfl) (by decide) hq
  have fin : ∀ (out : List Value), out.Perm us → out.Pairwise (fun x y => if b = true then ltP s.heap x y = false else ltP s.heap y x = false) →
      P (.done (.ret .none)) { s with heap := h6.update a (Obj.mapSeq fun _ => out.toArray) } := fun out q1 q2 =>
    h _ out (k6.trans (.same (Heap.SameBut.update ..))) ⟨_, get?_update_seq ho6 fun _ => out.toArray⟩ q1 q2
  cases b with
  | false =>
    simp only [Bool.false_eq_true, if_false, hsz] at fin ⊢
    refine wpAny_bind (kk (wpAny_bind (wpAny_mono (sortCore (s := { s with heap := h6 }) hp6 h2 h64) ?_ fun _ _ e => e)))
    rintro ⟨⟨⟩, st⟩ s' ⟨rfl, hf, out, ho', hperm, hpw⟩
    dsimp only at hf ho' ⊢
    refine wpAny_bind (seqEpoch_at ho6 rfl ?_)
    rw [ho']
    refine wpAny_bind (listUpdate_at ho6 rfl ?_ (Nat.zero_le _) (by rw [List.size_toArray, hperm.length_eq, sizeLine_eq]; lia))
    rw [hf]
    simp only [bne_self_eq_false, Bool.false_eq_true, if_false]
    exact wpAny_pure (fin out hperm (hpw.imp_of_mem fun hx hy q => by rw [← hltP _ _ (hperm.mem_iff.mp hy) (hperm.mem_iff.mp hx)]; exact q))
  | true =>
    simp only [if_true, hsz, if_false] at fin ⊢
    have ez : (us.toArray.zip us.toArray).reverse = us.reverse.toArray.zip us.reverse.toArray := by
      have zs : ∀ l : List Value, l.zip l = l.map fun x => (x, x) := by
        intro l
        induction l with
        | nil => rfl
        | cons v r ih => rw [List.zip_cons_cons, ih]; rfl
      apply Array.toList_inj.mp
      simp only [Array.toList_reverse, Array.toList_zip]
      rw [zs, zs, List.map_reverse]
    rw [ez]
    refine wpAny_bind (wpAny_rule (wpAny_bind (kk (wpAny_bind (wpAny_mono (sortCore (s := { s with heap := h6 }) (ws := us.reverse) (fun v hv => hp6 v (List.mem_reverse.mp hv)) (by simpa using h2) (by simpa using h64)) ?_ fun _ _ e => e)))))
    rintro ⟨⟨⟩, st⟩ s' ⟨rfl, hf, out, ho', hperm, hpw⟩
    dsimp only at hf ho' ⊢
    have hperm' : out.reverse.Perm us := (List.reverse_perm _).trans (hperm.trans (List.reverse_perm _))
    refine wpAny_bind (seqEpoch_at ho6 rfl ?_)
    rw [ho', show out.toArray.reverse = out.reverse.toArray by simp]
    refine wpAny_bind (listUpdate_at ho6 rfl ?_ (Nat.zero_le _) (by rw [List.size_toArray, hperm'.length_eq, sizeLine_eq]; lia))
    rw [hf]
    simp only [bne_self_eq_false, Bool.false_eq_true, if_false]
    refine wpAny_pure (fin out.reverse hperm' (List.pairwise_reverse.mpr (hpw.imp_of_mem fun hx hy q => ?_)))
    rw [← hltP _ _ (List.mem_reverse.mp (hperm.mem_iff.mp hy)) (List.mem_reverse.mp (hperm.mem_iff.mp hx))]
    exact q
end
end Mine
end

section
open PySem PySem.W PyProof.Rows PySem.Calls
set_option maxRecDepth 100000
set_option maxHeartbeats 1000000
namespace Mine

section
variable {prog : Program} {w : World} {A : Around} {E : Value → Shared → Prop} {s : Shared}

theorem nextOf_range {it : Addr} {x left step : Int} {Q : Value → Shared → Prop} (hit : IsRangeIter s.heap it x left step) (hleft : 0 < left)
    (hQ : ∀ h', IsRangeIter h' it (x + step) (left - 1) step → Heap.SameBut it s.heap h' → Q (.int x s.toks) { s with heap := h', toks := s.toks + 1 }) :
    wpAny (model prog w) A (Builtin.SmallTypes.nextOf (.ref it)) Q E s := by
  have hT : s.TypeIs (.ref it) "range_iterator" := ⟨_, hit, rfl⟩
  unfold Builtin.SmallTypes.nextOf
  refine wpAny_bind (wpAny_callSpecial?_slot (name := Str.ofString "__next__") hT PySem.F.slot_range_iterator_next
    (call_meets PySem.F.slot_range_iterator_next hT PySem.F.entry_range_iterator_next (PySem.F.args_range_iterator_next_1 _) (AutoRange.range_iterator___next___range_iterator_1 it x left step (by lia)) ⟨hit, ?_⟩))
  exact wpAny_pure (hQ _ (Heap.get?_update_self _ (Heap.get?_update_self _ hit rfl) rfl) ((Heap.SameBut.update ..).trans (Heap.SameBut.update ..)))

theorem nextOf_range_end {it : Addr} {x left step : Int} {Q : Value → Shared → Prop} (hh : A.handled = none) (hit : IsRangeIter s.heap it x left step) (hleft : left ≤ 0)
    (hE : ∀ h' e, Heap.ExtBut it s.heap h' → (∃ o, h'.get? e = some o ∧ o.cls = .type "StopIteration") → E (.ref e) { s with heap := h' }) : wpAny (model prog w) A (Builtin.SmallTypes.nextOf (.ref it)) Q E s := by
  have hT : s.TypeIs (.ref it) "range_iterator" := ⟨_, hit, rfl⟩
  unfold Builtin.SmallTypes.nextOf
  refine wpAny_bind (wpAny_callSpecial?_slot (name := Str.ofString "__next__") hT PySem.F.slot_range_iterator_next
    (wpAny_call_entry PySem.F.slot_range_iterator_next hT PySem.F.entry_range_iterator_next ?_ (PySem.F.args_range_iterator_next_1 _)))
  show wpAny _ _ (field (.ref it) 0 >>= _) _ _ s
  refine wpAny_bind (wpAny_field hit rfl (x := rawInt x) rfl ?_)
  show wpAny _ _ (field (.ref it) 1 >>= _) _ _ s
  refine wpAny_bind (wpAny_field hit rfl (x := rawInt left) rfl ?_)
  show wpAny _ _ (field (.ref it) 2 >>= _) _ _ s
  refine wpAny_bind (wpAny_field hit rfl (x := rawInt step) rfl ?_)
  show wpAny _ _ (if left ≤ 0 then _ else _) _ _ s
  rw [if_pos hleft]
  refine wpAny_bind (wpAny_rule ?_)
  refine wpAny_bind ?_
  show wpAny _ _ (newExc (.type "StopIteration") [] >>= _) _ _ _
  refine wpAny_bind ?_
  simp only [newExc, newTuple]
  refine wpAny_bind (wpAny_newObj_type ?_ (by size_fits))
  refine wpAny_bind (m := firstArgMember _ _) (wpAny_of_eq (a := Value.none) (by first | rfl | (simp only [firstArgMember]; rfl)) ?_)
  refine wpAny_newObj_type ?_ (by size_fits)
  simp only [raiseNew]
  refine wpAny_bind (wpAny_handled ?_)
  first | rw [show A.in1.handled = none from hh] | rw [hh]
  refine wpAny_bind (wpAny_pure (wpAny_throw ?_))
  exact hE _ _ (((Heap.ExtBut.refl it s.heap).push _).push _) ⟨_, Heap.get?_push_size _ rfl, rfl⟩

theorem zipItem {z TI TO i1 i2 l2 : Addr} {k2 : Nat} {x left step : Int} {ys : Array Value} {y a b : Value} {Q : Option Value → Shared → Prop} (D : ZipApart z TI TO i1 i2 l2 l2)
    (hz : IsZip s.heap z TI TO .none) (hTI : IsPair s.heap TI (.ref i1) (.ref i2)) (hTO : IsPair s.heap TO a b)
    (h1 : IsRangeIter s.heap i1 x left step) (hleft : 0 < left) (h2 : s.heap.IsListIter i2 l2 k2) (hl2 : s.heap.IsList l2 ys) (hy : ys[k2]? = some y)
    (hQ : ∀ h', IsZip h' z TI TO (rawInt s.heap.objs.size) → IsPair h' TO (.int x s.toks) y → IsRangeIter h' i1 (x + step) (left - 1) step → h'.IsListIter i2 l2 (k2 + 1) → IsPair h' s.heap.objs.size (.int x s.toks) y → h'.objs.size = s.heap.objs.size + 1 →
      (∀ c o, c ≠ z → c ≠ TO → c ≠ i1 → c ≠ i2 → s.heap.get? c = some o → h'.get? c = some o) → Q (some (.ref s.heap.objs.size)) { s with heap := h', toks := s.toks + 1 }) :
    wpAny (model prog w) A (pyNext (.ref z)) Q E s := by
  have hT : s.TypeIs (.ref z) "zip" := ⟨_, hz, rfl⟩
  unfold pyNext
  refine wpAny_bind (wpAny_attempt (wpAny_callSpecial?_slot (name := Str.ofString "__next__") hT PySem.F.slot_zip_next (wpAny_call_entry PySem.F.slot_zip_next hT PySem.F.entry_zip_next ?_ (PySem.F.args_zip_next_1 _))))
  show wpAny _ _ (field (.ref z) 2 >>= _) _ _ _
  refine wpAny_bind (wpAny_field hz rfl (x := .bool false) rfl ?_)
  show wpAny _ _ (field (.ref z) 3 >>= _) _ _ _
  refine wpAny_bind (wpAny_field hz rfl (x := .ref TI) rfl ?_)
  refine wpAny_bind (wpAny_seqItems hTI rfl ?_)
  show wpAny _ _ (Builtin.SmallTypes.ownedTupleIsFree (.ref z) >>= _) _ _ _
  refine wpAny_bind ?_
  unfold Builtin.SmallTypes.ownedTupleIsFree
  refine wpAny_bind (wpAny_field hz rfl (x := .none) rfl (wpAny_pure ?_))
  simp only [if_true]
  refine wpAny_bind (wpAny_rule ?_)
  refine wpAny_bind (wpAny_field hz rfl (x := .ref TO) rfl ?_)
  refine wpAny_bind (wpAny_setField_rec hz (by simp) fun g1 hz1 b1 => ?_)
  replace hz1 : IsZip g1 z TI TO .ellipsis := hz1
  refine wpAny_bind ?_
  simp only [List.zipIdx_cons, List.zipIdx_nil, List.forIn_cons, List.forIn_nil]
  refine wpAny_bind (wpAny_bind (wpAny_onRaise ?_))
  show wpAny _ _ (Builtin.SmallTypes.nextOf (.ref i1) >>= _) _ _ _
  refine wpAny_bind (nextOf_range ((b1.2 i1 D.i1z).trans h1) hleft fun g2 h12 b2 => wpAny_pure ?_)
  have hTO2 : IsPair g2 TO a b := b2.extBut _ _ D.TOi1 (b1.extBut _ _ D.TOz hTO)
  refine wpAny_bind (wpAny_seqItems hTO2 rfl ?_)
  refine wpAny_bind (wpAny_updateSeq_pair hTO2 fun g3 hTO3 b3 => ?_)
  replace hTO3 : IsPair g3 TO (.int x s.toks) b := hTO3
  refine wpAny_bind (wpAny_letGo (wpAny_pure ?_))
  refine wpAny_bind (wpAny_bind (wpAny_onRaise ?_))
  show wpAny _ _ (Builtin.SmallTypes.nextOf (.ref i2) >>= _) _ _ _
  refine wpAny_bind (wpAny_nextOf_list_item (((h2.extBut b1.extBut D.i2z).extBut b2.extBut D.i12.symm).extBut b3.extBut D.TOi2.symm)
    (((hl2.extBut b1.extBut D.l2z).extBut b2.extBut D.l2i1).extBut b3.extBut D.l2TO) hy fun g4 h24 b4 => wpAny_pure ?_)
  have hTO4 : IsPair g4 TO (.int x s.toks) b := b4.extBut _ _ D.TOi2 hTO3
  refine wpAny_bind (wpAny_seqItems hTO4 rfl ?_)
  refine wpAny_bind (wpAny_updateSeq_pair hTO4 fun g5 hTO5 b5 => ?_)
  replace hTO5 : IsPair g5 TO (.int x s.toks) y := hTO5
  refine wpAny_bind (wpAny_letGo (wpAny_pure (wpAny_pure ?_)))
  refine wpAny_bind (wpAny_seqItems hTO5 rfl ?_)
  refine wpAny_bind (wpAny_newTuple ?_)
  have hsz : g5.objs.size = s.heap.objs.size := by rw [b5.1, b4.1, b3.1, b2.1, b1.1]
  have hz5 : IsZip g5 z TI TO .ellipsis := b5.extBut _ _ D.TOz.symm (b4.extBut _ _ D.i2z.symm (b3.extBut _ _ D.TOz.symm (b2.extBut _ _ D.i1z.symm hz1)))
  have hk5 : ∀ c o, c ≠ z → c ≠ TO → c ≠ i1 → c ≠ i2 → s.heap.get? c = some o → g5.get? c = some o := fun c o c1 c2 c3 c4 e =>
    b5.extBut _ _ c2 (b4.extBut _ _ c4 (b3.extBut _ _ c2 (b2.extBut _ _ c3 (b1.extBut _ _ c1 e))))
  have h15 : IsRangeIter g5 i1 (x + step) (left - 1) step := b5.extBut _ _ D.TOi1.symm (b4.extBut _ _ D.i12 (b3.extBut _ _ D.TOi1.symm h12))
  have h25 : g5.IsListIter i2 l2 (k2 + 1) := h24.extBut b5.extBut D.TOi2.symm
  have hzlt : z < g5.objs.size := Heap.lt_size hz5
  show wpAny _ _ (Builtin.SmallTypes.ownedTupleHandOut (.ref z) (.ref g5.objs.size) >>= _) _ _ _
  refine wpAny_bind ?_
  unfold Builtin.SmallTypes.ownedTupleHandOut
  have hz6 : IsZip (g5.push { cls := .type "tuple", data := .seq #[.int x s.toks, y] }) z TI TO .ellipsis := Heap.get?_push_of_some _ hz5
  refine wpAny_bind (wpAny_setField_rec hz6 (by simp) fun g7 hz7 b7 => ?_)
  replace hz7 : IsZip g7 z TI TO (rawInt g5.objs.size) := hz7
  refine wpAny_setField_rec hz7 (by simp) fun g8 hz8 b8 => ?_
  replace hz8 : IsZip g8 z TI TO (rawInt g5.objs.size) := hz8
  have up : ∀ c o, c ≠ z → g5.get? c = some o → g8.get? c = some o := fun c o c1 e => b8.extBut _ _ c1 (b7.extBut _ _ c1 (Heap.get?_push_of_some _ e))
  have hT8 : IsPair g8 g5.objs.size (.int x s.toks) y := b8.extBut _ _ (Nat.ne_of_gt hzlt) (b7.extBut _ _ (Nat.ne_of_gt hzlt) (Heap.get?_push_size _ rfl))
  have hs8 : g8.objs.size = g5.objs.size + 1 := by rw [b8.1, b7.1, Heap.size_push]
  rw [hsz] at hz8 hT8 hs8
  refine wpAny_pure ⟨_, rfl, ?_⟩
  show wpAny _ _ (pure (some (Value.ref g5.objs.size))) _ _ _
  rw [hsz]
  exact wpAny_pure (hQ g8 hz8 (up _ _ D.TOz hTO5) (up _ _ D.i1z h15) (h25.at fun o e => up _ o D.i2z e) hT8 hs8 fun c o c1 c2 c3 c4 e => up c o c1 (hk5 c o c1 c2 c3 c4 e))

theorem zipEnd {z TI TO i1 i2 l2 : Addr} {x left step : Int} {a b : Value} {Q : Option Value → Shared → Prop} (hh : A.handled = none) (D : ZipApart z TI TO i1 i2 l2 l2)
    (hz : IsZip s.heap z TI TO .none) (hTI : IsPair s.heap TI (.ref i1) (.ref i2)) (hTO : IsPair s.heap TO a b) (h1 : IsRangeIter s.heap i1 x left step) (hleft : left ≤ 0)
    (hQ : ∀ h', (∀ c o, c ≠ z → c ≠ i1 → s.heap.get? c = some o → h'.get? c = some o) → Q none { s with heap := h' }) : wpAny (model prog w) A (pyNext (.ref z)) Q E s := by
  have hT : s.TypeIs (.ref z) "zip" := ⟨_, hz, rfl⟩
  unfold pyNext
  refine wpAny_bind (wpAny_attempt (wpAny_callSpecial?_slot (name := Str.ofString "__next__") hT PySem.F.slot_zip_next (wpAny_call_entry PySem.F.slot_zip_next hT PySem.F.entry_zip_next ?_ (PySem.F.args_zip_next_1 _))))
  show wpAny _ _ (field (.ref z) 2 >>= _) _ _ _
  refine wpAny_bind (wpAny_field hz rfl (x := .bool false) rfl ?_)
  show wpAny _ _ (field (.ref z) 3 >>= _) _ _ _
  refine wpAny_bind (wpAny_field hz rfl (x := .ref TI) rfl ?_)
  refine wpAny_bind (wpAny_seqItems hTI rfl ?_)
  show wpAny _ _ (Builtin.SmallTypes.ownedTupleIsFree (.ref z) >>= _) _ _ _
  refine wpAny_bind ?_
  unfold Builtin.SmallTypes.ownedTupleIsFree
  refine wpAny_bind (wpAny_field hz rfl (x := .none) rfl (wpAny_pure ?_))
  simp only [if_true]
  refine wpAny_bind (wpAny_rule ?_)
  refine wpAny_bind (wpAny_field hz rfl (x := .ref TO) rfl ?_)
  refine wpAny_bind (wpAny_setField_rec hz (by simp) fun g1 hz1 b1 => ?_)
  replace hz1 : IsZip g1 z TI TO .ellipsis := hz1
  refine wpAny_bind ?_
  simp only [List.zipIdx_cons, List.zipIdx_nil, List.forIn_cons, List.forIn_nil]
  refine wpAny_bind (wpAny_bind (wpAny_onRaise ?_))
  show wpAny _ _ (Builtin.SmallTypes.nextOf (.ref i1) >>= _) _ _ _
  refine wpAny_bind (nextOf_range_end (show A.in1.handled = none from hh) ((b1.2 i1 D.i1z).trans h1) hleft fun g2 e b2 he => ?_)
  obtain ⟨oe, hoe, hce⟩ := he
  have hz2 : IsZip g2 z TI TO .ellipsis := b2 _ _ D.i1z.symm hz1
  have hez : e ≠ z := fun q => by subst q; rw [hz2] at hoe; cases hoe; simp at hce
  refine wpAny_setField_rec hz2 (by simp) fun g3 _ b3 => ?_
  refine wpAny_bind (wpAny_isInstance (T := "StopIteration") (b := true) ⟨oe, b3.extBut _ _ hez hoe, hce⟩ isSubtype_stop ?_)
  exact wpAny_pure (hQ _ fun c o c1 c3 q => b3.extBut _ _ c1 (b2 _ _ c3 (b1.extBut _ _ c1 q)))
end
end Mine
end

section
open PySem PySem.W PyProof.Rows PySem.Calls
set_option maxRecDepth 100000
set_option maxHeartbeats 1000000
namespace Mine

abbrev zR (h : Heap) (a k c : Int) : Heap := h.push { cls := .type "range_iterator", data := .fields #[rawInt a, rawInt k, rawInt c] }
abbrev zT (h : Heap) (a k c : Int) (it : Addr) : Heap := (zR h a k c).push { cls := .type "tuple", data := .seq #[.ref h.objs.size, .ref it] }
abbrev zO (h : Heap) (a k c : Int) (it : Addr) : Heap := (zT h a k c it).push { cls := .type "tuple", data := .seq #[.none, .none] }
abbrev zZ (h : Heap) (a k c : Int) (it : Addr) : Heap := (zO h a k c it).push { cls := .type "zip", data := .fields #[.none, .bool false, .bool false, .ref (zR h a k c).objs.size, .ref (zT h a k c it).objs.size] }

theorem meets_zip (r it l : Addr) (a b c : Int) (t u v : Tok) (hsm : Builtin.Range.small a b c = true) :
    Meets (Builtin.«zip.__new__» ⟨[.type "zip", .ref r, .ref it], []⟩) (fun _ R s => IsRange s.heap r a b c t u v ∧ s.heap.IsListIter it l 0 ∧
      R (.ok (.ret (.ref (zO s.heap a (Builtin.Range.rangeSize a b c) c it).objs.size))) { s with heap := zZ s.heap a (Builtin.Range.rangeSize a b c) c it }) :=
  .of_wp fun prog w A R s h => by
    obtain ⟨hp, g, d, tk, os⟩ := s; obtain ⟨hl1, hl2, h⟩ := h
    have hsub := sub_zip
    have hL1 : IsRange (Shared.heap ⟨hp, g, d, tk, os⟩) r a b c t u v := hl1
    have hL2 : Heap.IsListIter (Shared.heap ⟨hp.push { cls := .type "range_iterator", data := .fields #[rawInt a, rawInt (Builtin.Range.rangeSize a b c), rawInt c] }, g, d, tk, os⟩) it l 0 := let ⟨o, e, q⟩ := hl2; ⟨o, Heap.get?_push_of_some _ e, q⟩
    wp_walk using wpAny_pyIter_range hL1 hsm, wpAny_pyIter_listiter hL2
    exact ⟨_, rfl, h⟩

section
variable {prog : Program} {w : World} {A : Around} {E : Value → Shared → Prop} {s : Shared}
theorem callZip {r it l : Addr} {a b c : Int} {t u v : Tok} {Q : Value → Shared → Prop} (hr : IsRange s.heap r a b c t u v) (hsm : Builtin.Range.small a b c = true) (hit : s.heap.IsListIter it l 0)
    (h : ∀ h' z TI TO i1, IsZip h' z TI TO .none → IsPair h' TI (.ref i1) (.ref it) → IsPair h' TO .none .none → IsRangeIter h' i1 a (Builtin.Range.rangeSize a b c) c → Ov s.heap h' → s.heap.objs.size ≤ i1 → i1 < TI → TI < TO → TO < z → Q (.ref z) { s with heap := h' }) :
    wpAny (model prog w) A (call (.type "zip") [.ref r, .ref it]) Q E s := by
  refine callType_new PySem.F.called_zip (by decide) (PySem.F.typeCall_zip_2 _ _) (PySem.F.newCall_zip_2 _ _) (fun obj => PySem.F.args_object_init_3 obj _ _) PySem.F.entry_zip_new
    (meets_zip r it l a b c t u v hsm) ⟨hr, hit, ?_⟩
  generalize Builtin.Range.rangeSize a b c = k at *
  have z1 : (zR s.heap a k c).objs.size = s.heap.objs.size + 1 := Heap.size_push ..
  have z2 : (zT s.heap a k c it).objs.size = s.heap.objs.size + 2 := by rw [Heap.size_push, z1]
  have z3 : (zO s.heap a k c it).objs.size = s.heap.objs.size + 3 := by rw [Heap.size_push, z2]
  have g4 : (zZ s.heap a k c it).get? (zO s.heap a k c it).objs.size = some _ := Heap.get?_push_size _ rfl
  have g3 : (zZ s.heap a k c it).get? (zT s.heap a k c it).objs.size = some _ := Heap.get?_push_of_some _ (Heap.get?_push_size _ rfl)
  have g2 : (zZ s.heap a k c it).get? (zR s.heap a k c).objs.size = some _ := Heap.get?_push_of_some _ (Heap.get?_push_of_some _ (Heap.get?_push_size _ rfl))
  have g1 : (zZ s.heap a k c it).get? s.heap.objs.size = some _ := Heap.get?_push_of_some _ (Heap.get?_push_of_some _ (Heap.get?_push_of_some _ (Heap.get?_push_size _ rfl)))
  refine ⟨⟨_, g4, rfl⟩, h _ _ _ _ _ g4 g2 g3 g1 ((((Ov.push _).trans (.push _)).trans (.push _)).trans (.push _)) (Nat.le_refl _) ?_ ?_ ?_⟩
  · rw [z1]; exact Nat.lt_succ_self _
  · rw [z1, z2]; exact Nat.lt_succ_self _
  · rw [z2, z3]; exact Nat.lt_succ_self _
end
end Mine
end

section
open PySem PySem.W PyProof.Rows PySem.Calls
set_option maxRecDepth 100000
set_option maxHeartbeats 1000000
namespace Mine

theorem mro_obj : mroOf (.type "object") = pure [.type "object"] := by rw [mroOf_type]; kernel_rfl
theorem lookup_obj_new : typeLookup (.type "object") "__new__" = pure (some (.builtin "object.__new__")) := by rw [typeLookup_type, builtinLookup_eq_fast]; kernel_rfl
theorem made_obj : Bind.madeBy (.type "object") = pure (some "object.__new__") := madeBy_type mro_obj lookup_obj_new (by decide +kernel)
theorem called_obj : TypeCalled "object" "object.__new__" "object.__init__" :=
  ⟨by decide +kernel, by decide +kernel, ⟨_, _, mro_obj⟩, made_obj, by decide +kernel, by rw [isSubtype_type]; kernel_rfl, PySem.F.slot_object_init⟩
theorem typeCall_obj : checkTypeCall "object" ⟨[], []⟩ = pure () := by kernel_rfl
theorem newCall_obj : checkBuiltinCall "object.__new__" ⟨[.type "object"], []⟩ = pure () := by kernel_rfl

theorem meets_obj : Meets (Builtin.«object.__new__» ⟨[.type "object"], []⟩) (fun _ R s => R (.ok (.ret (.ref s.heap.objs.size))) { s with heap := s.heap.push { cls := .type "object", data := .plain } }) :=
  .of_wp fun prog w A R s h => by
    obtain ⟨hp, g, d, tk, os⟩ := s
    unfold Builtin.«object.__new__»
    dsimp only
    refine wpAny_bind (wpAny_of_eq (a := true) rfl ?_)
    simp only [Bool.not_true, Bool.false_eq_true, if_false]
    have e1 : ((Manifest.find? "object").elim false fun x => x.mro.any fun t => (Manifest.find? t).elim false fun x => x.noNew) = false := by decide +kernel
    have e2 : Bind.madeHere "object.__new__" (Value.type "object") = pure () := by kernel_rfl
    have e3 : typeHasDict (Value.type "object") = false := by decide +kernel
    have e4 : diesByItsTypesDel "object" = false := by decide +kernel
    rw [if_neg (by rw [e1]; exact Bool.false_ne_true), e2, e3, e4]
    refine wpAny_bind (wpAny_pure ?_)
    rw [if_neg (by decide)]
    simp only [Bool.false_eq_true, if_false]
    refine wpAny_bind (wpAny_pure (wpAny_bind (wpAny_newObj_type (wpAny_pure ⟨_, rfl, h⟩) trivial)))

section
variable {prog : Program} {w : World} {A : Around} {E : Value → Shared → Prop} {s : Shared} {Q : Value → Shared → Prop}
theorem callObj (h : ∀ h' r, Ov s.heap h' → s.heap.objs.size ≤ r → Q (.ref r) { s with heap := h' }) : wpAny (model prog w) A (call (.type "object") []) Q E s := by
  refine callType_meets called_obj typeCall_obj newCall_obj PySem.F.entry_object_new PySem.F.entry_object_init meets_obj (Q₁ := fun obj s₁ => s₁.TypeIs obj "object" ∧ Q obj s₁) ⟨⟨_, Heap.get?_push_size _ rfl, rfl⟩, h _ _ (.push _) (Nat.le_refl _)⟩ fun obj s₁ hq => ?_
  refine ⟨hq.1, PySem.F.args_object_init_1 _, fun _ R s => R (.ok (.ret .none)) s, .of_wp fun prog w A R s h => wpAny_pure ⟨_, rfl, h⟩, rfl, hq.2⟩

theorem callIter {l : Addr} {xs : Array Value} (hl : s.heap.IsList l xs) (h : ∀ h' it, Ov s.heap h' → h'.IsListIter it l 0 → s.heap.objs.size ≤ it → Q (.ref it) { s with heap := h' }) :
    wpAny (model prog w) A (call (.builtin "iter") [.ref l]) Q E s := by
  refine call_function_entry (by decide +kernel) (by decide +kernel) kdk_entry_iter (kdk_args_iter _) ?_
  unfold Builtin.«iter»
  refine wpAny_bind (m := someArgs "iter" 1 2 _) (wpAny_of_eq (a := [Value.ref l]) (by first | rfl | kernel_rfl) ?_)
  show wpAny _ _ (pyIter (.ref l) >>= _) _ _ _
  refine wpAny_bind (wpAny_pyIter_list hl ?_)
  exact wpAny_pure ⟨_, rfl, h _ _ (.push _) ⟨_, Heap.get?_push_size _ rfl, rfl, rfl⟩ (Nat.le_refl _)⟩
end
end Mine
end

section
open PySem PySem.W PyProof.Rows PySem.Calls
set_option maxRecDepth 100000
set_option maxHeartbeats 1000000
namespace Mine

theorem is_int_ref {M : Model} {A : Around} {E : Value → Shared → Prop} {s : Shared} {a : Int} {t : Tok} {r : Addr} {Q : Value → Shared → Prop} (h : Q (.bool false) s) : wpAny M A (compareOp .Is (.int a t) (.ref r)) Q E s :=
  wpAny_pure (a := Value.bool false) h
theorem bst_mem (bt : Value → Value → Bool) : ∀ (vs : List Value) (v : Value), bst bt v vs ∈ v :: vs
  | [], v => .head _
  | u :: r, v => by
    have := bst_mem bt r (if bt u v then u else v)
    unfold bst
    rcases List.mem_cons.mp this with q | q
    · rw [q]; split
      · exact .tail _ (.head _)
      · exact .head _
    · exact .tail _ (.tail _ q)

theorem nsmall_1 {prog : Program} {w : World} {A : Around} {s : Shared} {H : Heap} {R : Result → Shared → Prop} {l : Addr} {v0 : Value} {vs : List Value} {u : Tok}
    (hB : Bs w H) (hO : Ov H s.heap) (hl : Ls s.heap l (v0 :: vs)) (hI : ∀ v ∈ v0 :: vs, isI v) (hh : A.handled = none) (hroom : A.depth < recursionLimit)
    (h : ∀ h' tk l', Ov s.heap h' → Ls h' l' [bst ltV v0 vs] → R (.ok (.ret (.ref l'))) { s with heap := h', toks := tk }) :
    codeAny (model prog w) A (.call (.ref 110) ⟨[.int 1 u, .ref l], []⟩) R s := by
  refine enterC (binds := [("n", .int 1 u), ("iterable", .ref l), ("key", .none)]) hB hO (by rfl) (by rfl) hroom (BindsTo.of_defaults rfl ((hB.X.keeps hO.st) _ _ (by rfl)) (by rfl) rfl rfl) (by rfl) fun h₁ tk₁ X hc => ?_
  have c1 : h₁.IsCell (s.heap.objs.size + 1) (some .none) := hc "key" _ rfl
  have hl1 := hl.grow X.o
  refine wpAny_execs_cons (wpAny_If (wpAny_isTrue_Compare1 (ldE X.F.ns rfl (wpAny_Constant_int (eqB rfl (wpAny_truthy_bool (ift ?_)))))))
  refine wpAny_execs_cons (wpAny_Assign_Name (bcallE hB X.ov.st (spliced_more (ldE X.F.ns rfl (spliced_none (callIter hl1.il fun h2 it o2 hit2 hi2 => ?_))))))
  have X2 := X.grow o2
  have hlt := hl.lt
  have hit0 : s.heap.objs.size < it := Nat.lt_of_lt_of_le X.F.ns.lt hi2
  refine X2.stE fun h3 X3 sb3 => ?_
  have hit3 : h3.IsListIter it l 0 := let ⟨o, e, r⟩ := hit2; ⟨o, (sb3.2 it (Nat.ne_of_gt hit0)).trans e, r⟩
  have hl3 : Ls h3 l (v0 :: vs) := (hl1.grow o2).same sb3 (Nat.ne_of_lt hlt)
  have c3 : h3.IsCell (s.heap.objs.size + 1) (some .none) := let ⟨o, e, d⟩ := c1.keeps o2.st; ⟨o, (sb3.2 _ (Nat.succ_ne_self _)).trans e, d⟩
  refine wpAny_execs_cons (wpAny_Assign_Name (Call_ (bnmE hB X3.ov.st (callWith_type0 (callObj fun h4 r4 o4 hr4 => ?_)))))
  have X4 := X3.grow o4
  have hr0 : s.heap.objs.size < r4 := Nat.lt_of_lt_of_le X3.F.ns.lt hr4
  refine X4.stE fun h5 X5 sb5 => ?_
  have hit5 : h5.IsListIter it l 0 := let ⟨o, e, r⟩ := hit3; ⟨o, (sb5.2 it (Nat.ne_of_gt hit0)).trans (o4.st _ _ e), r⟩
  have hl5 : Ls h5 l (v0 :: vs) := (hl3.grow o4).same sb5 (Nat.ne_of_lt hlt)
  have c5 : h5.IsCell (s.heap.objs.size + 1) (some .none) := let ⟨o, e, d⟩ := c3.keeps o4.st; ⟨o, (sb5.2 _ (Nat.succ_ne_self _)).trans e, d⟩
  refine wpAny_execs_cons (wpAny_Assign_Name (wpAny_Call_Name_kw (bnmE hB X5.ov.st (callWith_kw (spliced_more (ldE X5.F.ns (ups (by decide) upe) (spliced_none (kws_cons (ldE X5.F.ns upe (kws_cons (lcE c5 (kws_nil ?_))))))))))))
  refine minCall hh hI (Nat.ne_of_gt (Nat.lt_trans hlt hit0)) hit5 hl5.il fun h6 tk6 k6 => ?_
  have X6 := X5.keep (it := it) k6 (Nat.le_of_lt hit0) (Nat.ne_of_gt hit0)
  have hbI : isI (bst ltV v0 vs) := hI _ (bst_mem _ _ _)
  refine X6.stE fun h7 X7 sb7 => ?_
  obtain ⟨bn, bt, hbe⟩ := hbI
  rw [hbe] at X7 h
  refine wpAny_execs_cons (wpAny_Return_some (IfExp_ (wpAny_isTrue_Compare1 (ldE X7.F.ns upe (ldE X7.F.ns (ups (by decide) upe) (is_int_ref (wpAny_truthy_bool (iff' ?_))))))))
  refine List_ (spliced_more (ldE X7.F.ns upe (spliced_none (newL (by simp) fun h8 l8 o8 ls8 _ => ?_))))
  dsimp only
  exact h _ _ _ (X7.grow o8).o ls8
theorem nlarge_1 {prog : Program} {w : World} {A : Around} {s : Shared} {H : Heap} {R : Result → Shared → Prop} {l : Addr} {v0 : Value} {vs : List Value} {u : Tok}
    (hB : Bs w H) (hO : Ov H s.heap) (hl : Ls s.heap l (v0 :: vs)) (hI : ∀ v ∈ v0 :: vs, isI v) (hh : A.handled = none) (hroom : A.depth < recursionLimit)
    (h : ∀ h' tk l', Ov s.heap h' → Ls h' l' [bst (fun x y => ltV y x) v0 vs] → R (.ok (.ret (.ref l'))) { s with heap := h', toks := tk }) :
    codeAny (model prog w) A (.call (.ref 116) ⟨[.int 1 u, .ref l], []⟩) R s := by
  refine enterC (binds := [("n", .int 1 u), ("iterable", .ref l), ("key", .none)]) hB hO (by rfl) (by rfl) hroom (BindsTo.of_defaults rfl ((hB.X.keeps hO.st) _ _ (by rfl)) (by rfl) rfl rfl) (by rfl) fun h₁ tk₁ X hc => ?_
  have c1 : h₁.IsCell (s.heap.objs.size + 1) (some .none) := hc "key" _ rfl
  have hl1 := hl.grow X.o
  refine wpAny_execs_cons (wpAny_If (wpAny_isTrue_Compare1 (ldE X.F.ns rfl (wpAny_Constant_int (eqB rfl (wpAny_truthy_bool (ift ?_)))))))
  refine wpAny_execs_cons (wpAny_Assign_Name (bcallE hB X.ov.st (spliced_more (ldE X.F.ns rfl (spliced_none (callIter hl1.il fun h2 it o2 hit2 hi2 => ?_))))))
  have X2 := X.grow o2
  have hlt := hl.lt
  have hit0 : s.heap.objs.size < it := Nat.lt_of_lt_of_le X.F.ns.lt hi2
  refine X2.stE fun h3 X3 sb3 => ?_
  have hit3 : h3.IsListIter it l 0 := let ⟨o, e, r⟩ := hit2; ⟨o, (sb3.2 it (Nat.ne_of_gt hit0)).trans e, r⟩
  have hl3 : Ls h3 l (v0 :: vs) := (hl1.grow o2).same sb3 (Nat.ne_of_lt hlt)
  have c3 : h3.IsCell (s.heap.objs.size + 1) (some .none) := let ⟨o, e, d⟩ := c1.keeps o2.st; ⟨o, (sb3.2 _ (Nat.succ_ne_self _)).trans e, d⟩
  refine wpAny_execs_cons (wpAny_Assign_Name (Call_ (bnmE hB X3.ov.st (callWith_type0 (callObj fun h4 r4 o4 hr4 => ?_)))))
  have X4 := X3.grow o4
  have hr0 : s.heap.objs.size < r4 := Nat.lt_of_lt_of_le X3.F.ns.lt hr4
  refine X4.stE fun h5 X5 sb5 => ?_
  have hit5 : h5.IsListIter it l 0 := let ⟨o, e, r⟩ := hit3; ⟨o, (sb5.2 it (Nat.ne_of_gt hit0)).trans (o4.st _ _ e), r⟩
  have hl5 : Ls h5 l (v0 :: vs) := (hl3.grow o4).same sb5 (Nat.ne_of_lt hlt)
  have c5 : h5.IsCell (s.heap.objs.size + 1) (some .none) := let ⟨o, e, d⟩ := c3.keeps o4.st; ⟨o, (sb5.2 _ (Nat.succ_ne_self _)).trans e, d⟩
  refine wpAny_execs_cons (wpAny_Assign_Name (wpAny_Call_Name_kw (bnmE hB X5.ov.st (callWith_kw (spliced_more (ldE X5.F.ns (ups (by decide) upe) (spliced_none (kws_cons (ldE X5.F.ns upe (kws_cons (lcE c5 (kws_nil ?_))))))))))))
  refine maxCall hh hI (Nat.ne_of_gt (Nat.lt_trans hlt hit0)) hit5 hl5.il fun h6 tk6 k6 => ?_
  have X6 := X5.keep (it := it) k6 (Nat.le_of_lt hit0) (Nat.ne_of_gt hit0)
  have hbI : isI (bst (fun x y => ltV y x) v0 vs) := hI _ (bst_mem _ _ _)
  refine X6.stE fun h7 X7 sb7 => ?_
  obtain ⟨bn, bt, hbe⟩ := hbI
  rw [hbe] at X7 h
  refine wpAny_execs_cons (wpAny_Return_some (IfExp_ (wpAny_isTrue_Compare1 (ldE X7.F.ns upe (ldE X7.F.ns (ups (by decide) upe) (is_int_ref (wpAny_truthy_bool (iff' ?_))))))))
  refine List_ (spliced_more (ldE X7.F.ns upe (spliced_none (newL (by simp) fun h8 l8 o8 ls8 _ => ?_))))
  dsimp only
  exact h _ _ _ (X7.grow o8).o ls8
end Mine
end

section
open PySem PySem.W PyProof.Rows PySem.Calls
set_option maxRecDepth 100000
set_option maxHeartbeats 1000000
namespace Mine

theorem sort_key_none (a : Addr) : Builtin.«list.sort» ⟨[.ref a], [(Str.ofString "key", .none)]⟩ = Builtin.«list.sort» ⟨[.ref a], []⟩ := by
  rw [list_sort_plain]; rfl
theorem sort_key_rev (a : Addr) (b : Bool) : Builtin.«list.sort» ⟨[.ref a], [(Str.ofString "key", .none), (Str.ofString "reverse", .bool b)]⟩ = Builtin.«list.sort» ⟨[.ref a], [(Str.ofString "reverse", .bool b)]⟩ := by
  rw [list_sort_rev]; rfl

section
variable {prog : Program} {w : World} {A : Around} {E : Value → Shared → Prop} {s : Shared}
theorem srtKey {l : Addr} {vs : List Value} {ns : List Int} {Q : Value → Shared → Prop} (hl : s.heap.IsList l vs.toArray) (hI : IntsAre vs ns) (h64 : vs.length < 64)
    (h : ∀ h' l' out (ns' : List Int), Ov s.heap h' → Ls h' l' out → s.heap.objs.size ≤ l' → IntsAre out ns' → ns'.Perm ns → ns'.Pairwise (· ≤ ·) → Q (.ref l') { s with heap := h' }) :
    wpAny (model prog w) A (call (.builtin "sorted") [.ref l] [(Str.ofString "key", .none)]) Q E s := by
  refine call_function_entry_kw kind_sorted plain_sorted entry_sorted (by unfold argsOk; kernel_rfl) ?_
  unfold Builtin.«sorted»
  refine wpAny_bind (m := checkCount "sorted" 1 1 _) (wpAny_pure ?_)
  refine wpAny_bind (collect_list hl ?_ (by rw [sizeLine_eq]; lia))
  have o1 : Ov s.heap ((s.heap.push (seqObj "list" #[] 0)).update s.heap.objs.size (Obj.mapSeq (· ++ vs.toArray))) := ⟨fun b o e => by
    rw [Heap.get?_update_ne _ _ _ _ (Nat.ne_of_lt (Heap.lt_size e))]
    exact Heap.get?_push_of_some _ e, by rw [Heap.size_update, size_push']; lia⟩
  generalize (s.heap.push (seqObj "list" #[] 0)).update s.heap.objs.size (Obj.mapSeq (· ++ vs.toArray)) = g1 at *
  refine wpAny_bind (wpAny_newList ?_ (by rw [sizeLine_eq]; lia))
  have hoL : (g1.push (seqObj "list" vs.toArray 0)).get? g1.objs.size = some (seqObj "list" vs.toArray 0) := Heap.get?_push_size _ rfl
  dsimp only
  refine wpAny_bind (wpAny_holding (wpAny_call_entry_kw slot_list_sort ⟨_, hoL, rfl⟩ entry_list_sort ?_ (by unfold argsOk; kernel_rfl)))
  rw [sort_key_none]
  refine list_sort_tree (s := { s with heap := g1.push (seqObj "list" vs.toArray 0) }) hoL hI h64 fun out ns' a1 a2 a3 => ⟨_, rfl, ?_⟩
  refine wpAny_pure ⟨_, rfl, ?_⟩
  exact h _ _ _ _ (sortedHeap_ov (o1.trans (.push _)) o1.sz) (sortedHeap_ls hoL) o1.sz a1 a2 a3

theorem srtKeyRev {l : Addr} {vs : List Value} {ns : List Int} {b : Bool} {Q : Value → Shared → Prop} (hl : s.heap.IsList l vs.toArray) (hI : IntsAre vs ns) (h64 : vs.length < 64)
    (h : ∀ h' l' out (ns' : List Int), Ov s.heap h' → Ls h' l' out → s.heap.objs.size ≤ l' → IntsAre out ns' → ns'.Perm ns → Ordered b ns' → Q (.ref l') { s with heap := h' }) :
    wpAny (model prog w) A (call (.builtin "sorted") [.ref l] [(Str.ofString "key", .none), (Str.ofString "reverse", .bool b)]) Q E s := by
  refine call_function_entry_kw kind_sorted plain_sorted entry_sorted (by unfold argsOk; kernel_rfl) ?_
  unfold Builtin.«sorted»
  refine wpAny_bind (m := checkCount "sorted" 1 1 _) (wpAny_pure ?_)
  refine wpAny_bind (collect_list hl ?_ (by rw [sizeLine_eq]; lia))
  have o1 : Ov s.heap ((s.heap.push (seqObj "list" #[] 0)).update s.heap.objs.size (Obj.mapSeq (· ++ vs.toArray))) := ⟨fun b o e => by
    rw [Heap.get?_update_ne _ _ _ _ (Nat.ne_of_lt (Heap.lt_size e))]
    exact Heap.get?_push_of_some _ e, by rw [Heap.size_update, size_push']; lia⟩
  generalize (s.heap.push (seqObj "list" #[] 0)).update s.heap.objs.size (Obj.mapSeq (· ++ vs.toArray)) = g1 at *
  refine wpAny_bind (wpAny_newList ?_ (by rw [sizeLine_eq]; lia))
  have hoL : (g1.push (seqObj "list" vs.toArray 0)).get? g1.objs.size = some (seqObj "list" vs.toArray 0) := Heap.get?_push_size _ rfl
  dsimp only
  refine wpAny_bind (wpAny_holding (wpAny_call_entry_kw slot_list_sort ⟨_, hoL, rfl⟩ entry_list_sort ?_ (by unfold argsOk; kernel_rfl)))
  rw [sort_key_rev]
  refine list_sort_tree_rev (s := { s with heap := g1.push (seqObj "list" vs.toArray 0) }) hoL hI h64 fun out ns' a1 a2 a3 => ⟨_, rfl, ?_⟩
  refine wpAny_pure ⟨_, rfl, ?_⟩
  exact h _ _ _ _ (sortedHeap_ov (o1.trans (.push _)) o1.sz) (sortedHeap_ls hoL) o1.sz a1 a2 a3
end
end Mine
end

section
open PySem PySem.W PyProof.Rows PySem.Calls
set_option maxRecDepth 100000
set_option maxHeartbeats 1000000
namespace Mine

theorem geB {prog : Program} {w : World} {A : Around} {E : Value → Shared → Prop} {s : Shared} {Q : Value → Shared → Prop} {t u : Tok} {a b : Int} {c : Bool} (hc : decide (b ≤ a) = c) (h : Q (.bool c) s) : wpAny (model prog w) A (compareOp .GtE (.int a t) (.int b u)) Q E s :=
  ge_int (by rw [← hc] at h; exact h)

theorem nsmall_all {prog : Program} {w : World} {A : Around} {s : Shared} {H : Heap} {R : Result → Shared → Prop} {l : Addr} {vs : List Value} {ns : List Int} {n : Nat} {u : Tok}
    (hB : Bs w H) (hO : Ov H s.heap) (hl : Ls s.heap l vs) (hI : IntsAre vs ns) (h64 : ns.length < 64) (hn1 : n ≠ 1) (hge : ns.length ≤ n) (hroom : A.depth < recursionLimit)
    (h : ∀ h' tk l' ws (ns' : List Int), Ov s.heap h' → Ls h' l' ws → ns'.Perm ns → ns'.Pairwise (· ≤ ·) → IntsAre ws (ns'.take n) → R (.ok (.ret (.ref l'))) { s with heap := h', toks := tk }) :
    codeAny (model prog w) A (.call (.ref 110) ⟨[.int n u, .ref l], []⟩) R s := by
  refine enterC (binds := [("n", .int n u), ("iterable", .ref l), ("key", .none)]) hB hO (by rfl) (by rfl) hroom (BindsTo.of_defaults rfl ((hB.X.keeps hO.st) _ _ (by rfl)) (by rfl) rfl rfl) (by rfl) fun h₁ tk₁ X hc => ?_
  have c1 : h₁.IsCell (s.heap.objs.size + 1) (some .none) := hc "key" _ rfl
  have hl1 := hl.grow X.o
  have hlt := hl.lt
  have hvl := hI.length
  have a1 : ((n : Int) == 1) = false := beq_eq_false_iff_ne.mpr (by lia)
  have a2 : decide ((ns.length : Int) ≤ (n : Int)) = true := decide_eq_true (by lia)
  have a3 : ns.length < 1000 := by lia
  have a4 : vs.length < 64 := by lia
  refine wpAny_execs_cons (wpAny_If (wpAny_isTrue_Compare1 (ldE X.F.ns rfl (wpAny_Constant_int (eqB a1 (wpAny_truthy_bool (iff' (wpAny_execs_nil ?_))))))))
  refine wpAny_execs_cons (wpAny_Try_except (wpAny_execs_cons (wpAny_Assign_Name (bcallE hB X.ov.st (spliced_more (ldE X.F.ns rfl (spliced_none (lenN hl1.il hvl a3 fun tk2 t2 => ?_))))))))
  refine X.stE fun h3 X3 sb3 => ?_
  have hl3 : Ls h3 l vs := hl1.same sb3 (Nat.ne_of_lt hlt)
  have c3 : h3.IsCell (s.heap.objs.size + 1) (some .none) := let ⟨o, e, d⟩ := c1; ⟨o, (sb3.2 _ (Nat.succ_ne_self _)).trans e, d⟩
  refine wpAny_execs_nil ?_
  refine wpAny_execs_cons (wpAny_If (wpAny_isTrue_Compare1 (ldE X3.F.ns rfl (ldE X3.F.ns upe (geB a2 (wpAny_truthy_bool (ift ?_)))))))
  refine wpAny_execs_cons (wpAny_Return_some (Subscript_ (wpAny_Call_Name_kw (bnmE hB X3.ov.st (callWith_kw (spliced_more (ldE X3.F.ns rfl (spliced_none (kws_cons (lcE c3 (kws_nil ?_)))))))))))
  refine srtKey hl3.il hI a4 fun h4 l4 out ns' o4 ls4 hl4 hI4 hp hs => ?_
  have X4 := X3.grow o4
  refine mkSlice (evalPart_none_step (evalPart_some_step (ldE X4.F.ns rfl (evalPart_none_step fun h5 sl o5 hsl5 _ => ?_))))
  have hol : out.length < 1000 := by rw [hI4.length, hp.length_eq]; exact a3
  refine sliceL (ls4.grow o5).il hsl5 .none (.int _ _) .none (by simp) hol fun h6 l6 o6 ls6 _ => ?_
  rw [slicePick_upto', show (out.toArray.toList.take n).toArray.toList = out.take n from rfl] at ls6
  dsimp only
  exact h _ _ _ _ _ ((X4.grow o5).grow o6).o ls6 hp hs (hI4.take n)
theorem nlarge_all {prog : Program} {w : World} {A : Around} {s : Shared} {H : Heap} {R : Result → Shared → Prop} {l : Addr} {vs : List Value} {ns : List Int} {n : Nat} {u : Tok}
    (hB : Bs w H) (hO : Ov H s.heap) (hl : Ls s.heap l vs) (hI : IntsAre vs ns) (h64 : ns.length < 64) (hn1 : n ≠ 1) (hge : ns.length ≤ n) (hroom : A.depth < recursionLimit)
    (h : ∀ h' tk l' ws (ns' : List Int), Ov s.heap h' → Ls h' l' ws → ns'.Perm ns → ns'.Pairwise (· ≥ ·) → IntsAre ws (ns'.take n) → R (.ok (.ret (.ref l'))) { s with heap := h', toks := tk }) :
    codeAny (model prog w) A (.call (.ref 116) ⟨[.int n u, .ref l], []⟩) R s := by
  refine enterC (binds := [("n", .int n u), ("iterable", .ref l), ("key", .none)]) hB hO (by rfl) (by rfl) hroom (BindsTo.of_defaults rfl ((hB.X.keeps hO.st) _ _ (by rfl)) (by rfl) rfl rfl) (by rfl) fun h₁ tk₁ X hc => ?_
  have c1 : h₁.IsCell (s.heap.objs.size + 1) (some .none) := hc "key" _ rfl
  have hl1 := hl.grow X.o
  have hlt := hl.lt
  have hvl := hI.length
  have a1 : ((n : Int) == 1) = false := beq_eq_false_iff_ne.mpr (by lia)
  have a2 : decide ((ns.length : Int) ≤ (n : Int)) = true := decide_eq_true (by lia)
  have a3 : ns.length < 1000 := by lia
  have a4 : vs.length < 64 := by lia
  refine wpAny_execs_cons (wpAny_If (wpAny_isTrue_Compare1 (ldE X.F.ns rfl (wpAny_Constant_int (eqB a1 (wpAny_truthy_bool (iff' (wpAny_execs_nil ?_))))))))
  refine wpAny_execs_cons (wpAny_Try_except (wpAny_execs_cons (wpAny_Assign_Name (bcallE hB X.ov.st (spliced_more (ldE X.F.ns rfl (spliced_none (lenN hl1.il hvl a3 fun tk2 t2 => ?_))))))))
  refine X.stE fun h3 X3 sb3 => ?_
  have hl3 : Ls h3 l vs := hl1.same sb3 (Nat.ne_of_lt hlt)
  have c3 : h3.IsCell (s.heap.objs.size + 1) (some .none) := let ⟨o, e, d⟩ := c1; ⟨o, (sb3.2 _ (Nat.succ_ne_self _)).trans e, d⟩
  refine wpAny_execs_nil ?_
  refine wpAny_execs_cons (wpAny_If (wpAny_isTrue_Compare1 (ldE X3.F.ns rfl (ldE X3.F.ns upe (geB a2 (wpAny_truthy_bool (ift ?_)))))))
  refine wpAny_execs_cons (wpAny_Return_some (Subscript_ (wpAny_Call_Name_kw (bnmE hB X3.ov.st (callWith_kw (spliced_more (ldE X3.F.ns rfl (spliced_none (kws_cons (lcE c3 (kws_cons (wpAny_Constant_bool (kws_nil ?_)))))))))))))
  refine srtKeyRev (b := true) hl3.il hI a4 fun h4 l4 out ns' o4 ls4 hl4 hI4 hp hs => ?_
  have X4 := X3.grow o4
  refine mkSlice (evalPart_none_step (evalPart_some_step (ldE X4.F.ns rfl (evalPart_none_step fun h5 sl o5 hsl5 _ => ?_))))
  have hol : out.length < 1000 := by rw [hI4.length, hp.length_eq]; exact a3
  refine sliceL (ls4.grow o5).il hsl5 .none (.int _ _) .none (by simp) hol fun h6 l6 o6 ls6 _ => ?_
  rw [slicePick_upto', show (out.toArray.toList.take n).toArray.toList = out.take n from rfl] at ls6
  dsimp only
  exact h _ _ _ _ _ ((X4.grow o5).grow o6).o ls6 hp hs (hI4.take n)
end Mine
end

section
open PySem PySem.W PyProof.Rows PySem.Calls
set_option maxRecDepth 100000
set_option maxHeartbeats 1000000
namespace Mine

section
variable {prog : Program} {w : World} {A : Around} {E : Value → Shared → Prop} {s : Shared} {env : Env}

/-- «a, b = t», a and b locals -/
theorem assign2 {a b : Str} {pa pb pos : Pos} {k : Nat} {T : Addr} {x y : Value} {m : Str → Option Value} {Q : Unit → Shared → Prop} (hh : A.handled = none) (ht : s.heap.IsTuple T #[x, y]) (F : s.heap.Ns env.locals m)
    (h : ∀ h' tk, h'.Ns env.locals (upd (upd m a x) b y) → (∀ c o, c ≠ env.locals → s.heap.get? c = some o → h'.get? c = some o) → Q () { s with heap := h', toks := tk })
    (hk : env.scope.kind = .function := by rfl) (ha : env.kindOf a = some .local := by rfl) (hb : env.kindOf b = some .local := by rfl) :
    wpAny (model prog w) A (assign (.Tuple [.Name a pa, .Name b pb] k pos) env (.ref T)) Q E s := by
  refine wpAny_assign_Tuple hh ht rfl rfl fun h1 e1 => ?_
  have hL : env.locals ≠ s.heap.objs.size := Nat.ne_of_lt F.lt
  have F1 : h1.Ns env.locals m := let ⟨o, es, ep, e, r⟩ := F; ⟨o, es, ep, e1 _ _ hL e, r⟩
  show wpAny _ _ (assignInOrder [assign (.Name a pa) env, assign (.Name b pb) env] [x, y]) _ _ _
  unfold assignInOrder
  refine wpAny_bind ?_
  have hp : (env.scope.kind == .class || (env.scope.kind == .module && env.locals != env.globals)) = false := by rw [hk]; rfl
  refine wpAny_holding (wpAny_assign_Name (wpAny_storeName_local ha F1 (fun h2 n2 b2 => ?_) hp))
  unfold assignInOrder
  refine wpAny_bind (wpAny_holding (wpAny_assign_Name (wpAny_storeName_local hb n2 (fun h3 n3 b3 => ?_) hp)))
  unfold assignInOrder
  refine wpAny_pure (h h3 _ n3 fun c o hc e => ?_)
  exact (b3.2 c hc).trans ((b2.2 c hc).trans (e1 c o (Nat.ne_of_lt (Heap.lt_size e)) e))

/-- the turns of a comprehension without tests, the taken item let go by the source's own word -/
theorem compLoopT {R : Result → Shared → Prop} {elt target iter : Expr} {scope : Scope} {pos : Pos} {it acc : Value} (I : Nat → Shared → Prop)
    (turn : ∀ n s, I n s → wpAny (model prog w) A (pyNext it) (fun r s₁ => match r with
      | none => R (.ok .next) s₁
      | some v => wpAny (model prog w) A (letOwnedTupleGo target it v) (fun _ s₂ => wpAny (model prog w) A (assign target env v) (fun _ s₃ =>
          wpAny (model prog w) A (eval elt env) (fun x s₄ =>
              wpAny (model prog w) A (call (.builtin "list.append") [acc, x]) (fun _ s₅ => ∃ m, m < n ∧ I m s₅) (notedBy (model prog w) A env fun e s' => R (.error e) s') s₄) (notedBy (model prog w) A env fun e s' => R (.error e) s') s₃)
            (notedBy (model prog w) A env fun e s' => R (.error e) s') s₂) (notedBy (model prog w) A env fun e s' => R (.error e) s') s₁) (notedBy (model prog w) A env fun e s' => R (.error e) s') s)
    (n : Nat) (h : I n s) :
    codeAny (model prog w) A (.compLoop (.ListComp elt [⟨target, iter, [], 0⟩] scope pos) 0 it acc env) R s := by
  refine codeAny_loop rfl I (fun n s hI => ?_) n h
  show wpAny _ A ((compTurn (.ListComp elt [⟨target, iter, [], 0⟩] scope pos) 0 it acc env).onRaise (fun x => do noteFrame x env; theTreesLotGoes x)) _ _ s
  refine wpAny_noted ?_
  rw [compTurn_list]
  refine wpAny_bind (wpAny_standAt (wpAny_bind (wpAny_mono (turn n s hI) (fun r s₁ h₁ => ?_) fun _ _ h' => h')))
  cases r with
  | none => exact wpAny_pure h₁
  | some v =>
    refine wpAny_bind (wpAny_mono h₁ (fun _ s₂ h₂ => ?_) fun _ _ h' => h')
    refine wpAny_bind (wpAny_mono h₂ (fun _ s₃ h₃ => ?_) fun _ _ h' => h')
    refine wpAny_bind (wpAny_pure ?_)
    exact wpAny_bind (wpAny_bind (wpAny_mono h₃ (fun x s₄ h₄ => wpAny_bind (wpAny_mono h₄ (fun _ s₅ h₅ => wpAny_pure (wpAny_pure ⟨rfl, h₅⟩)) fun _ _ h' => h')) fun _ _ h' => h'))
end
end Mine
end

section
open PySem PySem.W PyProof.Rows PySem.Calls
set_option maxRecDepth 100000
set_option maxHeartbeats 1000000
namespace Mine

theorem newPair {prog : Program} {w : World} {A : Around} {E : Value → Shared → Prop} {s : Shared} {i j : Int} {t u : Tok} {Q : Value → Shared → Prop}
    (h : ∀ h' a, Ov s.heap h' → h'.get? a = some (tupOf i j t u) → s.heap.objs.size ≤ a → Q (.ref a) { s with heap := h' }) : wpAny (model prog w) A (newTuple [.int i t, .int j u]) Q E s :=
  wpAny_newTuple (h _ _ (.push _) (Heap.get?_push_size _ rfl) (Nat.le_refl _)) (by rw [sizeLine_eq]; exact Nat.le_of_ble_eq_true rfl)

/-- the pairs of us, laid at or behind b -/
def Prs (h : Heap) (b : Nat) (us : List Value) (ks : List (Int × Int)) : Prop := us.length = ks.length ∧ ∀ (j : Nat) v, us[j]? = some v → ∃ a t u, v = .ref a ∧ b ≤ a ∧ h.get? a = some (tupOf (ks.getD j (0, 0)).1 (ks.getD j (0, 0)).2 t u)

theorem Prs.snoc {h : Heap} {b a : Nat} {us : List Value} {ks : List (Int × Int)} {i j : Int} {t u : Tok} (p : Prs h b us ks) (e : h.get? a = some (tupOf i j t u)) (hb : b ≤ a) : Prs h b (us ++ [.ref a]) (ks ++ [(i, j)]) := by
  refine ⟨by simp [p.1], fun k v q => ?_⟩
  have hl := p.1
  by_cases hk : k < us.length
  · rw [List.getElem?_append_left hk] at q
    obtain ⟨a', t', u', z1, z2, z3⟩ := p.2 k v q
    refine ⟨a', t', u', z1, z2, ?_⟩
    rw [show (ks ++ [(i, j)]).getD k (0, 0) = ks.getD k (0, 0) by simp [List.getD_eq_getElem?_getD, List.getElem?_append_left (show k < ks.length by lia)]]
    exact z3
  · have hk' : k = us.length := by
      have := (List.getElem?_eq_some_iff.mp q).1
      simp at this; lia
    subst hk'
    rw [List.getElem?_concat_length] at q
    cases q
    refine ⟨a, t, u, rfl, hb, ?_⟩
    rw [hl]
    simp only [List.getD_eq_getElem?_getD, List.getElem?_concat_length, Option.getD_some]
    exact e
theorem Prs.keep {h h' : Heap} {b : Nat} {us : List Value} {ks : List (Int × Int)} (p : Prs h b us ks) (e : ∀ a o, b ≤ a → h.get? a = some o → o.cls = .type "tuple" → h'.get? a = some o) : Prs h' b us ks :=
  ⟨p.1, fun j v q => let ⟨a, t, u, z1, z2, z3⟩ := p.2 j v q; ⟨a, t, u, z1, z2, e a _ z2 z3 rfl⟩⟩

def zk (ns : List Int) (st : Int) (i : Nat) : List (Int × Int) := (List.range i).map fun j => (ns.getD j 0, st * (j : Int))

/-- the state of the pairing comprehension -/
inductive ZpI (s : Shared) (h3 : Heap) (z TI TO i1 it l D L : Nat) (ns : List Int) (n : Nat) (st : Int) (kk : Nat) (s' : Shared) : Prop where
  | mk (h' : Heap) (tk i : Nat) (us : List Value) (m' : Str → Option Value) (a b : Value) (e : s' = { s with heap := h', toks := tk }) (K : ∀ (b : Addr) o, b ≠ z → b ≠ TO → b ≠ i1 → b ≠ it → b ≠ L → b ≠ D → h3.get? b = some o → h'.get? b = some o) (hsz : h3.objs.size ≤ h'.objs.size)
      (hz : IsZip h' z TI TO .none) (hTO : IsPair h' TO a b) (h1 : IsRangeIter h' i1 (st * (i : Nat)) ((n : Int) - (i : Nat)) st) (h2 : h'.IsListIter it l i) (lsD : Ls h' D us) (nsC : h'.Ns L m') (prs : Prs h' h3.objs.size us (zk ns st i)) (hi : i ≤ n) (hk : kk = n - i) : ZpI s h3 z TI TO i1 it l D L ns n st kk s'

theorem zipLoop {prog : Program} {w : World} {A : Around} {s : Shared} {h3 : Heap} {iter : Expr} {px p1 p2 q1 q2 tp : Pos} {k k' : Nat} {scope : Scope} {pos : Pos} {env : Env} {D it l z TI TO i1 : Nat} {vs : List Value} {ns : List Int} {n : Nat} {st : Int} {R : Result → Shared → Prop}
    (hki : env.kindOf "i" = some .local) (hke : env.kindOf "elem" = some .local) (hk : env.scope.kind = .function) (hh : A.handled = none) (hn : n ≤ ns.length) (h64 : ns.length < 64)
    (hz : IsZip h3 z TI TO .none) (hTI : IsPair h3 TI (.ref i1) (.ref it)) (hTO : IsPair h3 TO .none .none) (h1 : IsRangeIter h3 i1 0 n st) (h2 : h3.IsListIter it l 0) (hl : Ls h3 l vs) (hI : IntsAre vs ns)
    (hD : Ls h3 D []) (hC : h3.Ns env.locals (fun _ => none)) (o1 : l < it) (o2 : it < i1) (o3 : i1 < TI) (o4 : TI < TO) (o5 : TO < z) (o6 : z < D) (o7 : @LT.lt Nat _ D env.locals)
    (hR : ∀ h' tk us m', Prs h' h3.objs.size us (zk ns st n) → Ls h' D us → h'.IsListIter it l n → h'.Ns env.locals m' →
      (∀ b o, b ≠ z → b ≠ TO → b ≠ i1 → b ≠ it → b ≠ env.locals → b ≠ D → h3.get? b = some o → h'.get? b = some o) → R (.ok .next) { s with heap := h', toks := tk }) :
    codeAny (model prog w) A (.compLoop (.ListComp (.Tuple [.Name "elem" q1, .Name "i" q2] k' tp) [⟨.Tuple [.Name "i" p1, .Name "elem" p2] k px, iter, [], 0⟩] scope pos) 0 (.ref z) (.ref D) env) R { s with heap := h3 } := by
  have hz3 : z < h3.objs.size := Heap.lt_size hz
  have hC3 : @LT.lt Nat _ env.locals h3.objs.size := hC.lt
  refine compLoopT (ZpI s h3 z TI TO i1 it l D env.locals ns n st) ?turn n
    ⟨h3, s.toks, 0, [], _, _, _, rfl, fun _ _ _ _ _ _ _ _ e => e, Nat.le_refl _, hz, hTO, by simpa using h1, h2, hD, hC, ⟨rfl, fun j v q => by simp at q⟩, Nat.zero_le _, rfl⟩
  rintro kk s' ⟨h', tk, i, us, m', a, b, rfl, K, hsz, hz', hTO', h1', h2', lsD, nsC, prs, hi, rfl⟩
  have D' : ZipApart z TI TO i1 it l l := ⟨neN (by lia), neN (by lia), neN (by lia), neN (by lia), neN (by lia), neN (by lia), neN (by lia), neN (by lia), neN (by lia), neN (by lia), neN (by lia), neN (by lia), neN (by lia), neN (by lia), neN (by lia), neN (by lia), neN (by lia), neN (by lia)⟩
  have hTI' : IsPair h' TI (.ref i1) (.ref it) := K TI _ (neN (by lia)) (neN (by lia)) (neN (by lia)) (neN (by lia)) (neN (by lia)) (neN (by lia)) hTI
  have hl' : Ls h' l vs := hl.at fun o e => K l o (neN (by lia)) (neN (by lia)) (neN (by lia)) (neN (by lia)) (neN (by lia)) (neN (by lia)) e
  by_cases hlt : i < n
  · obtain ⟨ty, hty⟩ := intsAre_get hI i (by lia)
    refine zipItem D' hz' hTI' hTO' h1' (by lia) h2' hl'.il (y := .int (ns.getD i 0) ty) (by simpa using hty) fun h4 z4 TO4 r4 it4 P4 s4 k4 => ?_
    refine wpAny_letOwnedTupleGo_zip z4 fun h5 z5 b5 => ?_
    have e45 : ∀ c o, c ≠ z → h4.get? c = some o → h5.get? c = some o := fun c o q e => (b5.2 c q).trans e
    have s5 : h5.objs.size = h'.objs.size + 1 := b5.1.trans s4
    have P5 : h5.IsTuple h'.objs.size #[.int (st * (i : Nat)) tk, .int (ns.getD i 0) ty] := ⟨_, e45 _ _ (neN (by lia)) P4, rfl, 0, rfl⟩
    have ns5 : h5.Ns env.locals m' := let ⟨o, es, ep, e, r⟩ := nsC; ⟨o, es, ep, e45 _ _ (neN (by lia)) (k4 _ _ (neN (by lia)) (neN (by lia)) (neN (by lia)) (neN (by lia)) e), r⟩
    refine assign2 (a := "i") (b := "elem") hh P5 ns5 (fun h6 tk6 ns6 k6 => ?_) hk hki hke
    dsimp only at k6
    refine Tuple_ (spliced_more (ldE ns6 upe (spliced_more (ldE ns6 (ups (by decide) upe) (spliced_none (newPair fun h7 T7 o7' P7 hT7 => ?_)) hk hki) ) hk hke))
    dsimp only at o7' hT7
    have lsD7 : Ls h7 D us := (lsD.at fun o e => k6 _ _ (neN (by lia)) (e45 _ _ (neN (by lia)) (k4 _ _ (neN (by lia)) (neN (by lia)) (neN (by lia)) (neN (by lia)) e))).grow o7'
    refine appendAt lsD7 (by have := prs.1; simp [zk] at this; lia) fun h8 ls8 b8 => ?_
    have hT6 : h'.objs.size < h6.objs.size := let ⟨o, e, _⟩ := P5; Heap.lt_size (k6 _ o (neN (by lia)) e)
    have hT6' := ltN hT6
    have hT7' := leN hT7
    have up : ∀ c o, c ≠ z → c ≠ env.locals → c ≠ D → h4.get? c = some o → h8.get? c = some o := fun c o q1 q2 q3 e => (b8.2 c q3).trans (o7'.st c o (k6 c o q2 (e45 c o q1 e)))
    refine ⟨n - (i + 1), by lia, h8, _, i + 1, us ++ [.ref T7], upd (upd m' "i" (.int (st * (i : Nat)) tk)) "elem" (.int (ns.getD i 0) ty), .int (st * (i : Nat)) tk, .int (ns.getD i 0) ty, rfl,
      fun c o c1 c2 c3 c4 c5 c6 e => up c o c1 c5 c6 (k4 c o c1 c2 c3 c4 (K c o c1 c2 c3 c4 c5 c6 e)), ?_, ?_, ?_, ?_, ?_, ls8, ?_, ?_, hlt, rfl⟩
    · have := o7'.sz; have := b8.1; dsimp only at *; lia
    · exact (b8.2 z (neN (by lia))).trans (o7'.st _ _ (k6 _ _ (neN (by lia)) z5))
    · exact up _ _ (neN (by lia)) (neN (by lia)) (neN (by lia)) TO4
    · have e := up _ _ (neN (by lia)) (neN (by lia)) (neN (by lia)) r4
      rw [show st * ((i : Nat) : Int) + st = st * ((i + 1 : Nat) : Int) by rw [Int.natCast_add, Int.mul_add]; simp, show (n : Int) - (i : Nat) - 1 = (n : Int) - ((i + 1 : Nat) : Int) by lia] at e
      exact e
    · obtain ⟨o, e, r⟩ := it4
      exact ⟨o, up _ _ (neN (by lia)) (neN (by lia)) (neN (by lia)) e, r⟩
    · obtain ⟨o, es, ep, e, r⟩ := ns6
      exact ⟨o, es, ep, (b8.2 _ (neN (by lia))).trans (o7'.st _ _ e), r⟩
    · have ezk : zk ns st (i + 1) = zk ns st i ++ [(ns.getD i 0, st * (i : Int))] := by unfold zk; rw [List.range_succ, List.map_append]; rfl
      rw [ezk]
      refine Prs.snoc (prs.keep fun c o hc e _ => ?_) ((b8.2 T7 (neN (by lia))).trans P7) (by lia)
      exact up c o (neN (by lia)) (neN (by lia)) (neN (by lia)) (k4 c o (neN (by lia)) (neN (by lia)) (neN (by lia)) (neN (by lia)) e)
  · obtain rfl : i = n := by lia
    refine zipEnd hh D' hz' hTI' hTO' h1' (by lia) fun h4 k4 => ?_
    refine hR h4 _ us m' (prs.keep fun c o hc e _ => k4 c o (neN (by lia)) (neN (by lia)) e) (lsD.at fun o e => k4 _ o (neN (by lia)) (neN (by lia)) e) ?_ ?_ fun c o c1 c2 c3 c4 c5 c6 e => k4 c o c1 c3 (K c o c1 c2 c3 c4 c5 c6 e)
    · obtain ⟨o, e, r⟩ := h2'
      exact ⟨o, k4 _ _ (neN (by lia)) (neN (by lia)) e, r⟩
    · obtain ⟨o, es, ep, e, r⟩ := nsC
      exact ⟨o, es, ep, k4 _ _ (neN (by lia)) (neN (by lia)) e, r⟩
end Mine
end

section
open PySem PySem.W PyProof.Rows PySem.Calls
set_option maxRecDepth 100000
set_option maxHeartbeats 1000000
namespace Mine

theorem letGo_list {M : Model} {A : Around} {E : Value → Shared → Prop} {s : Shared} {elts : List Expr} {x1} {pos : Pos} {it l T : Addr} {i : Nat} {Q : Unit → Shared → Prop} (hit : s.heap.IsListIter it l i) (h : Q () s) :
    wpAny M A (letOwnedTupleGo (.Tuple elts x1 pos) (.ref it) (.ref T)) Q E s := by
  obtain ⟨o, e, hc, hd⟩ := hit
  unfold letOwnedTupleGo
  refine wpAny_bind (wpAny_load e ?_)
  rw [hc, hd]
  exact wpAny_pure h

inductive UzI (s : Shared) (h3 : Heap) (it D r L : Nat) (ks : List (Int × Int)) (n : Nat) (kk : Nat) (s' : Shared) : Prop where
  | mk (h' : Heap) (tk i : Nat) (ys : List Value) (m' : Str → Option Value) (e : s' = { s with heap := h', toks := tk }) (K : ∀ (b : Addr) o, b ≠ it → b ≠ L → b ≠ D → h3.get? b = some o → h'.get? b = some o)
      (h2 : h'.IsListIter it r i) (lsD : Ls h' D ys) (nsC : h'.Ns L m') (hI : IntsAre ys ((ks.take i).map (·.1))) (hi : i ≤ n) (hk : kk = n - i) : UzI s h3 it D r L ks n kk s'

/-- «[elem for elem, order in result]» -/
theorem unzipLoop {prog : Program} {w : World} {A : Around} {s : Shared} {h3 : Heap} {iter : Expr} {px p1 p2 q1 : Pos} {k b0 : Nat} {scope : Scope} {pos : Pos} {env : Env} {D it r : Nat} {us : List Value} {ks : List (Int × Int)} {R : Result → Shared → Prop}
    (hko : env.kindOf "order" = some .local) (hke : env.kindOf "elem" = some .local) (hk : env.scope.kind = .function) (hh : A.handled = none) (h64 : us.length < 64)
    (h2 : h3.IsListIter it r 0) (hl : Ls h3 r us) (hp : Prs h3 b0 us ks) (hD : Ls h3 D []) (hC : h3.Ns env.locals (fun _ => none)) (o1 : r < it) (o2 : it < D) (o3 : @LT.lt Nat _ D env.locals)
    (hR : ∀ h' tk ys m', IntsAre ys (ks.map (·.1)) → Ls h' D ys → h'.Ns env.locals m' → (∀ b o, b ≠ it → b ≠ env.locals → b ≠ D → h3.get? b = some o → h'.get? b = some o) → R (.ok .next) { s with heap := h', toks := tk }) :
    codeAny (model prog w) A (.compLoop (.ListComp (.Name "elem" q1) [⟨.Tuple [.Name "elem" p1, .Name "order" p2] k px, iter, [], 0⟩] scope pos) 0 (.ref it) (.ref D) env) R { s with heap := h3 } := by
  have hul := hp.1
  refine compLoopT (UzI s h3 it D r env.locals ks us.length) ?turn us.length
    ⟨h3, s.toks, 0, [], _, rfl, fun _ _ _ _ _ e => e, h2, hD, hC, .nil, Nat.zero_le _, rfl⟩
  rintro kk s' ⟨h', tk, i, ys, m', rfl, K, h2', lsD, nsC, hI, hi, rfl⟩
  have hl' : Ls h' r us := hl.at fun o e => K r o (neN (by lia)) (neN (by lia)) (neN (by lia)) e
  by_cases hlt : i < us.length
  · have e0 : us[i]? = some us[i] := List.getElem?_eq_getElem hlt
    obtain ⟨T, t, u, e1, _, e2⟩ := hp.2 i _ e0
    have hTne : T ≠ it ∧ T ≠ D ∧ T ≠ env.locals := by
      refine ⟨fun q => ?_, fun q => ?_, fun q => ?_⟩
      · obtain ⟨o, e, hc, _⟩ := h2; subst q; rw [e2] at e; cases e; exact absurd hc (by simp)
      · obtain ⟨n', e⟩ := hD; subst q; rw [e2] at e; simp at e
      · obtain ⟨o, es, ep, e, hd, _⟩ := hC; rw [← q, e2] at e; cases e; cases hd
    refine wpAny_pyNext_list_item h2' hl'.il (x := us[i]) (by simp [hlt]) fun h4 it4 b4 => ?_
    rw [e1]
    refine letGo_list it4 ?_
    have T4 : h4.IsTuple T #[.int (ks.getD i (0, 0)).1 t, .int (ks.getD i (0, 0)).2 u] := ⟨_, (b4.2 T hTne.1).trans (K T _ hTne.1 hTne.2.2 hTne.2.1 e2), rfl, 0, rfl⟩
    have ns4 : h4.Ns env.locals m' := nsC.sameBut b4 (neN (by lia))
    refine assign2 (a := "elem") (b := "order") hh T4 ns4 (fun h5 tk5 ns5 k5 => ?_) hk hke hko
    dsimp only at k5
    refine ldE ns5 (ups (by decide) upe) ?_ hk hke
    have lsD5 : Ls h5 D ys := (lsD.same b4 (neN (by lia))).at fun o e => k5 _ o (neN (by lia)) e
    have hyl : ys.length = i := by rw [hI.length, List.length_map, List.length_take]; lia
    refine appendAt lsD5 (by lia) fun h6 ls6 b6 => ?_
    refine ⟨us.length - (i + 1), by lia, h6, _, i + 1, _, upd (upd m' "elem" (.int (ks.getD i (0, 0)).1 t)) "order" (.int (ks.getD i (0, 0)).2 u), rfl, fun b o c1 c2 c3 e => (b6.2 b c3).trans (k5 b o c2 ((b4.2 b c1).trans (K b o c1 c2 c3 e))), ?_, ls6, ?_, ?_, hlt, rfl⟩
    · obtain ⟨o, e, r'⟩ := it4
      exact ⟨o, (b6.2 _ (neN (by lia))).trans (k5 _ _ (neN (by lia)) e), r'⟩
    · obtain ⟨o, es, ep, e, r'⟩ := ns5
      exact ⟨o, es, ep, (b6.2 _ (neN (by lia))).trans e, r'⟩
    · have hik : i < ks.length := by lia
      rw [List.take_succ, List.getElem?_eq_getElem hik, List.map_append]
      rw [show (ks.getD i (0, 0)).1 = ks[i].1 by simp [hik]]
      exact intsAre_snoc hI
  · obtain rfl : i = us.length := by lia
    refine wpAny_pyNext_list_end hh h2' hl'.il (by simp) fun h4 e4 => ?_
    rw [List.take_of_length_le (by lia)] at hI
    refine hR h4 _ ys m' hI (lsD.ext e4 (neN (by lia))) ?_ fun b o c1 c2 c3 e => e4 b o c1 (K b o c1 c2 c3 e)
    obtain ⟨o, es, ep, e, r'⟩ := nsC
    exact ⟨o, es, ep, e4 _ _ (neN (by lia)) e, r'⟩
end Mine
end

section
open PySem PySem.W PyProof.Rows PySem.Calls
set_option maxHeartbeats 1000000
namespace Mine

structure Ord (lt : Value → Value → Bool) : Prop where
  asy : ∀ x y, lt x y = true → lt y x = false
  tr : ∀ x y z, lt x y = false → lt y z = false → lt x z = false

/-- no child is less than its parent, from the parent p on -/
def Hp (lt : Value → Value → Bool) (vs : List Value) (p : Nat) : Prop := ∀ c, 0 < c → c < vs.length → p ≤ (c - 1) / 2 → lt (vs.getD c .none) (vs.getD ((c - 1) / 2) .none) = false

theorem gset {vs : List Value} {i j : Nat} {x : Value} (hi : i < vs.length) : (vs.set i x).getD j .none = if j = i then x else vs.getD j .none := by
  by_cases h : j = i
  · subst h; simp [hi]
  · rw [if_neg h]
    simp [List.getD_eq_getElem?_getD, List.getElem?_set_ne (Ne.symm h)]
theorem gsetS {vs : List Value} {i : Nat} {x : Value} (hi : i < vs.length) : (vs.set i x).getD i .none = x := by rw [gset hi, if_pos rfl]
theorem gsetN {vs : List Value} {i j : Nat} {x : Value} (hi : i < vs.length) (h : j ≠ i) : (vs.set i x).getD j .none = vs.getD j .none := by rw [gset hi, if_neg h]

inductive Dsc (p : Nat) : Nat → Prop
  | refl : Dsc p p
  | l {q} : Dsc p q → Dsc p (2 * q + 1)
  | r {q} : Dsc p q → Dsc p (2 * q + 2)
theorem Dsc.le {p q : Nat} (d : Dsc p q) : p ≤ q := by
  induction d with
  | refl => exact Nat.le_refl _
  | l _ ih => lia
  | r _ ih => lia
theorem Dsc.up {p q : Nat} (d : Dsc p q) (h : p < q) : Dsc p ((q - 1) / 2) := by
  cases d with
  | refl => lia
  | l d => rename_i q; rw [show (2 * q + 1 - 1) / 2 = q by lia]; exact d
  | r d => rename_i q; rw [show (2 * q + 2 - 1) / 2 = q by lia]; exact d

/-- edges away from pos -/
def Away (lt : Value → Value → Bool) (vs : List Value) (p pos : Nat) : Prop := ∀ c, 0 < c → c < vs.length → p ≤ (c - 1) / 2 → c ≠ pos → (c - 1) / 2 ≠ pos → lt (vs.getD c .none) (vs.getD ((c - 1) / 2) .none) = false
/-- the children of pos are no less than pos's parent -/
def Grand (lt : Value → Value → Bool) (vs : List Value) (p pos : Nat) : Prop := p < pos → ∀ d, 0 < d → d < vs.length → (d - 1) / 2 = pos → lt (vs.getD d .none) (vs.getD ((pos - 1) / 2) .none) = false

theorem sd_heap {lt : Value → Value → Bool} (O : Ord lt) (new : Value) (p : Nat) : ∀ (n : Nat) (vs : List Value) (pos : Nat), pos ≤ n → pos < vs.length → Dsc p pos → Away lt vs p pos → Grand lt vs p pos →
    (∀ d, 0 < d → d < vs.length → (d - 1) / 2 = pos → lt (vs.getD d .none) new = false) → Hp lt (sd lt new p vs pos) p
  | n, vs, pos, hn, hp, hD, hA, hG, hC => by
    rw [sd]
    have stop : (p < pos → lt new (vs.getD ((pos - 1) / 2) .none) = false) → Hp lt (vs.set pos new) p := fun hs c c1 c2 c3 => by
      rw [List.length_set] at c2
      by_cases e1 : c = pos
      · rw [e1, gsetS hp, gsetN hp (by lia)]
        exact hs (by lia)
      · rw [gsetN hp e1]
        by_cases e2 : (c - 1) / 2 = pos
        · rw [e2, gsetS hp]; exact hC c c1 c2 e2
        · rw [gsetN hp e2]; exact hA c c1 c2 c3 e1 e2
    split
    · rename_i h
      cases hc : lt new (vs.getD ((pos - 1) / 2) .none) with
      | false => rw [if_neg Bool.false_ne_true]; exact stop fun _ => hc
      | true =>
        rw [if_pos rfl]
        obtain ⟨k, rfl⟩ : ∃ k, n = k + 1 := ⟨n - 1, by lia⟩
        have hD' := hD.up h
        have hple := hD'.le
        have hpar : (pos - 1) / 2 < pos := by lia
        refine sd_heap O new p k _ ((pos - 1) / 2) (by lia) (by rw [List.length_set]; lia) hD' ?_ ?_ ?_
        · intro c c1 c2 c3 c4 c5
          rw [List.length_set] at c2
          have e1 : c ≠ pos := fun e => c5 (by rw [e])
          rw [gsetN hp e1]
          by_cases e2 : (c - 1) / 2 = pos
          · rw [e2, gsetS hp]; exact hG h c c1 c2 e2
          · rw [gsetN hp e2]; exact hA c c1 c2 c3 e1 e2
        · intro hpp d d1 d2 d3
          rw [List.length_set] at d2
          have hgp := (hD'.up hpp).le
          have up : lt (vs.getD ((pos - 1) / 2) .none) (vs.getD (((pos - 1) / 2 - 1) / 2) .none) = false := hA _ (by lia) (by lia) hgp (by lia) (by lia)
          rw [gsetN hp (j := ((pos - 1) / 2 - 1) / 2) (by lia)]
          by_cases e1 : d = pos
          · rw [e1, gsetS hp]; exact up
          · rw [gsetN hp e1]
            refine O.tr _ _ _ ?_ up
            have := hA d d1 d2 (by lia) e1 (by lia)
            rw [d3] at this; exact this
        · intro d d1 d2 d3
          rw [List.length_set] at d2
          by_cases e1 : d = pos
          · rw [e1, gsetS hp]; exact O.asy _ _ hc
          · rw [gsetN hp e1]
            refine O.tr _ _ _ ?_ (O.asy _ _ hc)
            have := hA d d1 d2 (by lia) e1 (by lia)
            rw [d3] at this; exact this
    · exact stop fun q => absurd q (by assumption)

theorem su_inv {lt : Value → Value → Bool} (O : Ord lt) (p : Nat) : ∀ (n : Nat) (vs : List Value) (pos : Nat), vs.length - pos ≤ n → pos < vs.length → Dsc p pos → Away lt vs p pos → Grand lt vs p pos →
    (su lt vs pos).1.length = vs.length ∧ (su lt vs pos).2 < vs.length ∧ Dsc p (su lt vs pos).2 ∧ Away lt (su lt vs pos).1 p (su lt vs pos).2 ∧ Grand lt (su lt vs pos).1 p (su lt vs pos).2 ∧ vs.length ≤ 2 * (su lt vs pos).2 + 1
  | n, vs, pos, hn, hp, hD, hA, hG => by
    rw [su]
    have hpp := hD.le
    have go : ∀ ch, ch < vs.length → (ch = 2 * pos + 1 ∨ ch = 2 * pos + 2) → Dsc p ch → (∀ c, c < vs.length → (c - 1) / 2 = pos → 0 < c → c ≠ ch → lt (vs.getD c .none) (vs.getD ch .none) = false) →
        Away lt (vs.set pos (vs.getD ch .none)) p ch ∧ Grand lt (vs.set pos (vs.getD ch .none)) p ch := by
      intro ch h1 h2 h3 h4
      have hpc : (ch - 1) / 2 = pos := by lia
      refine ⟨?_, ?_⟩
      · intro c c1 c2 c3 c4 c5
        rw [List.length_set] at c2
        by_cases e1 : c = pos
        · rw [e1, gsetS hp, gsetN hp (by lia)]
          exact hG (by lia) ch (by lia) h1 hpc
        · rw [gsetN hp e1]
          by_cases e2 : (c - 1) / 2 = pos
          · rw [e2, gsetS hp]; exact h4 c c2 e2 c1 c4
          · rw [gsetN hp e2]; exact hA c c1 c2 c3 e1 e2
      · intro _ d d1 d2 d3
        rw [List.length_set] at d2
        rw [hpc, gsetS hp, gsetN hp (by lia)]
        have := hA d d1 d2 (by lia) (by lia) (by lia)
        rw [d3] at this; exact this
    split
    · rename_i h
      obtain ⟨k, rfl⟩ : ∃ k, n = k + 1 := ⟨n - 1, by lia⟩
      split
      · rename_i h2
        obtain ⟨a, g⟩ := go (2 * pos + 2) h2.1 (.inr rfl) hD.r fun c c1 c2 c3 c4 => by
          have : c = 2 * pos + 1 := by lia
          rw [this]; exact h2.2
        have := su_inv O p k (vs.set pos (vs.getD (2 * pos + 2) .none)) (2 * pos + 2) (by rw [List.length_set]; lia) (by rw [List.length_set]; exact h2.1) hD.r a g
        simpa only [List.length_set] using this
      · rename_i h2
        obtain ⟨a, g⟩ := go (2 * pos + 1) h (.inl rfl) hD.l fun c c1 c2 c3 c4 => by
          have e : c = 2 * pos + 2 := by lia
          subst e
          cases hlt : lt (vs.getD (2 * pos + 1) .none) (vs.getD (2 * pos + 2) .none) with
          | true => exact O.asy _ _ hlt
          | false => exact absurd ⟨c1, hlt⟩ h2
        have := su_inv O p k (vs.set pos (vs.getD (2 * pos + 1) .none)) (2 * pos + 1) (by rw [List.length_set]; lia) (by rw [List.length_set]; exact h) hD.l a g
        simpa only [List.length_set] using this
    · exact ⟨rfl, hp, hD, hA, hG, by lia⟩

theorem sup_heap {lt : Value → Value → Bool} (O : Ord lt) {vs : List Value} {p : Nat} (hp : p < vs.length) (h : Hp lt vs (p + 1)) : Hp lt (sup lt vs p) p := by
  obtain ⟨a, b, c, d, e, f⟩ := su_inv O p _ vs p (Nat.le_refl _) hp .refl (fun c c1 c2 c3 _ c5 => h c c1 c2 (by lia)) (fun q => absurd q (Nat.lt_irrefl _))
  unfold sup
  have hq : (su lt vs p).2 < (su lt vs p).1.length := by rw [a]; exact b
  refine sd_heap O _ p _ _ _ (Nat.le_refl _) (by rw [List.length_set]; exact hq) c ?_ ?_ ?_
  · intro c c1 c2 c3 c4 c5
    rw [List.length_set] at c2
    rw [gsetN hq c4, gsetN hq c5]; exact d c c1 c2 c3 c4 c5
  · intro h1 d' d1 d2 d3
    rw [List.length_set] at d2
    lia
  · intro d' d1 d2 d3
    rw [List.length_set] at d2
    lia

theorem hfy_heap {lt : Value → Value → Bool} (O : Ord lt) : ∀ (k : Nat) (vs : List Value), k ≤ vs.length → Hp lt vs k → Hp lt (hfy lt vs k) 0
  | 0, vs, _, h => h
  | k + 1, vs, hk, h => by
    rw [hfy]
    have hp := sup_heap O (p := k) (by lia) h
    exact hfy_heap O k _ (by rw [(sup_perm lt vs k (by lia)).length_eq]; lia) hp
theorem hfy_half {lt : Value → Value → Bool} (O : Ord lt) (vs : List Value) : Hp lt (hfy lt vs (vs.length / 2)) 0 :=
  hfy_heap O _ vs (by lia) fun c c1 c2 c3 => by lia

theorem root_least {lt : Value → Value → Bool} (O : Ord lt) {vs : List Value} (h : Hp lt vs 0) : ∀ (n i : Nat), i ≤ n → i < vs.length → lt (vs.getD i .none) (vs.getD 0 .none) = false
  | n, i, hn, hi => by
    by_cases h0 : i = 0
    · subst h0
      cases e : lt (vs.getD 0 .none) (vs.getD 0 .none) with
      | false => rfl
      | true => have := O.asy _ _ e; rw [e] at this; cases this
    · obtain ⟨k, rfl⟩ : ∃ k, n = k + 1 := ⟨n - 1, by lia⟩
      exact O.tr _ _ _ (h i (by lia) hi (Nat.zero_le _)) (root_least O h k ((i - 1) / 2) (by lia) (by lia))
theorem root_mem {lt : Value → Value → Bool} (O : Ord lt) {vs : List Value} (h : Hp lt vs 0) (v : Value) (hv : v ∈ vs) : lt v (vs.getD 0 .none) = false := by
  obtain ⟨i, hi, rfl⟩ := List.mem_iff_getElem.mp hv
  have := root_least O h i i (Nat.le_refl _) hi
  rwa [show vs.getD i .none = vs[i] by simp [hi]] at this

theorem popV_eq {vs : List Value} (h : 0 < vs.length) : popV vs = vs.getD 0 .none := by
  unfold popV
  cases vs with
  | nil => simp at h
  | cons a r =>
    cases r with
    | nil => rfl
    | cons b r => rfl
theorem popL_heap {lt : Value → Value → Bool} (O : Ord lt) {vs : List Value} (h : Hp lt vs 0) : Hp lt (popL lt vs) 0 := by
  unfold popL
  split
  · intro c c1 c2; simp at c2
  · rename_i hne
    have hl : 0 < vs.dropLast.length := List.length_pos_iff.mpr hne
    refine sup_heap O (by rw [List.length_set]; exact hl) fun c c1 c2 c3 => ?_
    rw [List.length_set] at c2
    rw [gsetN hl (by lia), gsetN hl (by lia)]
    have hc : c < vs.length := by rw [List.length_dropLast] at c2; lia
    have := h c c1 hc (Nat.zero_le _)
    have g : ∀ j, j < vs.dropLast.length → vs.dropLast.getD j .none = vs.getD j .none := fun j hj => by
      rw [List.getD_eq_getElem?_getD, List.getD_eq_getElem?_getD, List.getElem?_dropLast, if_pos (by rw [List.length_dropLast] at hj; exact hj)]
    rw [g c c2, g _ (by lia)]
    exact this
theorem pops_perm {lt : Value → Value → Bool} : ∀ (k : Nat) (vs : List Value), vs.length = k → (pops lt k vs).Perm vs
  | 0, vs, h => by rw [List.length_eq_zero_iff.mp h]; exact .refl _
  | k + 1, vs, h => by
    rw [pops]
    have hk := popL_len (lt := lt) (vs := vs) (by lia)
    refine (List.Perm.cons _ (pops_perm k _ (by lia))).trans ?_
    obtain ⟨us, y, rfl⟩ : ∃ us y, vs = us ++ [y] := ⟨vs.dropLast, vs.getLast (by intro e; simp [e] at h), (List.dropLast_concat_getLast _).symm⟩
    exact popL_perm
theorem pops_sorted {lt : Value → Value → Bool} (O : Ord lt) : ∀ (k : Nat) (vs : List Value), vs.length = k → Hp lt vs 0 → (pops lt k vs).Pairwise (fun a b => lt b a = false)
  | 0, vs, h, _ => by rw [pops]; exact .nil
  | k + 1, vs, h, hp => by
    rw [pops]
    have hk := popL_len (lt := lt) (vs := vs) (by lia)
    refine List.pairwise_cons.mpr ⟨fun b hb => ?_, pops_sorted O k _ (by lia) (popL_heap O hp)⟩
    have hb' : b ∈ vs := by
      have p1 := (pops_perm (lt := lt) k _ (by lia : (popL lt vs).length = k)).mem_iff.mp hb
      obtain ⟨us, y, rfl⟩ : ∃ us y, vs = us ++ [y] := ⟨vs.dropLast, vs.getLast (by intro e; simp [e] at h), (List.dropLast_concat_getLast _).symm⟩
      exact popL_perm.mem_iff.mp (List.mem_cons_of_mem _ p1)
    rw [popV_eq (by lia)]
    exact root_mem O hp b hb'

theorem ord_ltV : Ord ltV := ⟨fun x y h => by simp only [ltV, decide_eq_true_eq, decide_eq_false_iff_not] at *; lia, fun x y z h1 h2 => by simp only [ltV, decide_eq_false_iff_not] at *; lia⟩
theorem Ord.flip {lt : Value → Value → Bool} (O : Ord lt) : Ord (fun x y => lt y x) := ⟨fun x y h => O.asy _ _ h, fun x y z h1 h2 => O.tr _ _ _ h2 h1⟩
end Mine
end

section
open PySem PySem.W PyProof.Rows PySem.Calls
set_option maxRecDepth 100000
set_option maxHeartbeats 1000000
namespace Mine

theorem ord_ltP (h : Heap) : Ord (ltP h) := ⟨fun _ _ q => lx_asy _ _ q, fun _ _ _ a b => lx_tr _ _ _ a b⟩

theorem Hp.congr {lt lt' : Value → Value → Bool} {vs : List Value} {p : Nat} (e : ∀ x ∈ vs, ∀ y ∈ vs, lt x y = lt' x y) (h : Hp lt vs p) : Hp lt' vs p := by
  intro c c1 c2 c3
  have := h c c1 c2 c3
  have m : ∀ i, i < vs.length → vs.getD i .none ∈ vs := fun i hi => by
    rw [List.getD_eq_getElem?_getD, List.getElem?_eq_getElem hi]; exact List.getElem_mem hi
  rwa [e _ (m c c2) _ (m _ (by lia))] at this

theorem lx_fst {a b : Int × Int} (h : lx a b = false) : b.1 ≤ a.1 := by
  unfold lx at h
  split at h
  · lia
  · simp only [decide_eq_false_iff_not] at h; lia

section
variable {prog : Program} {w : World} {A : Around} {E : Value → Shared → Prop} {s : Shared} {env : Env}
theorem callSort {a : Addr} {us : List Value} {Q : Value → Shared → Prop} (hl : Ls s.heap a us) (hp : ∀ v ∈ us, isP a s.heap v) (h2 : 2 ≤ us.length) (h64 : us.length < 64)
    (h : ∀ h' us', Kp a s.heap h' → Ls h' a us' → us'.Perm us → us'.Pairwise (fun x y => ltP s.heap y x = false) → Q .none { s with heap := h' }) :
    wpAny (model prog w) A (call (.builtin "list.sort") [.ref a]) Q E s := by
  refine wpAny_call_entry PyProof.Rows.slot_list_sort hl.il.typeIs PyProof.Rows.entry_list_sort ?_ (PyProof.Rows.args_list_sort _)
  rw [sort_plain_rev]
  exact sortP (b := false) hl hp h2 h64 fun h' us' k l p q => ⟨_, rfl, h h' us' k l p (q.imp fun z => by simpa using z)⟩
theorem callSortRev {a : Addr} {us : List Value} {Q : Value → Shared → Prop} (hl : Ls s.heap a us) (hp : ∀ v ∈ us, isP a s.heap v) (h2 : 2 ≤ us.length) (h64 : us.length < 64)
    (h : ∀ h' us', Kp a s.heap h' → Ls h' a us' → us'.Perm us → us'.Pairwise (fun x y => ltP s.heap x y = false) → Q .none { s with heap := h' }) :
    wpAny (model prog w) A (call (.builtin "list.sort") [.ref a] [(Str.ofString "reverse", .bool true)]) Q E s := by
  refine wpAny_call_entry_kw PyProof.Rows.slot_list_sort hl.il.typeIs PyProof.Rows.entry_list_sort ?_ (PyProof.Rows.args_list_sort_rev _ _)
  exact sortP (b := true) hl hp h2 h64 fun h' us' k l p q => ⟨_, rfl, h h' us' k l p (q.imp fun z => by simpa using z)⟩

theorem looks_b {M : Model} {h : Heap} {id : String} : ∃ k, (k = Keeper.frame ∨ k = Keeper.machine ∨ k = Keeper.boundFrame) ∧ Looks M h (keeperOf (.builtin id)) k := ⟨_, .inr (.inl rfl), Looks.of_pure rfl⟩

/-- «o.name(kw ..)», a method of a builtin type -/
theorem methKw {o : Expr} {name : Str} {apos pos : Pos} {kws : List Keyword} {pl : Sem Bool} {T id : String} {Q : Value → Shared → Prop}
    (pa : PlainAttrs T) (slot : Slot T name id) (hty : typeOf (.builtin id) = pure (.type "method_descriptor"))
    (h : wpAny (model prog w) A (eval o env) (fun ov s₁ => s₁.TypeIs ov T ∧ (∀ a, ov = .ref a → ∃ ob, s₁.heap.get? a = some ob ∧ ob.dict = none) ∧
      wpAny (model prog w) A (evalAll ((backToKw pos (keywordEach kws env)).map (·.2))) (fun ks s₂ => wpAny (model prog w) A (call (.builtin id) [ov] (((backToKw pos (keywordEach kws env)).filterMap (·.1)).zip ks)) Q E s₂) E s₁) E s)
    (he : eval (.Call (.Attribute o name apos) [] kws pos) env = (do
      let ov ← eval o env
      standAt apos.atName
      let (f, first) ← holding [ov] (getMethod ov name pl)
      callWith pos f first (backTo pos (starEach [] env)) (backToKw pos (keywordEach kws env))) := by rfl)
    (hall : (backToKw pos (keywordEach kws env)).all (·.1.isSome) = true := by rfl)
    (hplain : ((backTo pos (starEach [] env)).any (·.1) || (backToKw pos (keywordEach kws env)).any (·.1.isNone)) = false := by rfl) :
    wpAny (model prog w) A (eval (.Call (.Attribute o name apos) [] kws pos) env) Q E s := by
  refine methodCall_KW (pl := pl) (wpAny_mono h (fun ov s₁ h₁ => ?_) fun _ _ e => e) he
  obtain ⟨hT, hd, hc⟩ := h₁
  refine getMethod_builtin hT pa slot hty hd ?_
  exact callWith_of (P := fun _ => True) hplain (fun h _ => looks_b) (evalArgs_kw2_nil hall (wpAny_mono hc (fun ks s₂ h₂ => ⟨trivial, h₂⟩) fun _ _ e => e))
end
end Mine
end

section
open PySem PySem.W PyProof.Rows PySem.Calls
set_option maxRecDepth 100000
set_option maxHeartbeats 1000000
namespace Mine

/-- d: nsmallest (a heap with the greatest on top); else nlargest -/
noncomputable def ltD : Bool → Heap → Value → Value → Bool
  | true, h => fun x y => ltP h y x
  | false, h => ltP h
def leD : Bool → Int → Int → Prop
  | true => fun a b => a ≤ b
  | false => fun a b => b ≤ a
noncomputable def fstA (h : Heap) (v : Value) : Int := (keyAt h v).1

theorem ordD (d : Bool) (h : Heap) : Ord (ltD d h) := by
  cases d
  · exact ord_ltP h
  · exact (ord_ltP h).flip
theorem ltD_fst {d : Bool} {h : Heap} {x y : Value} (q : ltD d h x y = false) : leD d (fstA h x) (fstA h y) := by
  cases d
  · exact lx_fst (a := keyAt h x) (b := keyAt h y) q
  · exact lx_fst (a := keyAt h y) (b := keyAt h x) q
theorem leD.tr {d : Bool} {a b c : Int} (x : leD d a b) (y : leD d b c) : leD d a c := by
  cases d <;> simp only [leD] at * <;> lia
theorem leD.rfl {d : Bool} {a : Int} : leD d a a := by
  cases d <;> simp only [leD] <;> lia

structure Tl (d : Bool) (ns : List Int) (i : Nat) (h : Heap) (D : Addr) (us : List Value) (gs : List Int) : Prop where
  l : Ls h D us
  p : ∀ v ∈ us, ∃ k, Pr h v k
  hp : Hp (ltD d h) us 0
  pm : (us.map (fstA h) ++ gs).Perm (ns.take i)
  le : ∀ v ∈ us, ∀ g ∈ gs, leD d (fstA h v) g

theorem Pr.isPa {h : Heap} {D : Addr} {us : List Value} {v : Value} (l : Ls h D us) (p : ∃ k, Pr h v k) : Mine.isP D h v := by
  refine ⟨fun e => ?_, p⟩
  obtain ⟨k, a, t, u, rfl, q⟩ := p
  cases e
  obtain ⟨n, e⟩ := l
  rw [q] at e; simp at e
theorem Tl.isP {d : Bool} {ns : List Int} {i : Nat} {h : Heap} {D : Addr} {us : List Value} {gs : List Int} (T : Tl d ns i h D us gs) : ∀ v ∈ us, Mine.isP D h v := fun v hv => Pr.isPa T.l (T.p v hv)

/-- a change of the heap that leaves the list and the pairs -/
theorem Tl.keep {d : Bool} {ns : List Int} {i : Nat} {h h' : Heap} {D : Addr} {us : List Value} {gs : List Int} (T : Tl d ns i h D us gs) (hl : Ls h' D us) (e : ∀ v k, Pr h v k → Pr h' v k) : Tl d ns i h' D us gs := by
  have ke : ∀ v ∈ us, keyAt h' v = keyAt h v := fun v hv => by
    obtain ⟨k, hk⟩ := T.p v hv
    rw [keyAt_eq hk, keyAt_eq (e v k hk)]
  have fe : us.map (fstA h') = us.map (fstA h) := List.map_congr_left fun v hv => by unfold fstA; rw [ke v hv]
  refine ⟨hl, fun v hv => let ⟨k, hk⟩ := T.p v hv; ⟨k, e v k hk⟩, ?_, by rw [fe]; exact T.pm, fun v hv g hg => ?_⟩
  · refine Hp.congr (fun x hx y hy => ?_) T.hp
    cases d <;> simp only [ltD, ltP, ke x hx, ke y hy]
  · have := T.le v hv g hg
    unfold fstA at *
    rw [ke v hv]; exact this

theorem pr_ne_ns {h : Heap} {v : Value} {k : Int × Int} {L : Addr} {m : Str → Option Value} (p : Pr h v k) (n : h.Ns L m) : v ≠ .ref L := by
  rintro rfl
  obtain ⟨a, t, u, e, q⟩ := p
  cases e
  obtain ⟨o, es, ep, e, hd, _⟩ := n
  rw [q] at e; cases e; cases hd
theorem pr_ne_it {h : Heap} {v : Value} {k : Int × Int} {it l : Addr} {j : Nat} (p : Pr h v k) (n : h.IsListIter it l j) : v ≠ .ref it := by
  rintro rfl
  obtain ⟨a, t, u, e, q⟩ := p
  cases e
  obtain ⟨o, e, hc, _⟩ := n
  rw [q] at e; cases e; exact absurd hc (by simp)
theorem Pr.ext {h h' : Heap} {x : Addr} {v : Value} {k : Int × Int} (p : Pr h v k) (e : Heap.ExtBut x h h') (hne : v ≠ .ref x) : Pr h' v k :=
  p.keep fun a o q r => e a o (fun z => hne (by rw [q, z])) r

theorem Tl.top {d : Bool} {ns : List Int} {i : Nat} {h : Heap} {D : Addr} {us : List Value} {gs : List Int} (T : Tl d ns i h D us gs) (v : Value) (hv : v ∈ us) : leD d (fstA h v) (fstA h (us.getD 0 .none)) :=
  ltD_fst (root_mem (ordD d h) T.hp v hv)
theorem mem_root {us : List Value} (h : 0 < us.length) : us.getD 0 .none ∈ us := by
  cases us with
  | nil => simp at h
  | cons a r => exact .head _

theorem Tl.skip {d : Bool} {ns : List Int} {i : Nat} {h : Heap} {D : Addr} {us : List Value} {gs : List Int} (T : Tl d ns i h D us gs) (hi : i < ns.length) (hle : leD d (fstA h (us.getD 0 .none)) (ns.getD i 0)) : Tl d ns (i + 1) h D us (ns.getD i 0 :: gs) := by
  refine ⟨T.l, T.p, T.hp, ?_, fun v hv g hg => ?_⟩
  · rw [List.take_add_one, List.getElem?_eq_getElem hi, show ns.getD i 0 = ns[i] by simp [hi]]
    refine List.perm_middle.trans ?_
    refine (List.Perm.cons _ T.pm).trans ?_
    exact (List.perm_append_comm (l₁ := [ns[i]]) (l₂ := ns.take i))
  · rcases List.mem_cons.mp hg with rfl | hg
    · exact (T.top v hv).tr hle
    · exact T.le v hv g hg

theorem Tl.repl {d : Bool} {ns : List Int} {i : Nat} {h h' : Heap} {D : Addr} {us : List Value} {gs : List Int} {y : Value} {o : Int} (T : Tl d ns i h D us gs) (hi : i < ns.length) (h0 : 0 < us.length) (hy : Pr h y (ns.getD i 0, o)) (hle : leD d (ns.getD i 0) (fstA h (us.getD 0 .none)))
    (K : Kp D h h') (hl' : Ls h' D (sup (ltD d h) (us.set 0 y) 0)) : Tl d ns (i + 1) h' D (sup (ltD d h) (us.set 0 y) 0) (fstA h (us.getD 0 .none) :: gs) := by
  have p1 : (sup (ltD d h) (us.set 0 y) 0).Perm (us.set 0 y) := sup_perm _ _ _ (by rw [List.length_set]; exact h0)
  have hp : Hp (ltD d h) (sup (ltD d h) (us.set 0 y) 0) 0 := sup_heap (ordD d h) (by rw [List.length_set]; exact h0) fun c c1 c2 c3 => by
    rw [List.length_set] at c2
    rw [gsetN h0 (by lia), gsetN h0 (by lia)]
    exact T.hp c c1 c2 (Nat.zero_le _)
  generalize sup (ltD d h) (us.set 0 y) 0 = us' at *
  cases us with
  | nil => simp at h0
  | cons v0 r =>
    have hy1 : fstA h y = ns.getD i 0 := by unfold fstA; rw [keyAt_eq hy]
    simp only [List.set_cons_zero, List.getD_cons_zero] at p1 hle ⊢
    have hpm : (us'.map (fstA h) ++ (fstA h v0 :: gs)).Perm (ns.take (i + 1)) := by
      rw [List.take_add_one, List.getElem?_eq_getElem hi]
      refine ((p1.map (fstA h)).append_right _).trans ?_
      rw [List.map_cons, hy1, show ns.getD i 0 = ns[i] by simp [hi]]
      refine (List.Perm.trans ?_ (List.perm_append_comm (l₁ := [ns[i]]) (l₂ := ns.take i)))
      refine List.Perm.cons _ ?_
      exact List.perm_middle.trans T.pm
    have hle' : ∀ v ∈ us', ∀ g ∈ fstA h v0 :: gs, leD d (fstA h v) g := fun v hv g hg => by
      have hv' := p1.mem_iff.mp hv
      have a1 : leD d (fstA h v) (fstA h v0) := by
        rcases List.mem_cons.mp hv' with rfl | q
        · rw [hy1]; exact hle
        · exact T.top v (.tail _ q)
      rcases List.mem_cons.mp hg with rfl | hg
      · exact a1
      · exact a1.tr (T.le v0 (.head _) g hg)
    have hp' : ∀ v ∈ us', Mine.isP D h v := fun v hv => by
      rcases List.mem_cons.mp (p1.mem_iff.mp hv) with rfl | q
      · exact Pr.isPa T.l ⟨_, hy⟩
      · exact T.isP v (.tail _ q)
    have pr' : ∀ v ∈ us', ∀ k, Pr h v k → Pr h' v k := fun v hv k hk => hk.keep fun a o e q => K.st a o (fun z => (hp' v hv).1 (by rw [e, z])) q
    have ke : ∀ v ∈ us', keyAt h' v = keyAt h v := fun v hv => by
      obtain ⟨k, hk⟩ := (hp' v hv).2
      rw [keyAt_eq hk, keyAt_eq (pr' v hv k hk)]
    have fe : us'.map (fstA h') = us'.map (fstA h) := List.map_congr_left fun v hv => by unfold fstA; rw [ke v hv]
    refine ⟨hl', fun v hv => let ⟨k, hk⟩ := (hp' v hv).2; ⟨k, pr' v hv k hk⟩, ?_, by rw [fe]; exact hpm, fun v hv g hg => ?_⟩
    · refine Hp.congr (fun x hx y hy => ?_) hp
      cases d <;> simp only [ltD, ltP, ke x hx, ke y hy]
    · have := hle' v hv g hg
      unfold fstA at *
      rw [ke v hv]; exact this

theorem prs_pr {h : Heap} {b : Nat} {us : List Value} {ks : List (Int × Int)} (p : Prs h b us ks) : ∀ (j : Nat) (hj : j < us.length), Pr h us[j] (ks.getD j (0, 0)) := fun j hj => by
  obtain ⟨a, t, u, e, _, q⟩ := p.2 j _ (List.getElem?_eq_getElem hj)
  exact ⟨a, t, u, e, q⟩
theorem prs_keys {h : Heap} {b : Nat} {us : List Value} {ks : List (Int × Int)} (p : Prs h b us ks) : us.map (keyAt h) = ks := by
  refine List.ext_getElem (by rw [List.length_map, p.1]) fun j h1 h2 => ?_
  rw [List.length_map] at h1
  rw [List.getElem_map, keyAt_eq (prs_pr p j h1)]
  simp [h2]
theorem zk_fst (ns : List Int) (st : Int) (n : Nat) (hn : n ≤ ns.length) : (zk ns st n).map (·.1) = ns.take n := by
  refine List.ext_getElem (by simp [zk]; lia) fun j h1 h2 => ?_
  simp [zk] at h1
  have : j < ns.length := by lia
  simp [zk, this]

theorem Tl.init {d : Bool} {ns : List Int} {n b : Nat} {st : Int} {h h' : Heap} {D : Addr} {us : List Value} (hn : n ≤ ns.length) (P : Prs h b us (zk ns st n)) (hl : Ls h D us) (K : Kp D h h') (hl' : Ls h' D (hfy (ltD d h) us (us.length / 2))) :
    Tl d ns n h' D (hfy (ltD d h) us (us.length / 2)) [] := by
  have hp := hfy_half (ordD d h) us
  have p1 := hfy_perm (ltD d h) (us.length / 2) us (by lia)
  generalize hfy (ltD d h) us (us.length / 2) = us' at *
  have hP : ∀ v ∈ us', Mine.isP D h v := fun v hv => by
    obtain ⟨j, hj, rfl⟩ := List.mem_iff_getElem.mp (p1.mem_iff.mp hv)
    exact Pr.isPa hl ⟨_, prs_pr P j hj⟩
  have pr' : ∀ v ∈ us', ∀ k, Pr h v k → Pr h' v k := fun v hv k hk => hk.keep fun a o e q => K.st a o (fun z => (hP v hv).1 (by rw [e, z])) q
  have ke : ∀ v ∈ us', keyAt h' v = keyAt h v := fun v hv => by
    obtain ⟨k, hk⟩ := (hP v hv).2
    rw [keyAt_eq hk, keyAt_eq (pr' v hv k hk)]
  refine ⟨hl', fun v hv => let ⟨k, hk⟩ := (hP v hv).2; ⟨k, pr' v hv k hk⟩, ?_, ?_, fun v _ g hg => nomatch hg⟩
  · refine Hp.congr (fun x hx y hy => ?_) hp
    cases d <;> simp only [ltD, ltP, ke x hx, ke y hy]
  · rw [List.append_nil, List.map_congr_left (g := fstA h) fun v hv => by unfold fstA; rw [ke v hv]]
    refine (p1.map _).trans ?_
    have e : us.map (fstA h) = ns.take n := by
      rw [← zk_fst ns st n hn, ← prs_keys P, List.map_map]; rfl
    rw [e]

/-- the pairs of a list, as the heap has them -/
theorem Tl.prs {h : Heap} {us : List Value} (p : ∀ v ∈ us, ∃ k, Pr h v k) : Prs h 0 us (us.map (keyAt h)) := by
  refine ⟨by simp, fun j v e => ?_⟩
  obtain ⟨hj, rfl⟩ := List.getElem?_eq_some_iff.mp e
  obtain ⟨k, hk⟩ := p us[j] (List.getElem_mem hj)
  obtain ⟨a, t, u, e1, e2⟩ := hk
  refine ⟨a, t, u, e1, Nat.zero_le _, ?_⟩
  have : (us.map (keyAt h)).getD j (0, 0) = k := by
    rw [List.getD_eq_getElem?_getD, List.getElem?_map, List.getElem?_eq_getElem hj]
    exact keyAt_eq ⟨a, t, u, e1, e2⟩
  rw [this]; exact e2

theorem Tl.fin {d : Bool} {ns : List Int} {h h' : Heap} {D : Addr} {us us' : List Value} {gs : List Int} (T : Tl d ns ns.length h D us gs) (K : Kp D h h') (p : us'.Perm us) (q : us'.Pairwise (fun x y => ltD d h x y = false)) :
    Prs h' 0 us' (us'.map (keyAt h')) ∧ ((us'.map (keyAt h')).map (·.1) ++ gs).Perm ns ∧ ((us'.map (keyAt h')).map (·.1)).Pairwise (leD d) ∧ ∀ f ∈ (us'.map (keyAt h')).map (·.1), ∀ g ∈ gs, leD d f g := by
  have hP : ∀ v ∈ us', Mine.isP D h v := fun v hv => T.isP v (p.mem_iff.mp hv)
  have pr' : ∀ v ∈ us', ∀ k, Pr h v k → Pr h' v k := fun v hv k hk => hk.keep fun a o e q => K.st a o (fun z => (hP v hv).1 (by rw [e, z])) q
  have ke : ∀ v ∈ us', keyAt h' v = keyAt h v := fun v hv => by
    obtain ⟨k, hk⟩ := (hP v hv).2
    rw [keyAt_eq hk, keyAt_eq (pr' v hv k hk)]
  have fe : (us'.map (keyAt h')).map (·.1) = us'.map (fstA h) := by
    rw [List.map_map]; exact List.map_congr_left fun v hv => by show (keyAt h' v).1 = _; rw [ke v hv]; rfl
  refine ⟨Tl.prs fun v hv => let ⟨k, hk⟩ := (hP v hv).2; ⟨k, pr' v hv k hk⟩, ?_, ?_, ?_⟩
  · rw [fe]
    have := T.pm
    rw [List.take_length] at this
    exact ((p.map _).append_right _).trans this
  · rw [fe, List.pairwise_map]
    exact q.imp fun z => ltD_fst z
  · rw [fe]
    intro f hf g hg
    obtain ⟨v, hv, rfl⟩ := List.mem_map.mp hf
    exact T.le v (p.mem_iff.mp hv) g hg
end Mine
end

section
open PySem PySem.W PyProof.Rows PySem.Calls
set_option maxRecDepth 100000
set_option maxHeartbeats 1000000
namespace Mine

theorem Fo.low {H h0 : Heap} {L : Addr} {h h' : Heap} {m : Str → Option Value} (X : Fo H h0 L h m) (K : ∀ b o, @LE.le Nat _ b L → h.get? b = some o → h'.get? b = some o) : Fo H h0 L h' m := by
  obtain ⟨o, es, ep, ho, r⟩ := X.F.ns
  have hL := K L o (Nat.le_refl _) ho
  exact ⟨⟨⟨o, es, ep, hL, r⟩, fun b o' e' => K b o' (Nat.le_of_lt (Nat.lt_of_lt_of_le (Heap.lt_size e') X.F.above)) (X.F.keep b o' e'), X.F.above⟩,
    ⟨fun b o' e' => K b o' (Nat.le_of_lt (Nat.lt_of_lt_of_le (Heap.lt_size e') X.hL)) (X.o.st b o' e'), Nat.le_trans X.hL (Nat.le_of_lt (Heap.lt_size hL))⟩, X.hL, X.hH⟩

theorem Tl.st {d : Bool} {ns : List Int} {i : Nat} {h h' : Heap} {D L : Addr} {us : List Value} {gs : List Int} {m : Str → Option Value} (T : Tl d ns i h D us gs) (n : h.Ns L m) (sb : Heap.SameBut L h h') (hne : D ≠ L) : Tl d ns i h' D us gs :=
  T.keep (T.l.same sb hne) fun _ _ p => p.ext sb.extBut (pr_ne_ns p n)
theorem Tl.nx {d : Bool} {ns : List Int} {i : Nat} {h h' : Heap} {D it l : Addr} {us : List Value} {gs : List Int} {j : Nat} (T : Tl d ns i h D us gs) (n : h.IsListIter it l j) (e : Heap.ExtBut it h h') (hne : D ≠ it) : Tl d ns i h' D us gs :=
  T.keep (T.l.ext e hne) fun _ _ p => p.ext e (pr_ne_it p n)
theorem Tl.gr {d : Bool} {ns : List Int} {i : Nat} {h h' : Heap} {D : Addr} {us : List Value} {gs : List Int} (T : Tl d ns i h D us gs) (o : Ov h h') : Tl d ns i h' D us gs :=
  T.keep (T.l.grow o) fun _ _ p => p.keep fun a o' _ e => o.st a o' e
theorem Tl.fstS {d : Bool} {ns : List Int} {i : Nat} {h h' : Heap} {D L : Addr} {us : List Value} {gs : List Int} {m : Str → Option Value} {v : Value} (T : Tl d ns i h D us gs) (n : h.Ns L m) (sb : Heap.SameBut L h h') (hv : v ∈ us) : fstA h v = fstA h' v := by
  obtain ⟨k, hk⟩ := T.p v hv
  unfold fstA
  rw [keyAt_eq hk, keyAt_eq (hk.ext sb.extBut (pr_ne_ns hk n))]
theorem Tl.fstI {d : Bool} {ns : List Int} {i : Nat} {h h' : Heap} {D it l : Addr} {us : List Value} {gs : List Int} {j : Nat} {v : Value} (T : Tl d ns i h D us gs) (n : h.IsListIter it l j) (sb : Heap.ExtBut it h h') (hv : v ∈ us) : fstA h v = fstA h' v := by
  obtain ⟨k, hk⟩ := T.p v hv
  unfold fstA
  rw [keyAt_eq hk, keyAt_eq (hk.ext sb (pr_ne_it hk n))]
theorem Tl.fstX {d : Bool} {ns : List Int} {i : Nat} {h h' : Heap} {D L : Addr} {us : List Value} {gs : List Int} {m : Str → Option Value} {v : Value} (T : Tl d ns i h D us gs) (n : h.Ns L m) (sb : Heap.ExtBut L h h') (hv : v ∈ us) : fstA h v = fstA h' v := by
  obtain ⟨k, hk⟩ := T.p v hv
  unfold fstA
  rw [keyAt_eq hk, keyAt_eq (hk.ext sb (pr_ne_ns hk n))]
theorem Tl.fstG {d : Bool} {ns : List Int} {i : Nat} {h h' : Heap} {D : Addr} {us : List Value} {gs : List Int} {v : Value} (T : Tl d ns i h D us gs) (o : Ov h h') (hv : v ∈ us) : fstA h v = fstA h' v := by
  obtain ⟨k, hk⟩ := T.p v hv
  unfold fstA
  rw [keyAt_eq hk, keyAt_eq (hk.keep fun a o' _ e => o.st a o' e)]
theorem Tl.stX {d : Bool} {ns : List Int} {i : Nat} {h h' : Heap} {D L : Addr} {us : List Value} {gs : List Int} {m : Str → Option Value} (T : Tl d ns i h D us gs) (n : h.Ns L m) (e : Heap.ExtBut L h h') (hne : D ≠ L) : Tl d ns i h' D us gs :=
  T.keep (T.l.ext e hne) fun _ _ p => p.ext e (pr_ne_ns p n)
theorem Fo.re {H h0 : Heap} {L : Addr} {h h' : Heap} {m m' : Str → Option Value} (X : Fo H h0 L h m) (n : h'.Ns L m') (e : Heap.ExtBut L h h') : Fo H h0 L h' m' :=
  ⟨⟨n, fun b o' e' => e b o' (Nat.ne_of_lt (Nat.lt_of_lt_of_le (Heap.lt_size e') X.F.above)) (X.F.keep b o' e'), X.F.above⟩,
    ⟨fun b o' e' => e b o' (Nat.ne_of_lt (Nat.lt_of_lt_of_le (Heap.lt_size e') X.hL)) (X.o.st b o' e'), Nat.le_trans X.hL (Nat.le_of_lt n.lt)⟩, X.hL, X.hH⟩
/-- the first pair, as the heap has it -/
theorem Tl.first {d : Bool} {ns : List Int} {i : Nat} {h : Heap} {D : Addr} {us : List Value} {gs : List Int} (T : Tl d ns i h D us gs) (h0 : 0 < us.length) : ∃ a j t u, us[0]? = some (.ref a) ∧ h.get? a = some (tupOf (fstA h (us.getD 0 .none)) j t u) := by
  obtain ⟨k, hk⟩ := T.p _ (mem_root h0)
  have hf : fstA h (us.getD 0 .none) = k.1 := by unfold fstA; rw [keyAt_eq hk]
  obtain ⟨a, t, u, e, q⟩ := hk
  refine ⟨a, k.2, t, u, ?_, by rw [hf]; exact q⟩
  rw [← e]; simp [h0]

/-- the state of the loop of nsmallest (d) and of nlargest; hr: the def that replaces -/
inductive Lp (d : Bool) (H : Heap) (s : Shared) (D it l hr : Addr) (vs : List Value) (ns : List Int) (n k : Nat) (s' : Shared) : Prop where
  | mk (h' : Heap) (tk : Nat) (m' : Str → Option Value) (us : List Value) (gs : List Int) (i : Nat) (t : Tok) (o : Int) (to : Tok) (e : s' = { s with heap := h', toks := tk }) (X : Fo H s.heap s.heap.objs.size h' m')
      (m1 : m' "result" = some (.ref D)) (m2 : m' "top" = some (.int (fstA h' (us.getD 0 .none)) t)) (m3 : m' "order" = some (.int o to)) (m4 : m' "_heapreplace" = some (.ref hr))
      (hit : h'.IsListIter it l i) (hlv : Ls h' l vs) (T : Tl d ns i h' D us gs) (hus : us.length = n) (hi : i ≤ ns.length) (hk : k = ns.length - i) : Lp d H s D it l hr vs ns n k s'

theorem nsmall_heap {prog : Program} {w : World} {A : Around} {s : Shared} {H : Heap} {R : Result → Shared → Prop} {l : Addr} {vs : List Value} {ns : List Int} {n : Nat} {u : Tok}
    (hB : Bs w H) (hO : Ov H s.heap) (hl : Ls s.heap l vs) (hI : IntsAre vs ns) (h64 : ns.length < 64) (hn1 : n ≠ 1) (hge : n < ns.length) (hh : A.handled = none) (hroom : A.depth + 3 < recursionLimit) (hu : A.units + 40 < cLine)
    (h : ∀ h' tk l' ws (ms gs : List Int), Ov s.heap h' → Ls h' l' ws → (ms ++ gs).Perm ns → ms.length = n → ms.Pairwise (· ≤ ·) → (∀ f ∈ ms, ∀ g ∈ gs, f ≤ g) → IntsAre ws ms → R (.ok (.ret (.ref l'))) { s with heap := h', toks := tk }) :
    codeAny (model prog w) A (.call (.ref 110) ⟨[.int n u, .ref l], []⟩) R s := by
  refine enterC (binds := [("n", .int n u), ("iterable", .ref l), ("key", .none)]) hB hO (by rfl) (by rfl) (by lia) (BindsTo.of_defaults rfl ((hB.X.keeps hO.st) _ _ (by rfl)) (by rfl) rfl rfl) (by rfl) fun h₁ tk₁ X hc => ?_
  have c1 : h₁.IsCell (s.heap.objs.size + 1) (some .none) := hc "key" _ rfl
  have hl1 := hl.grow X.o
  have hlt := hl.lt
  have hvl := hI.length
  have a1 : ((n : Int) == 1) = false := beq_eq_false_iff_ne.mpr (by lia)
  have a2 : decide ((ns.length : Int) ≤ (n : Int)) = false := decide_eq_false (by lia)
  have a3 : ns.length < 1000 := by lia
  have a4 : vs.length < 64 := by lia
  have a5 : Builtin.Range.small 0 (n : Int) 1 = true := small_one (by lia) (by lia) (by lia) (by lia)
  have a6 : Builtin.Range.rangeSize 0 (n : Int) 1 = (n : Int) := by rw [rangeSize_one]; split <;> lia
  refine wpAny_execs_cons (wpAny_If (wpAny_isTrue_Compare1 (ldE X.F.ns rfl (wpAny_Constant_int (eqB a1 (wpAny_truthy_bool (iff' (wpAny_execs_nil ?_))))))))
  refine wpAny_execs_cons (wpAny_Try_except (wpAny_execs_cons (wpAny_Assign_Name (bcallE hB X.ov.st (spliced_more (ldE X.F.ns rfl (spliced_none (lenN hl1.il hvl a3 fun tk2 t2 => ?_))))))))
  refine X.stE fun h3 X3 sb3 => ?_
  have hl3 : Ls h3 l vs := hl1.same sb3 (Nat.ne_of_lt hlt)
  have c3 : h3.IsCell (s.heap.objs.size + 1) (some .none) := let ⟨o, e, d⟩ := c1; ⟨o, (sb3.2 _ (Nat.succ_ne_self _)).trans e, d⟩
  refine wpAny_execs_nil ?_
  refine wpAny_execs_cons (wpAny_If (wpAny_isTrue_Compare1 (ldE X3.F.ns rfl (ldE X3.F.ns upe (geB a2 (wpAny_truthy_bool (iff' (wpAny_execs_nil (wpAny_execs_nil ?_)))))))))
  refine wpAny_execs_cons (wpAny_If (wpAny_isTrue_Compare1 (lcE c3 (wpAny_Constant_none (is_none_none (wpAny_truthy_bool (ift ?_)))))))
  refine wpAny_execs_cons (wpAny_Assign_Name (bcallE hB X3.ov.st (spliced_more (ldE X3.F.ns rfl (spliced_none (callIter hl3.il fun h4 it o4 hit4 hi4 => ?_))))))
  have X4 := X3.grow o4
  have hit0 : s.heap.objs.size < it := Nat.lt_of_lt_of_le X3.F.ns.lt hi4
  refine X4.stE fun h5 X5 sb5 => ?_
  have hit5 : h5.IsListIter it l 0 := let ⟨o, e, r⟩ := hit4; ⟨o, (sb5.2 it (Nat.ne_of_gt hit0)).trans e, r⟩
  have hl5 : Ls h5 l vs := (hl3.grow o4).same sb5 (Nat.ne_of_lt hlt)
  refine wpAny_execs_cons (lcompA (cl := []) (by rfl) (by rfl) (by decide) rfl (by decide) ?_)
  refine tcallE hB X5.ov.st (spliced_more (tcallE hB X5.ov.st (spliced_more (ldE X5.F.ns rfl (spliced_none (range1 fun h6 tk6 r6 t6 u6 v6 o6 hr6 hi6 => ?_))))))
  have X6 := X5.grow o6
  have hit6 : h6.IsListIter it l 0 := let ⟨o, e, r⟩ := hit5; ⟨o, o6.st _ _ e, r⟩
  refine spliced_more (ldE X6.F.ns upe (spliced_none (callZip hr6 a5 hit6 fun h7 z TI TO i1 hz7 hTI7 hTO7 hri7 o7 p1 p2 p3 p4 => ?_)))
  have X7 := X6.grow o7
  rw [a6] at hri7
  refine wpAny_pyIter_zip hz7 ?_
  refine ⟨fun h8 o8 E' Q' q => wpAny_pyIter_zip (o8.st _ _ hz7) q, fun h8 D C o8 hD hDC ls8 ns8 => ?_⟩
  have hl6 := hl5.grow o6
  have hl8 := (hl6.grow o7).grow o8
  have hit8 : h8.IsListIter it l 0 := let ⟨o, e, r⟩ := hit6; ⟨o, o8.st _ _ (o7.st _ _ e), r⟩
  have X8 := X7.grow o8
  have hz8 := o8.st _ _ hz7
  have hTI8 := o8.st _ _ hTI7
  have hTO8 := o8.st _ _ hTO7
  have hri8 := o8.st _ _ hri7
  have q1 := ltN hlt
  have q2 := ltN hit0
  have q3 := ltN (show it < h6.objs.size from let ⟨_, e, _⟩ := hit6; Heap.lt_size e)
  have q4 := leN p1
  have q5 := ltN p2
  have q6 := ltN p3
  have q7 := ltN p4
  have q8 := ltN (Heap.lt_size hz7)
  dsimp only at hD q4 ⊢
  have q9 := leN hD
  have q10 := ltN hDC
  clear hz7 hTI7 hTO7 hri7 X7 X6 X5 X4 X3 X hit6 hit5 hit4 hl5 hl3 hl1 hl6 o4 o6 sb3 sb5 c1 p1 p2 p3 p4 hD hr6
  refine zipLoop (s := { s with toks := tk6 }) (st := 1) (env := compEnvC _ [] C _) (by rfl) (by rfl) (by rfl) hh (by lia) h64 hz8 hTI8 hTO8 hri8 hit8 hl8 hI ls8 ns8 (by lia) (by lia) (by lia) (by lia) (by lia) (by lia) (by exact q10) fun h9 tk9 us m9 prs9 ls9 it9 ns9 K9 => ?_
  have X9 : Fo H s.heap s.heap.objs.size h9 _ := X8.low fun b o hb e => have hb' : @LE.le Nat _ b s.heap.objs.size := hb; K9 b o (neN (by lia)) (neN (by lia)) (neN (by lia)) (neN (by lia)) (show b ≠ C from neN (by lia)) (neN (by lia)) e
  refine ⟨rfl, m9, ns9, X9.stE fun h10 X10 sb10 => ⟨ns9.sameBut sb10 (show C ≠ s.heap.objs.size from neN (by lia)), fun h11 sb11 => ?_⟩⟩
  have X11 := X10.keep (extBut_of_same sb11) (Nat.le_of_lt (Nat.lt_of_lt_of_le q2 (Nat.le_of_lt (Nat.lt_of_lt_of_le q3 (by lia))))) (show C ≠ s.heap.objs.size from neN (by lia))
  have ls11 : Ls h11 D us := (ls9.same sb10 (show D ≠ s.heap.objs.size from neN (by lia))).same sb11 (neN (by lia))
  have it11 : h11.IsListIter it l n := let ⟨o, e, r⟩ := it9; ⟨o, (sb11.2 it (neN (by lia))).trans ((sb10.2 it (show it ≠ s.heap.objs.size from neN (by lia))).trans e), r⟩
  have hl11 : Ls h11 l vs := ((hl8.at fun o e => K9 l o (neN (by lia)) (neN (by lia)) (neN (by lia)) (neN (by lia)) (show l ≠ C from neN (by lia)) (neN (by lia)) e).same sb10 (show l ≠ s.heap.objs.size from neN (by lia))).same sb11 (neN (by lia))
  have prs11 : Prs h11 0 us (zk ns 1 n) := ⟨prs9.1, fun j v e => by
    obtain ⟨a, t, u', e1, e2, e3⟩ := prs9.2 j v e
    have hpr : Pr h9 v ((zk ns 1 n).getD j (0, 0)) := ⟨a, t, u', e1, e3⟩
    have n1 := pr_ne_ns hpr ns9
    have n2 := pr_ne_ns hpr X9.F.ns
    refine ⟨a, t, u', e1, Nat.zero_le _, ?_⟩
    exact (sb11.2 a (fun z => n1 (by rw [e1, z]; rfl))).trans ((sb10.2 a (fun z => n2 (by rw [e1, z]; rfl))).trans e3)⟩
  have hul : us.length = n := by rw [prs11.1]; simp [zk]
  dsimp only
  clear X8 X9 X10 ls9 prs9 K9 it9 ns9 sb10 sb11 hz8 hTI8 hTO8 hri8 hit8 hl8 o7 o8 ls8 ns8 c3
  have hH : H.get? D = none := by
    cases q : H.get? D with
    | none => rfl
    | some o => have := ltN (Heap.lt_size q); have := X11.hH; lia
  refine wpAny_execs_cons (wpAny_If (isTrue_not (isTrue_plain (ldE X11.F.ns upe (wpAny_truthy_list ls11.il (by simp; lia) ?_)))))
  by_cases hn0 : n = 0
  · obtain rfl : us = [] := List.length_eq_zero_iff.mp (hul.trans hn0)
    refine wpAny_execs_cons (wpAny_Return_some (ldE X11.F.ns upe ?_))
    dsimp only
    exact h _ _ _ _ [] ns X11.o ls11 (.refl _) hn0.symm .nil (fun _ q => nomatch q) .nil
  have hul2 : 2 ≤ us.length := by lia
  have hem : (!us.toArray.isEmpty) = true := by
    cases us with
    | nil => simp at hul2
    | cons a r => rfl
  rw [hem]
  refine wpAny_execs_nil ?_
  dsimp only
  have hS : ∀ v ∈ us, isP D h11 v := fun v hv => by
    obtain ⟨j, hj, rfl⟩ := List.mem_iff_getElem.mp hv
    exact Pr.isPa ls11 ⟨_, prs_pr prs11 j hj⟩
  have hus : us.length < 1000 := by lia
  refine wpAny_execs_cons (wpAny_Expr (fcallE hB X11.ov.st (by rfl) (by rfl) (spliced_more (ldE X11.F.ns upe (spliced_none ⟨X11.ov, heapify_max_spec hB X11.ov hH ls11 (cmp_pairs D h11) (fun _ _ P K => pairs_stay P K) (fun _ _ _ hk => hk) hS hus hh (by simp only [Around.deeper]; lia) (by simp only [Around.deeper]; lia) fun h12 tk12 k12 ls12 => ?_⟩)))))
  have T12 := Tl.init (d := true) (Nat.le_of_lt hge) prs11 ls11 k12 ls12
  have X12 := X11.kp k12 (Nat.le_of_lt (by lia)) (show D ≠ s.heap.objs.size from neN (by lia))
  have it12 : h12.IsListIter it l n := let ⟨o, e, r⟩ := it11; ⟨o, k12.st it _ (neN (by lia)) e, r⟩
  have hl12 : Ls h12 l vs := hl11.kp k12 (neN (by lia))
  have hul12 : (hfy (ltD true h11) us (us.length / 2)).length = n := (hfy_perm _ _ us (by lia)).length_eq.trans hul
  dsimp only
  clear k12 ls12 X11 ls11 it11 hl11 prs11 hS hem hus
  clear hul hul2
  generalize hfy (ltD true h11) us (us.length / 2) = vs12 at *
  have h0 : 0 < vs12.length := by lia
  have hDL : D ≠ s.heap.objs.size := neN (by lia)
  have hitL : it ≠ s.heap.objs.size := neN (by lia)
  have hlL : l ≠ s.heap.objs.size := neN (by lia)
  obtain ⟨pa, pj, pt, pu, pe, pg⟩ := T12.first h0
  refine wpAny_execs_cons (wpAny_Assign_Name (Subscript_ (Subscript_ (ldE X12.F.ns upe (wpAny_Constant_int (itemN (k := 0) T12.l.il (by lia) pe (wpAny_Constant_int (item_tupleT (j := 0) (l := [_, _]) ⟨_, pg, rfl, 0, rfl⟩ (by decide) (by decide) (by rfl) rfl ?_))))))))
  refine X12.stE fun h13 X13 sb13 => ?_
  have T13 := T12.st X12.F.ns sb13 hDL
  have it13 : h13.IsListIter it l n := let ⟨o, e, r⟩ := it12; ⟨o, (sb13.2 it hitL).trans e, r⟩
  have hl13 : Ls h13 l vs := hl12.same sb13 hlL
  have top13 : fstA h13 (vs12.getD 0 .none) = fstA h12 (vs12.getD 0 .none) := by
    obtain ⟨k, hk⟩ := T12.p _ (mem_root h0)
    unfold fstA
    rw [keyAt_eq hk, keyAt_eq (hk.ext sb13.extBut (pr_ne_ns hk X12.F.ns))]
  refine wpAny_execs_cons (wpAny_Assign_Name (ldE X13.F.ns (by rfl) (X13.stE fun h14 X14 sb14 => ?_)))
  refine wpAny_execs_cons (wpAny_Assign_Name (fnmE hB X14.ov.st (by rfl) (X14.stE fun h15 X15 sb15 => ?_)))
  have T15 := (T13.st X13.F.ns sb14 hDL).st X14.F.ns sb15 hDL
  have it15 : h15.IsListIter it l n := let ⟨o, e, r⟩ := it13; ⟨o, (sb15.2 it hitL).trans ((sb14.2 it hitL).trans e), r⟩
  have hl15 : Ls h15 l vs := (hl13.same sb14 hlL).same sb15 hlL
  refine wpAny_execs_cons (wpAny_For (ldE X15.F.ns (by rfl) (wpAny_pyIter_listiter it15 ?_)))
  have top15 : fstA h12 (vs12.getD 0 .none) = fstA h15 (vs12.getD 0 .none) := by
    rw [← top13, ← (T13.st X13.F.ns sb14 hDL).fstS X14.F.ns sb15 (mem_root h0), ← T13.fstS X13.F.ns sb14 (mem_root h0)]
  refine codeAny_mono (codeAny_forLoop (R := fun r s' => r = .ok .next ∧ ∃ h' tk m' us gs, s' = { s with heap := h', toks := tk } ∧ Fo H s.heap s.heap.objs.size h' m' ∧ m' "result" = some (.ref D) ∧ Tl true ns ns.length h' D us gs ∧ us.length = n)
    (Lp true H s D it l 69 vs ns n)
    ?turn (ns.length - n) ⟨h15, _, _, vs12, [], n, pt, _, _, rfl, X15, by rfl, top15 ▸ (by rfl), by rfl, by rfl, it15, hl15, T15, hul12, Nat.le_of_lt hge, rfl⟩) ?fin
  case fin =>
    clear X12 X13 X14 X15 T12 T13 T15 it12 it13 it15 hl12 hl13 hl15 sb13 sb14 sb15 top13 top15 pe pg h0
    rintro r s' ⟨rfl, h', tk, m', us', gs, rfl, X, m1, T, hus⟩
    dsimp only
    have h2' : 2 ≤ us'.length := by lia
    have h64' : us'.length < 64 := by lia
    refine wpAny_execs_cons (wpAny_Expr_any (wpAny_Call_method rfl (by rfl) (by rfl) PySem.F.plainAttrs_list PySem.F.slot_list_sort PySem.F.type_list_sort (ldE X.F.ns m1 ⟨T.l.il.typeIs, fun b e => by cases e; exact let ⟨n, q⟩ := T.l; ⟨_, q, rfl⟩, callWith_method0 (callSort T.l T.isP h2' h64' fun h2 us2 k2 ls2 p2 q2 => ?_)⟩)))
    obtain ⟨prs, pm, pw, le⟩ := T.fin k2 p2 q2
    have X2 := X.kp k2 (Nat.le_of_lt (by lia)) hDL
    have hul2 : us2.length = n := p2.length_eq.trans hus
    dsimp only
    clear T X k2 p2 q2 hus h2' h64'
    refine wpAny_execs_cons (wpAny_Return_some (lcomp (cl := []) (by rfl) (by decide) rfl (by decide) ?_))
    refine ldE X2.F.ns m1 (wpAny_pyIter_list ls2.il ?_)
    have o6 : Ov h2 (h2.push { cls := .type "list_iterator", data := .fields #[.ref D, .int 0 0] }) := .push _
    have i6 : (h2.push { cls := .type "list_iterator", data := .fields #[.ref D, .int 0 0] }).IsListIter h2.objs.size D 0 := ⟨_, Heap.get?_push_size _ rfl, rfl, rfl⟩
    dsimp only
    generalize h2.push { cls := .type "list_iterator", data := .fields #[.ref D, .int 0 0] } = h6 at *
    have hDlt := ltN ls2.lt
    generalize hjt : h2.objs.size = jt at *
    have X6 := X2.grow o6
    have ls6 := ls2.grow o6
    have prs6 := prs.keep (h' := h6) fun a o _ e _ => o6.st a o e
    generalize us2.map (keyAt h2) = ks at *
    have hjt6 := ltN (show jt < h6.objs.size from let ⟨_, e, _⟩ := i6; Heap.lt_size e)
    refine ⟨fun h7 o7 E' Q' q => wpAny_pyIter_listiter (let ⟨o, e, r⟩ := i6; ⟨o, o7.st _ _ e, r⟩) q, fun h7 D7 C7 o7 hD7 hDC7 ls7 ns7 => ?_⟩
    try dsimp only at hD7 ⊢
    have w1 := leN hD7
    have w2 := ltN hDC7
    have i7 : h7.IsListIter jt D 0 := let ⟨o, e, r⟩ := i6; ⟨o, o7.st _ _ e, r⟩
    have X7 := X6.grow o7
    have prs7 := prs6.keep (h' := h7) fun a o _ e _ => o7.st a o e
    have lsD7 := ls6.grow o7
    clear X2 X6 ls2 ls6 prs prs6 o6 o7 i6
    refine unzipLoop (s := { s with toks := tk }) (env := compEnvC _ [] C7 _) (by rfl) (by rfl) (by rfl) hh (by lia) i7 lsD7 prs7 ls7 ns7 (by lia) (by lia) (by exact w2) fun h8 tk8 ys m8 hI8 ls8 ns8 K8 => ?_
    refine ⟨rfl, m8, ns8, fun h9 sb9 => ?_⟩
    dsimp only at sb9 ⊢
    have ls9 : Ls h9 D7 ys := ls8.same sb9 (neN (by lia))
    refine h _ _ _ ys _ gs ⟨fun b o e => ?_, ?_⟩ ls9 pm (by rw [List.length_map, ← prs7.1]; exact hul2) pw le hI8
    · have hb := ltN (Heap.lt_size e)
      exact (sb9.2 b (neN (by lia))).trans (K8 b o (neN (by lia)) (show b ≠ C7 from neN (by lia)) (neN (by lia)) (X7.o.st b o e))
    · have := ltN ls9.lt; lia
  case turn =>
    clear X12 X13 X14 X15 T12 T13 T15 it12 it13 it15 hl12 hl13 hl15 sb13 sb14 sb15 top13 top15 pe pg h0
    rintro k s' ⟨h', tk, m', us', gs, i, t, o, to, rfl, X, m1, m2, m3, m4, hit, hlv, T, hus, hi, rfl⟩
    have h0 : 0 < us'.length := by lia
    by_cases hlt' : i < ns.length
    · obtain ⟨ty, hty⟩ := intsAre_get hI i hlt'
      refine wpAny_pyNext_list_item hit hlv.il (x := .int (ns.getD i 0) ty) (by simpa using hty) fun h2 hit2 sb2 => ?_
      have X2 := X.keep (extBut_of_same sb2) (Nat.le_of_lt hit0) hitL
      have T2 := T.nx hit sb2.extBut (neN (by lia))
      have e2 := T.fstI hit sb2.extBut (mem_root h0)
      have hl2 : Ls h2 l vs := hlv.same sb2 (neN (by lia))
      refine wpAny_assign_Name (X2.stE fun h3 X3 sb3 => ?_)
      have T3 := T2.st X2.F.ns sb3 hDL
      have e3 := T2.fstS X2.F.ns sb3 (mem_root h0)
      have hl3 : Ls h3 l vs := hl2.same sb3 hlL
      have hit3 : h3.IsListIter it l (i + 1) := let ⟨o, e, r⟩ := hit2; ⟨o, (sb3.2 it hitL).trans e, r⟩
      rw [e2, e3] at m2
      clear e2 e3 T2 T X hit hit2 sb2 hlv hl2 X2 sb3
      refine wpAny_execs_cons (wpAny_If (wpAny_isTrue_Compare1 (ldE X3.F.ns upe (ldE X3.F.ns (ups (by decide) m2) (lt_int (wpAny_truthy_bool ?_))))))
      by_cases hcmp : ns.getD i 0 < fstA h3 (us'.getD 0 .none)
      · rw [decide_eq_true hcmp]
        refine ift ?_
        refine wpAny_execs_cons (wpAny_Expr_any (Call_ (ldE X3.F.ns (ups (by decide) m4) (callWith_K hB.X (by rfl) ?_))))
        refine spliced_more (ldE X3.F.ns (ups (by decide) m1) (spliced_more (Tuple_ (spliced_more (ldE X3.F.ns upe (spliced_more (ldE X3.F.ns (ups (by decide) m3) (spliced_none (newPair fun h4 T4 o4 P4 hT4 => spliced_none ?_)))))))))
        have X4 := X3.grow o4
        have T4' := T3.gr o4
        have e4 := T3.fstG o4 (mem_root h0)
        rw [e4] at hcmp
        have it4 : h4.IsListIter it l (i + 1) := let ⟨o, e, r⟩ := hit3; ⟨o, o4.st _ _ e, r⟩
        have hl4 := hl3.grow o4
        have hy : Pr h4 (.ref T4) (ns.getD i 0, o) := ⟨T4, ty, to, rfl, P4⟩
        dsimp only
        clear e4 T3 hit3 hl3 m2 P4 hT4
        refine ⟨hB.X.keeps X4.ov.st, wpAny_call (heapreplace_max_spec hB X4.ov hH T4'.l (cmp_pairs D h4) (fun _ _ P K => pairs_stay P K) (fun _ _ _ hk => hk) T4'.isP (Pr.isPa T4'.l ⟨_, hy⟩) h0 (by lia) (by simp only [Around.deeper]; lia) (by simp only [Around.deeper]; lia) fun h5 tk5 k5 ls5 => ?_)⟩
        have T5 := T4'.repl hlt' h0 hy (show ns.getD i 0 ≤ fstA h4 (us'.getD 0 .none) by lia) k5 ls5
        have X5 := X4.kp k5 (Nat.le_of_lt (by lia)) hDL
        have it5 : h5.IsListIter it l (i + 1) := let ⟨o, e, r⟩ := it4; ⟨o, k5.st it _ (neN (by lia)) e, r⟩
        have hl5 : Ls h5 l vs := hl4.kp k5 (neN (by lia))
        have hus5 : (sup (ltD true h4) (us'.set 0 (.ref T4)) 0).length = n := (sup_perm _ _ _ (by rw [List.length_set]; exact h0)).length_eq.trans (by rw [List.length_set]; exact hus)
        dsimp only
        clear k5 ls5 X4 T4' it4 hl4 hy X3 o4 hcmp
        generalize sup (ltD true h4) (us'.set 0 (.ref T4)) 0 = us5 at *
        have h05 : 0 < us5.length := by lia
        obtain ⟨pa, pj, pt, pu, pe, pg⟩ := T5.first h05
        refine wpAny_execs_cons (Assign_Tuple (Subscript_ (ldE X5.F.ns (ups (by decide) m1) (wpAny_Constant_int (itemN (k := 0) T5.l.il (by lia) pe (assign2 hh ⟨_, pg, rfl, 0, rfl⟩ X5.F.ns fun h6 tk6 ns6 k6 => ?_))))))
        have X6 := X5.re ns6 k6
        have T6 := T5.stX X5.F.ns k6 hDL
        have e6 := T5.fstX X5.F.ns k6 (mem_root h05)
        have it6 : h6.IsListIter it l (i + 1) := let ⟨o, e, r⟩ := it5; ⟨o, k6 it _ hitL e, r⟩
        have hl6 : Ls h6 l vs := hl5.ext k6 hlL
        rw [e6] at X6
        dsimp only
        clear e6 T5 it5 hl5 X5 k6 ns6
        refine wpAny_execs_cons (wpAny_AugAssign_Name (wpAny_loadName_local rfl (by rfl) X6.F.ns (ups (by decide) (ups (by decide) (ups (by decide) m3))) (wpAny_Constant_int (AutoIntOps.iadd_0 (X6.stE fun h7 X7 sb7 => ?_)))))
        have T7 := T6.st X6.F.ns sb7 hDL
        have e7 := T6.fstS X6.F.ns sb7 (mem_root h05)
        have it7 : h7.IsListIter it l (i + 1) := let ⟨o, e, r⟩ := it6; ⟨o, (sb7.2 it hitL).trans e, r⟩
        have hl7 : Ls h7 l vs := hl6.same sb7 hlL
        rw [e7] at X7
        refine wpAny_execs_nil (wpAny_execs_nil ?_)
        exact ⟨ns.length - (i + 1), by lia, h7, _, _, us5, _, i + 1, pt, _, _, rfl, X7, ups (by decide) (ups (by decide) (ups (by decide) (ups (by decide) m1))), ups (by decide) (ups (by decide) upe), upe, ups (by decide) (ups (by decide) (ups (by decide) (ups (by decide) m4))), it7, hl7, T7, hus5, hlt', rfl⟩
      · rw [decide_eq_false hcmp]
        refine iff' (wpAny_execs_nil (wpAny_execs_nil ?_))
        have T4 := T3.skip hlt' (show fstA h3 (us'.getD 0 .none) ≤ ns.getD i 0 by lia)
        exact ⟨ns.length - (i + 1), by lia, h3, _, _, us', _, i + 1, t, o, to, rfl, X3, ups (by decide) m1, ups (by decide) m2, ups (by decide) m3, ups (by decide) m4, hit3, hl3, T4, hus, hlt', rfl⟩
    · obtain rfl : i = ns.length := by lia
      refine wpAny_pyNext_list_end hh hit hlv.il (by simp; lia) fun h2 e2 => ?_
      have X2 := X.keep e2 (Nat.le_of_lt hit0) hitL
      have T2 := T.nx hit e2 (neN (by lia))
      exact wpAny_execs_nil ⟨rfl, h2, _, m', us', gs, rfl, X2, m1, T2, hus⟩
end Mine
end

section
open PySem PySem.W PyProof.Rows PySem.Calls
set_option maxRecDepth 100000
set_option maxHeartbeats 4000000
namespace Mine

theorem rsize_neg (n : Nat) : Builtin.Range.rangeSize 0 (-(n : Int)) (-1) = (n : Int) := by
  unfold Builtin.Range.rangeSize
  rw [if_neg (by decide), show -(-1 : Int) = 1 from rfl, Int.ediv_one]
  split <;> lia
theorem small_neg {n : Nat} (h : n < 1000) : Builtin.Range.small 0 (-(n : Int)) (-1) = true := by
  unfold Builtin.Range.small
  rw [rsize_neg]
  simp only [Builtin.Range.rangeFitsLong, Bool.and_eq_true, Bool.or_eq_true, decide_eq_true_eq, beq_iff_eq, show ¬ (-1 : Int) > 0 by decide, if_false]
  lia
theorem range3 {prog : Program} {w : World} {A : Around} {E : Value → Shared → Prop} {s : Shared} {a b c : Int} {t u v : Tok} {Q : Value → Shared → Prop} (hc : c ≠ 0 ∧ -1000 < c ∧ c < 1000) (hs : -1000 < b - a ∧ b - a < 1000) (h : ∀ h' tk r t u v, Ov s.heap h' → IsRange h' r a b c t u v → s.heap.objs.size ≤ r → Q (.ref r) { s with heap := h', toks := tk }) :
    wpAny (model prog w) A (call (.type "range") [.int a t, .int b u, .int c v]) Q E s := call_range_3 hc.1 (h _ s.toks _ _ _ _ (Ov.push _) (IsRange.new ..) (Nat.le_refl _)) (.inl (PyProof.noPylong_small (by lia)))

theorem nlarge_heap {prog : Program} {w : World} {A : Around} {s : Shared} {H : Heap} {R : Result → Shared → Prop} {l : Addr} {vs : List Value} {ns : List Int} {n : Nat} {u : Tok}
    (hB : Bs w H) (hO : Ov H s.heap) (hl : Ls s.heap l vs) (hI : IntsAre vs ns) (h64 : ns.length < 64) (hn1 : n ≠ 1) (hge : n < ns.length) (hh : A.handled = none) (hroom : A.depth + 3 < recursionLimit) (hu : A.units + 40 < cLine)
    (h : ∀ h' tk l' ws (ms gs : List Int), Ov s.heap h' → Ls h' l' ws → (ms ++ gs).Perm ns → ms.length = n → ms.Pairwise (fun a b => b ≤ a) → (∀ f ∈ ms, ∀ g ∈ gs, g ≤ f) → IntsAre ws ms → R (.ok (.ret (.ref l'))) { s with heap := h', toks := tk }) :
    codeAny (model prog w) A (.call (.ref 116) ⟨[.int n u, .ref l], []⟩) R s := by
  refine enterC (binds := [("n", .int n u), ("iterable", .ref l), ("key", .none)]) hB hO (by rfl) (by rfl) (by lia) (BindsTo.of_defaults rfl ((hB.X.keeps hO.st) _ _ (by rfl)) (by rfl) rfl rfl) (by rfl) fun h₁ tk₁ X hc => ?_
  have c1 : h₁.IsCell (s.heap.objs.size + 1) (some .none) := hc "key" _ rfl
  have hl1 := hl.grow X.o
  have hlt := hl.lt
  have hvl := hI.length
  have a1 : ((n : Int) == 1) = false := beq_eq_false_iff_ne.mpr (by lia)
  have a2 : decide ((ns.length : Int) ≤ (n : Int)) = false := decide_eq_false (by lia)
  have a3 : ns.length < 1000 := by lia
  have a4 : vs.length < 64 := by lia
  have a5 : Builtin.Range.small 0 (-(n : Int)) (-1) = true := small_neg (by lia)
  have a6 : Builtin.Range.rangeSize 0 (-(n : Int)) (-1) = (n : Int) := rsize_neg n
  refine wpAny_execs_cons (wpAny_If (wpAny_isTrue_Compare1 (ldE X.F.ns rfl (wpAny_Constant_int (eqB a1 (wpAny_truthy_bool (iff' (wpAny_execs_nil ?_))))))))
  refine wpAny_execs_cons (wpAny_Try_except (wpAny_execs_cons (wpAny_Assign_Name (bcallE hB X.ov.st (spliced_more (ldE X.F.ns rfl (spliced_none (lenN hl1.il hvl a3 fun tk2 t2 => ?_))))))))
  refine X.stE fun h3 X3 sb3 => ?_
  have hl3 : Ls h3 l vs := hl1.same sb3 (Nat.ne_of_lt hlt)
  have c3 : h3.IsCell (s.heap.objs.size + 1) (some .none) := let ⟨o, e, d⟩ := c1; ⟨o, (sb3.2 _ (Nat.succ_ne_self _)).trans e, d⟩
  refine wpAny_execs_nil ?_
  refine wpAny_execs_cons (wpAny_If (wpAny_isTrue_Compare1 (ldE X3.F.ns rfl (ldE X3.F.ns upe (geB a2 (wpAny_truthy_bool (iff' (wpAny_execs_nil (wpAny_execs_nil ?_)))))))))
  refine wpAny_execs_cons (wpAny_If (wpAny_isTrue_Compare1 (lcE c3 (wpAny_Constant_none (is_none_none (wpAny_truthy_bool (ift ?_)))))))
  refine wpAny_execs_cons (wpAny_Assign_Name (bcallE hB X3.ov.st (spliced_more (ldE X3.F.ns rfl (spliced_none (callIter hl3.il fun h4 it o4 hit4 hi4 => ?_))))))
  have X4 := X3.grow o4
  have hit0 : s.heap.objs.size < it := Nat.lt_of_lt_of_le X3.F.ns.lt hi4
  refine X4.stE fun h5 X5 sb5 => ?_
  have hit5 : h5.IsListIter it l 0 := let ⟨o, e, r⟩ := hit4; ⟨o, (sb5.2 it (Nat.ne_of_gt hit0)).trans e, r⟩
  have hl5 : Ls h5 l vs := (hl3.grow o4).same sb5 (Nat.ne_of_lt hlt)
  refine wpAny_execs_cons (lcompA (cl := []) (by rfl) (by rfl) (by decide) rfl (by decide) ?_)
  refine tcallE hB X5.ov.st (spliced_more (tcallE hB X5.ov.st (spliced_more (wpAny_Constant_int (spliced_more (UnaryOp_ (ldE X5.F.ns rfl (neg_int (spliced_more (UnaryOp_ (wpAny_Constant_int (neg_int (spliced_none (range3 (by decide) (by lia) fun h6 tk6 r6 t6 u6 v6 o6 hr6 hi6 => ?_))))))))))))))
  have X6 := X5.grow o6
  have hit6 : h6.IsListIter it l 0 := let ⟨o, e, r⟩ := hit5; ⟨o, o6.st _ _ e, r⟩
  refine spliced_more (ldE X6.F.ns upe (spliced_none (callZip hr6 a5 hit6 fun h7 z TI TO i1 hz7 hTI7 hTO7 hri7 o7 p1 p2 p3 p4 => ?_)))
  have X7 := X6.grow o7
  rw [a6] at hri7
  refine wpAny_pyIter_zip hz7 ?_
  refine ⟨fun h8 o8 E' Q' q => wpAny_pyIter_zip (o8.st _ _ hz7) q, fun h8 D C o8 hD hDC ls8 ns8 => ?_⟩
  have hl6 := hl5.grow o6
  have hl8 := (hl6.grow o7).grow o8
  have hit8 : h8.IsListIter it l 0 := let ⟨o, e, r⟩ := hit6; ⟨o, o8.st _ _ (o7.st _ _ e), r⟩
  have X8 := X7.grow o8
  have hz8 := o8.st _ _ hz7
  have hTI8 := o8.st _ _ hTI7
  have hTO8 := o8.st _ _ hTO7
  have hri8 := o8.st _ _ hri7
  have q1 := ltN hlt
  have q2 := ltN hit0
  have q3 := ltN (show it < h6.objs.size from let ⟨_, e, _⟩ := hit6; Heap.lt_size e)
  have q4 := leN p1
  have q5 := ltN p2
  have q6 := ltN p3
  have q7 := ltN p4
  have q8 := ltN (Heap.lt_size hz7)
  dsimp only at hD q4 ⊢
  have q9 := leN hD
  have q10 := ltN hDC
  clear hz7 hTI7 hTO7 hri7 X7 X6 X5 X4 X3 X hit6 hit5 hit4 hl5 hl3 hl1 hl6 o4 o6 sb3 sb5 c1 p1 p2 p3 p4 hD hr6
  refine zipLoop (s := { s with toks := tk6 }) (st := -1) (env := compEnvC _ [] C _) (by rfl) (by rfl) (by rfl) hh (by lia) h64 hz8 hTI8 hTO8 hri8 hit8 hl8 hI ls8 ns8 (by lia) (by lia) (by lia) (by lia) (by lia) (by lia) (by exact q10) fun h9 tk9 us m9 prs9 ls9 it9 ns9 K9 => ?_
  have X9 : Fo H s.heap s.heap.objs.size h9 _ := X8.low fun b o hb e => have hb' : @LE.le Nat _ b s.heap.objs.size := hb; K9 b o (neN (by lia)) (neN (by lia)) (neN (by lia)) (neN (by lia)) (show b ≠ C from neN (by lia)) (neN (by lia)) e
  refine ⟨rfl, m9, ns9, X9.stE fun h10 X10 sb10 => ⟨ns9.sameBut sb10 (show C ≠ s.heap.objs.size from neN (by lia)), fun h11 sb11 => ?_⟩⟩
  have X11 := X10.keep (extBut_of_same sb11) (Nat.le_of_lt (Nat.lt_of_lt_of_le q2 (Nat.le_of_lt (Nat.lt_of_lt_of_le q3 (by lia))))) (show C ≠ s.heap.objs.size from neN (by lia))
  have ls11 : Ls h11 D us := (ls9.same sb10 (show D ≠ s.heap.objs.size from neN (by lia))).same sb11 (neN (by lia))
  have it11 : h11.IsListIter it l n := let ⟨o, e, r⟩ := it9; ⟨o, (sb11.2 it (neN (by lia))).trans ((sb10.2 it (show it ≠ s.heap.objs.size from neN (by lia))).trans e), r⟩
  have hl11 : Ls h11 l vs := ((hl8.at fun o e => K9 l o (neN (by lia)) (neN (by lia)) (neN (by lia)) (neN (by lia)) (show l ≠ C from neN (by lia)) (neN (by lia)) e).same sb10 (show l ≠ s.heap.objs.size from neN (by lia))).same sb11 (neN (by lia))
  have prs11 : Prs h11 0 us (zk ns (-1) n) := ⟨prs9.1, fun j v e => by
    obtain ⟨a, t, u', e1, e2, e3⟩ := prs9.2 j v e
    have hpr : Pr h9 v ((zk ns (-1) n).getD j (0, 0)) := ⟨a, t, u', e1, e3⟩
    have n1 := pr_ne_ns hpr ns9
    have n2 := pr_ne_ns hpr X9.F.ns
    refine ⟨a, t, u', e1, Nat.zero_le _, ?_⟩
    exact (sb11.2 a (fun z => n1 (by rw [e1, z]; rfl))).trans ((sb10.2 a (fun z => n2 (by rw [e1, z]; rfl))).trans e3)⟩
  have hul : us.length = n := by rw [prs11.1]; simp [zk]
  dsimp only
  clear X8 X9 X10 ls9 prs9 K9 it9 ns9 sb10 sb11 hz8 hTI8 hTO8 hri8 hit8 hl8 o7 o8 ls8 ns8 c3
  have hH : H.get? D = none := by
    cases q : H.get? D with
    | none => rfl
    | some o => have := ltN (Heap.lt_size q); have := X11.hH; lia
  refine wpAny_execs_cons (wpAny_If (isTrue_not (isTrue_plain (ldE X11.F.ns upe (wpAny_truthy_list ls11.il (by simp; lia) ?_)))))
  by_cases hn0 : n = 0
  · obtain rfl : us = [] := List.length_eq_zero_iff.mp (hul.trans hn0)
    refine wpAny_execs_cons (wpAny_Return_some (ldE X11.F.ns upe ?_))
    dsimp only
    exact h _ _ _ _ [] ns X11.o ls11 (.refl _) hn0.symm .nil (fun _ q => nomatch q) .nil
  have hul2 : 2 ≤ us.length := by lia
  have hem : (!us.toArray.isEmpty) = true := by
    cases us with
    | nil => simp at hul2
    | cons a r => rfl
  rw [hem]
  refine wpAny_execs_nil ?_
  dsimp only
  have hS : ∀ v ∈ us, isP D h11 v := fun v hv => by
    obtain ⟨j, hj, rfl⟩ := List.mem_iff_getElem.mp hv
    exact Pr.isPa ls11 ⟨_, prs_pr prs11 j hj⟩
  have hus : us.length < 1000 := by lia
  refine wpAny_execs_cons (wpAny_Expr (fcallE hB X11.ov.st (by rfl) (by rfl) (spliced_more (ldE X11.F.ns upe (spliced_none ⟨X11.ov, heapify_spec hB X11.ov hH ls11 (cmp_pairs D h11) (fun _ _ P K => pairs_stay P K) (fun _ _ _ hk => hk) hS hus hh (by simp only [Around.deeper]; lia) (by simp only [Around.deeper]; lia) fun h12 tk12 k12 ls12 => ?_⟩)))))
  have T12 := Tl.init (d := false) (Nat.le_of_lt hge) prs11 ls11 k12 ls12
  have X12 := X11.kp k12 (Nat.le_of_lt (by lia)) (show D ≠ s.heap.objs.size from neN (by lia))
  have it12 : h12.IsListIter it l n := let ⟨o, e, r⟩ := it11; ⟨o, k12.st it _ (neN (by lia)) e, r⟩
  have hl12 : Ls h12 l vs := hl11.kp k12 (neN (by lia))
  have hul12 : (hfy (ltD false h11) us (us.length / 2)).length = n := (hfy_perm _ _ us (by lia)).length_eq.trans hul
  dsimp only
  clear k12 ls12 X11 ls11 it11 hl11 prs11 hS hem hus
  clear hul hul2
  generalize hfy (ltD false h11) us (us.length / 2) = vs12 at *
  have h0 : 0 < vs12.length := by lia
  have hDL : D ≠ s.heap.objs.size := neN (by lia)
  have hitL : it ≠ s.heap.objs.size := neN (by lia)
  have hlL : l ≠ s.heap.objs.size := neN (by lia)
  obtain ⟨pa, pj, pt, pu, pe, pg⟩ := T12.first h0
  refine wpAny_execs_cons (wpAny_Assign_Name (Subscript_ (Subscript_ (ldE X12.F.ns upe (wpAny_Constant_int (itemN (k := 0) T12.l.il (by lia) pe (wpAny_Constant_int (item_tupleT (j := 0) (l := [_, _]) ⟨_, pg, rfl, 0, rfl⟩ (by decide) (by decide) (by rfl) rfl ?_))))))))
  refine X12.stE fun h13 X13 sb13 => ?_
  have T13 := T12.st X12.F.ns sb13 hDL
  have it13 : h13.IsListIter it l n := let ⟨o, e, r⟩ := it12; ⟨o, (sb13.2 it hitL).trans e, r⟩
  have hl13 : Ls h13 l vs := hl12.same sb13 hlL
  have top13 : fstA h13 (vs12.getD 0 .none) = fstA h12 (vs12.getD 0 .none) := by
    obtain ⟨k, hk⟩ := T12.p _ (mem_root h0)
    unfold fstA
    rw [keyAt_eq hk, keyAt_eq (hk.ext sb13.extBut (pr_ne_ns hk X12.F.ns))]
  refine wpAny_execs_cons (wpAny_Assign_Name (UnaryOp_ (ldE X13.F.ns (by rfl) (neg_int (X13.stE fun h14 X14 sb14 => ?_)))))
  refine wpAny_execs_cons (wpAny_Assign_Name (fnmE hB X14.ov.st (by rfl) (X14.stE fun h15 X15 sb15 => ?_)))
  have T15 := (T13.st X13.F.ns sb14 hDL).st X14.F.ns sb15 hDL
  have it15 : h15.IsListIter it l n := let ⟨o, e, r⟩ := it13; ⟨o, (sb15.2 it hitL).trans ((sb14.2 it hitL).trans e), r⟩
  have hl15 : Ls h15 l vs := (hl13.same sb14 hlL).same sb15 hlL
  refine wpAny_execs_cons (wpAny_For (ldE X15.F.ns (by rfl) (wpAny_pyIter_listiter it15 ?_)))
  have top15 : fstA h12 (vs12.getD 0 .none) = fstA h15 (vs12.getD 0 .none) := by
    rw [← top13, ← (T13.st X13.F.ns sb14 hDL).fstS X14.F.ns sb15 (mem_root h0), ← T13.fstS X13.F.ns sb14 (mem_root h0)]
  refine codeAny_mono (codeAny_forLoop (R := fun r s' => r = .ok .next ∧ ∃ h' tk m' us gs, s' = { s with heap := h', toks := tk } ∧ Fo H s.heap s.heap.objs.size h' m' ∧ m' "result" = some (.ref D) ∧ Tl false ns ns.length h' D us gs ∧ us.length = n)
    (Lp false H s D it l 55 vs ns n)
    ?turn (ns.length - n) ⟨h15, _, _, vs12, [], n, pt, _, _, rfl, X15, by rfl, top15 ▸ (by rfl), by rfl, by rfl, it15, hl15, T15, hul12, Nat.le_of_lt hge, rfl⟩) ?fin
  case fin =>
    clear X12 X13 X14 X15 T12 T13 T15 it12 it13 it15 hl12 hl13 hl15 sb13 sb14 sb15 top13 top15 pe pg h0
    rintro r s' ⟨rfl, h', tk, m', us', gs, rfl, X, m1, T, hus⟩
    dsimp only
    have h2' : 2 ≤ us'.length := by lia
    have h64' : us'.length < 64 := by lia
    refine wpAny_execs_cons (wpAny_Expr_any (methKw PySem.F.plainAttrs_list PySem.F.slot_list_sort PySem.F.type_list_sort (ldE X.F.ns m1 ⟨T.l.il.typeIs, fun b e => by cases e; exact let ⟨n, q⟩ := T.l; ⟨_, q, rfl⟩, kws_cons (wpAny_Constant_bool (kws_nil (callSortRev T.l T.isP h2' h64' fun h2 us2 k2 ls2 p2 q2 => ?_)))⟩)))
    obtain ⟨prs, pm, pw, le⟩ := T.fin k2 p2 q2
    have X2 := X.kp k2 (Nat.le_of_lt (by lia)) hDL
    have hul2 : us2.length = n := p2.length_eq.trans hus
    dsimp only
    clear T X k2 p2 q2 hus h2' h64'
    refine wpAny_execs_cons (wpAny_Return_some (lcomp (cl := []) (by rfl) (by decide) rfl (by decide) ?_))
    refine ldE X2.F.ns m1 (wpAny_pyIter_list ls2.il ?_)
    have o6 : Ov h2 (h2.push { cls := .type "list_iterator", data := .fields #[.ref D, .int 0 0] }) := .push _
    have i6 : (h2.push { cls := .type "list_iterator", data := .fields #[.ref D, .int 0 0] }).IsListIter h2.objs.size D 0 := ⟨_, Heap.get?_push_size _ rfl, rfl, rfl⟩
    dsimp only
    generalize h2.push { cls := .type "list_iterator", data := .fields #[.ref D, .int 0 0] } = h6 at *
    have hDlt := ltN ls2.lt
    generalize hjt : h2.objs.size = jt at *
    have X6 := X2.grow o6
    have ls6 := ls2.grow o6
    have prs6 := prs.keep (h' := h6) fun a o _ e _ => o6.st a o e
    generalize us2.map (keyAt h2) = ks at *
    have hjt6 := ltN (show jt < h6.objs.size from let ⟨_, e, _⟩ := i6; Heap.lt_size e)
    refine ⟨fun h7 o7 E' Q' q => wpAny_pyIter_listiter (let ⟨o, e, r⟩ := i6; ⟨o, o7.st _ _ e, r⟩) q, fun h7 D7 C7 o7 hD7 hDC7 ls7 ns7 => ?_⟩
    try dsimp only at hD7 ⊢
    have w1 := leN hD7
    have w2 := ltN hDC7
    have i7 : h7.IsListIter jt D 0 := let ⟨o, e, r⟩ := i6; ⟨o, o7.st _ _ e, r⟩
    have X7 := X6.grow o7
    have prs7 := prs6.keep (h' := h7) fun a o _ e _ => o7.st a o e
    have lsD7 := ls6.grow o7
    clear X2 X6 ls2 ls6 prs prs6 o6 o7 i6
    refine unzipLoop (s := { s with toks := tk }) (env := compEnvC _ [] C7 _) (by rfl) (by rfl) (by rfl) hh (by lia) i7 lsD7 prs7 ls7 ns7 (by lia) (by lia) (by exact w2) fun h8 tk8 ys m8 hI8 ls8 ns8 K8 => ?_
    refine ⟨rfl, m8, ns8, fun h9 sb9 => ?_⟩
    dsimp only at sb9 ⊢
    have ls9 : Ls h9 D7 ys := ls8.same sb9 (neN (by lia))
    refine h _ _ _ ys _ gs ⟨fun b o e => ?_, ?_⟩ ls9 pm (by rw [List.length_map, ← prs7.1]; exact hul2) pw le hI8
    · have hb := ltN (Heap.lt_size e)
      exact (sb9.2 b (neN (by lia))).trans (K8 b o (neN (by lia)) (show b ≠ C7 from neN (by lia)) (neN (by lia)) (X7.o.st b o e))
    · have := ltN ls9.lt; lia
  case turn =>
    clear X12 X13 X14 X15 T12 T13 T15 it12 it13 it15 hl12 hl13 hl15 sb13 sb14 sb15 top13 top15 pe pg h0
    rintro k s' ⟨h', tk, m', us', gs, i, t, o, to, rfl, X, m1, m2, m3, m4, hit, hlv, T, hus, hi, rfl⟩
    have h0 : 0 < us'.length := by lia
    by_cases hlt' : i < ns.length
    · obtain ⟨ty, hty⟩ := intsAre_get hI i hlt'
      refine wpAny_pyNext_list_item hit hlv.il (x := .int (ns.getD i 0) ty) (by simpa using hty) fun h2 hit2 sb2 => ?_
      have X2 := X.keep (extBut_of_same sb2) (Nat.le_of_lt hit0) hitL
      have T2 := T.nx hit sb2.extBut (neN (by lia))
      have e2 := T.fstI hit sb2.extBut (mem_root h0)
      have hl2 : Ls h2 l vs := hlv.same sb2 (neN (by lia))
      refine wpAny_assign_Name (X2.stE fun h3 X3 sb3 => ?_)
      have T3 := T2.st X2.F.ns sb3 hDL
      have e3 := T2.fstS X2.F.ns sb3 (mem_root h0)
      have hl3 : Ls h3 l vs := hl2.same sb3 hlL
      have hit3 : h3.IsListIter it l (i + 1) := let ⟨o, e, r⟩ := hit2; ⟨o, (sb3.2 it hitL).trans e, r⟩
      rw [e2, e3] at m2
      clear e2 e3 T2 T X hit hit2 sb2 hlv hl2 X2 sb3
      refine wpAny_execs_cons (wpAny_If (wpAny_isTrue_Compare1 (ldE X3.F.ns (ups (by decide) m2) (ldE X3.F.ns upe (lt_int (wpAny_truthy_bool ?_))))))
      by_cases hcmp : fstA h3 (us'.getD 0 .none) < ns.getD i 0
      · rw [decide_eq_true hcmp]
        refine ift ?_
        refine wpAny_execs_cons (wpAny_Expr_any (Call_ (ldE X3.F.ns (ups (by decide) m4) (callWith_K hB.X (by rfl) ?_))))
        refine spliced_more (ldE X3.F.ns (ups (by decide) m1) (spliced_more (Tuple_ (spliced_more (ldE X3.F.ns upe (spliced_more (ldE X3.F.ns (ups (by decide) m3) (spliced_none (newPair fun h4 T4 o4 P4 hT4 => spliced_none ?_)))))))))
        have X4 := X3.grow o4
        have T4' := T3.gr o4
        have e4 := T3.fstG o4 (mem_root h0)
        rw [e4] at hcmp
        have it4 : h4.IsListIter it l (i + 1) := let ⟨o, e, r⟩ := hit3; ⟨o, o4.st _ _ e, r⟩
        have hl4 := hl3.grow o4
        have hy : Pr h4 (.ref T4) (ns.getD i 0, o) := ⟨T4, ty, to, rfl, P4⟩
        dsimp only
        clear e4 T3 hit3 hl3 m2 P4 hT4
        refine ⟨hB.X.keeps X4.ov.st, wpAny_call (heapreplace_spec hB X4.ov hH T4'.l (cmp_pairs D h4) (fun _ _ P K => pairs_stay P K) (fun _ _ _ hk => hk) T4'.isP (Pr.isPa T4'.l ⟨_, hy⟩) h0 (by lia) (by simp only [Around.deeper]; lia) (by simp only [Around.deeper]; lia) fun h5 tk5 k5 ls5 => ?_)⟩
        have T5 := T4'.repl hlt' h0 hy (show fstA h4 (us'.getD 0 .none) ≤ ns.getD i 0 by lia) k5 ls5
        have X5 := X4.kp k5 (Nat.le_of_lt (by lia)) hDL
        have it5 : h5.IsListIter it l (i + 1) := let ⟨o, e, r⟩ := it4; ⟨o, k5.st it _ (neN (by lia)) e, r⟩
        have hl5 : Ls h5 l vs := hl4.kp k5 (neN (by lia))
        have hus5 : (sup (ltD false h4) (us'.set 0 (.ref T4)) 0).length = n := (sup_perm _ _ _ (by rw [List.length_set]; exact h0)).length_eq.trans (by rw [List.length_set]; exact hus)
        dsimp only
        clear k5 ls5 X4 T4' it4 hl4 hy X3 o4 hcmp
        generalize sup (ltD false h4) (us'.set 0 (.ref T4)) 0 = us5 at *
        have h05 : 0 < us5.length := by lia
        obtain ⟨pa, pj, pt, pu, pe, pg⟩ := T5.first h05
        refine wpAny_execs_cons (Assign_Tuple (Subscript_ (ldE X5.F.ns (ups (by decide) m1) (wpAny_Constant_int (itemN (k := 0) T5.l.il (by lia) pe (assign2 hh ⟨_, pg, rfl, 0, rfl⟩ X5.F.ns fun h6 tk6 ns6 k6 => ?_))))))
        have X6 := X5.re ns6 k6
        have T6 := T5.stX X5.F.ns k6 hDL
        have e6 := T5.fstX X5.F.ns k6 (mem_root h05)
        have it6 : h6.IsListIter it l (i + 1) := let ⟨o, e, r⟩ := it5; ⟨o, k6 it _ hitL e, r⟩
        have hl6 : Ls h6 l vs := hl5.ext k6 hlL
        rw [e6] at X6
        dsimp only
        clear e6 T5 it5 hl5 X5 k6 ns6
        refine wpAny_execs_cons (wpAny_AugAssign_Name (wpAny_loadName_local rfl (by rfl) X6.F.ns (ups (by decide) (ups (by decide) (ups (by decide) m3))) (wpAny_Constant_int (AutoIntOps.isub_0 (X6.stE fun h7 X7 sb7 => ?_)))))
        have T7 := T6.st X6.F.ns sb7 hDL
        have e7 := T6.fstS X6.F.ns sb7 (mem_root h05)
        have it7 : h7.IsListIter it l (i + 1) := let ⟨o, e, r⟩ := it6; ⟨o, (sb7.2 it hitL).trans e, r⟩
        have hl7 : Ls h7 l vs := hl6.same sb7 hlL
        rw [e7] at X7
        refine wpAny_execs_nil (wpAny_execs_nil ?_)
        exact ⟨ns.length - (i + 1), by lia, h7, _, _, us5, _, i + 1, pt, _, _, rfl, X7, ups (by decide) (ups (by decide) (ups (by decide) (ups (by decide) m1))), ups (by decide) (ups (by decide) upe), upe, ups (by decide) (ups (by decide) (ups (by decide) (ups (by decide) m4))), it7, hl7, T7, hus5, hlt', rfl⟩
      · rw [decide_eq_false hcmp]
        refine iff' (wpAny_execs_nil (wpAny_execs_nil ?_))
        have T4 := T3.skip hlt' (show ns.getD i 0 ≤ fstA h3 (us'.getD 0 .none) by lia)
        exact ⟨ns.length - (i + 1), by lia, h3, _, _, us', _, i + 1, t, o, to, rfl, X3, ups (by decide) m1, ups (by decide) m2, ups (by decide) m3, ups (by decide) m4, hit3, hl3, T4, hus, hlt', rfl⟩
    · obtain rfl : i = ns.length := by lia
      refine wpAny_pyNext_list_end hh hit hlv.il (by simp; lia) fun h2 e2 => ?_
      have X2 := X.keep e2 (Nat.le_of_lt hit0) hitL
      have T2 := T.nx hit e2 (neN (by lia))
      exact wpAny_execs_nil ⟨rfl, h2, _, m', us', gs, rfl, X2, m1, T2, hus⟩
end Mine
end

section
open PySem PySem.W PyProof.Rows PySem.Calls
set_option maxRecDepth 100000
set_option maxHeartbeats 1000000
namespace Mine

theorem reads_ints {h : Heap} : ∀ {ws : List Value} {ns : List Int}, IntsAre ws ns → ReadsAll h ws (ns.map PyData.int) []
  | _, _, .nil => .nil
  | _, _, .cons n t r => .cons (as := []) (bs := []) (.int n t) (reads_ints r)

def shw (ns : List Int) : Str := (PyData.list (ns.map PyData.int)).shown

theorem shows_ok : ∀ {ns : List Int}, (∀ n ∈ ns, -100 < n ∧ n < 100) → PyData.showableAll (ns.map PyData.int) = true
  | [], _ => rfl
  | n :: r, h => by
    simp only [List.map_cons, PyData.showableAll, PyData.showable, Bool.and_eq_true, decide_eq_true_eq]
    refine ⟨?_, shows_ok fun m hm => h m (.tail _ hm)⟩
    have := h n (.head _)
    have h1 : n.natAbs < 2 ^ 7 := by lia
    by_cases h0 : n.natAbs = 0
    · rw [h0]; decide
    · have := (Nat.log2_lt h0).mpr h1
      lia
theorem shows_nd : ∀ {ns : List Int}, PyData.hasDictAll (ns.map PyData.int) = false
  | [] => rfl
  | n :: r => by simp only [List.map_cons, PyData.hasDictAll, PyData.hasDict, Bool.false_or]; exact shows_nd
theorem shows_dp : ∀ {ns : List Int}, PyData.depthAll (ns.map PyData.int) ≤ 1
  | [] => by simp [PyData.depthAll]
  | n :: r => by
    have := shows_dp (ns := r)
    simp only [List.map_cons, PyData.depthAll, PyData.depth]; lia
theorem shows_len : ∀ {ns : List Int}, (∀ n ∈ ns, -100 < n ∧ n < 100) → ((PyData.shownAll (ns.map PyData.int)).map (·.length)).sum ≤ 3 * ns.length ∧ (PyData.shownAll (ns.map PyData.int)).length = ns.length
  | [], _ => by simp [PyData.shownAll]
  | n :: r, h => by
    have ih := shows_len fun m hm => h m (.tail n hm)
    have := h n (.head _)
    have h1 := int_text_length_le10 (a := n) (k := 2) (by decide) (by lia)
    simp only [List.map_cons, PyData.shownAll, PyData.shown, List.sum_cons, List.length_cons]
    rw [PySem.ofString_length]
    lia

theorem strI {prog : Program} {w : World} {A : Around} {E : Value → Shared → Prop} {s : Shared} {l : Addr} {ws : List Value} {ns : List Int} {Q : Value → Shared → Prop}
    (hl : Ls s.heap l ws) (hI : IntsAre ws ns) (hb : ∀ n ∈ ns, -100 < n ∧ n < 100) (h64 : ns.length < 64) (hg : A.guards = some []) (hu : A.units + 10 < cLine)
    (h : ∀ h' u tk, (∀ b o, s.heap.get? b = some o → h'.get? b = some o) → Q (.str (shw ns) u) { s with heap := h', toks := tk }) : wpAny (model prog w) A (call (.type "str") [.ref l]) Q E s := by
  obtain ⟨n, e⟩ := hl
  have hd : (PyData.list (ns.map PyData.int)).depth ≤ 2 := by
    have := shows_dp (ns := ns)
    simp only [PyData.depth]; lia
  refine str_of_reads (h₀ := s.heap) (d := .list (ns.map PyData.int)) (as := [l]) (Reads.list e rfl rfl (reads_ints hI)) ?_ (PyData.noDict_hsm ?_) hg (by lia) (fun _ _ e => e) h ?_
  · simp only [PyData.showable]; exact shows_ok hb
  · simp only [PyData.hasDict]; exact shows_nd
  · have h1 := shows_len hb
    have h2 := listText_len_le (PyData.shownAll (ns.map PyData.int))
    simp only [PyData.shown]
    rw [sizeLine_eq]
    lia
end Mine
end

section
open PySem PySem.W PyProof.Rows PySem.Calls
set_option maxRecDepth 100000
set_option maxHeartbeats 1000000
namespace Mine

/-- rs is ns in rising order -/
structure Sd (rs ns : List Int) : Prop where
  p : rs.Perm ns
  s : rs.Pairwise (· ≤ ·)

theorem Sd.uniq {a b ns : List Int} (x : Sd a ns) (y : Sd b ns) : a = b := PySem.W.lks_uniq (x.p.trans y.p.symm) x.s y.s
theorem Sd.ex (ns : List Int) : ∃ rs, Sd rs ns := by
  refine ⟨ns.mergeSort (fun a b => decide (a ≤ b)), List.mergeSort_perm _ _, ?_⟩
  refine (List.pairwise_mergeSort (le := fun a b => decide (a ≤ b)) (fun a b c h1 h2 => ?_) (fun a b => ?_) ns).imp fun h => of_decide_eq_true h
  · simp only [decide_eq_true_eq] at *; lia
  · simp only [Bool.or_eq_true, decide_eq_true_eq]; lia

theorem cnt_sorted : ∀ {rs : List Int}, rs.Pairwise (· ≤ ·) → ∀ (k : Int) (j : Nat), j < rs.length → ((rs.filter fun n => decide (n ≤ k)).length ≤ j ↔ k < rs.getD j 0)
  | [], _, _, _, h => by simp at h
  | a :: r, hp, k, j, hj => by
    obtain ⟨ha, hr⟩ := List.pairwise_cons.mp hp
    by_cases hak : a ≤ k
    · rw [List.filter_cons, if_pos (decide_eq_true hak), List.length_cons]
      cases j with
      | zero => simp; exact hak
      | succ j =>
        rw [List.getD_cons_succ, ← cnt_sorted hr k j (by simpa using hj)]
        lia
    · have e : (a :: r).filter (fun n => decide (n ≤ k)) = [] := List.filter_eq_nil_iff.mpr fun x hx => by
        simp only [decide_eq_true_eq]
        rcases List.mem_cons.mp hx with rfl | hx
        · exact hak
        · have := ha x hx; lia
      rw [e]
      simp only [List.length_nil, Nat.zero_le, true_iff]
      cases j with
      | zero => simp only [List.getD_cons_zero]; lia
      | succ j =>
        rw [List.getD_cons_succ]
        have hj' : j < r.length := by simpa using hj
        have : r.getD j 0 ∈ r := by rw [List.getD_eq_getElem?_getD, List.getElem?_eq_getElem hj']; exact List.getElem_mem hj'
        have := ha _ this; lia

theorem lt16 : ∀ v : Fin 17, ((List.range 16).filter fun k => decide (k < v.val)).length = v.val := by decide

theorem getD_mem {rs : List Int} {j : Nat} (h : j < rs.length) : rs.getD j 0 ∈ rs := by
  rw [List.getD_eq_getElem?_getD, List.getElem?_eq_getElem h]; exact List.getElem_mem h

theorem rising_sorted {ns rs : List Int} (S : Sd rs ns) (hb : ∀ n ∈ ns, 0 ≤ n ∧ n ≤ 15) : rising ns = rs := by
  have hl := S.p.length_eq
  refine List.ext_getElem (by simp [rising, hl]) fun j h1 h2 => ?_
  simp only [rising, List.getElem_map, List.getElem_range]
  have hm : rs.getD j 0 ∈ rs := getD_mem h2
  have hbj := hb _ (S.p.mem_iff.mp hm)
  have e1 : rs[j] = rs.getD j 0 := by simp [h2]
  rw [e1]
  unfold cnt counts
  rw [List.filter_map, List.length_map]
  have e2 : (List.range 16).filter ((fun n => decide (n ≤ (j : Int))) ∘ cnt ns) = (List.range 16).filter fun k => decide (k < (rs.getD j 0).toNat) := by
    refine List.filter_congr fun k _ => ?_
    have := cnt_sorted S.s (k : Int) j h2
    have hpf : (ns.filter fun n => decide (n ≤ (k : Int))).length = (rs.filter fun n => decide (n ≤ (k : Int))).length := (S.p.symm.filter _).length_eq
    refine decide_eq_decide.mpr (show cnt ns k ≤ (j : Int) ↔ k < (rs.getD j 0).toNat from ?_)
    have hc : cnt ns k = ((rs.filter fun n => decide (n ≤ (k : Int))).length : Nat) := by unfold cnt; rw [hpf]
    rw [hc]
    lia
  rw [e2, lt16 ⟨(rs.getD j 0).toNat, by lia⟩]
  dsimp only
  lia

/-- the lifted row in rising order -/
theorem lift_sorted {ns rs : List Int} {p : Nat} (S : Sd rs ns) (hb : ∀ n ∈ ns, 0 ≤ n ∧ n ≤ 15) : Sd (List.replicate (ns.length - (2 * p + 1)) (-1) ++ rs ++ List.replicate (2 * p + 1 - ns.length) 16) (lift ns p) := by
  refine ⟨?_, ?_⟩
  · unfold lift
    refine List.Perm.append_right _ ?_
    exact (List.perm_append_comm).trans (S.p.append_right _)
  · rw [List.pairwise_append, List.pairwise_append]
    refine ⟨⟨List.pairwise_replicate.mpr (.inr (Int.le_refl _)), S.s, fun a ha b hb' => ?_⟩, List.pairwise_replicate.mpr (.inr (Int.le_refl _)), fun a ha b hb' => ?_⟩
    · have := (List.mem_replicate.mp ha).2; have := hb b (S.p.mem_iff.mp hb'); lia
    · have := (List.mem_replicate.mp hb').2
      rcases List.mem_append.mp ha with q | q
      · have := (List.mem_replicate.mp q).2; lia
      · have := hb a (S.p.mem_iff.mp q); lia
theorem lift_len (ns : List Int) (p : Nat) : (lift ns p).length = ns.length + (ns.length - (2 * p + 1)) + (2 * p + 1 - ns.length) := by simp [lift]; lia
theorem lift_at {ns rs : List Int} {p q : Nat} (S : Sd rs ns) (hp : p < ns.length) (hq : q = ns.length - (2 * p + 1) + p) : (List.replicate (ns.length - (2 * p + 1)) (-1) ++ rs ++ List.replicate (2 * p + 1 - ns.length) 16).getD q 0 = rs.getD p 0 := by
  have hl := S.p.length_eq
  simp only [List.getD_eq_getElem?_getD]
  rw [List.getElem?_append_left (by simp; lia), List.getElem?_append_right (by simp; lia)]
  simp only [List.length_replicate]
  rw [show q - (ns.length - (2 * p + 1)) = p by lia]
theorem lift_low {ns rs qs : List Int} {p : Nat} (S : Sd rs ns) (hb : ∀ n ∈ ns, 0 ≤ n ∧ n ≤ 15) (hp : p < ns.length) (Q : Sd qs (lift ns p)) : qs.getD (((lift ns p).length - 1) / 2) 0 = rs.getD p 0 := by
  rw [Q.uniq (lift_sorted S hb)]
  exact lift_at S hp (by rw [lift_len]; lia)
theorem lift_high {ns rs qs : List Int} {p : Nat} (S : Sd rs ns) (hb : ∀ n ∈ ns, 0 ≤ n ∧ n ≤ 15) (hp : p < ns.length) (Q : Sd qs (lift ns p)) : qs.getD ((lift ns p).length / 2) 0 = rs.getD p 0 := by
  rw [Q.uniq (lift_sorted S hb)]
  exact lift_at S hp (by rw [lift_len]; lia)

/-- what the distances make above the least -/
def gap (p : Int) (rs : List Int) : Int := (rs.map (far p)).sum - ((rs.reverse.take (rs.length / 2)).sum - (rs.take (rs.length / 2)).sum)

theorem gap_cons (p a b : Int) (m : List Int) : gap p (a :: (m ++ [b])) = (far p a + far p b - (b - a)) + gap p m := by
  unfold gap
  have e : (a :: (m ++ [b])).length / 2 = m.length / 2 + 1 := by simp; lia
  rw [e]
  have e1 : (a :: (m ++ [b])).reverse = b :: (m.reverse ++ [a]) := by simp
  rw [e1, List.take_succ_cons, List.take_succ_cons, List.take_append_of_le_length (by simp; lia), List.take_append_of_le_length (by lia)]
  simp only [List.map_cons, List.map_append, List.map_nil, List.sum_cons, List.sum_append, List.sum_nil]
  lia

theorem gap_law : ∀ (n : Nat) (rs : List Int), rs.length = n → rs.Pairwise (· ≤ ·) → ∀ p, 0 ≤ gap p rs ∧ (0 < rs.length → (gap p rs = 0 ↔ rs.getD ((rs.length - 1) / 2) 0 ≤ p ∧ p ≤ rs.getD (rs.length / 2) 0)) := by
  intro n
  induction n using Nat.strongRecOn with
  | _ n ih =>
    intro rs hn hp p
    rcases rs with _ | ⟨a, t⟩
    · simp [gap]
    rcases List.eq_nil_or_concat t with rfl | ⟨m, b, rfl⟩
    · simp only [gap, far, List.length_cons, List.length_nil, List.map_cons, List.map_nil, List.sum_cons, List.sum_nil, List.getD_cons_zero, Nat.reduceAdd, Nat.reduceDiv, Nat.reduceSub, List.take_zero]
      split <;> lia
    · rw [List.concat_eq_append] at *
      obtain ⟨ha, hr⟩ := List.pairwise_cons.mp hp
      obtain ⟨hm, _, hmb⟩ := List.pairwise_append.mp hr
      have hab : a ≤ b := ha b (by simp)
      have IH := ih m.length (by rw [← hn]; simp; lia) m rfl hm p
      rw [gap_cons]
      have hpair : 0 ≤ far p a + far p b - (b - a) ∧ (far p a + far p b - (b - a) = 0 ↔ a ≤ p ∧ p ≤ b) := by
        unfold far; split <;> split <;> lia
      refine ⟨by lia, fun _ => ?_⟩
      by_cases h0 : m = []
      · subst h0
        have hg : gap p [] = 0 := by simp [gap]
        rw [hg]
        simp only [List.nil_append, List.length_cons, List.length_nil, Nat.reduceAdd, Nat.reduceSub, Nat.reduceDiv, List.getD_cons_zero, List.getD_cons_succ]
        lia
      · have hm0 : 0 < m.length := List.length_pos_iff.mpr h0
        have e1 : (a :: (m ++ [b])).length - 1 = m.length + 1 := by simp
        have e2 : (a :: (m ++ [b])).length / 2 = m.length / 2 + 1 := by simp; lia
        have e3 : (m.length + 1) / 2 = (m.length - 1) / 2 + 1 := by lia
        have hlo : (m.length - 1) / 2 < m.length := by lia
        have hhi : m.length / 2 < m.length := by lia
        have g1 : (m ++ [b]).getD ((m.length - 1) / 2) 0 = m.getD ((m.length - 1) / 2) 0 := by simp only [List.getD_eq_getElem?_getD]; rw [List.getElem?_append_left hlo]
        have g2 : (m ++ [b]).getD (m.length / 2) 0 = m.getD (m.length / 2) 0 := by simp only [List.getD_eq_getElem?_getD]; rw [List.getElem?_append_left hhi]
        rw [e1, e2, e3, List.getD_cons_succ, List.getD_cons_succ, g1, g2]
        have b1 := ha _ (List.mem_append_left _ (getD_mem hlo))
        have b2 := hmb _ (getD_mem hhi) b (by simp)
        have := IH.2 hm0
        lia

/-- the flat's points -/
def pts : List Int := (List.range 18).map fun (i : Nat) => (i : Int) - 1
theorem flat_ends : ∀ lo hi : Fin 16, lo ≤ hi → ((pts.filter fun p => decide ((lo.val : Int) ≤ p ∧ p ≤ (hi.val : Int))).head? = some (lo.val : Int) ∧ (pts.filter fun p => decide ((lo.val : Int) ≤ p ∧ p ≤ (hi.val : Int))).getLast? = some (hi.val : Int)) := by decide +kernel
end Mine
end

section
open PySem PySem.W PyProof.Rows PySem.Calls
set_option maxRecDepth 100000
set_option maxHeartbeats 1000000
namespace Mine

theorem Sd.low {ms gs ns rs : List Int} (S : Sd rs ns) (h : (ms ++ gs).Perm ns) (hm : ms.Pairwise (· ≤ ·)) (hle : ∀ f ∈ ms, ∀ g ∈ gs, f ≤ g) : ms = rs.take ms.length := by
  obtain ⟨gs', G⟩ := Sd.ex gs
  have : rs = ms ++ gs' := S.uniq ⟨(G.p.append_left _).trans h, List.pairwise_append.mpr ⟨hm, G.s, fun f hf g hg => hle f hf g (G.p.mem_iff.mp hg)⟩⟩
  rw [this, List.take_left]
theorem Sd.high {ms gs ns rs : List Int} (S : Sd rs ns) (h : (ms ++ gs).Perm ns) (hm : ms.Pairwise (fun a b => b ≤ a)) (hle : ∀ f ∈ ms, ∀ g ∈ gs, g ≤ f) : ms = rs.reverse.take ms.length := by
  obtain ⟨gs', G⟩ := Sd.ex gs
  have : rs = gs' ++ ms.reverse := S.uniq ⟨((List.reverse_perm ms).append_left _).trans ((List.perm_append_comm).trans ((G.p.append_left _).trans h)), List.pairwise_append.mpr ⟨G.s, List.pairwise_reverse.mpr hm, fun g hg f hf => hle f (List.mem_reverse.mp hf) g (G.p.mem_iff.mp hg)⟩⟩
  rw [this, List.reverse_append, List.reverse_reverse, List.take_left]

theorem Ord.irr {lt : Value → Value → Bool} (O : Ord lt) (x : Value) : lt x x = false := by
  cases h : lt x x with
  | false => rfl
  | true => exact (O.asy _ _ h).symm.trans h |>.symm ▸ rfl
theorem bst_mm (bt : Value → Value → Bool) : ∀ (r : List Value) (b : Value), bst bt b r ∈ b :: r
  | [], b => .head _
  | v :: r, b => by
    rw [bst]
    rcases List.mem_cons.mp (bst_mm bt r (if bt v b then v else b)) with q | q
    · rw [q]; split
      · exact .tail _ (.head _)
      · exact .head _
    · exact .tail _ (.tail _ q)
theorem bst_le {bt : Value → Value → Bool} (O : Ord bt) : ∀ (r : List Value) (b : Value), ∀ u ∈ b :: r, bt u (bst bt b r) = false
  | [], b, u, hu => by
    obtain rfl : u = b := by simpa using hu
    exact O.irr _
  | v :: r, b, u, hu => by
    rw [bst]
    have ih := bst_le O r (if bt v b then v else b)
    have h0 := ih _ (.head _)
    have key : ∀ z, bt z (if bt v b then v else b) = false → bt z (bst bt (if bt v b then v else b) r) = false := fun z hz => O.tr _ _ _ hz h0
    rcases List.mem_cons.mp hu with rfl | hu
    · refine key _ ?_
      split
      · rename_i h; exact O.asy _ _ h
      · exact O.irr _
    · rcases List.mem_cons.mp hu with rfl | hu
      · refine key _ ?_
        split
        · exact O.irr _
        · rename_i h; simpa using h
      · exact ih u (.tail _ hu)

theorem numV_map : ∀ {vs : List Value} {ns : List Int}, IntsAre vs ns → vs.map numV = ns
  | _, _, .nil => rfl
  | _, _, .cons n t r => by rw [List.map_cons, numV_map r]; rfl
theorem isI_ints : ∀ {vs : List Value}, (∀ v ∈ vs, isI v) → IntsAre vs (vs.map numV)
  | [], _ => .nil
  | v :: r, h => by
    obtain ⟨n, t, rfl⟩ := h v (.head _)
    exact .cons n t (isI_ints fun u hu => h u (.tail _ hu))

theorem one_low {v0 : Value} {vs : List Value} {ns rs : List Int} (hI : IntsAre (v0 :: vs) ns) (S : Sd rs ns) : IntsAre [bst ltV v0 vs] (rs.take 1) := by
  have hm := bst_mm ltV vs v0
  have hle := bst_le ord_ltV vs v0
  generalize bst ltV v0 vs = x at *
  obtain ⟨n, t, rfl⟩ := intsAre_isI hI x hm
  have hn : n ∈ ns := by rw [← numV_map hI]; exact List.mem_map.mpr ⟨_, hm, rfl⟩
  have := S.low (ms := [n]) (gs := ns.erase n) (List.perm_cons_erase hn).symm (by simp) (fun f hf g hg => by
    obtain rfl : f = n := by simpa using hf
    have hg := List.mem_of_mem_erase hg
    rw [← numV_map hI] at hg
    obtain ⟨v, hv, rfl⟩ := List.mem_map.mp hg
    have := of_decide_eq_false (hle v hv)
    exact Int.not_lt.mp this)
  rw [← show [n] = rs.take 1 from this]
  exact .cons _ _ .nil
theorem one_high {v0 : Value} {vs : List Value} {ns rs : List Int} (hI : IntsAre (v0 :: vs) ns) (S : Sd rs ns) : IntsAre [bst (fun x y => ltV y x) v0 vs] (rs.reverse.take 1) := by
  have hm := bst_mm (fun x y => ltV y x) vs v0
  have hle := bst_le ord_ltV.flip vs v0
  generalize bst (fun x y => ltV y x) v0 vs = x at *
  obtain ⟨n, t, rfl⟩ := intsAre_isI hI x hm
  have hn : n ∈ ns := by rw [← numV_map hI]; exact List.mem_map.mpr ⟨_, hm, rfl⟩
  have := S.high (ms := [n]) (gs := ns.erase n) (List.perm_cons_erase hn).symm (by simp) (fun f hf g hg => by
    obtain rfl : f = n := by simpa using hf
    have hg := List.mem_of_mem_erase hg
    rw [← numV_map hI] at hg
    obtain ⟨v, hv, rfl⟩ := List.mem_map.mp hg
    have := of_decide_eq_false (hle v hv)
    exact Int.not_lt.mp this)
  rw [← show [n] = rs.reverse.take 1 from this]
  exact .cons _ _ .nil

theorem popped_ints {vs : List Value} {ns rs : List Int} (hI : IntsAre vs ns) (S : Sd rs ns) : IntsAre (pops ltV vs.length (hfy ltV vs (vs.length / 2))) rs := by
  have hp := hfy_perm ltV (vs.length / 2) vs (by lia)
  have hh := hfy_half ord_ltV vs
  generalize hfy ltV vs (vs.length / 2) = us at *
  have p1 := pops_perm (lt := ltV) vs.length us hp.length_eq
  have s1 := pops_sorted ord_ltV vs.length us hp.length_eq hh
  generalize pops ltV vs.length us = ys at *
  have hIy : ∀ v ∈ ys, isI v := fun v hv => intsAre_isI hI v (hp.mem_iff.mp (p1.mem_iff.mp hv))
  have e : ys.map numV = rs := Sd.uniq (ns := ns) ⟨by rw [← numV_map hI]; exact (p1.trans hp).map _, by
    rw [List.pairwise_map]
    exact s1.imp fun h => by simp only [ltV, decide_eq_false_iff_not] at h; lia⟩ S
  rw [← e]
  exact isI_ints hIy

theorem nsmall_spec {prog : Program} {w : World} {A : Around} {s : Shared} {H : Heap} {R : Result → Shared → Prop} {l : Addr} {vs : List Value} {ns rs : List Int} {n : Nat} {u : Tok}
    (hB : Bs w H) (hO : Ov H s.heap) (hl : Ls s.heap l vs) (hI : IntsAre vs ns) (S : Sd rs ns) (h0 : 0 < ns.length) (h64 : ns.length < 64) (hh : A.handled = none) (hroom : A.depth + 3 < recursionLimit) (hu : A.units + 40 < cLine)
    (h : ∀ h' tk l' ws, Ov s.heap h' → Ls h' l' ws → IntsAre ws (rs.take n) → R (.ok (.ret (.ref l'))) { s with heap := h', toks := tk }) :
    codeAny (model prog w) A (.call (.ref 110) ⟨[.int n u, .ref l], []⟩) R s := by
  by_cases h1 : n = 1
  · subst h1
    cases vs with
    | nil => have := hI.length; simp at this; lia
    | cons v0 vr => exact nsmall_1 hB hO hl (intsAre_isI hI) hh (by lia) fun h' tk l' o ls => h h' tk l' _ o ls (one_low hI S)
  · by_cases hge : ns.length ≤ n
    · exact nsmall_all hB hO hl hI h64 h1 hge (by lia) fun h' tk l' ws ns' o ls p q e => h h' tk l' ws o ls (by rw [S.uniq ⟨p, q⟩]; exact e)
    · refine nsmall_heap hB hO hl hI h64 h1 (by lia) hh hroom hu fun h' tk l' ws ms gs o ls p hn q le e => h h' tk l' ws o ls ?_
      rw [← hn, ← S.low p q le]; exact e
theorem nlarge_spec {prog : Program} {w : World} {A : Around} {s : Shared} {H : Heap} {R : Result → Shared → Prop} {l : Addr} {vs : List Value} {ns rs : List Int} {n : Nat} {u : Tok}
    (hB : Bs w H) (hO : Ov H s.heap) (hl : Ls s.heap l vs) (hI : IntsAre vs ns) (S : Sd rs ns) (h0 : 0 < ns.length) (h64 : ns.length < 64) (hh : A.handled = none) (hroom : A.depth + 3 < recursionLimit) (hu : A.units + 40 < cLine)
    (h : ∀ h' tk l' ws, Ov s.heap h' → Ls h' l' ws → IntsAre ws (rs.reverse.take n) → R (.ok (.ret (.ref l'))) { s with heap := h', toks := tk }) :
    codeAny (model prog w) A (.call (.ref 116) ⟨[.int n u, .ref l], []⟩) R s := by
  by_cases h1 : n = 1
  · subst h1
    cases vs with
    | nil => have := hI.length; simp at this; lia
    | cons v0 vr => exact nlarge_1 hB hO hl (intsAre_isI hI) hh (by lia) fun h' tk l' o ls => h h' tk l' _ o ls (one_high hI S)
  · by_cases hge : ns.length ≤ n
    · refine nlarge_all hB hO hl hI h64 h1 hge (by lia) fun h' tk l' ws ns' o ls p q e => h h' tk l' ws o ls ?_
      have : rs = ns'.reverse := S.uniq ⟨(List.reverse_perm ns').trans p, List.pairwise_reverse.mpr q⟩
      rw [this, List.reverse_reverse]; exact e
    · refine nlarge_heap hB hO hl hI h64 h1 (by lia) hh hroom hu fun h' tk l' ws ms gs o ls p hn q le e => h h' tk l' ws o ls ?_
      rw [← hn, ← S.high p q le]; exact e
end Mine
end

section
open PySem PySem.W PyProof.Rows PySem.Calls
set_option maxRecDepth 100000
set_option maxHeartbeats 1000000
namespace Mine

section
variable {prog : Program} {w : World} {A : Around} {E : Value → Shared → Prop} {s : Shared} {env : Env} {Q : Value → Shared → Prop}
theorem addP {l b : Addr} {us vs : List Value} (hl : Ls s.heap l us) (hb : Ls s.heap b vs) (h1 : us.length < 1000) (h2 : vs.length < 1000)
    (h : ∀ h' l', Ov s.heap h' → Ls h' l' (us ++ vs) → s.heap.objs.size ≤ l' → Q (.ref l') { s with heap := h' }) :
    wpAny (model prog w) A (binaryOp .Add (.ref l) (.ref b)) Q E s := by
  obtain ⟨n, e⟩ := hl
  obtain ⟨k, e2⟩ := hb
  exact P.add_list e e2 (h _ _ (.push _) ⟨0, by simpa using Heap.get?_push_size _ rfl⟩ (Nat.le_refl _)) (by simp only [List.size_toArray]; rw [sizeLine_eq]; lia)

theorem srcG {src : Addr} {vs : List Value} {gs : List Int} {s₁ : Shared} (hh : A.handled = none) (hl : s₁.heap.IsList src vs.toArray) (hI : IntsAre vs gs) (hs1 : ∃ h tk, s₁ = { s with heap := h, toks := tk })
    (hk : ∀ b o, s.heap.get? b = some o → s₁.heap.get? b = some o) :
    wpAny (model prog w) A (pyIter (.ref src)) (fun it s₂ => ∃ I fp wr P St, it = .ref I ∧ Walks prog w A I fp wr gs.length P St ∧ St 0 s₂.heap ∧ (∀ b ∈ fp, b < s₂.heap.objs.size) ∧
      (∀ b ∈ wr, s.heap.get? b = none) ∧ (∀ b o, s.heap.get? b = some o → s₂.heap.get? b = some o) ∧ (∃ h tk, s₂ = { s with heap := h, toks := tk }) ∧ (∀ i v, P i v → ∃ t, v = .int (gs.getD i 0) t ∧ gs.getD i 0 ∈ gs)) E s₁ := by
  refine wpAny_mono (srcL (s := s₁) hh hl hI ⟨s₁.toks, rfl⟩) (fun it s₂ q => ?_) fun _ _ e => e
  obtain ⟨I, fp, wr, P, St, e1, W, hst, hfp, hwr, hk2, ⟨h2, tk2, rfl⟩, hP⟩ := q
  refine ⟨I, fp, wr, P, St, e1, W, hst, hfp, fun b hb => ?_, fun b o e => hk2 b o (hk b o e), ?_, hP⟩
  · cases q : s.heap.get? b with
    | none => rfl
    | some o => have := hwr b hb; rw [hk b o q] at this; cases this
  · obtain ⟨h, tk, rfl⟩ := hs1; exact ⟨h2, tk2, rfl⟩

theorem neS {x : Str} {t u : Tok} (h : Q (.bool false) s) : wpAny (model prog w) A (compareOp .NotEq (.str x t) (.str x u)) Q E s := PyProof.Rows.ne_str (by rw [show (x != x) = false by simp]; exact h)
theorem eqS {x : Str} {t u : Tok} (h : Q (.bool true) s) : wpAny (model prog w) A (compareOp .Eq (.str x t) (.str x u)) Q E s := PyProof.Rows.eq_str (by rw [show (x == x) = true by simp]; exact h)
end

theorem ls_ne_ns {h : Heap} {a L : Addr} {vs : List Value} {m : Str → Option Value} (l : Ls h a vs) (n : h.Ns L m) : a ≠ L := by
  rintro rfl
  obtain ⟨k, e⟩ := l
  obtain ⟨o, es, ep, e2, hd, _⟩ := n
  rw [e] at e2; cases e2; cases hd
theorem ls_ne_cell {h : Heap} {a c : Addr} {vs : List Value} {v : Option Value} (l : Ls h a vs) (n : h.IsCell c v) : a ≠ c := by
  rintro rfl
  obtain ⟨k, e⟩ := l
  obtain ⟨o, e2, hd⟩ := n
  rw [e] at e2; cases e2; cases hd

/-- law's frame: the cells row (at L + 1) and least (at L + 2), the lists row and rising -/
structure Lw (H h0 h : Heap) (m : Str → Option Value) (D r : Addr) (vs ws : List Value) : Prop where
  X : Fo H h0 h0.objs.size h m
  c : h.IsCell (h0.objs.size + 1) (some (.ref D))
  c2 : ∃ v, h.IsCell (h0.objs.size + 2) v
  row : Ls h D vs
  ris : Ls h r ws

theorem Lw.gr {H h0 h h' : Heap} {m : Str → Option Value} {D r : Addr} {vs ws : List Value} (W : Lw H h0 h m D r vs ws) (k : ∀ b o, h.get? b = some o → h'.get? b = some o) : Lw H h0 h' m D r vs ws :=
  ⟨W.X.growG k, W.c.keeps k, let ⟨v, q⟩ := W.c2; ⟨v, q.keeps k⟩, W.row.at fun o e => k _ o e, W.ris.at fun o e => k _ o e⟩
theorem Lw.sz {H h0 h : Heap} {m : Str → Option Value} {D r : Addr} {vs ws : List Value} (W : Lw H h0 h m D r vs ws) : @LT.lt Nat _ (h0.objs.size + 2) h.objs.size := let ⟨_, _, e, _⟩ := W.c2; Heap.lt_size e
/-- a change at it, behind all of them -/
theorem Lw.nx {H h0 h h' : Heap} {m : Str → Option Value} {D r it : Addr} {vs ws : List Value} (W : Lw H h0 h m D r vs ws) (k : Heap.ExtBut it h h') (h1 : D ≠ it) (h2 : r ≠ it) (h3 : @LT.lt Nat _ (h0.objs.size + 2) it) : Lw H h0 h' m D r vs ws := by
  have cc : ∀ {x : Addr} {v : Option Value}, h.IsCell x v → x ≠ it → h'.IsCell x v := fun q hx => let ⟨o, e, d⟩ := q; ⟨o, k _ o hx e, d⟩
  exact ⟨W.X.keep k (by lia) (neN (by lia)), cc W.c (neN (by lia)), let ⟨v, q⟩ := W.c2; ⟨v, cc q (neN (by lia))⟩, W.row.at fun o e => k _ o h1 e, W.ris.at fun o e => k _ o h2 e⟩
theorem Lw.sb {H h0 h h' : Heap} {m m' : Str → Option Value} {D r : Addr} {vs ws : List Value} (W : Lw H h0 h m D r vs ws) (X : Fo H h0 h0.objs.size h' m') (k : Heap.SameBut h0.objs.size h h') : Lw H h0 h' m' D r vs ws := by
  have cc : ∀ {x : Addr} {v : Option Value}, h.IsCell x v → x ≠ h0.objs.size → h'.IsCell x v := fun q hx => let ⟨o, e, d⟩ := q; ⟨o, (k.2 _ hx).trans e, d⟩
  exact ⟨X, cc W.c (neN (by lia)), let ⟨v, q⟩ := W.c2; ⟨v, cc q (neN (by lia))⟩, W.row.same k (ls_ne_ns W.row W.X.F.ns), W.ris.same k (ls_ne_ns W.ris W.X.F.ns)⟩

/-- «for x in range(N)» in law's frame -/
theorem forR {prog : Program} {w : World} {A : Around} {s : Shared} {H h0 h : Heap} {R : Result → Shared → Prop} {q : Str} {sc : Scope} {f : Addr} {cd : Value} {x : Str} {px : Pos} {body : List Stmt} {it D r : Addr} {vs ws : List Value} {N : Nat} {m : Str → Option Value}
    (hh : A.handled = none) (hx : (envOfC q sc h0.objs.size f cd).kindOf x = some .local) (hk : sc.kind = .function) (hxr : ("rising" : Str) ≠ x)
    (W : Lw H h0 h m D r vs ws) (mr : m "rising" = some (.ref r)) (hit : IsRangeIter h it 0 N 1) (h1 : D ≠ it) (h2 : r ≠ it) (h3 : @LT.lt Nat _ (h0.objs.size + 2) it)
    (hbody : ∀ (i : Nat) (t : Tok) (h' : Heap) (tk : Nat) (m' : Str → Option Value) (E' : Value → Shared → Prop) (Q' : Flow → Shared → Prop), i < N → Lw H h0 h' m' D r vs ws → m' "rising" = some (.ref r) → m' x = some (.int i t) →
      (∀ h'' tk'' m'', Lw H h0 h'' m'' D r vs ws → m'' "rising" = some (.ref r) → (∀ o, h'.get? it = some o → h''.get? it = some o) → Q' .next { s with heap := h'', toks := tk'' }) →
      wpAny (model prog w) A (execs body (envOfC q sc h0.objs.size f cd)) Q' E' { s with heap := h', toks := tk })
    (hR : ∀ h' tk m', Lw H h0 h' m' D r vs ws → m' "rising" = some (.ref r) → R (.ok .next) { s with heap := h', toks := tk }) :
    codeAny (model prog w) A (.forLoop (.Name x px) (.ref it) body [] (envOfC q sc h0.objs.size f cd)) R { s with heap := h } := by
  have hitL : it ≠ h0.objs.size := neN (by lia)
  refine codeAny_forLoop (fun k s' => ∃ h' tk m' i, s' = { s with heap := h', toks := tk } ∧ Lw H h0 h' m' D r vs ws ∧ m' "rising" = some (.ref r) ∧ IsRangeIter h' it ((i : Nat) : Int) ((N : Int) - (i : Nat)) 1 ∧ i ≤ N ∧ k = N - i) ?turn N
    ⟨h, s.toks, m, 0, rfl, W, mr, by simpa using hit, Nat.zero_le _, rfl⟩
  rintro k s' ⟨h', tk, m', i, rfl, W', mr', hit', hi, rfl⟩
  by_cases hlt : i < N
  · refine wpAny_pyNext_range_item hit' (by lia) fun h4 hit4 sb4 => ?_
    have W4 := W'.nx (extBut_of_same sb4) h1 h2 h3
    refine wpAny_assign_Name (Fo.stE (env := envOfC q sc h0.objs.size f cd) W4.X (fun h5 X5 sb5 => ?_) hk hx)
    have W5 := W4.sb X5 sb5
    refine hbody i _ h5 _ _ _ _ hlt W5 (ups hxr mr') upe fun h6 tk6 m6 W6 mr6 k6 => ?_
    have hit6 : IsRangeIter h6 it ((i + 1 : Nat) : Int) ((N : Int) - (i + 1 : Nat)) 1 := by
      have e := k6 _ ((sb5.2 it hitL).trans hit4)
      rw [show (((i : Nat) : Int) + 1) = ((i + 1 : Nat) : Int) by lia, show ((N : Int) - (i : Nat) - 1) = (N : Int) - ((i + 1 : Nat) : Int) by lia] at e
      exact e
    exact ⟨N - (i + 1), by lia, h6, tk6, m6, i + 1, rfl, W6, mr6, hit6, hlt, rfl⟩
  · refine wpAny_pyNext_range_end hh hit' (by lia) fun h4 e4 => ?_
    exact wpAny_execs_nil (hR h4 _ m' (W'.nx e4 h1 h2 h3) mr')

theorem sum_permI {l l' : List Int} (h : l.Perm l') : l.sum = l'.sum := by
  induction h with
  | nil => rfl
  | cons x _ ih => simp [ih]
  | swap x y l => simp only [List.sum_cons]; lia
  | trans _ _ h1 h2 => exact h1.trans h2

/-- the points that pay the least are those between the two middle ones -/
theorem flat_law {gs rs : List Int} (S : Sd rs gs) (h0 : 0 < gs.length) (hb : ∀ n ∈ gs, 0 ≤ n ∧ n ≤ 15) :
    (pts.filter fun p => (gs.map (far p)).sum == (rs.reverse.take (gs.length / 2)).sum - (rs.take (gs.length / 2)).sum).head? = some (rs.getD ((gs.length - 1) / 2) 0) ∧
    (pts.filter fun p => (gs.map (far p)).sum == (rs.reverse.take (gs.length / 2)).sum - (rs.take (gs.length / 2)).sum).getLast? = some (rs.getD (gs.length / 2) 0) := by
  have hl := S.p.length_eq
  have i1 : (gs.length - 1) / 2 < rs.length := by lia
  have i2 : gs.length / 2 < rs.length := by lia
  have b1 := hb _ (S.p.mem_iff.mp (getD_mem i1))
  have b2 := hb _ (S.p.mem_iff.mp (getD_mem i2))
  have hle : rs.getD ((gs.length - 1) / 2) 0 ≤ rs.getD (gs.length / 2) 0 := by
    rw [show rs.getD ((gs.length - 1) / 2) 0 = rs[(gs.length - 1) / 2] by simp [i1], show rs.getD (gs.length / 2) 0 = rs[gs.length / 2] by simp [i2]]
    by_cases e : (gs.length - 1) / 2 = gs.length / 2
    · simp only [e]; exact Int.le_refl _
    · exact List.pairwise_iff_getElem.mp S.s _ _ i1 i2 (by lia)
  have key : ∀ p, ((gs.map (far p)).sum == (rs.reverse.take (gs.length / 2)).sum - (rs.take (gs.length / 2)).sum) = decide (rs.getD ((gs.length - 1) / 2) 0 ≤ p ∧ p ≤ rs.getD (gs.length / 2) 0) := fun p => by
    have g := (gap_law _ rs rfl S.s p).2 (by lia)
    unfold gap at g
    rw [hl] at g
    have e := sum_permI (S.p.map (far p))
    rw [e] at g
    rw [Bool.eq_iff_iff, beq_iff_eq, decide_eq_true_eq, ← g]
    lia
  have e : (fun p => (gs.map (far p)).sum == (rs.reverse.take (gs.length / 2)).sum - (rs.take (gs.length / 2)).sum) = fun p => decide (rs.getD ((gs.length - 1) / 2) 0 ≤ p ∧ p ≤ rs.getD (gs.length / 2) 0) := funext key
  rw [e]
  have := flat_ends ⟨(rs.getD ((gs.length - 1) / 2) 0).toNat, by lia⟩ ⟨(rs.getD (gs.length / 2) 0).toNat, by lia⟩ (show (rs.getD ((gs.length - 1) / 2) 0).toNat ≤ (rs.getD (gs.length / 2) 0).toNat by lia)
  simp only [Int.toNat_of_nonneg b1.1, Int.toNat_of_nonneg b2.1] at this
  exact this

section
variable {prog : Program} {w : World} {A : Around} {E : Value → Shared → Prop} {s : Shared} {env : Env}
theorem walks_lt {I : Addr} {fp wr : List Addr} {n : Nat} {P : Nat → Value → Prop} {St : Nat → Heap → Prop} (W : Walks prog w A I fp wr n P St) : Walks prog w A I fp wr n (fun i v => i < n ∧ P i v) St where
  sub := W.sub
  frame := W.frame
  item := fun i s Q E hi st hQ => W.item i s Q E hi st fun v h' tk hv => hQ v h' tk ⟨hi, hv⟩
  done := W.done
  self := W.self

/-- «y = [..]» of ints, y a local -/
theorem qcompA {elt iter : Expr} {x y : Str} {px py : Pos} {ifs : List Expr} {scope : Scope} {cl : List (Str × Addr)} {pos spos : Pos} {m : Str → Option Value} {Q : Flow → Shared → Prop} (gs : List Int) (pz : Int → Bool) (f : Int → Int)
    (hsw : swapsWith (.ListComp elt [⟨.Name x px, iter, ifs, 0⟩] scope pos) (some (.Name y py)) spos.line env = pure true)
    (hclos : closureFor scope env = pure cl) (hcell : ∀ y ∈ scope.names, y.2 ≠ .cell) (hkind : scope.kind = .function)
    (hnames : ∀ y ∈ scope.names, y.2 = .local → scope.names.lookup y.1 = some .local) (hx : scope.names.lookup x = some .local)
    (hy : env.kindOf y = some .local) (hp : (env.scope.kind == .class || (env.scope.kind == .module && env.locals != env.globals)) = false) (hsz : gs.length < 1000) (hn : s.heap.Ns env.locals m)
    (h : wpAny (model prog w) A (eval iter env) (fun xv s₁ => wpAny (model prog w) A (pyIter xv) (fun it s₂ => ∃ I fp wr P St, it = .ref I ∧ Walks prog w A I fp wr gs.length P St ∧ St 0 s₂.heap ∧ (∀ b ∈ fp, b < s₂.heap.objs.size) ∧
      (∀ b ∈ wr, s.heap.get? b = none) ∧ (∀ b o, s.heap.get? b = some o → s₂.heap.get? b = some o) ∧ (∃ h tk, s₂ = { s with heap := h, toks := tk }) ∧ (∀ i v, P i v → ∃ t, v = .int (gs.getD i 0) t ∧ gs.getD i 0 ∈ gs)) E s₁) E s)
    (tests : ∀ C n t s₃ m₃ E', s.heap.get? C = none → s₃.heap.Ns C m₃ → m₃ x = some (.int n t) → n ∈ gs → (∀ b o, s.heap.get? b = some o → s₃.heap.get? b = some o) →
      wpAny (model prog w) A (forIn ifs true fun c r => if r = true then do let ok ← isTrue c (compEnvC scope cl C env) (eval c (compEnvC scope cl C env)); pure (ForInStep.yield ok) else pure (ForInStep.yield r))
      (fun ok s₄ => ok = pz n ∧ Keeps s₃ s₄) E' s₃)
    (el : ∀ C n t s₃ m₃ E', s.heap.get? C = none → s₃.heap.Ns C m₃ → m₃ x = some (.int n t) → n ∈ gs → (∀ b o, s.heap.get? b = some o → s₃.heap.get? b = some o) →
      wpAny (model prog w) A (eval elt (compEnvC scope cl C env)) (fun y s₄ => (∃ u, y = .int (f n) u) ∧ Keeps s₃ s₄) E' s₃)
    (hQ : ∀ D h' tk ws, Ls h' D ws → IntsAre ws ((gs.filter pz).map f) → h'.Ns env.locals (upd m y (.ref D)) → (∀ b o, b ≠ env.locals → s.heap.get? b = some o → h'.get? b = some o) → Q .next { s with heap := h', toks := tk })
    (hs : ∀ x, foldedSetIterable iter env x = pure x := by intro _; rfl) :
    wpAny (model prog w) A (exec (.Assign [.Name y py] (.ListComp elt [⟨.Name x px, iter, ifs, 0⟩] scope pos) spos) env) Q E s := by
  refine wpAny_Assign_ListComp_free (pV pz) (fV f) hsw hclos hcell hkind hnames hx hy hp (wpAny_mono h (fun xv s₁ h₁ => wpAny_mono h₁ (fun it s₂ h₂ => ?_) fun _ _ e => e) fun _ _ e => e) hs
  obtain ⟨I, fp, wr, P, St, rfl, W, hst, hfp, hwr, hk, ⟨h2, tk2, rfl⟩, hP⟩ := h₂
  have hwk : ∀ {h3 : Heap}, (∀ b o, b ∉ wr → h2.get? b = some o → h3.get? b = some o) → ∀ b o, s.heap.get? b = some o → h3.get? b = some o := fun q b o e => q b o (fun hb => by rw [hwr b hb] at e; cases e) (hk b o e)
  have hC : ∀ C, h2.objs.size ≤ C → s.heap.get? C = none := fun C hC => by
    cases q : s.heap.get? C with
    | none => rfl
    | some o => exact absurd (Heap.lt_size (hk C o q)) (Nat.not_lt.mpr hC)
  have hL : env.locals ∉ wr := fun hb => by
    obtain ⟨o, es, ep, e, _⟩ := hn
    rw [hwr _ hb] at e; cases e
  have hn2 : h2.Ns env.locals m := let ⟨o, es, ep, e, r⟩ := hn; ⟨o, es, ep, hk _ o e, r⟩
  refine ⟨I, fp, wr, gs.length, P, St, m, rfl, W, by rw [sizeLine_eq]; lia, hst, hfp, hL, hn2, ⟨?_, ?_⟩, ?_⟩
  · intro C i v s₃ m₃ E' hCs hv hn hm hkk _
    obtain ⟨t, rfl, hmem⟩ := hP i v hv
    exact tests C _ t s₃ m₃ E' (hC C hCs) hn hm hmem (hwk hkk)
  · intro C i v s₃ m₃ E' hCs hv _ hn hm hkk _
    obtain ⟨t, rfl, hmem⟩ := hP i v hv
    exact wpAny_mono (el C _ t s₃ m₃ E' (hC C hCs) hn hm hmem (hwk hkk)) (fun y s₄ q => ⟨let ⟨u, e⟩ := q.1; ⟨_, _, u, rfl, e⟩, q.2⟩) fun _ _ e => e
  · intro D h' tk ys vs' hD _ hpl hlen hPj hpair hns hkk
    obtain ⟨n, e⟩ := hpl
    refine hQ D h' tk ys.toList ⟨n, by simpa using e⟩ (paired_ints (intsAre_of_getD vs' gs hlen fun j v q => ?_) hpair) hns fun b o hb e => hkk b o hb (fun hb => by rw [hwr b hb] at e; cases e) (hk b o e)
    obtain ⟨t, e, _⟩ := hP j v (hPj j v q)
    exact ⟨t, e⟩

/-- «l[-1]» -/
theorem itemLast {value slice : Expr} {l : Addr} {vs : List Value} {u : Tok} {v : Value} {Q : Value → Shared → Prop} (hl : s.heap.IsList l vs.toArray) (h0 : 0 < vs.length) (hx : vs[vs.length - 1]? = some v) (h : Q v s)
    (hs : subscripted slice false (.ref l) (.int (-1) u) = operate [.ref l, .int (-1) u] (getItem (.ref l) (.int (-1) u)) := by with_unfolding_all rfl) :
    wpAny (model prog w) A (subscriptTail value slice (.ref l) (.int (-1) u)) Q E s :=
  tail_any hl.typeIs slot_list_getitem.lookup (wpAny_getItem_list_neg hl (by decide) (by simp only [List.size_toArray]; lia) (by decide) (by simp only [List.size_toArray]; rw [show (-1 + (vs.length : Int)).toNat = vs.length - 1 by lia]; simpa using hx) h) hs
end

/-- the cell least is stored -/
theorem Lw.cell {H h0 h h' : Heap} {m : Str → Option Value} {D r : Addr} {vs ws : List Value} {v : Value} (W : Lw H h0 h m D r vs ws) (X : Fo H h0 h0.objs.size h' m) (c : h'.IsCell (h0.objs.size + 2) (some v)) (k : Heap.SameBut (h0.objs.size + 2) h h') : Lw H h0 h' m D r vs ws := by
  obtain ⟨v0, q⟩ := W.c2
  exact ⟨X, let ⟨o, e, d⟩ := W.c; ⟨o, (k.2 _ (neN (by lia))).trans e, d⟩, ⟨_, c⟩, W.row.same k (ls_ne_cell W.row q), W.ris.same k (ls_ne_cell W.ris q)⟩

theorem fmod16 (n : Int) : 0 ≤ Int.fmod n 16 ∧ Int.fmod n 16 ≤ 15 := by
  rw [Int.fmod_eq_emod_of_nonneg _ (by decide)]; lia

theorem law_spec {prog : Program} {w : World} {A : Around} {s : Shared} {H : Heap} {R : Result → Shared → Prop} {l : Addr} {vs : List Value} {ns : List Int}
    (hB : Bs w H) (hO : Ov H s.heap) (hl : s.heap.IsList l vs.toArray) (hI : IntsAre vs ns) (h64 : ns.length < 64) (hh : A.handled = none) (hg : A.guards = some []) (hroom : A.depth + 6 < recursionLimit) (hu : A.units + 60 < cLine)
    (h : ∀ h' tk, Ov s.heap h' → R (.ok (.ret (.bool true))) { s with heap := h', toks := tk }) :
    codeAny (model prog w) A (.call (.ref 143) ⟨[.ref l], []⟩) R s := by
  refine enterC (binds := [("script", .ref l)]) hB hO (by rfl) (by rfl) (by lia) (BindsTo.of_eq rfl) (by rfl) fun h₁ tk₁ X hc => ?_
  have c1 : h₁.IsCell (s.heap.objs.size + 1) none := hc "row" _ rfl
  have c2 : h₁.IsCell (s.heap.objs.size + 2) none := hc "least" _ rfl
  have hl1 := isList_grow hl X.o
  have hvl := hI.length
  have d0 : A.depth + 1 < recursionLimit := by lia
  have d3 : A.depth + 1 + 3 < recursionLimit := by lia
  have d4 : A.depth + 1 + 4 < recursionLimit := by lia
  have u10 : A.units + 3 + 10 < cLine := by lia
  have u40 : A.units + 3 + 40 < cLine := by lia
  have a1 : vs.length < 1000 := by lia
  have a2 : ∀ z : List Value, z.length = 4 → z.length < 1000 := fun z e => by lia
  refine wpAny_execs_cons (wpAny_Assign_Name (qcomp (ns.take 6 ++ [3, 11, 5, 11]) (fun _ => true) (fun n => Int.fmod n 16) (cl := []) (by rfl) (by decide) rfl (by decide) rfl (by simp; lia) ?_ ?_ ?_ ?_))
  · refine wpAny_BinOp (Subscript_ (ldE X.F.ns rfl (mkSlice (evalPart_none_step (evalPart_some_step (wpAny_Constant_int (evalPart_none_step fun h2 sl o2 hsl2 _ => ?_)))))))
    refine sliceL (isList_grow hl1 o2) hsl2 .none (.int _ _) .none (by simp) a1 fun h3 l3 o3 ls3 hl3 => ?_
    have ls3 : Ls h3 l3 (vs.take 6) := by
      have e := slicePick_upto' vs.toArray 6
      rw [show ((6 : Nat) : Int) = 6 from rfl] at e
      rw [e] at ls3
      exact ls3
    refine List_ (spliced_more (wpAny_Constant_int (spliced_more (wpAny_Constant_int (spliced_more (wpAny_Constant_int (spliced_more (wpAny_Constant_int (spliced_none (newL (a2 _ rfl) fun h4 l4 o4 ls4 _ => ?_))))))))))
    refine addP (ls3.grow o4) ls4 (by simp; lia) (a2 _ rfl) fun h5 l5 o5 ls5 _ => ?_
    exact srcG hh ls5.il ((hI.take 6).append (.cons _ _ (.cons _ _ (.cons _ _ (.cons _ _ .nil))))) ⟨_, _, rfl⟩ fun b o e => o5.st _ _ (o4.st _ _ (o3.st _ _ (o2.st _ _ e)))
  · intro C n t s₃ m₃ E' _ _ _ _ _
    exact wpAny_tests_nil ⟨rfl, Keeps.refl' _⟩
  · intro C n t s₃ m₃ E' hC hn hm hmem hk
    exact wpAny_BinOp (ldE hn hm (wpAny_Constant_int (mod_int' (by decide) ⟨⟨_, rfl⟩, Keeps.tk⟩)))
  · intro D h2 tk2 vr hD ls2 hIr hk2
    have e0 : ((ns.take 6 ++ [3, 11, 5, 11]).filter fun _ => true) = ns.take 6 ++ [3, 11, 5, 11] := List.filter_eq_self.mpr fun _ _ => rfl
    rw [e0] at hIr
    have hrl : 4 ≤ ((ns.take 6 ++ [3, 11, 5, 11]).map fun n => Int.fmod n 16).length ∧ ((ns.take 6 ++ [3, 11, 5, 11]).map fun n => Int.fmod n 16).length ≤ 10 := by simp; lia
    have hrb : ∀ n ∈ (ns.take 6 ++ [3, 11, 5, 11]).map (fun n => Int.fmod n 16), 0 ≤ n ∧ n ≤ 15 := fun n hn => by
      obtain ⟨x, _, rfl⟩ := List.mem_map.mp hn
      exact fmod16 x
    generalize (ns.take 6 ++ [3, 11, 5, 11]).map (fun n => Int.fmod n 16) = gs at *
    obtain ⟨rs, S⟩ := Sd.ex gs
    have g64 : gs.length < 64 := by lia
    have X2 := X.growG hk2
    refine X2.stC (c1.keeps hk2) (Nat.le_succ _) (show s.heap.objs.size + 1 ≠ s.heap.objs.size from Nat.ne_of_gt (Nat.lt_succ_self _)) fun h3 X3 c3 sb3 => ?_
    have ls3 := ls2.same sb3 (ls_ne_cell ls2 (c1.keeps hk2))
    have d3 : h3.IsCell (s.heap.objs.size + 2) none := let ⟨o, e, d⟩ := c2.keeps hk2; ⟨o, (sb3.2 _ (neN (by lia))).trans e, d⟩
    dsimp only
    clear X2 X c1 c2 hc hk2 hD ls2 sb3 e0 hl1
    refine wpAny_execs_cons (wpAny_Assign_Name (fcallE hB X3.ov.st (by rfl) (by rfl) (spliced_more (lcE c3 (spliced_none ⟨X3.ov, rising_spec hB X3.ov ls3.il hIr g64 hh d0 fun h4 tk4 r w4 o4 ls4 hI4 => ?_⟩)))))
    rw [rising_sorted S hrb] at hI4
    refine (X3.grow o4).stE fun h5 X5 sb5 => ?_
    obtain ⟨m5, W, mr⟩ : ∃ m, Lw H s.heap h5 m D r vr w4 ∧ m "rising" = some (.ref r) := ⟨_, Lw.sb (m := _) ⟨X3.grow o4, c3.keeps o4.st, ⟨_, d3.keeps o4.st⟩, ls3.grow o4, ls4⟩ X5 sb5, upe⟩
    dsimp only
    clear X5 sb5 o4 ls4 d3 c3 X3 ls3
    have hvr := hIr.length
    have hrs : ∀ n ∈ rs, -100 < n ∧ n < 100 := fun n hn => by have := hrb n (S.p.mem_iff.mp hn); lia
    have hrsl := S.p.length_eq
    have r64 : rs.length < 64 := by lia
    have v64 : vr.length < 64 := by lia
    have g0 : 0 < gs.length := by lia
    refine wpAny_execs_cons (wpAny_If (wpAny_isTrue_Compare1 (tcallE hB W.X.ov.st (spliced_more (fcallE hB W.X.ov.st (by rfl) (by rfl) (spliced_more (lcE W.c (spliced_none ⟨W.X.ov, popped_spec hB W.X.ov W.row (intsAre_isI hIr) v64 hh d4 u40 fun h6 tk6 l6 o6 ls6 => ?_⟩))))))))
    have W6 := W.gr o6.st
    refine spliced_none (strI ls6 (popped_ints hIr S) hrs r64 hg u10 fun h7 u7 tk7 k7 => ?_)
    have W7 := W6.gr k7
    refine tcallE hB W7.X.ov.st (spliced_more (ldE W7.X.F.ns mr (spliced_none (strI W7.ris hI4 hrs r64 hg u10 fun h8 u8 tk8 k8 => ?_))))
    have W8 := W7.gr k8
    refine neS (wpAny_truthy_bool (iff' (wpAny_execs_nil ?_)))
    dsimp only
    clear W W6 W7 k7 k8 o6 ls6
    refine wpAny_execs_cons (wpAny_For (tcallE hB W8.X.ov.st (spliced_more (wpAny_BinOp (bcallE hB W8.X.ov.st (spliced_more (lcE W8.c (spliced_none (lenN W8.row.il hvr (by lia) fun tk9 t9 => ?_)))))))))
    refine wpAny_Constant_int (addI (c := ((gs.length + 2 : Nat) : Int)) (by lia) fun tk10 t10 => spliced_none (range1 fun h9 tk11 rr t11 u11 v11 o9 hr9 _ => iterRange hr9 (small_one (by lia) (by lia) (by lia) (by lia)) fun h10 it o10 hit10 hi10 => ?_))
    have W9 := W8.gr o9.st
    have W10 := W9.gr o10.st
    dsimp only at hi10
    have zz : @LT.lt Nat _ (s.heap.objs.size + 2) it := Nat.lt_of_lt_of_le W9.sz hi10
    have zD : D ≠ it := Nat.ne_of_lt (Nat.lt_of_lt_of_le W9.row.lt hi10)
    have zr : r ≠ it := Nat.ne_of_lt (Nat.lt_of_lt_of_le W9.ris.lt hi10)
    rw [show Builtin.Range.rangeSize 0 ((gs.length + 2 : Nat) : Int) 1 = ((gs.length + 2 : Nat) : Int) by rw [rangeSize_one]; split <;> lia] at hit10
    have ht1 : ∀ i : Nat, ∀ n ∈ rs.take i, -100 < n ∧ n < 100 := fun i n hn => hrs n (List.mem_of_mem_take hn)
    have ht2 : ∀ i : Nat, ∀ n ∈ rs.reverse.take i, -100 < n ∧ n < 100 := fun i n hn => hrs n (List.mem_reverse.mp (List.mem_of_mem_take hn))
    have hl1 : ∀ i : Nat, (rs.take i).length < 64 := fun i => by rw [List.length_take]; lia
    have hl2 : ∀ i : Nat, (rs.reverse.take i).length < 64 := fun i => by rw [List.length_take, List.length_reverse]; lia
    have hwl : w4.length < 1000 := by rw [hI4.length]; lia
    have hwl2 : w4.reverse.length < 1000 := by rw [List.length_reverse]; exact hwl
    clear W8 W9 o9 o10 hr9 hi10
    refine forR (s := { s with toks := tk11 }) (N := gs.length + 2) (x := "many") hh (by rfl) rfl (by decide) W10 mr hit10 zD zr zz (fun i t h2 tk2 m2 E2 Q2 hi2 W2 mr2 mx2 K2 => ?_) (fun h2 tk2 m2 W2 mr2 => ?_)
    · clear W10 hit10 mr
      refine wpAny_execs_cons (wpAny_If (isTrue_or (wpAny_isTrue_Compare1 ?_)))
      refine tcallE hB W2.X.ov.st (spliced_more (fcallE hB W2.X.ov.st (by rfl) (by rfl) (spliced_more (ldE W2.X.F.ns mx2 (spliced_more (lcE W2.c (spliced_none ⟨W2.X.ov, nsmall_spec hB W2.X.ov W2.row hIr S g0 g64 hh d3 u40 fun h3 tk3 l3 w3 o3 ls3 hI3 => ?_⟩)))))))
      have W3 := W2.gr o3.st
      refine spliced_none (strI ls3 hI3 (ht1 i) (hl1 i) hg u10 fun h4 u4 tk4 k4 => ?_)
      have W4 := W3.gr k4
      refine tcallE hB W4.X.ov.st (spliced_more (Subscript_ (ldE W4.X.F.ns mr2 (mkSlice (evalPart_none_step (evalPart_some_step (ldE W4.X.F.ns mx2 (evalPart_none_step fun h5 sl o5 hsl5 _ => ?_))))))))
      have W5 := W4.gr o5.st
      refine sliceL W5.ris.il hsl5 .none (.int _ _) .none (by simp) hwl fun h6 l6 o6 ls6 _ => ?_
      rw [slicePick_upto', show (w4.toArray.toList.take i).toArray.toList = w4.take i from rfl] at ls6
      have W6 := W5.gr o6.st
      refine spliced_none (strI ls6 (hI4.take i) (ht1 i) (hl1 i) hg u10 fun h7 u7 tk7 k7 => neS (wpAny_truthy_bool (iff' ?_)))
      have W7 := W6.gr k7
      have kk7 : ∀ o, h2.get? it = some o → h7.get? it = some o := fun o e => k7 _ _ (o6.st _ _ (o5.st _ _ (k4 _ _ (o3.st _ _ e))))
      dsimp only
      clear W2 W3 W4 W5 W6 k7 o6 o5 k4 o3 ls3 ls6 hsl5
      refine isTrue_or (wpAny_isTrue_Compare1 ?_)
      refine tcallE hB W7.X.ov.st (spliced_more (fcallE hB W7.X.ov.st (by rfl) (by rfl) (spliced_more (ldE W7.X.F.ns mx2 (spliced_more (lcE W7.c (spliced_none ⟨W7.X.ov, nlarge_spec hB W7.X.ov W7.row hIr S g0 g64 hh d3 u40 fun h8 tk8 l8 w8 o8 ls8 hI8 => ?_⟩)))))))
      have W8 := W7.gr o8.st
      refine spliced_none (strI ls8 hI8 (ht2 i) (hl2 i) hg u10 fun h9 u9 tk9 k9 => ?_)
      have W9 := W8.gr k9
      refine tcallE hB W9.X.ov.st (spliced_more (Subscript_ (Subscript_ (ldE W9.X.F.ns mr2 (mkSlice (evalPart_none_step (evalPart_none_step (evalPart_some_step (UnaryOp_ (wpAny_Constant_int (neg_int fun h10 sl o10 hsl10 _ => ?_)))))))))))
      have W10 := W9.gr o10.st
      refine sliceL W10.ris.il hsl10 .none .none (.int _ _) (by decide) hwl fun h11 l11 o11 ls11 _ => ?_
      have ls11 : Ls h11 l11 w4.reverse := by
        have e := krv_pick w4.toArray
        have ls11' : Ls h11 l11 (slicePick w4.toArray none none (some (-1))).toList := ls11
        rw [e] at ls11'
        exact ls11'
      have W11 := W10.gr o11.st
      refine mkSlice (evalPart_none_step (evalPart_some_step (ldE W11.X.F.ns mx2 (evalPart_none_step fun h12 sl2 o12 hsl12 _ => ?_))))
      have W12 := W11.gr o12.st
      refine sliceL (ls11.grow o12).il hsl12 .none (.int _ _) .none (by simp) hwl2 fun h13 l13 o13 ls13 _ => ?_
      rw [slicePick_upto', show (w4.reverse.toArray.toList.take i).toArray.toList = w4.reverse.take i from rfl] at ls13
      have W13 := W12.gr o13.st
      refine spliced_none (strI ls13 (hI4.reverse.take i) (ht2 i) (hl2 i) hg u10 fun h14 u14 tk14 k14 => neS (wpAny_truthy_bool (iff' (isTrue_or_nil (iff' (wpAny_execs_nil (wpAny_execs_nil ?_)))))))
      exact K2 _ _ _ (W13.gr k14) mr2 fun o e => k14 _ _ (o13.st _ _ (o12.st _ _ (o11.st _ _ (o10.st _ _ (k9 _ _ (o8.st _ _ (kk7 o e)))))))
    · clear W10 hit10 mr zD zr zz
      dsimp only
      clear ht1 ht2 hl1 hl2
      refine wpAny_execs_cons (wpAny_For (tcallE hB W2.X.ov.st (spliced_more (bcallE hB W2.X.ov.st (spliced_more (lcE W2.c (spliced_none (lenN W2.row.il hvr (by lia) fun tk9 t9 => ?_))))))))
      refine spliced_none (range1 fun h9 tk11 rr t11 u11 v11 o9 hr9 _ => iterRange hr9 (small_one (by lia) (by lia) (by lia) (by lia)) fun h10 it o10 hit10 hi10 => ?_)
      have W9 := W2.gr o9.st
      have W10 := W9.gr o10.st
      dsimp only at hi10
      have zz : @LT.lt Nat _ (s.heap.objs.size + 2) it := Nat.lt_of_lt_of_le W9.sz hi10
      have zD : D ≠ it := Nat.ne_of_lt (Nat.lt_of_lt_of_le W9.row.lt hi10)
      have zr : r ≠ it := Nat.ne_of_lt (Nat.lt_of_lt_of_le W9.ris.lt hi10)
      have zL : it ≠ s.heap.objs.size := neN (by lia)
      rw [show Builtin.Range.rangeSize 0 ((gs.length : Nat) : Int) 1 = ((gs.length : Nat) : Int) by rw [rangeSize_one]; split <;> lia] at hit10
      clear W2 W9 o9 o10 hr9 hi10
      have hlen : ∀ i, i < gs.length → 0 < (lift gs i).length ∧ (lift gs i).length < 64 := fun i hi => by rw [lift_len]; lia
      have h2z : ∀ x y : Value, [x, y].length < 1000 := fun _ _ => by simp
      have hget : ∀ i, i < gs.length → ∀ n ∈ [rs.getD i 0, rs.getD i 0], -100 < n ∧ n < 100 := fun i hi n hn => by
        have e : n = rs.getD i 0 := by simpa using hn
        rw [e]; exact hrs _ (getD_mem (by lia))
      refine forR (s := { s with toks := tk11 }) (N := gs.length) (x := "place") hh (by rfl) rfl (by decide) W10 mr2 hit10 zD zr zz (fun i t h2 tk2 m2 E2 Q2 hi2 W2 mr2 mx2 K2 => ?_) (fun h2 tk2 m2 W2 mr2 => ?_)
      · clear W10 hit10
        refine wpAny_execs_cons (wpAny_Assign_Name (fcallE hB W2.X.ov.st (by rfl) (by rfl) (spliced_more (lcE W2.c (spliced_more (ldE W2.X.F.ns mx2 (spliced_none ⟨W2.X.ov, lifted_spec hB W2.X.ov W2.row hIr g64 (by lia) d0 fun h3 tk3 l3 w3 o3 ls3 hI3 => ?_⟩)))))))
        have W3 := W2.gr o3.st
        refine W3.X.stE fun h4 X4 sb4 => ?_
        have W4 := W3.sb X4 sb4
        have ls4 := ls3.same sb4 (ls_ne_ns ls3 W3.X.F.ns)
        dsimp only
        have kk4 : ∀ o, h2.get? it = some o → h4.get? it = some o := fun o e => (sb4.2 it zL).trans (o3.st _ _ e)
        have mr4 := ups (m := m2) (x := "lifted") (y := "rising") (v := .ref l3) (by decide) mr2
        have mx4 := ups (m := m2) (x := "lifted") (y := "place") (v := .ref l3) (by decide) mx2
        clear W2 W3 X4 sb4 o3 ls3
        refine wpAny_execs_cons (wpAny_If (wpAny_isTrue_Compare1 (tcallE hB W4.X.ov.st (spliced_more (List_ (spliced_more (fcallE hB W4.X.ov.st (by rfl) (by rfl) (spliced_more (ldE W4.X.F.ns upe (spliced_none ⟨W4.X.ov, median_low_spec hB W4.X.ov ls4.il hI3 (hlen i hi2).1 (hlen i hi2).2 d0 fun h5 tk5 t5 q5 o5 p5 s5 => ?_⟩))))))))))
        have W5 := W4.gr o5.st
        refine spliced_more (fcallE hB W5.X.ov.st (by rfl) (by rfl) (spliced_more (ldE W5.X.F.ns upe (spliced_none ⟨W5.X.ov, median_high_spec hB W5.X.ov (ls4.grow o5).il hI3 (hlen i hi2).1 (hlen i hi2).2 d0 fun h6 tk6 t6 q6 o6 p6 s6 => ?_⟩))))
        have W6 := W5.gr o6.st
        refine spliced_none (newL (h2z _ _) fun h7 l7 o7 ls7 _ => spliced_none (strI (ns := [rs.getD i 0, rs.getD i 0]) ls7 (by rw [lift_low S hrb hi2 ⟨p5, s5⟩, lift_high S hrb hi2 ⟨p6, s6⟩]; exact .cons _ _ (.cons _ _ .nil)) (hget i hi2) (by simp) hg u10 fun h8 u8 tk8 k8 => ?_))
        have W8 := (W6.gr o7.st).gr k8
        obtain ⟨ty, hty⟩ := intsAre_get hI4 i (by lia)
        refine tcallE hB W8.X.ov.st (spliced_more (List_ (spliced_more (Subscript_ (ldE W8.X.F.ns mr4 (ldE W8.X.F.ns mx4 (itemN W8.ris.il (by lia) hty (spliced_more (Subscript_ (ldE W8.X.F.ns mr4 (ldE W8.X.F.ns mx4 (itemN W8.ris.il (by lia) hty (spliced_none ?_)))))))))))))
        refine newL (h2z _ _) fun h9 l9 o9 ls9 _ => spliced_none (strI ls9 (.cons _ _ (.cons _ _ .nil)) (hget i hi2) (by simp) hg u10 fun h10 u10 tk10 k10 => neS (wpAny_truthy_bool (iff' (wpAny_execs_nil (wpAny_execs_nil ?_)))))
        exact K2 _ _ _ ((W8.gr o9.st).gr k10) mr4 fun o e => k10 _ _ (o9.st _ _ (k8 _ _ (o7.st _ _ (o6.st _ _ (o5.st _ _ (kk4 o e))))))
      · clear W10 hit10 zD zr zz hget hlen zL
        dsimp only
        refine wpAny_execs_cons (wpAny_Assign_Name (fcallE hB W2.X.ov.st (by rfl) (by rfl) (spliced_more (lcE W2.c (spliced_none ⟨W2.X.ov, median_low_spec hB W2.X.ov W2.row.il hIr g0 g64 d0 fun h3 tk3 t3 q3 o3 p3 s3 => ?_⟩)))))
        have e3 := S.uniq ⟨p3, s3⟩
        subst e3
        have W3 := W2.gr o3.st
        refine W3.X.stE fun h4 X4 sb4 => ?_
        have W4 := W3.sb X4 sb4
        dsimp only
        clear W2 W3 X4 sb4 o3 p3 s3
        refine wpAny_execs_cons (wpAny_Assign_Name (fcallE hB W4.X.ov.st (by rfl) (by rfl) (spliced_more (lcE W4.c (spliced_none ⟨W4.X.ov, median_high_spec hB W4.X.ov W4.row.il hIr g0 g64 d0 fun h5 tk5 t5 q5 o5 p5 s5 => ?_⟩)))))
        have e5 := S.uniq ⟨p5, s5⟩
        subst e5
        have W5 := W4.gr o5.st
        refine W5.X.stE fun h6 X6 sb6 => ?_
        have W6 := W5.sb X6 sb6
        dsimp only
        clear W4 W5 X6 sb6 o5 p5 s5
        refine wpAny_execs_cons (wpAny_Assign_Name (wpAny_BinOp (bcallE hB W6.X.ov.st (spliced_more (lcE W6.c (spliced_none (lenN W6.row.il hvr (by lia) fun tk7 t7 => wpAny_Constant_int (half rfl fun tk8 t8 => W6.X.stE fun h7 X7 sb7 => ?_))))))))
        have W7 := W6.sb X7 sb7
        dsimp only
        clear W6 X7 sb7
        refine wpAny_execs_cons (wpAny_Assign_Name (wpAny_BinOp (bcallE hB W7.X.ov.st (spliced_more (fcallE hB W7.X.ov.st (by rfl) (by rfl) (spliced_more (ldE W7.X.F.ns upe (spliced_more (lcE W7.c (spliced_none ⟨W7.X.ov, nlarge_spec hB W7.X.ov W7.row hIr S g0 g64 hh d3 u40 fun h8 tk8 l8 w8 o8 ls8 hI8 => ?_⟩))))))))))
        have W8 := W7.gr o8.st
        refine spliced_none (sumL hh ls8.il hI8 fun h9 tk9 t9 k9 => ?_)
        have W9 := W8.gr k9
        dsimp only
        clear W7 W8 o8 k9 ls8
        refine bcallE hB W9.X.ov.st (spliced_more (fcallE hB W9.X.ov.st (by rfl) (by rfl) (spliced_more (ldE W9.X.F.ns upe (spliced_more (lcE W9.c (spliced_none ⟨W9.X.ov, nsmall_spec hB W9.X.ov W9.row hIr S g0 g64 hh d3 u40 fun h10 tk10 l10 w10 o10 ls10 hI10 => ?_⟩)))))))
        have W10 := W9.gr o10.st
        refine spliced_none (sumL hh ls10.il hI10 fun h11 tk11 t11 k11 => subI rfl fun tk12 t12 => ?_)
        have W11 := W10.gr k11
        dsimp only
        clear W9 W10 o10 k11 ls10
        obtain ⟨v0, c20⟩ := W11.c2
        refine W11.X.stC c20 (Nat.le_succ_of_le (Nat.le_succ _)) (show s.heap.objs.size + 2 ≠ s.heap.objs.size from Nat.ne_of_gt (Nat.lt_succ_of_lt (Nat.lt_succ_self _))) fun h12 X12 c12 sb12 => ?_
        have W12 := W11.cell X12 c12 sb12
        dsimp only
        clear W11 X12 sb12 c20
        obtain ⟨f1, f2⟩ := flat_law S g0 hrb
        refine wpAny_execs_cons (qcompA pts (fun p => (gs.map (far p)).sum == (rs.reverse.take (gs.length / 2)).sum - (rs.take (gs.length / 2)).sum) (fun n => n) (cl := [("row", s.heap.objs.size + 1), ("least", s.heap.objs.size + 2)]) (by rfl) (by rfl) (by decide) rfl (by decide) rfl (by rfl) (by rfl) (by decide) W12.X.F.ns ?_ ?_ ?_ ?_)
        · refine tcallE hB W12.X.ov.st (spliced_more (UnaryOp_ (wpAny_Constant_int (neg_int (spliced_more (wpAny_Constant_int (spliced_none (range2 fun h13 tk13 rr t13 u13 v13 o13 hr13 _ => iterRange hr13 (by decide +kernel) fun h14 it o14 hit14 hi14 => ?_))))))))
          dsimp only at hi14 o13
          refine ⟨it, [it], [it], _, _, rfl, walks_lt (Walks.range (A := A.deeper _) hh it (-1) 1 pts.length), ?_, ?_, ?_, ?_, ⟨_, _, rfl⟩, ?_⟩
          · rw [show Builtin.Range.rangeSize (-1) 17 1 = 18 by decide +kernel] at hit14
            exact hit14
          · intro b hb
            obtain rfl : b = it := by simpa using hb
            exact Heap.lt_size hit14
          · intro b hb
            obtain rfl : b = it := by simpa using hb
            cases q : h12.get? b with
            | none => rfl
            | some o => exact absurd (Heap.lt_size q) (Nat.not_lt.mpr (Nat.le_trans o13.sz hi14))
          · exact fun b o e => o14.st _ _ (o13.st _ _ e)
          · rintro i v ⟨hi, t, rfl⟩
            have hi : i < 18 := hi
            have e : pts.getD i 0 = -1 + (i : Int) * 1 := by
              simp only [pts, List.getD_eq_getElem?_getD, List.getElem?_map, List.getElem?_range hi, Option.map_some, Option.getD_some]
              lia
            refine ⟨t, by rw [e], ?_⟩
            exact getD_mem (by simpa [pts] using hi)
        · intro C n t s₃ m₃ E' hC hn hm hmem hk
          have W3 := W12.gr hk
          refine wpAny_tests_one (wpAny_isTrue_Compare1 (fcallE hB W3.X.ov.st (by rfl) (by rfl) (spliced_more (lcE W3.c (spliced_more (ldE hn hm (spliced_none ⟨W3.X.ov, paid_spec hB W3.X.ov W3.row.il hIr g64 hh d0 fun h' tk' t' o' => ?_⟩)))))))
          exact lcE ((c12.keeps hk).keeps o'.st) (eqB rfl (wpAny_truthy_bool ⟨rfl, h', tk', rfl, o'.st⟩))
        · intro C n t s₃ m₃ E' hC hn hm hmem hk
          exact ldE hn hm ⟨⟨_, rfl⟩, Keeps.refl' _⟩
        · intro D2 h13 tk13 w13 ls13 hI13 ns13 k13
          rw [List.map_id'] at hI13
          generalize (pts.filter fun p => (gs.map (far p)).sum == (rs.reverse.take (gs.length / 2)).sum - (rs.take (gs.length / 2)).sum) = fs at *
          have X13 := W12.X.re ns13 k13
          have i1 := hrs _ (getD_mem (rs := rs) (j := (gs.length - 1) / 2) (by lia))
          have i2 := hrs _ (getD_mem (rs := rs) (j := gs.length / 2) (by lia))
          generalize rs.getD ((gs.length - 1) / 2) 0 = lo at *
          generalize rs.getD (gs.length / 2) 0 = hi at *
          have hfl := hI13.length
          have hf0 : 0 < fs.length := by
            cases fs with
            | nil => simp at f1
            | cons a b => simp
          obtain ⟨ta, ea⟩ := intsAre_get hI13 0 hf0
          obtain ⟨tb, eb⟩ := intsAre_get hI13 (fs.length - 1) (by lia)
          have g1 : fs.getD 0 0 = lo := by
            rw [List.head?_eq_getElem?] at f1
            rw [List.getD_eq_getElem?_getD, f1]; rfl
          have g2 : fs.getD (fs.length - 1) 0 = hi := by
            rw [List.getLast?_eq_getElem?] at f2
            rw [List.getD_eq_getElem?_getD, f2]; rfl
          rw [g1] at ea
          rw [g2, ← hfl] at eb
          have hlh : ∀ n ∈ [lo, hi], -100 < n ∧ n < 100 := fun n hn => by
            rcases List.mem_cons.mp hn with rfl | hn
            · exact i1
            · obtain rfl : n = hi := by simpa using hn
              exact i2
          dsimp only
          clear W12 c12 f1 f2 g1 g2 k13 ns13
          refine wpAny_execs_cons (wpAny_Return_some (wpAny_Compare1 (tcallE hB X13.ov.st (spliced_more (List_ (spliced_more (Subscript_ (ldE X13.F.ns upe (wpAny_Constant_int (itemN (k := 0) ls13.il (by lia) ea (spliced_more (Subscript_ (ldE X13.F.ns upe (UnaryOp_ (wpAny_Constant_int (neg_int (itemLast ls13.il (by lia) eb (spliced_none ?_))))))))))))))))))
          refine newL (h2z _ _) fun h14 l14 o14 ls14 _ => spliced_none (strI (ns := [lo, hi]) ls14 (.cons _ _ (.cons _ _ .nil)) hlh (by simp) hg u10 fun h15 u15 tk15 k15 => ?_)
          have X15 := (X13.grow o14).growG k15
          refine tcallE hB X15.ov.st (spliced_more (List_ (spliced_more (ldE X15.F.ns (ups (by decide) (ups (by decide) (ups (by decide) upe))) (spliced_more (ldE X15.F.ns (ups (by decide) (ups (by decide) upe)) (spliced_none ?_)))))))
          refine newL (h2z _ _) fun h16 l16 o16 ls16 _ => spliced_none (strI (ns := [lo, hi]) ls16 (.cons _ _ (.cons _ _ .nil)) hlh (by simp) hg u10 fun h17 u17 tk17 k17 => eqS ?_)
          exact h _ _ ((X15.grow o16).growG k17).o
end Mine
end

section
open PySem PySem.W PyProof.Rows PySem.Calls
set_option maxRecDepth 100000
set_option maxHeartbeats 1000000
namespace Mine

theorem fin : PySem.Challenge.rw_nb0252_01.Holds := by
  refine Mine.hd (by
    w_strict (
     k_fill
     intro w s₀ s₁ mg mb G Y fa o pm cd doc dV kV ho hd hcd hD hmg hg args vals as hpre hlay hrd hwl hlo
     have KX := kIn_of Y
     refine Ground.open G ?_
     intro T B D TE TW
     try (refine guard_noD D (by decide +kernel) ?_; clear D)
     wrow_args hpre hlay hrd hwl hlo
     rename_i gs _ _ _ _ _ _ _ l vs _ hL _ _ _ hI _ hc _
     have hB : Bs w s₁.heap := ⟨KX, _, _, _, _, topRead_of T⟩
     have hfa := (mg_of (n := "law") (v := .ref 143) hB.X (topRead_of T).g (by rfl)).symm.trans hmg
     cases hfa
     refine wpAny_call (law_spec hB (.refl _) hL hI (by lia) rfl rfl (by decide +kernel) (by decide +kernel) fun h' tk o' => ?_)
     exact ⟨.inl ⟨.bool true, .bool true, [], rfl, fun cls => by rfl, .bool true, by wrow_post, fun _ => ⟨.nil, nofun⟩⟩, .of_keep o'.st, rfl, .of_eq hg⟩))
end Mine
end

set_option maxRecDepth 100000 in
theorem PySem.Challenge.cw_nb0252_01_holds : PySem.Challenge.rw_nb0252_01.Holds := by
  exact Mine.fin

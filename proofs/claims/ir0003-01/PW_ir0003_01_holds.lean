import PyProof.Rows.All
import Wide.All
import OpenK.AllK
import Wide.FinOn
import Lean
import PySem.Challenge.RW_ir0003_01
set_option maxRecDepth 100000
set_option Elab.async false
namespace Mine
open PySem PySem.W PySem.Calls PySem.Spec PyProof.Rows
set_option maxHeartbeats 8000000 in
open_top hd for PySem.Challenge.rw_ir0003_01
/-- the walks below are built as if each stood in a file of its own -/
theorem walks_apart : True := by
  w_top off
  trivial
section
variable {prog : Program} {w : World} {A : Around} {s : Shared} {h₀ : Heap} {L : Addr} {m : Str → Option Value} {news : List (Addr × Obj)} {K : Frag}
  {R : Result → Shared → Prop} {name qual : Str} {params : Arguments} {body : List Stmt} {scope : Scope} {dV kV doc pm cdv ct oc : Value} {an od : Option Addr} {osl : Array (Option Value)} {f : Addr} {args : Args} {binds : List (Str × Value)}
  {p : Program} {loose : List Str} {mean : ExcName → Option Value} {mg mb : Str → Option Value}

theorem ground1 (F : Fr h₀ L s.heap m) (N : News h₀ L s.heap news) :
    Fr h₀ L (hideAll s.heap (news.map (·.1))) m ∧ h₀.StaysIn (hideAll s.heap (news.map (·.1))) ∧
      ∀ v s', LeaveK h₀ L m (hideAll s.heap (news.map (·.1))) R v s' → R (.ok (.ret v)) s' := by
  have nm : ∀ b o, h₀.get? b = some o → b ∉ news.map (·.1) := fun b o e q => by
    obtain ⟨p, hp, rfl⟩ := List.mem_map.mp q
    rw [(N p hp).2.2] at e; cases e
  have st : h₀.StaysIn (hideAll s.heap (news.map (·.1))) := fun b o e => hideAll_get _ (F.keep b o e) (nm b o e)
  obtain ⟨oL, es, ep, hL, hLd, hLk, hLf⟩ := F.ns
  have nL : L ∉ news.map (·.1) := fun q => by
    obtain ⟨p, hp, e⟩ := List.mem_map.mp q
    exact (N p hp).2.1 e
  have hLg := hideAll_get (news.map (·.1)) hL nL
  refine ⟨⟨⟨oL, es, ep, hLg, hLd, hLk, hLf⟩, st, F.above⟩, st, fun v s' hl => ?_⟩
  obtain ⟨L', m', news', F', N', k⟩ := hl
  refine k ⟨⟨oL, es, ep, F'.keep L oL hLg, hLd, hLk, hLf⟩, fun b o e => F'.keep b o (st b o e), F.above⟩ fun p hp => ⟨(N' p hp).1, fun q => ?_, ?_⟩
  · have := (N' p hp).2.2; rw [q, hLg] at this; cases this
  · cases q : h₀.get? p.1 with
    | none => rfl
    | some o => have := (N' p hp).2.2; rw [st _ _ q] at this; cases this

/-- a call of one of the text's defs, entered; no look at the frames below -/
theorem enter (F : Fr h₀ L s.heap m) (X₀ : K.In h₀) (N : News h₀ L s.heap news) (T : Top p loose mean mg mb h₀)
    (ho : K.lookup f = some ⟨oc, od, .func (fnOf name qual params body scope dV kV doc pm an cdv ct), osl⟩) (hcd : codeIn K cdv qual = true) (hroom : A.depth < recursionLimit)
    (hbind : BindsTo s (fnOf name qual params body scope dV kV doc pm an cdv ct) args binds) (hloc : ∀ y ∈ binds, scope.names.lookup y.1 = some .local)
    (h : ∀ g L' h₁, h₀.StaysIn g → Fr g L' h₁ (fun y => binds.reverse.lookup y) → News g L' h₁ news → K.In g → Top p loose mean mg mb g → (∀ p ∈ news, p.1 < L') →
      wpAny (model prog w) (A.deeper (envOf qual scope L' f cdv)) (execs body (envOf qual scope L' f cdv))
        (fun fl s' => LeaveK h₀ L m g R (match fl with | .ret v => v | _ => .none) s') (fun _ _ => False)
        { s with heap := h₁, toks := s.toks + binds.length })
    (hco : scope.isCoroutine = false) (hgen : scope.isGenerator = false) (hk : scope.kind = .function)
    (hcell : ∀ x ∈ scope.names, x.2 ≠ .cell) : codeAny (model prog w) A (.call (.ref f) args) R s := by
  obtain ⟨FG, st, lv⟩ := ground1 (R := R) F N
  have X := X₀.keeps F.keep
  refine codeAny_call_def (fd := fnOf name qual params body scope dV kV doc pm an cdv ct) (body := body) (binds := binds) hroom (X _ _ ho) rfl (T.nolimit.keeps F.keep) (codeRec_of X hcd) rfl hbind hcell hloc (fun h₁ hns hk₁ => ?_) hco hgen hk
  exact wpAny_mono (h _ s.heap.objs.size h₁ st ⟨hns, fun b o e => hk₁ b o (of_hideAll _ e), Nat.le_of_eq (hideAll_size _ _)⟩
    (fun p hp => ⟨hk₁ _ _ (N p hp).1, Nat.ne_of_lt (Heap.lt_size (N p hp).1), hideAll_none _ (List.mem_map_of_mem hp)⟩) (X₀.keeps st) (T.keeps st) (fun p hp => Heap.lt_size (N p hp).1)) (fun fl s' hl => lv _ _ hl) fun _ _ y => y.elim
end

/-- the world that a call may lean on -/
def Gd (w : World) (g : Heap) : Prop := (hd.heap_39 w.params).In g ∧ ∃ loose mean mg mb, Top hd.view_39 loose mean mg mb g
theorem Gd.stays {w : World} {g g' : Heap} (G : Gd w g) (st : g.StaysIn g') : Gd w g' :=
  let ⟨X, a, b, c, d, T⟩ := G; ⟨X.keeps st, a, b, c, d, T.keeps st⟩
abbrev PG : Program := Challenge.rw_ir0003_01.row.prog
abbrev MM (w : World) : Model := model Challenge.rw_ir0003_01.row.prog w

section
variable {prog : Program} {w : World} {A : Around} {E : Value → Shared → Prop} {s : Shared}

/-- pairs of ints, compared as Python compares them -/
def ltP (x y : Int × Int) : Bool := decide (x.1 < y.1) || (x.1 == y.1 && decide (x.2 < y.2))

theorem lt_pair_tree {a b : Addr} {oa ob : Obj} {x y : Int × Int} {t1 t2 t3 t4 : Tok} {na nb : Nat} {P : PySem.Fin → Shared → Prop}
    (ha : s.heap.get? a = some oa) (da : oa.data = .seq #[.int x.1 t1, .int x.2 t2] na)
    (hb : s.heap.get? b = some ob) (cb : ob.cls = .type "tuple") (db : ob.data = .seq #[.int y.1 t3, .int y.2 t4] nb)
    (h : P (.done (.ret (.bool (ltP x y)))) s) :
    wpAny (model prog w) A (Builtin.«tuple.__lt__» ⟨[.ref a, .ref b], []⟩) P E s := by
  have hTb : s.TypeIs (.ref b) "tuple" := ⟨ob, hb, cb⟩
  show wpAny _ _ (isInstance (.ref b) (.type "tuple") >>= _) _ _ s
  refine wpAny_bind (wpAny_isInstance hTb isSubtype_tuple_tuple ?_)
  simp only [Bool.not_true, Bool.false_eq_true, if_false]
  refine wpAny_bind (wpAny_tupleItemsOf ha da ?_)
  refine wpAny_bind (wpAny_tupleItemsOf hb db ?_)
  refine wpAny_bind ?_
  show wpAny _ _ (forIn [(Value.int x.1 t1, Value.int y.1 t3), (Value.int x.2 t2, Value.int y.2 t4)] _ _) _ _ _
  rw [List.forIn_cons]
  refine wpAny_bind (wpAny_bind (wpAny_eqBool_int ?_))
  by_cases h1 : x.1 = y.1
  · have e1 : (x.1 == y.1) = true := by simp [h1]
    rw [e1]
    simp only [Bool.not_true, Bool.false_eq_true, if_false]
    refine wpAny_pure ?_
    dsimp only
    rw [List.forIn_cons]
    refine wpAny_bind (wpAny_bind (wpAny_eqBool_int ?_))
    by_cases h2 : x.2 = y.2
    · have e2 : (x.2 == y.2) = true := by simp [h2]
      rw [e2]
      simp only [Bool.not_true, Bool.false_eq_true, if_false]
      refine wpAny_pure ?_
      dsimp only
      rw [List.forIn_nil]
      refine wpAny_pure ?_
      refine wpAny_pure ?_
      have : ltP x y = false := by simp [ltP, h1, h2]
      rw [this] at h
      exact h
    · have e2 : (x.2 == y.2) = false := by simp [h2]
      rw [e2]
      simp only [Bool.not_false, if_true]
      refine wpAny_bind (wpAny_rule ?_)
      refine wpAny_bind (lt_int ?_)
      refine wpAny_bind (wpAny_pure (wpAny_pure ?_))
      refine wpAny_pure ?_
      have : ltP x y = decide (x.2 < y.2) := by simp [ltP, h1]
      rw [this] at h
      exact wpAny_pure h
  · have e1 : (x.1 == y.1) = false := by simp [h1]
    rw [e1]
    simp only [Bool.not_false, if_true]
    refine wpAny_bind (wpAny_rule ?_)
    refine wpAny_bind (lt_int ?_)
    refine wpAny_bind (wpAny_pure (wpAny_pure ?_))
    refine wpAny_pure ?_
    have : ltP x y = decide (x.1 < y.1) := by simp [ltP, h1]
    rw [this] at h
    exact wpAny_pure h

theorem lt_pair {a b : Addr} {oa ob : Obj} {x y : Int × Int} {t1 t2 t3 t4 : Tok} {na nb : Nat} {Q : Value → Shared → Prop} (hu : A.units < cLine)
    (ha : s.heap.get? a = some oa) (ca : oa.cls = .type "tuple") (da : oa.data = .seq #[.int x.1 t1, .int x.2 t2] na)
    (hb : s.heap.get? b = some ob) (cb : ob.cls = .type "tuple") (db : ob.data = .seq #[.int y.1 t3, .int y.2 t4] nb)
    (h : Q (.bool (ltP x y)) s) :
    wpAny (model prog w) A (compareOp .Lt (.ref a) (.ref b)) Q E s := by
  refine cmp_ofLt ?_
  have hTa : s.TypeIs (.ref a) "tuple" := ⟨oa, ha, ca⟩
  have hTb : s.TypeIs (.ref b) "tuple" := ⟨ob, hb, cb⟩
  exact wpAny_richCompare_same_room (op := .Lt) hTa hTb F.slot_tuple_lt
      (wpAny_call_entry F.slot_tuple_lt hTa F.entry_tuple_lt (lt_pair_tree ha da hb cb db ⟨_, rfl, (fun e => nomatch e), h⟩) (F.args_tuple_lt_2 _ _)) hu
end

/-- what a heap may hold: how a thing stands in the memory, how two are compared -/
structure Item (w : World) (α : Type) where
  emb : α → Dat
  lt : α → α → Bool
  cmp : ∀ {A : Around} {h₀ : Heap} {L : Addr} {s : Shared} {news : List (Addr × Obj)} {x y : Value} {a b : α} {Q E : Value → Shared → Prop}, A.units < cLine → News h₀ L s.heap news → DatIn news x (emb a) → DatIn news y (emb b) →
    Q (.bool (lt a b)) s → wpAny (model Challenge.rw_ir0003_01.row.prog w) A (compareOp .Lt x y) Q E s

def intItem (w : World) : Item w Int where
  emb := Dat.int
  lt := fun a b => decide (a < b)
  cmp := by
    intro A h₀ L s news x y a b Q E _ _ hx hy h
    cases hx; cases hy
    exact lt_int h

abbrev embP (p : Int × Int) : Dat := .tuple [.int p.1, .int p.2]
theorem datP {news : List (Addr × Obj)} {v : Value} {p : Int × Int} (h : DatIn news v (embP p)) : ∃ a t1 t2 n, v = .ref a ∧ (a, ({ cls := .type "tuple", data := .seq #[.int p.1 t1, .int p.2 t2] n } : Obj)) ∈ news := by
  cases h with
  | tuple hm hd =>
    cases hd with
    | cons h1 r =>
      cases r with
      | cons h2 r =>
        cases r; cases h1; cases h2
        exact ⟨_, _, _, _, rfl, hm⟩
def pairItem (w : World) : Item w (Int × Int) where
  emb := embP
  lt := ltP
  cmp := by
    intro A h₀ L s news x y a b Q E hu N hx hy h
    obtain ⟨p, t1, t2, n, rfl, hp⟩ := datP hx
    obtain ⟨q, t3, t4, k, rfl, hq⟩ := datP hy
    exact lt_pair hu (N.get hp) rfl rfl (N.get hq) rfl rfl h

/-- a mark at which the walk stops -/
structure Hold (p : Prop) : Prop where
  out : p
theorem hold {p : Prop} (h : Hold p) : p := h.out

/-- a frame's names, the pinned ones first -/
def fm (b : List (Str × Value)) (u : Str → Option Value) : Str → Option Value := fun y => match b.lookup y with | some v => some v | none => u y
theorem fm_eq (u : Str → Option Value) : ∀ b : List (Str × Value), (∀ p ∈ b, u p.1 = some p.2) → fm b u = u
  | [], _ => rfl
  | (x, v) :: r, h => by
    have ih := fm_eq u r fun p hp => h p (.tail _ hp)
    funext y
    have e := congrFun ih y
    unfold fm at e ⊢
    rw [List.lookup_cons]
    by_cases q : (y == x) = true
    · rw [q]
      have : y = x := eq_of_beq q
      subst this
      exact (h (y, v) (.head _)).symm
    · have q' : (y == x) = false := by simpa using q
      rw [q']
      exact e
theorem fr_pin {g h : Heap} {L : Addr} {m : Str → Option Value} (F : Fr g L h m) (b : List (Str × Value)) (hb : ∀ p ∈ b, m p.1 = some p.2) : Fr g L h (fm b m) := by
  rw [fm_eq m b hb]; exact F

section
variable {prog : Program} {w : World} {A : Around} {env : Env} {s : Shared}
theorem my_while {test : Expr} {body : List Stmt} {pos : Pos} {Q : Flow → Shared → Prop} (I : Nat → Shared → Prop)
    (turn : ∀ n s, I n s → wpAny (model prog w) A (isTrue test env (eval test env)) (fun b s₂ =>
        if b then wpAny (model prog w) A (execs body env) (fun f s₃ => match f with
            | .next | .cont => Hold (∃ m, m < n ∧ I m s₃)
            | .brk => Q .next s₃
            | .ret v => Q (.ret v) s₃) (fun _ _ => False) s₂
        else Q .next s₂) (fun _ _ => False) s)
    (n : Nat) (h : I n s) : wpAny (model prog w) A (exec (.While test body [] pos) env) Q (fun _ _ => False) s := by
  refine wpAny_While ?_
  refine codeAny_whileLoop I (fun n s hI => ?_) n h
  refine wpAny_mono (turn n s hI) (fun b s₂ h₂ => ?_) fun _ _ x => x.elim
  cases b with
  | false =>
    simp only [Bool.false_eq_true, if_false] at h₂ ⊢
    exact wpAny_execs_nil h₂
  | true =>
    simp only [if_true] at h₂ ⊢
    refine wpAny_mono h₂ (fun f s₃ h₃ => ?_) fun _ _ x => x.elim
    cases f with
    | next => exact h₃.out
    | cont => exact h₃.out
    | brk => exact h₃
    | ret v => exact h₃
end

section
variable {prog : Program} {w : World} {A : Around} {E : Value → Shared → Prop} {s : Shared} {h₀ : Heap} {L l : Addr} {m : Str → Option Value} {news tl : List (Addr × Obj)} {vs : List Value} {n : Nat}

theorem h_isList {h : Heap} (N : News h₀ L h news) (hm : (l, listOf vs.toArray n) ∈ news) : h.IsList l vs.toArray := ⟨_, (N _ hm).1, rfl, n, rfl⟩

theorem h_set {k : Int} {t : Tok} {v : Value} {Q : Unit → Shared → Prop} (F : Fr h₀ L s.heap m) (N : News h₀ L s.heap ((l, listOf vs.toArray n) :: tl)) (hl : ∀ p ∈ tl, p.1 ≠ l)
    (h0 : 0 ≤ k) (hfit : k < 2 ^ 63) (hk : k < vs.length)
    (h : ∀ h', Fr h₀ L h' m → News h₀ L h' ((l, listOf (vs.set k.toNat v).toArray n) :: tl) → Q () { s with heap := h' }) :
    wpAny (model prog w) A (setItem (.ref l) (.int k t) v) Q E s := by
  have z := N (l, listOf vs.toArray n) (.head _)
  refine ki_setAt z.1 h0 hfit (by simpa using hk) (h _ (F.change (Heap.SameBut.update ..) z.2.1 z.2.2) (ki_turn (pre := []) _ N (fun _ h => nomatch h) hl ?_ ?_))
  · show vs.toArray.setIfInBounds k.toNat v = (vs.set k.toNat v).toArray
    apply Array.toList_inj.mp
    simp
  · simp

theorem h_append {v : Value} {Q : Value → Shared → Prop} (F : Fr h₀ L s.heap m) (N : News h₀ L s.heap ((l, listOf vs.toArray n) :: tl)) (hl : ∀ p ∈ tl, p.1 ≠ l) (hz : vs.length ≤ sizeLine)
    (h : ∀ h', Fr h₀ L h' m → News h₀ L h' ((l, listOf (vs ++ [v]).toArray (n + 1)) :: tl) → Q .none { s with heap := h' }) :
    wpAny (model prog w) A (call (.builtin "list.append") [.ref l, v]) Q E s :=
  append_K F N (Upd.head hl) (fun h' F' N' => h h' F' (by simpa using N')) (by simpa using hz)

theorem h_pop {v : Value} {Q : Value → Shared → Prop} (F : Fr h₀ L s.heap m) (N : News h₀ L s.heap ((l, listOf (vs ++ [v]).toArray n) :: tl)) (hl : ∀ p ∈ tl, p.1 ≠ l) (hz : vs.length < sizeLine)
    (h : ∀ h', Fr h₀ L h' m → News h₀ L h' ((l, listOf vs.toArray (n + 1)) :: tl) → Q v { s with heap := h' }) :
    wpAny (model prog w) A (call (.builtin "list.pop") [.ref l]) Q E s :=
  kl_pop F N (p := vs) (y := v) (by simpa using kpa_last v vs) (Upd.head hl) (by simp; omega) (fun h' F' N' => h h' F' N')

theorem h_len {Q : Value → Shared → Prop} (N : News h₀ L s.heap news) (hm : (l, listOf vs.toArray n) ∈ news) (hfit : (vs.length : Int) < 2 ^ 63)
    (h : Q (.int vs.length (s.toks + 1)) { s with toks := s.toks + 1 + 1 }) : wpAny (model prog w) A (call (.builtin "len") [.ref l]) Q E s :=
  len_list (h_isList N hm) (by simpa using hfit) (by simpa using h)

theorem h_truthy {Q : Bool → Shared → Prop} (N : News h₀ L s.heap news) (hm : (l, listOf vs.toArray n) ∈ news) (hfit : (vs.length : Int) < 2 ^ 63)
    (h : Q (!vs.isEmpty) { s with toks := s.toks + 1 + 1 }) : wpAny (model prog w) A (truthy (.ref l)) Q E s :=
  wpAny_truthy_list (h_isList N hm) (by simpa using hfit) (by simpa using h)
end

section
variable {α : Type} {emb : α → Dat} {tl : List (Addr × Obj)} {vs : List Value} {ps : List α}
theorem dat_len (h : DatAll tl vs (ps.map emb)) : vs.length = ps.length := by simpa using h.length
theorem dat_get (h : DatAll tl vs (ps.map emb)) {k : Nat} (hk : k < ps.length) : ∃ v, vs[k]? = some v ∧ DatIn tl v (emb ps[k]) := by
  obtain ⟨v, h1, h2⟩ := h.get (k := k) (by simpa using hk)
  exact ⟨v, h1, by simpa using h2⟩
theorem dat_set0 {v : Value} {d : Dat} (hv : DatIn tl v d) : ∀ {vs : List Value} {ds : List Dat}, DatAll tl vs ds → ∀ k : Nat, DatAll tl (vs.set k v) (ds.set k d)
  | _, _, .nil, _ => .nil
  | _, _, .cons _ r, 0 => .cons hv r
  | _, _, .cons h r, k + 1 => .cons h (dat_set0 hv r k)
theorem dat_set {v : Value} {x : α} (h : DatAll tl vs (ps.map emb)) (hv : DatIn tl v (emb x)) (k : Nat) : DatAll tl (vs.set k v) ((ps.set k x).map emb) := by
  rw [List.map_set]; exact dat_set0 hv h k
theorem dat_snoc {v : Value} {x : α} (h : DatAll tl vs (ps.map emb)) (hv : DatIn tl v (emb x)) : DatAll tl (vs ++ [v]) ((ps ++ [x]).map emb) := by
  rw [List.map_append]; exact DatAll.append h (.cons hv .nil)
end

theorem dat_at {α : Type} {emb : α → Dat} {ps : List α} {k : Nat} {d : Dat} (h : (ps.map emb)[k]? = some d) : ∃ x, ps[k]? = some x ∧ d = emb x := by
  rw [List.getElem?_map] at h
  obtain ⟨x, hx, rfl⟩ := Option.map_eq_some_iff.mp h
  exact ⟨x, hx, rfl⟩
theorem h_sub {prog : Program} {w : World} {A : Around} {E : Value → Shared → Prop} {s : Shared} {h₀ : Heap} {L l : Addr} {news tl : List (Addr × Obj)} {vs : List Value} {n : Nat} {α : Type} {emb : α → Dat} {ps : List α} {value slice : PySem.Expr} {k : Int} {u : Tok} {x : α} {Q : Value → Shared → Prop}
    (N : News h₀ L s.heap news) (hm : (l, listOf vs.toArray n) ∈ news) (hD : DatAll tl vs (ps.map emb)) (h0 : 0 ≤ k) (hfit : k < 2 ^ 63) (hx : ps[k.toNat]? = some x) (h : ∀ v, DatIn tl v (emb x) → Q v s)
    (hs : subscripted slice false (.ref l) (.int k u) = operate [.ref l, .int k u] (getItem (.ref l) (.int k u)) := by with_unfolding_all rfl) :
    wpAny (model prog w) A (subscriptTail value slice (.ref l) (.int k u)) Q E s := by
  have hk : k.toNat < ps.length := (List.getElem?_eq_some_iff.mp hx).1
  obtain ⟨v, hv, hd⟩ := dat_get hD hk
  have e : ps[k.toNat] = x := (List.getElem?_eq_some_iff.mp hx).2
  exact tail_any (h_isList N hm).typeIs slot_list_getitem.lookup (wpAny_getItem_list (h_isList N hm) h0 hfit (by simpa using hv) (h v (e ▸ hd))) hs
/-- the loop of siftdown and the store behind it -/
def sd {α : Type} (lt : α → α → Bool) (x : α) (ps : List α) (pos : Nat) : List α :=
  if _ : 0 < pos then
    match ps[(pos - 1) / 2]? with
    | some p => if lt x p then sd lt x (ps.set pos p) ((pos - 1) / 2) else ps.set pos x
    | none => ps
  else ps.set pos x
termination_by pos
decreasing_by omega
def sdown {α : Type} (lt : α → α → Bool) (ps : List α) (pos : Nat) : List α :=
  match ps[pos]? with
  | some x => sd lt x ps pos
  | none => ps
theorem sd_len {α : Type} (lt : α → α → Bool) (x : α) (ps : List α) (pos : Nat) : (sd lt x ps pos).length = ps.length := by
  induction pos using Nat.strongRecOn generalizing ps with
  | ind pos ih =>
    unfold sd
    split
    · split
      · split
        · rw [ih _ (by omega)]; simp
        · simp
      · rfl
    · simp
section
variable {prog : Program} {w : World} {A : Around} {E : Value → Shared → Prop} {s : Shared} {h₀ : Heap} {L l : Addr} {m : Str → Option Value} {news tl : List (Addr × Obj)} {vs : List Value} {n : Nat} {α : Type} {emb : α → Dat} {ps : List α}
theorem h_lenD {Q : Value → Shared → Prop} (N : News h₀ L s.heap news) (hm : (l, listOf vs.toArray n) ∈ news) (hD : DatAll tl vs (ps.map emb)) (hfit : (ps.length : Int) < 2 ^ 63)
    (h : Q (.int ps.length (s.toks + 1)) { s with toks := s.toks + 1 + 1 }) : wpAny (model prog w) A (call (.builtin "len") [.ref l]) Q E s := by
  have e := dat_len hD
  exact h_len N hm (by omega) (by rw [e]; exact h)
theorem h_truthyD {b : Bool} {Q : Bool → Shared → Prop} (N : News h₀ L s.heap news) (hm : (l, listOf vs.toArray n) ∈ news) (hD : DatAll tl vs (ps.map emb)) (hfit : (ps.length : Int) < 2 ^ 63) (hb : (!ps.isEmpty) = b)
    (h : Q b { s with toks := s.toks + 1 + 1 }) : wpAny (model prog w) A (truthy (.ref l)) Q E s := by
  have e := dat_len hD
  refine h_truthy N hm (by omega) ?_
  have e2 : vs.isEmpty = ps.isEmpty := by cases vs <;> cases ps <;> simp_all
  rw [e2, hb]; exact h
end

section
variable {prog : Program} {w : World} {M : Model} {A : Around} {E : Value → Shared → Prop} {s : Shared} {env : Env} {g : Heap} {m : Str → Option Value} {nw : List (Addr × Obj)}
theorem nm_local {x : Str} {pos : Pos} {v : Value} {Q : Value → Shared → Prop} (F : Fr g env.locals s.heap m) (hv : m x = some v) (h : Q v s)
    (hk : env.scope.kind = .function := by rfl) (hl : env.kindOf x = some .local := by rfl) (hd : (x == ("__debug__" : Str)) = false := by decide) : wpAny M A (eval (.Name x pos) env) Q E s :=
  wpAny_Name (wpAny_loadName_local hk hl F.ns hv h) hd
theorem nm_cell {x : Str} {pos : Pos} {v : Value} {c : Addr} {o : Obj} {Q : Value → Shared → Prop} (N : News g env.locals s.heap nw) (hm : (c, o) ∈ nw) (ho : o.data = .cell (some v)) (hc : env.cells.lookup x = some c) (h : Q v s)
    (hk : env.scope.kind = .function := by rfl) (hl : env.kindOf x = some .cell := by rfl) (hd : (x == ("__debug__" : Str)) = false := by decide) : wpAny M A (eval (.Name x pos) env) Q E s :=
  wpAny_Name (wpAny_loadName_cell hk hl hc ⟨o, N.get hm, ho⟩ h) hd
theorem st_local {x : Str} {v : Value} {Q : Unit → Shared → Prop} (F : Fr g env.locals s.heap m) (N : News g env.locals s.heap nw)
    (h : ∀ h', Fr g env.locals h' (fun y => if y = x then some v else m y) → News g env.locals h' nw → Q () { s with heap := h', toks := s.toks + 1 })
    (hk : env.scope.kind = .function := by rfl) (hl : env.kindOf x = some .local := by rfl) : wpAny M A (storeName env x v) Q E s :=
  wpAny_storeName_local hl F.ns (fun h' hn hs => h h' (F.set hn hs) (N.set hs)) (by show (env.scope.kind == .class || (env.scope.kind == .module && env.locals != env.globals)) = false; rw [hk]; rfl)

theorem assign3 {x1 x2 x3 : Str} {p1 p2 p3 pos : Pos} {k : Nat} {t : Addr} {v1 v2 v3 : Value} {Q : Unit → Shared → Prop} (hA : A.handled = none) (F : Fr g env.locals s.heap m) (N : News g env.locals s.heap nw) (ht : IsTup s.heap t #[v1, v2, v3])
    (h : ∀ h' tk, Fr g env.locals h' (fun y => if y = x3 then some v3 else if y = x2 then some v2 else if y = x1 then some v1 else m y) → News g env.locals h' nw → Q () { s with heap := h', toks := tk })
    (hk : env.scope.kind = .function := by rfl) (h1 : env.kindOf x1 = some .local := by rfl) (h2 : env.kindOf x2 = some .local := by rfl) (h3 : env.kindOf x3 = some .local := by rfl) :
    wpAny (model prog w) A (assign (.Tuple [.Name x1 p1, .Name x2 p2, .Name x3 p3] k pos) env (.ref t)) Q E s := by
  refine assign_Tuple_tuple hA ht rfl rfl fun h0 he => ?_
  have F0 := F.extBut he (Nat.le_refl _)
  have N0 := N.extBut he (Nat.le_refl _)
  refine assignInOrder_cons (wpAny_assign_Name (st_local F0 N0 (fun h1 F1 N1 => ?_) hk h1))
  refine assignInOrder_cons (wpAny_assign_Name (st_local F1 N1 (fun h2 F2 N2 => ?_) hk h2))
  refine assignInOrder_cons (wpAny_assign_Name (st_local F2 N2 (fun h3 F3 N3 => ?_) hk h3))
  exact assignInOrder_nil (h _ _ F3 N3)
theorem assign2 {x1 x2 : Str} {p1 p2 pos : Pos} {k : Nat} {t : Addr} {v1 v2 : Value} {Q : Unit → Shared → Prop} (hA : A.handled = none) (F : Fr g env.locals s.heap m) (N : News g env.locals s.heap nw) (ht : IsTup s.heap t #[v1, v2])
    (h : ∀ h' tk, Fr g env.locals h' (fun y => if y = x2 then some v2 else if y = x1 then some v1 else m y) → News g env.locals h' nw → Q () { s with heap := h', toks := tk })
    (hk : env.scope.kind = .function := by rfl) (h1 : env.kindOf x1 = some .local := by rfl) (h2 : env.kindOf x2 = some .local := by rfl) :
    wpAny (model prog w) A (assign (.Tuple [.Name x1 p1, .Name x2 p2] k pos) env (.ref t)) Q E s := by
  refine assign_Tuple_tuple hA ht rfl rfl fun h0 he => ?_
  have F0 := F.extBut he (Nat.le_refl _)
  have N0 := N.extBut he (Nat.le_refl _)
  refine assignInOrder_cons (wpAny_assign_Name (st_local F0 N0 (fun h1 F1 N1 => ?_) hk h1))
  refine assignInOrder_cons (wpAny_assign_Name (st_local F1 N1 (fun h2 F2 N2 => ?_) hk h2))
  exact assignInOrder_nil (h _ _ F2 N2)
end

section
variable {prog : Program} {w : World} {A : Around} {E : Value → Shared → Prop} {s : Shared} {h₀ : Heap} {L l : Addr} {m : Str → Option Value} {tl : List (Addr × Obj)} {vs : List Value} {n : Nat}
theorem h_setM (pre : List (Addr × Obj)) {k : Int} {t : Tok} {v : Value} {Q : Unit → Shared → Prop} (F : Fr h₀ L s.heap m) (N : News h₀ L s.heap (pre ++ (l, listOf vs.toArray n) :: tl)) (hp : ∀ p ∈ pre, p.1 ≠ l) (hl : ∀ p ∈ tl, p.1 ≠ l)
    (h0 : 0 ≤ k) (hfit : k < 2 ^ 63) (hk : k < vs.length)
    (h : ∀ h', Fr h₀ L h' m → News h₀ L h' (pre ++ (l, listOf (vs.set k.toNat v).toArray n) :: tl) → Q () { s with heap := h' }) :
    wpAny (model prog w) A (setItem (.ref l) (.int k t) v) Q E s := by
  have z := N (l, listOf vs.toArray n) (List.mem_append.mpr (.inr (.head _)))
  refine ki_setAt z.1 h0 hfit (by simpa using hk) (h _ (F.change (Heap.SameBut.update ..) z.2.1 z.2.2) (ki_turn _ N hp hl ?_ ?_))
  · show vs.toArray.setIfInBounds k.toNat v = (vs.set k.toNat v).toArray
    apply Array.toList_inj.mp
    simp
  · simp
theorem h_appendM (pre : List (Addr × Obj)) {v : Value} {Q : Value → Shared → Prop} (F : Fr h₀ L s.heap m) (N : News h₀ L s.heap (pre ++ (l, listOf vs.toArray n) :: tl)) (hp : ∀ p ∈ pre, p.1 ≠ l) (hl : ∀ p ∈ tl, p.1 ≠ l) (hz : vs.length ≤ sizeLine)
    (h : ∀ h', Fr h₀ L h' m → News h₀ L h' (pre ++ (l, listOf (vs ++ [v]).toArray (n + 1)) :: tl) → Q .none { s with heap := h' }) :
    wpAny (model prog w) A (call (.builtin "list.append") [.ref l, v]) Q E s := by
  have z := N (l, listOf vs.toArray n) (List.mem_append.mpr (.inr (.head _)))
  refine append_at (hsz := by simpa using hz) z.1 fun h' hs ho' => h h' (F.change hs z.2.1 z.2.2) (news_set N hp hl hs ?_)
  simpa using ho'
end

theorem tup_sub {prog : Program} {w : World} {A : Around} {E : Value → Shared → Prop} {s : Shared} {h₀ : Heap} {L a : Addr} {news : List (Addr × Obj)} {items : List Value} {n j : Nat} {value slice : PySem.Expr} {k : Int} {u : Tok} {v : Value} {Q : Value → Shared → Prop}
    (N : News h₀ L s.heap news) (hm : (a, ({ cls := .type "tuple", data := .seq items.toArray n } : Obj)) ∈ news) (hlo : -(2 ^ 63) ≤ k) (hhi : k < 2 ^ 63) (hj : seqIndex? k items.length = some j) (hx : items[j]? = some v) (h : Q v s)
    (hs : subscripted slice false (.ref a) (.int k u) = operate [.ref a, .int k u] (getItem (.ref a) (.int k u)) := by with_unfolding_all rfl) :
    wpAny (model prog w) A (subscriptTail value slice (.ref a) (.int k u)) Q E s :=
  have ht : IsTup s.heap a items.toArray := News.isTup N hm
  tail_any ht.typeIs slot_tuple_getitem.lookup (getItem_tuple ht hlo hhi (by simpa using hj) (by simpa using hx) h) hs

section
variable {prog : Program} {w : World} {A : Around} {E : Value → Shared → Prop} {s : Shared} {g h₀ : Heap} {L a b c : Addr} {env : Env} {m : Str → Option Value} {news tl n₁ n₂ : List (Addr × Obj)}
theorem st_cell {M : Model} (pre : List (Addr × Obj)) {x : Str} {v : Value} {o : Obj} {v₀ : Option Value} {Q : Unit → Shared → Prop} (F : Fr g env.locals s.heap m) (N : News g env.locals s.heap (pre ++ (c, o) :: tl)) (hp : ∀ p ∈ pre, p.1 ≠ c) (hl : ∀ p ∈ tl, p.1 ≠ c)
    (hc : env.cells.lookup x = some c) (hd : o.data = .cell v₀) (h : ∀ h' o', Fr g env.locals h' m → News g env.locals h' (pre ++ (c, o') :: tl) → o'.data = .cell (some v) → Q () { s with heap := h' })
    (hk : env.scope.kind = .function := by rfl) (hx : env.kindOf x = some .cell := by rfl) : wpAny M A (storeName env x v) Q E s := by
  have z := N (c, o) (List.mem_append.mpr (.inr (.head _)))
  refine wpAny_storeName_cell hk hx hc ⟨o, z.1, hd⟩ fun h' hv hs => ?_
  obtain ⟨o', ho', hd'⟩ := hv
  exact h h' o' (F.change hs z.2.1 z.2.2) (news_set N hp hl hs ho') hd'
theorem of_allLt {d : Addr} {l : List (Addr × Obj)} (h : AllLt d l) : ∀ p ∈ l, p.1 < d := by
  induction l with
  | nil => intro p hp; cases hp
  | cons q r ih =>
    intro p hp
    rcases List.mem_cons.mp hp with rfl | hp
    · exact h.1
    · exact ih h.2 p hp
open Classical in
theorem h_ne {xs ys : List Value} {ka kb : Nat} {ds es : List Dat} {t : Bool} {Q : Value → Shared → Prop} (N : News h₀ L s.heap news) (ma : (a, listOf xs.toArray ka) ∈ news) (Da : DatAll n₁ xs ds) (sa : ∀ p ∈ n₁, p ∈ news)
    (mb : (b, listOf ys.toArray kb) ∈ news) (Db : DatAll n₂ ys es) (sb : ∀ p ∈ n₂, p ∈ news)
    (ha : ∀ d ∈ ds, kqdOk 8 d = true) (hb : ∀ d ∈ es, kqdOk 8 d = true) (hu : A.units + 64 < cLine) (ht : ds = es ↔ t = false) (h : Q (.bool t) s) : wpAny (model prog w) A (compareOp .NotEq (.ref a) (.ref b)) Q E s := by
  refine kqd_ne N ma rfl rfl Da sa mb rfl rfl Db sb ha hb hu ?_
  cases t with
  | true => rw [decide_eq_false (fun e => by have := ht.mp e; cases this)]; exact h
  | false => rw [decide_eq_true (ht.mpr rfl)]; exact h
open Classical in
theorem h_eq {xs ys : List Value} {ka kb : Nat} {ds es : List Dat} {t : Bool} {Q : Value → Shared → Prop} (N : News h₀ L s.heap news) (ma : (a, listOf xs.toArray ka) ∈ news) (Da : DatAll n₁ xs ds) (sa : ∀ p ∈ n₁, p ∈ news)
    (mb : (b, listOf ys.toArray kb) ∈ news) (Db : DatAll n₂ ys es) (sb : ∀ p ∈ n₂, p ∈ news)
    (ha : ∀ d ∈ ds, kqdOk 8 d = true) (hb : ∀ d ∈ es, kqdOk 8 d = true) (hu : A.units + 64 < cLine) (ht : ds = es ↔ t = true) (h : Q (.bool t) s) : wpAny (model prog w) A (compareOp .Eq (.ref a) (.ref b)) Q E s := by
  refine kqd_eq N ma rfl rfl Da sa mb rfl rfl Db sb ha hb hu ?_
  cases t with
  | true => rw [decide_eq_true (ht.mpr rfl)]; exact h
  | false => rw [decide_eq_false (fun e => by have := ht.mp e; cases this)]; exact h
end

local macro_rules | `(tactic| walk_at "CELLIN") => `(tactic| first | assumption | exact List.Mem.head _ | (refine List.Mem.tail _ ?_; walk_at "CELLIN"))
local macro_rules | `(tactic| walk_at "exec While Compare cons nil") => `(tactic| refine hold ?_)
local macro_rules | `(tactic| walk_at "subscriptTail Name Name ref int") => `(tactic| refine hold ?_)
local macro_rules | `(tactic| walk_at "compareOp Lt") => `(tactic| refine hold ?_)
local macro_rules | `(tactic| walk_at "setItem ref int") => `(tactic| refine hold ?_)
local macro_rules | `(tactic| walk_at "PINS") => `(tactic| repeat (first | exact List.forall_mem_nil _ | refine List.forall_mem_cons.mpr ⟨by first | rfl | assumption, ?_⟩))
local macro_rules | `(tactic| walk_at "call builtin:len cons nil") => `(tactic| refine hold ?_)
local macro_rules | `(tactic| walk_at "call builtin:list.append cons nil") => `(tactic| refine hold ?_)
local macro_rules | `(tactic| walk_at "call builtin:list.pop cons nil") => `(tactic| refine hold ?_)
local macro_rules | `(tactic| walk_at "call ref cons nil") => `(tactic| refine hold ?_)
local macro_rules | `(tactic| walk_at "truthy ref") => `(tactic| refine hold ?_)
local macro_rules | `(tactic| walk_at "subscriptTail Name Constant ref int") => `(tactic| refine hold ?_)
local macro_rules | `(tactic| walk_at "eval ListComp") => `(tactic| refine hold ?_)
local macro_rules | `(tactic| walk_at "eval Name") => `(tactic| (k_dflt (refine' nm_cell ?k1 ?k2 ?k3 ?k4 ?_; (case k4 => exact rfl); (case k1 => k_asm); (case k2 => walk_at "CELLIN"); (case k3 => assumption))))
local macro_rules | `(tactic| walk_at "eval Name") => `(tactic| (k_dflt (refine' nm_local ?k1 ?k2 ?_; (case k1 => k_asm); (case k2 => exact rfl))))
local macro_rules | `(tactic| walk_at "exec While BoolOp cons nil") => `(tactic| refine hold ?_)
local macro_rules | `(tactic| walk_at "exec For Tuple Name cons nil") => `(tactic| refine hold ?_)
local macro_rules | `(tactic| walk_at "exec For Name Call cons nil") => `(tactic| refine hold ?_)
local macro_rules | `(tactic| walk_at "pyIter ref") => `(tactic| refine hold ?_)
local macro_rules | `(tactic| walk_at "compareOp NotEq ref ref") => `(tactic| refine hold ?_)
local macro_rules | `(tactic| walk_at "compareOp Eq ref ref") => `(tactic| refine hold ?_)
local macro_rules | `(tactic| walk_at "subscriptTail") => `(tactic| refine hold ?_)
local macro_rules | `(tactic| walk_at "exec Assign cons ListComp") => `(tactic| refine hold ?_)
local macro_rules | `(tactic| walk_at "call builtin:sorted cons nil") => `(tactic| refine hold ?_)
local macro_rules | `(tactic| walk_at "call builtin:max cons nil") => `(tactic| refine hold ?_)
local macro_rules | `(tactic| walk_at "binaryOp Add ref ref") => `(tactic| refine hold ?_)
local macro_rules | `(tactic| walk_at "call type:list cons nil") => `(tactic| refine hold ?_)
local macro_rules | `(tactic| walk_at "exec For Tuple Call cons nil") => `(tactic| refine hold ?_)
local macro_rules | `(tactic| walk_at "subscriptTail Name Slice ref ref") => `(tactic| refine hold ?_)
local macro_rules | `(tactic| walk_at "call type:enumerate cons nil") => `(tactic| refine hold ?_)
local macro_rules | `(tactic| walk_at "call type:zip cons cons nil") => `(tactic| refine hold ?_)
theorem half_int {k : Nat} (hk : 0 < k) : ((k : Int) - 1).fdiv (2 ^ Int.toNat 1) = (((k - 1) / 2 : Nat) : Int) := by
  have e : (2 : Int) ^ Int.toNat 1 = 2 := rfl
  rw [e, Int.fdiv_eq_ediv_of_nonneg _ (by omega)]
  omega

section
variable {w : World} {A : Around} {h₀ : Heap} {L l : Addr} {m : Str → Option Value} {s : Shared} {tl TT : List (Addr × Obj)} {vs : List Value} {n : Nat} {α : Type} {ps : List α}
theorem sdown_spec (I : Item w α) {pos : Nat} {t0 t1 : Tok} {Q : Value → Shared → Prop} {E : Value → Shared → Prop}
    (hA : A.handled = none) (hdp : A.depth + 5 < recursionLimit) (hu : A.units + 50 < cLine)
    (G : Gd w h₀) (F : Fr h₀ L s.heap m) (N : News h₀ L s.heap ((l, listOf vs.toArray n) :: tl)) (hl : ∀ p ∈ tl, p.1 ≠ l) (hTT : ∀ p ∈ TT, p ∈ tl)
    (hD : DatAll TT vs (ps.map I.emb)) (hpos : pos < ps.length) (hlen : ps.length ≤ 1000)
    (ret : ∀ h' tk (vs' : List Value), Fr h₀ L h' m → News h₀ L h' ((l, listOf vs'.toArray n) :: tl) → DatAll TT vs' ((sdown I.lt ps pos).map I.emb) → Q .none {s with heap := h', toks := tk}) :
    wpAny (model Challenge.rw_ir0003_01.row.prog w) A (call (.ref 35) [.ref l, .int 0 t0, .int pos t1]) Q E s := by
  obtain ⟨hn, dp, fr, gd, un⟩ := A
  obtain rfl : hn = none := hA
  obtain ⟨X, loose, mean, mg, mb, T⟩ := G
  have hh : Challenge.rw_ir0003_01.Holds → (hd.heap_39 w.params).In h₀ → True := fun _ _ => trivial
  revert hh
  k_fill
  intro hh
  refine wpAny_call ?_
  refine enter F X N T (by k_is) (by k_is) (by (try dsimp only at hdp ⊢); omega) (binds := [(Str.ofString "heap", .ref l), (Str.ofString "startpos", .int 0 t0), (Str.ofString "pos", .int pos t1)]) (BindsTo.of_eq rfl) (locs rfl) ?_ rfl rfl rfl (by decide)
  intro g L' h' st F' N' X' T' hlt
  try dsimp only
  k_steps
  refine Hold.mk ?_
  obtain ⟨x, hx⟩ : ∃ x, ps[pos]? = some x := ⟨_, List.getElem?_eq_getElem hpos⟩
  refine h_sub N' (.head _) hD (k := (pos : Int)) (by omega) (by omega) hx ?_
  intro v hv
  k_steps
  rename_i h1 F1 N1
  refine Hold.mk ?_
  refine my_while (fun k s' => ∃ (h' : Heap) (tk p : Nat) (t : Tok) (vs' : List Value) (ps' : List α) (u : Str → Option Value), s' = { heap := h', gens := s.gens, drawn := s.drawn, toks := tk, os := s.os } ∧
    Fr g L' h' (fm [(Str.ofString "heap", .ref l), (Str.ofString "startpos", .int 0 t0), (Str.ofString "pos", .int (p : Nat) t), (Str.ofString "newitem", v)] u) ∧
    News g L' h' ((l, W.listOf vs'.toArray n) :: tl) ∧ DatAll TT vs' (ps'.map I.emb) ∧ p < ps'.length ∧ ps'.length = ps.length ∧ sd I.lt x ps' p = sdown I.lt ps pos ∧ k = p) ?_ pos
    ⟨h1, tk + 1, pos, t1, vs, ps, _, rfl, fr_pin F1 _ (List.forall_mem_cons.mpr ⟨rfl, List.forall_mem_cons.mpr ⟨rfl, List.forall_mem_cons.mpr ⟨rfl, List.forall_mem_cons.mpr ⟨rfl, List.forall_mem_nil _⟩⟩⟩⟩), N1, hD, hpos, rfl, by simp [sdown, hx], rfl⟩
  clear F1 N1
  rintro k s' ⟨h2, tk2, p, t, vs2, ps2, u, rfl, F2, N2, hD2, hp2, hl2, hs2, rfl⟩
  k_steps
  · rename_i hk h3 F3 N3
    refine Hold.mk ?_
    have hpar : ((k : Int) - 1).fdiv (2 ^ Int.toNat 1) = (((k - 1) / 2 : Nat) : Int) := half_int (by omega)
    obtain ⟨y, hy⟩ : ∃ y, ps2[(k - 1) / 2]? = some y := ⟨_, List.getElem?_eq_getElem (by omega)⟩
    refine h_sub N3 (.head _) hD2 (by rw [hpar]; omega) (by rw [hpar]; omega) (x := y) (by rw [hpar, Int.toNat_natCast]; exact hy) ?_
    intro v2 hv2
    k_steps
    rename_i h4 F4 N4
    refine Hold.mk ?_
    refine I.cmp (by show un + 3 < cLine; dsimp only at hu; omega) N4 (DatIn.mono (fun _ h => .tail _ (hTT _ h)) hv) (DatIn.mono (fun _ h => .tail _ (hTT _ h)) hv2) ?_
    k_steps
    · rename_i hlt1
      refine Hold.mk ?_
      refine h_set F4 N4 hl (by omega) (by omega) (by have := dat_len hD2; omega) ?_
      intro h5 F5 N5
      dsimp only
      k_steps
      rename_i h6 F6 N6
      refine Hold.mk ⟨(k - 1) / 2, by omega, _, _, (k - 1) / 2, _, _, ps2.set k y, _, rfl,
        fr_pin F6 _ (List.forall_mem_cons.mpr ⟨rfl, List.forall_mem_cons.mpr ⟨rfl, List.forall_mem_cons.mpr ⟨congrArg (fun z => some (Value.int z _)) hpar, List.forall_mem_cons.mpr ⟨rfl, List.forall_mem_nil _⟩⟩⟩⟩),
        N6, dat_set hD2 hv2 k, by simp; omega, by simp; omega, ?_, rfl⟩
      rw [← hs2]
      conv => rhs; unfold sd
      simp [show 0 < k by omega, hy, hlt1]
    · rename_i hlt1
      refine Hold.mk ?_
      refine h_set F4 N4 hl (by omega) (by omega) (by have := dat_len hD2; omega) ?_
      intro h5 F5 N5
      dsimp only
      k_steps
      refine ret _ _ _ (by assumption) (by assumption) ?_
      have e : sdown I.lt ps pos = ps2.set k x := by
        rw [← hs2]; unfold sd
        simp [show 0 < k by omega, hy, hlt1]
      rw [e]
      exact dat_set hD2 hv k
  · rename_i hk
    have hk0 : k = 0 := by omega
    subst hk0
    refine Hold.mk ?_
    refine h_set F2 N2 hl (by omega) (by omega) (by have := dat_len hD2; omega) ?_
    intro h3 F3 N3
    dsimp only
    k_steps
    refine ret _ _ _ (by assumption) (by assumption) ?_
    have e : sdown I.lt ps pos = ps2.set 0 x := by rw [← hs2]; unfold sd; simp
    rw [e]
    exact dat_set hD2 hv 0
end

/-- the child that siftup moves up -/
def pick {α : Type} (lt : α → α → Bool) (ps : List α) (pos : Nat) : Nat :=
  match ps[2 * pos + 1]?, ps[2 * pos + 2]? with
  | some a, some b => if lt a b then 2 * pos + 1 else 2 * pos + 2
  | _, _ => 2 * pos + 1
theorem pick_gt {α : Type} (lt : α → α → Bool) (ps : List α) (pos : Nat) : pos < pick lt ps pos := by
  unfold pick; split
  · split <;> omega
  · omega
theorem pick_lt {α : Type} (lt : α → α → Bool) (ps : List α) (pos : Nat) (h : 2 * pos + 1 < ps.length) : pick lt ps pos < ps.length := by
  unfold pick; split
  · rename_i a b h1 h2
    have := (List.getElem?_eq_some_iff.mp h2).1
    split <;> omega
  · exact h
/-- siftup's loop: where the hole goes -/
def su {α : Type} (lt : α → α → Bool) (ps : List α) (pos : Nat) : List α × Nat :=
  if h : 2 * pos + 1 < ps.length then su lt (ps.set pos (ps[pick lt ps pos]'(pick_lt lt ps pos h))) (pick lt ps pos)
  else (ps, pos)
termination_by ps.length - pos
decreasing_by
  have := pick_gt lt ps pos
  have := pick_lt lt ps pos h
  simp only [List.length_set]; omega
def sup {α : Type} (lt : α → α → Bool) (ps : List α) : List α :=
  match ps with
  | [] => []
  | x :: _ => sd lt x ((su lt ps 0).1.set (su lt ps 0).2 x) (su lt ps 0).2

section
variable {w : World} {A : Around} {h₀ : Heap} {L l : Addr} {m : Str → Option Value} {s : Shared} {tl TT : List (Addr × Obj)} {vs : List Value} {n : Nat} {α : Type} {ps : List α}
theorem sup_spec (I : Item w α) {t0 : Tok} {Q : Value → Shared → Prop} {E : Value → Shared → Prop}
    (hA : A.handled = none) (hdp : A.depth + 10 < recursionLimit) (hu : A.units + 60 < cLine)
    (G : Gd w h₀) (F : Fr h₀ L s.heap m) (N : News h₀ L s.heap ((l, listOf vs.toArray n) :: tl)) (hl : ∀ p ∈ tl, p.1 ≠ l) (hTT : ∀ p ∈ TT, p ∈ tl)
    (hD : DatAll TT vs (ps.map I.emb)) (hpos : 0 < ps.length) (hlen : ps.length ≤ 1000)
    (ret : ∀ h' tk (vs' : List Value), Fr h₀ L h' m → News h₀ L h' ((l, listOf vs'.toArray n) :: tl) → DatAll TT vs' ((sup I.lt ps).map I.emb) → Q .none {s with heap := h', toks := tk}) :
    wpAny (model Challenge.rw_ir0003_01.row.prog w) A (call (.ref 42) [.ref l, .int 0 t0]) Q E s := by
  obtain ⟨hn, dp, fr, gd, un⟩ := A
  obtain rfl : hn = none := hA
  have G0 := G
  obtain ⟨X, loose, mean, mg, mb, T⟩ := G
  have hh : Challenge.rw_ir0003_01.Holds → (hd.heap_39 w.params).In h₀ → True := fun _ _ => trivial
  revert hh
  k_fill
  intro hh
  refine wpAny_call ?_
  refine enter F X N T (by k_is) (by k_is) (by (try dsimp only at hdp ⊢); omega) (binds := [(Str.ofString "heap", .ref l), (Str.ofString "pos", .int 0 t0)]) (BindsTo.of_eq rfl) (locs rfl) ?_ rfl rfl rfl (by decide)
  intro g L' h' st F' N' X' T' hlt
  try dsimp only
  k_steps
  refine Hold.mk ?_
  have hvl := dat_len hD
  refine h_lenD N' (.head _) hD (by omega) ?_
  k_steps
  rename_i h1 F1 N1
  refine Hold.mk ?_
  obtain ⟨x, hx⟩ : ∃ x, ps[0]? = some x := ⟨_, List.getElem?_eq_getElem hpos⟩
  refine h_sub N1 (.head _) hD (k := (0 : Int)) (by omega) (by omega) hx ?_
  intro v hv
  k_steps
  rename_i h2 F2 N2
  refine Hold.mk ?_
  refine my_while (fun k s' => ∃ (h' : Heap) (tk p : Nat) (t : Tok) (t2 : Tok) (t3 : Tok) (vs' : List Value) (ps' : List α) (u : Str → Option Value), s' = { heap := h', gens := s.gens, drawn := s.drawn, toks := tk, os := s.os } ∧
    Fr g L' h' (fm [(Str.ofString "heap", .ref l), (Str.ofString "startpos", .int 0 t0), (Str.ofString "pos", .int (p : Nat) t), (Str.ofString "newitem", v), (Str.ofString "childpos", .int (2 * (p : Int) + 1) t2), (Str.ofString "endpos", .int ps.length t3)] u) ∧
    News g L' h' ((l, W.listOf vs'.toArray n) :: tl) ∧ DatAll TT vs' (ps'.map I.emb) ∧ p < ps'.length ∧ ps'.length = ps.length ∧ su I.lt ps' p = su I.lt ps 0 ∧ k = ps.length - p) ?_ (ps.length - 0)
    ⟨h2, _, 0, _, _, _, vs, ps, _, rfl, fr_pin F2 _ (by walk_at "PINS"), N2, hD, hpos, rfl, rfl, rfl⟩
  clear F2 N2
  rintro k s' ⟨h2, tk2, p, t, t2, t3, vs2, ps2, u, rfl, F2, N2, hD2, hp2, hl2, hs2, rfl⟩
  have hvl2 := dat_len hD2
  k_steps
  · rename_i hc1 h3 F3 N3 hc2
    obtain ⟨a, ha⟩ : ∃ a, ps2[2 * p + 1]? = some a := ⟨_, List.getElem?_eq_getElem (by omega)⟩
    obtain ⟨b, hb⟩ : ∃ b, ps2[2 * p + 2]? = some b := ⟨_, List.getElem?_eq_getElem (by omega)⟩
    refine Hold.mk ?_
    refine h_sub N3 (.head _) hD2 (by omega) (by omega) (x := a) (by rw [show (2 * (p : Int) + 1).toNat = 2 * p + 1 by omega]; exact ha) ?_
    intro va hva
    k_steps
    refine Hold.mk ?_
    refine h_sub (by assumption) (.head _) hD2 (by omega) (by omega) (x := b) (by rw [show (2 * (p : Int) + 1 + 1).toNat = 2 * p + 2 by omega]; exact hb) ?_
    intro vb hvb
    k_steps
    refine Hold.mk ?_
    refine I.cmp (by show un + 3 < cLine; dsimp only at hu; omega) (by assumption) (DatIn.mono (fun _ h => .tail _ (hTT _ h)) hva) (DatIn.mono (fun _ h => .tail _ (hTT _ h)) hvb) ?_
    k_steps
    · rename I.lt a b = true => hlt1
      refine Hold.mk ?_
      refine h_sub (by assumption) (.head _) hD2 (by omega) (by omega) (x := a) (by rw [show (2 * (p : Int) + 1).toNat = 2 * p + 1 by omega]; exact ha) ?_
      intro vc hvc
      k_steps
      refine Hold.mk ?_
      refine h_set (by assumption) (by assumption) hl (by omega) (by omega) (by omega) ?_
      intro h5 F5 N5
      dsimp only
      k_steps
      rename_i h6 F6 N6
      refine Hold.mk ⟨ps.length - (2 * p + 1), by omega, _, _, 2 * p + 1, _, _, _, _, ps2.set p a, _, rfl, fr_pin F6 _ (by walk_at "PINS"), N6, dat_set hD2 hvc p, by simp; omega, by simp; omega, ?_, rfl⟩
      rw [← hs2]
      have hp : pick I.lt ps2 p = 2 * p + 1 := by simp [pick, ha, hb, hlt1]
      conv => rhs; unfold su
      rw [dif_pos (by omega)]
      simp only [hp]
      congr 2
      exact (List.getElem?_eq_some_iff.mp ha).2.symm

    · rename I.lt a b = false => hlt1
      refine Hold.mk ?_
      refine h_sub (by assumption) (.head _) hD2 (by omega) (by omega) (x := b) (by rw [show (2 * (p : Int) + 1 + 1).toNat = 2 * p + 2 by omega]; exact hb) ?_
      intro vc hvc
      k_steps
      refine Hold.mk ?_
      refine h_set (by assumption) (by assumption) hl (by omega) (by omega) (by omega) ?_
      intro h5 F5 N5
      dsimp only
      k_steps
      rename_i h6 F6 N6
      refine Hold.mk ⟨ps.length - (2 * p + 2), by omega, _, _, 2 * p + 2, _, _, _, _, ps2.set p b, _, rfl, fr_pin F6 _ (by walk_at "PINS"), N6, dat_set hD2 hvc p, by simp; omega, by simp; omega, ?_, rfl⟩
      rw [← hs2]
      have hp : pick I.lt ps2 p = 2 * p + 2 := by simp [pick, ha, hb, hlt1]
      conv => rhs; unfold su
      rw [dif_pos (by omega)]
      simp only [hp]
      congr 2
      exact (List.getElem?_eq_some_iff.mp hb).2.symm

  · rename_i hc1 h3 F3 N3 hc2
    obtain ⟨a, ha⟩ : ∃ a, ps2[2 * p + 1]? = some a := ⟨_, List.getElem?_eq_getElem (by omega)⟩
    have hb : ps2[2 * p + 2]? = none := List.getElem?_eq_none (by omega)
    · refine Hold.mk ?_
      refine h_sub (by assumption) (.head _) hD2 (by omega) (by omega) (x := a) (by rw [show (2 * (p : Int) + 1).toNat = 2 * p + 1 by omega]; exact ha) ?_
      intro vc hvc
      k_steps
      refine Hold.mk ?_
      refine h_set (by assumption) (by assumption) hl (by omega) (by omega) (by omega) ?_
      intro h5 F5 N5
      dsimp only
      k_steps
      rename_i h6 F6 N6
      refine Hold.mk ⟨ps.length - (2 * p + 1), by omega, _, _, 2 * p + 1, _, _, _, _, ps2.set p a, _, rfl, fr_pin F6 _ (by walk_at "PINS"), N6, dat_set hD2 hvc p, by simp; omega, by simp; omega, ?_, rfl⟩
      rw [← hs2]
      have hp : pick I.lt ps2 p = 2 * p + 1 := by simp [pick, ha, hb]
      conv => rhs; unfold su
      rw [dif_pos (by omega)]
      simp only [hp]
      congr 2
      exact (List.getElem?_eq_some_iff.mp ha).2.symm

  · rename_i hc1
    refine Hold.mk ?_
    refine h_set F2 N2 hl (by omega) (by omega) (by omega) ?_
    intro h3 F3 N3
    dsimp only
    k_steps
    refine Hold.mk ?_
    refine sdown_spec I (ps := ps2.set p x) rfl (by show dp + 1 + 5 < recursionLimit; dsimp only at hdp; omega) (by show un + 3 + 50 < cLine; dsimp only at hu; omega) ⟨X', _, _, _, _, T'⟩ F3 N3 hl hTT (dat_set hD2 hv p) (by simpa using hp2) (by simp; omega) ?_
    intro h4 tk4 vs4 F4 N4 hD4
    k_steps
    refine ret _ _ _ (by assumption) (by assumption) ?_
    have e1 : su I.lt ps2 p = (ps2, p) := by unfold su; rw [dif_neg (by omega)]
    have e : sup I.lt ps = sdown I.lt (ps2.set p x) p := by
      unfold sup sdown
      have hx2 : (ps2.set p x)[p]? = some x := by simp [hp2]
      rw [hx2, ← hs2, e1]
      cases ps with
      | nil => simp at hpos
      | cons z zs => simp at hx; subst hx; rfl
    rw [e]
    exact hD4
end

def hpush {α : Type} (lt : α → α → Bool) (ps : List α) (x : α) : List α := sdown lt (ps ++ [x]) ps.length
def hpop {α : Type} (lt : α → α → Bool) (qs : List α) (z : α) : α × List α := match qs with
  | [] => (z, [])
  | q :: r => (q, sup lt (z :: r))

section
variable {w : World} {A : Around} {h₀ : Heap} {L l : Addr} {m : Str → Option Value} {s : Shared} {tl TT : List (Addr × Obj)} {vs : List Value} {n : Nat} {α : Type} {ps : List α}
theorem push_spec (I : Item w α) {v : Value} {x : α} {Q : Value → Shared → Prop} {E : Value → Shared → Prop}
    (hA : A.handled = none) (hdp : A.depth + 10 < recursionLimit) (hu : A.units + 60 < cLine)
    (G : Gd w h₀) (F : Fr h₀ L s.heap m) (N : News h₀ L s.heap ((l, listOf vs.toArray n) :: tl)) (hl : ∀ p ∈ tl, p.1 ≠ l) (hTT : ∀ p ∈ TT, p ∈ tl)
    (hD : DatAll TT vs (ps.map I.emb)) (hv : DatIn TT v (I.emb x)) (hlen : ps.length ≤ 900)
    (ret : ∀ h' tk (vs' : List Value) n', Fr h₀ L h' m → News h₀ L h' ((l, listOf vs'.toArray n') :: tl) → DatAll TT vs' ((hpush I.lt ps x).map I.emb) → Q .none {s with heap := h', toks := tk}) :
    wpAny (model Challenge.rw_ir0003_01.row.prog w) A (call (.ref 21) [.ref l, v]) Q E s := by
  obtain ⟨hn, dp, fr, gd, un⟩ := A
  obtain rfl : hn = none := hA
  obtain ⟨X, loose, mean, mg, mb, T⟩ := G
  have hh : Challenge.rw_ir0003_01.Holds → (hd.heap_39 w.params).In h₀ → True := fun _ _ => trivial
  revert hh
  k_fill
  intro hh
  refine wpAny_call ?_
  refine enter F X N T (by k_is) (by k_is) (by (try dsimp only at hdp ⊢); omega) (binds := [(Str.ofString "heap", .ref l), (Str.ofString "item", v)]) (BindsTo.of_eq rfl) (locs rfl) ?_ rfl rfl rfl (by decide)
  intro g L' h' st F' N' X' T' hlt
  try dsimp only
  have hvl := dat_len hD
  k_steps
  refine Hold.mk ?_
  refine h_append F' N' hl (by rw [sizeLine_eq]; omega) ?_
  intro h1 F1 N1
  have hD1 : DatAll TT (vs ++ [v]) ((ps ++ [x]).map I.emb) := dat_snoc hD hv
  k_steps
  refine Hold.mk ?_
  refine h_lenD N1 (.head _) hD1 (by simp; omega) ?_
  k_steps
  refine Hold.mk ?_
  rw [show (((ps ++ [x]).length : Nat) : Int) - 1 = ((ps.length : Nat) : Int) by simp]
  refine sdown_spec I (ps := ps ++ [x]) rfl (by show dp + 1 + 5 < recursionLimit; dsimp only at hdp; omega) (by show un + 3 + 50 < cLine; dsimp only at hu; omega) ⟨X', _, _, _, _, T'⟩ F1 N1 hl hTT hD1 (by simp) (by simp; omega) ?_
  intro h4 tk4 vs4 F4 N4 hD4
  k_steps
  exact ret _ _ _ _ (by assumption) (by assumption) hD4

theorem pop_spec (I : Item w α) {qs : List α} {z : α} {Q : Value → Shared → Prop} {E : Value → Shared → Prop}
    (hA : A.handled = none) (hdp : A.depth + 15 < recursionLimit) (hu : A.units + 70 < cLine)
    (G : Gd w h₀) (F : Fr h₀ L s.heap m) (N : News h₀ L s.heap ((l, listOf vs.toArray n) :: tl)) (hl : ∀ p ∈ tl, p.1 ≠ l) (hTT : ∀ p ∈ TT, p ∈ tl)
    (hD : DatAll TT vs ((qs ++ [z]).map I.emb)) (hlen : qs.length ≤ 900)
    (ret : ∀ h' tk v' (vs' : List Value) n', Fr h₀ L h' m → News h₀ L h' ((l, listOf vs'.toArray n') :: tl) → DatIn TT v' (I.emb (hpop I.lt qs z).1) → DatAll TT vs' ((hpop I.lt qs z).2.map I.emb) → Q v' {s with heap := h', toks := tk}) :
    wpAny (model Challenge.rw_ir0003_01.row.prog w) A (call (.ref 28) [.ref l]) Q E s := by
  obtain ⟨hn, dp, fr, gd, un⟩ := A
  obtain rfl : hn = none := hA
  obtain ⟨X, loose, mean, mg, mb, T⟩ := G
  have hh : Challenge.rw_ir0003_01.Holds → (hd.heap_39 w.params).In h₀ → True := fun _ _ => trivial
  revert hh
  k_fill
  intro hh
  rw [List.map_append] at hD
  obtain ⟨vq, v, rfl, hDq, hv⟩ : ∃ vq v, vs = vq ++ [v] ∧ DatAll TT vq (qs.map I.emb) ∧ DatIn TT v (I.emb z) := by
    rcases List.eq_nil_or_concat vs with rfl | ⟨vq, v, rfl⟩
    · have := hD.length; simp at this
    · obtain ⟨es, d, e, h1, h2⟩ := DatAll.snoc (by simpa using hD)
      have := List.append_inj' e rfl
      obtain ⟨rfl, e2⟩ := this
      simp at e2; subst e2
      exact ⟨vq, v, by simp, h1, h2⟩
  have hvl := dat_len hDq
  refine wpAny_call ?_
  refine enter F X N T (by k_is) (by k_is) (by (try dsimp only at hdp ⊢); omega) (binds := [(Str.ofString "heap", .ref l)]) (BindsTo.of_eq rfl) (locs rfl) ?_ rfl rfl rfl (by decide)
  intro g L' h' st F' N' X' T' hlt
  try dsimp only
  k_steps
  refine Hold.mk ?_
  refine h_pop F' N' hl (by rw [sizeLine_eq]; omega) ?_
  intro h1 F1 N1
  k_steps
  refine Hold.mk ?_
  cases qs with
  | nil =>
    refine h_truthyD (b := false) (by assumption) (.head _) hDq (by omega) rfl ?_
    k_steps
    exact ret _ _ _ _ _ (by assumption) (by assumption) hv hDq
  | cons q r =>
    refine h_truthyD (b := true) (by assumption) (.head _) hDq (by omega) rfl ?_
    k_steps
    refine Hold.mk ?_
    refine h_sub (by assumption) (.head _) hDq (k := (0 : Int)) (by omega) (by omega) (x := q) rfl ?_
    intro v0 hv0
    k_steps
    refine Hold.mk ?_
    refine h_set (by assumption) (by assumption) hl (by omega) (by omega) (by simp at hvl; omega) ?_
    intro h2 F2 N2
    dsimp only
    k_steps
    refine Hold.mk ?_
    refine sup_spec I (ps := z :: r) rfl (by show dp + 1 + 10 < recursionLimit; dsimp only at hdp; omega) (by show un + 3 + 60 < cLine; dsimp only at hu; omega) ⟨X', _, _, _, _, T'⟩ F2 N2 hl hTT (dat_set hDq hv 0) (by simp) (by simp at hlen ⊢; omega) ?_
    intro h4 tk4 vs4 F4 N4 hD4
    k_steps
    exact ret _ _ _ _ _ (by assumption) (by assumption) hv0 hD4
end

section heap
variable {α : Type} {lt : α → α → Bool}
/-- what the order must give -/
structure Ordr (lt : α → α → Bool) : Prop where
  asym : ∀ a b, lt a b = true → lt b a = false
  trans : ∀ a b c, lt b a = false → lt c b = false → lt c a = false
theorem Ordr.refl (O : Ordr lt) (a : α) : lt a a = false := by
  cases h : lt a a with
  | false => rfl
  | true => have := O.asym _ _ h; rw [h] at this; exact this

def IsHeap (lt : α → α → Bool) (ps : List α) : Prop := ∀ i a b, 0 < i → ps[i]? = some a → ps[(i - 1) / 2]? = some b → lt a b = false
def But (lt : α → α → Bool) (ps : List α) (pos : Nat) : Prop := ∀ i a b, 0 < i → i ≠ pos → (i - 1) / 2 ≠ pos → ps[i]? = some a → ps[(i - 1) / 2]? = some b → lt a b = false
def Grand (lt : α → α → Bool) (ps : List α) (pos : Nat) : Prop := ∀ c a b, 0 < c → (c - 1) / 2 = pos → 0 < pos → ps[c]? = some a → ps[(pos - 1) / 2]? = some b → lt a b = false
def Kids (lt : α → α → Bool) (ps : List α) (pos : Nat) (x : α) : Prop := ∀ c a, 0 < c → (c - 1) / 2 = pos → ps[c]? = some a → lt a x = false

theorem set_ne {ps : List α} {pos i : Nat} {y : α} (h : i ≠ pos) : (ps.set pos y)[i]? = ps[i]? := List.getElem?_set_ne (fun e => h e.symm)
theorem set_at {ps : List α} {pos : Nat} {y a : α} (h : (ps.set pos y)[pos]? = some a) : a = y := by
  rw [List.getElem?_set_self'] at h
  cases q : ps[pos]? with
  | none => rw [q] at h; cases h
  | some b => rw [q] at h; simpa using h.symm

theorem swap_perm {ps : List α} {i j : Nat} {x y : α} (hi : i < ps.length) (hij : j ≠ i) (hj : ps[j]? = some y) : ((ps.set i y).set j x).Perm (ps.set i x) := by
  obtain ⟨hjl, hy⟩ := List.getElem?_eq_some_iff.mp hj
  have h1 : i < (ps.set i x).length := by simpa using hi
  have h2 : j < (ps.set i x).length := by simpa using hjl
  have := List.set_set_perm (as := ps.set i x) h1 h2
  rw [List.getElem_set_self, List.getElem_set_ne (fun e => hij e.symm), hy, List.set_set] at this
  exact this

theorem sd_heap (O : Ordr lt) {x : α} {pos : Nat} : ∀ {ps : List α}, pos < ps.length → But lt ps pos → Kids lt ps pos x → Grand lt ps pos → IsHeap lt (sd lt x ps pos) ∧ (sd lt x ps pos).Perm (ps.set pos x) := by
  induction pos using Nat.strongRecOn with
  | ind pos ih =>
    intro ps hlen hb hk hg
    have fin : (∀ b, 0 < pos → ps[(pos - 1) / 2]? = some b → lt x b = false) → IsHeap lt (ps.set pos x) := by
      intro hx i a b hi ha hb'
      by_cases h1 : i = pos
      · subst h1
        obtain rfl := set_at ha
        rw [set_ne (by omega)] at hb'
        exact hx b hi hb'
      · rw [set_ne h1] at ha
        by_cases h2 : (i - 1) / 2 = pos
        · rw [h2] at hb'
          obtain rfl := set_at hb'
          exact hk i a hi h2 ha
        · rw [set_ne h2] at hb'
          exact hb i a b hi h1 h2 ha hb'
    unfold sd
    by_cases h0 : 0 < pos
    · rw [dif_pos h0]
      have hpl : (pos - 1) / 2 < ps.length := by omega
      obtain ⟨y, hy⟩ : ∃ y, ps[(pos - 1) / 2]? = some y := ⟨_, List.getElem?_eq_getElem hpl⟩
      rw [hy]
      dsimp only
      by_cases hlt : lt x y = true
      · rw [if_pos hlt]
        have hne : (pos - 1) / 2 ≠ pos := by omega
        have i1 : But lt (ps.set pos y) ((pos - 1) / 2) := by
          intro i a b hi h1 h2 ha hb'
          by_cases hip : i = pos
          · subst hip; exact absurd rfl h2
          · rw [set_ne hip] at ha
            by_cases h3 : (i - 1) / 2 = pos
            · rw [h3] at hb'
              obtain rfl := set_at hb'
              exact hg i a _ hi h3 h0 ha hy
            · rw [set_ne h3] at hb'
              exact hb i a b hi hip h3 ha hb'
        have i2 : Kids lt (ps.set pos y) ((pos - 1) / 2) x := by
          intro c a hc h1 ha
          by_cases hcp : c = pos
          · subst hcp
            obtain rfl := set_at ha
            exact O.asym _ _ hlt
          · rw [set_ne hcp] at ha
            have h3 : lt a y = false := hb c a y hc hcp (by omega) ha (by rw [h1]; exact hy)
            exact O.trans x y a (O.asym _ _ hlt) h3
        have i3 : Grand lt (ps.set pos y) ((pos - 1) / 2) := by
          intro c a b hc h1 h2 ha hb'
          rw [set_ne (by omega)] at hb'
          have h4 : lt y b = false := hb ((pos - 1) / 2) y b h2 hne (by omega) hy hb'
          by_cases hcp : c = pos
          · subst hcp
            obtain rfl := set_at ha
            exact h4
          · rw [set_ne hcp] at ha
            have h3 : lt a y = false := hb c a y hc hcp (by omega) ha (by rw [h1]; exact hy)
            exact O.trans b y a h4 h3
        obtain ⟨r1, r2⟩ := ih ((pos - 1) / 2) (by omega) (ps := ps.set pos y) (by simpa using hpl) i1 i2 i3
        exact ⟨r1, r2.trans (swap_perm hlen hne hy)⟩
      · rw [if_neg hlt]
        exact ⟨fin fun b _ hb' => by rw [hy] at hb'; obtain rfl := Option.some.inj hb'; simpa using hlt, .refl _⟩
    · rw [dif_neg h0]
      exact ⟨fin fun b h _ => absurd h h0, .refl _⟩

theorem push_heap (O : Ordr lt) {ps : List α} (h : IsHeap lt ps) (x : α) : IsHeap lt (hpush lt ps x) ∧ (hpush lt ps x).Perm (ps ++ [x]) := by
  have hx : (ps ++ [x])[ps.length]? = some x := by simp
  unfold hpush sdown
  rw [hx]
  dsimp only
  have hs : (ps ++ [x]).set ps.length x = ps ++ [x] := by
    apply List.ext_getElem? ; intro i
    by_cases hi : i = ps.length
    · subst hi; simp
    · rw [set_ne hi]
  have := sd_heap O (x := x) (pos := ps.length) (ps := ps ++ [x]) (by simp) ?_ ?_ ?_
  · rw [hs] at this; exact this
  · intro i a b hi h1 h2 ha hb
    have hil : i < ps.length := by
      have := (List.getElem?_eq_some_iff.mp ha).1
      simp at this; omega
    rw [List.getElem?_append_left hil] at ha
    rw [List.getElem?_append_left (by omega)] at hb
    exact h i a b hi ha hb
  · intro c a hc h1 ha
    have := (List.getElem?_eq_some_iff.mp ha).1
    simp at this; omega
  · intro c a b hc h1 h2 ha hb
    have := (List.getElem?_eq_some_iff.mp ha).1
    simp at this; omega

theorem pick_least (O : Ordr lt) {ps : List α} {pos : Nat} {y : α} (hy : ps[pick lt ps pos]? = some y) : ∀ c a, 0 < c → (c - 1) / 2 = pos → ps[c]? = some a → lt a y = false := by
  intro c a hc h1 ha
  have hc2 : c = 2 * pos + 1 ∨ c = 2 * pos + 2 := by omega
  unfold pick at hy
  split at hy
  · rename_i u v hu hv
    by_cases hlt : lt u v = true
    · rw [if_pos hlt, hu] at hy
      obtain rfl := Option.some.inj hy
      rcases hc2 with rfl | rfl
      · rw [hu] at ha; obtain rfl := Option.some.inj ha; exact O.refl _
      · rw [hv] at ha; obtain rfl := Option.some.inj ha; exact O.asym _ _ hlt
    · rw [if_neg hlt, hv] at hy
      obtain rfl := Option.some.inj hy
      rcases hc2 with rfl | rfl
      · rw [hu] at ha; obtain rfl := Option.some.inj ha; simpa using hlt
      · rw [hv] at ha; obtain rfl := Option.some.inj ha; exact O.refl _
  · rename_i hno
    rcases hc2 with rfl | rfl
    · rw [ha] at hy; obtain rfl := Option.some.inj hy; exact O.refl _
    · exact absurd ha (fun h => by
        have h2 := (List.getElem?_eq_some_iff.mp h).1
        exact hno _ _ (List.getElem?_eq_getElem (by omega)) h)
theorem pick_up (lt : α → α → Bool) (ps : List α) (pos : Nat) : (pick lt ps pos - 1) / 2 = pos := by
  unfold pick; split
  · split <;> omega
  · omega

theorem su_heap (O : Ordr lt) : ∀ (k : Nat) {ps : List α} {pos : Nat}, ps.length - pos ≤ k → pos < ps.length → But lt ps pos → Grand lt ps pos →
    (su lt ps pos).1.length = ps.length ∧ (su lt ps pos).2 < ps.length ∧ But lt (su lt ps pos).1 (su lt ps pos).2 ∧ ps.length ≤ 2 * (su lt ps pos).2 + 1 ∧ ∀ x, ((su lt ps pos).1.set (su lt ps pos).2 x).Perm (ps.set pos x) := by
  intro k
  induction k with
  | zero => intro ps pos h1 h2; omega
  | succ k ih =>
    intro ps pos hk hlen hb hg
    unfold su
    by_cases h : 2 * pos + 1 < ps.length
    · rw [dif_pos h]
      have hpl := pick_lt lt ps pos h
      have hpg := pick_gt lt ps pos
      have hpu := pick_up lt ps pos
      have hy : ps[pick lt ps pos]? = some ps[pick lt ps pos] := List.getElem?_eq_getElem hpl
      have hleast := pick_least O hy
      generalize ps[pick lt ps pos] = y at hy hleast ⊢
      have i1 : But lt (ps.set pos y) (pick lt ps pos) := by
        intro i a b hi h1 h2 ha hb'
        by_cases hip : i = pos
        · subst hip
          obtain rfl := set_at ha
          rw [set_ne (by omega)] at hb'
          exact hg _ _ b (by omega) hpu hi hy hb'
        · rw [set_ne hip] at ha
          by_cases h3 : (i - 1) / 2 = pos
          · rw [h3] at hb'
            obtain rfl := set_at hb'
            exact hleast i a hi h3 ha
          · rw [set_ne h3] at hb'
            exact hb i a b hi hip h3 ha hb'
      have i2 : Grand lt (ps.set pos y) (pick lt ps pos) := by
        intro d a b hd h1 h2 ha hb'
        rw [hpu] at hb'
        obtain rfl := set_at hb'
        rw [set_ne (by omega)] at ha
        exact hb d a _ hd (by omega) (by omega) ha (by rw [h1]; exact hy)
      obtain ⟨r1, r2, r3, r4, r5⟩ := ih (ps := ps.set pos y) (pos := pick lt ps pos) (by simp; omega) (by simpa using hpl) i1 i2
      rw [List.length_set] at r1 r2 r4
      exact ⟨r1, r2, r3, r4, fun x => (r5 x).trans (swap_perm hlen (by omega) hy)⟩
    · rw [dif_neg h]
      exact ⟨rfl, hlen, hb, by omega, fun x => .refl _⟩

theorem sup_heap (O : Ordr lt) {x : α} {r : List α} (hb : But lt (x :: r) 0) : IsHeap lt (sup lt (x :: r)) ∧ (sup lt (x :: r)).Perm (x :: r) := by
  obtain ⟨r1, r2, r3, r4, r5⟩ := su_heap O (x :: r).length (ps := x :: r) (pos := 0) (by simp) (by simp) hb (by intro c a b _ _ h; exact absurd h (Nat.lt_irrefl _))
  unfold sup
  generalize (su lt (x :: r) 0).1 = q at *
  generalize (su lt (x :: r) 0).2 = p at *
  have := sd_heap O (x := x) (pos := p) (ps := q.set p x) (by simpa [r1] using r2) ?_ ?_ ?_
  · refine ⟨this.1, this.2.trans ?_⟩
    rw [List.set_set]
    exact (r5 x).trans (by rw [List.set_cons_zero])
  · intro i a b hi h1 h2 ha hb'
    rw [set_ne h1] at ha
    rw [set_ne h2] at hb'
    exact r3 i a b hi h1 h2 ha hb'
  · intro c a hc h1 ha
    have := (List.getElem?_eq_some_iff.mp ha).1
    rw [List.length_set, r1] at this
    omega
  · intro c a b hc h1 h2 ha
    have := (List.getElem?_eq_some_iff.mp ha).1
    rw [List.length_set, r1] at this
    omega

theorem heap_root (O : Ordr lt) {ps : List α} (h : IsHeap lt ps) {q : α} (hq : ps[0]? = some q) : ∀ a ∈ ps, lt a q = false := by
  have key : ∀ (i : Nat) (a : α), ps[i]? = some a → lt a q = false := by
    intro i
    induction i using Nat.strongRecOn with
    | ind i ih =>
      intro a ha
      by_cases h0 : 0 < i
      · have hl := (List.getElem?_eq_some_iff.mp ha).1
        have hb : ps[(i - 1) / 2]? = some (ps[(i - 1) / 2]'(by omega)) := List.getElem?_eq_getElem (by omega)
        exact O.trans _ _ _ (ih _ (by omega) _ hb) (h i a _ h0 ha hb)
      · obtain rfl : i = 0 := by omega
        rw [hq] at ha
        obtain rfl := Option.some.inj ha
        exact O.refl _
  intro a ha
  obtain ⟨i, hi, rfl⟩ := List.mem_iff_getElem.mp ha
  exact key i _ (List.getElem?_eq_getElem hi)

theorem pop_heap (O : Ordr lt) {qs : List α} {z : α} (h : IsHeap lt (qs ++ [z])) :
    IsHeap lt (hpop lt qs z).2 ∧ ((hpop lt qs z).1 :: (hpop lt qs z).2).Perm (qs ++ [z]) ∧ (qs ++ [z])[0]? = some (hpop lt qs z).1 ∧ ∀ a ∈ (hpop lt qs z).2, lt a (hpop lt qs z).1 = false := by
  cases qs with
  | nil =>
    refine ⟨?_, .refl _, rfl, ?_⟩
    · intro i a b _ ha
      simp [hpop] at ha
    · intro a ha
      simp [hpop] at ha
  | cons q r =>
    have hb : But lt (z :: r) 0 := by
      intro i a b hi h1 h2 ha hb
      have hil := (List.getElem?_eq_some_iff.mp ha).1
      simp at hil
      have e1 : ((q :: r) ++ [z])[i]? = some a := by
        rw [List.getElem?_append_left (by simp; omega)]
        obtain ⟨j, rfl⟩ : ∃ j, i = j + 1 := ⟨i - 1, by omega⟩
        simpa using ha
      have e2 : ((q :: r) ++ [z])[(i - 1) / 2]? = some b := by
        rw [List.getElem?_append_left (by simp; omega)]
        obtain ⟨j, hj⟩ : ∃ j, (i - 1) / 2 = j + 1 := ⟨(i - 1) / 2 - 1, by omega⟩
        rw [hj] at hb ⊢
        simpa using hb
      exact h i a b hi e1 e2
    obtain ⟨s1, s2⟩ := sup_heap O hb
    have hp : (q :: sup lt (z :: r)).Perm (q :: r ++ [z]) := by
      refine (s2.cons q).trans ?_
      rw [List.cons_append]
      exact (List.perm_append_singleton z r).symm.cons q
    refine ⟨s1, hp, rfl, fun a ha => ?_⟩
    exact heap_root O h (q := q) rfl a (hp.subset (.tail _ ha))
end heap

theorem ordP : Ordr ltP where
  asym a b h := by
    simp only [ltP, Bool.or_eq_true, Bool.and_eq_true, decide_eq_true_eq, beq_iff_eq] at h
    simp only [ltP, Bool.or_eq_false_iff, Bool.and_eq_false_iff, decide_eq_false_iff_not, beq_eq_false_iff_ne]
    omega
  trans a b c h1 h2 := by
    simp only [ltP, Bool.or_eq_false_iff, Bool.and_eq_false_iff, decide_eq_false_iff_not, beq_eq_false_iff_ne] at h1 h2 ⊢
    omega
theorem ordI : Ordr (fun a b : Int => decide (a < b)) where
  asym a b h := by simp only [decide_eq_true_eq] at h; simp only [decide_eq_false_iff_not]; omega
  trans a b c h1 h2 := by simp only [decide_eq_false_iff_not] at h1 h2 ⊢; omega

section kas
/-- a tree of questions answered by f, asked of numbers below N alone -/
def AllT {α : Type} (N : Nat) (f : Nat → Nat → Bool) (P : α → Prop) : PySem.W.KasT α → Prop
  | .ret a => P a
  | .ask i j k => (i < N ∧ j < N) ∧ AllT N f P (k (f i j))
theorem AllT.mono {α : Type} {N : Nat} {f : Nat → Nat → Bool} {P P' : α → Prop} (hp : ∀ a, P a → P' a) : ∀ {t : PySem.W.KasT α}, AllT N f P t → AllT N f P' t
  | .ret _, h => hp _ h
  | .ask _ _ _, h => ⟨h.1, AllT.mono hp h.2⟩
theorem AllT.bind {α β : Type} {N : Nat} {f : Nat → Nat → Bool} {P : β → Prop} {g : α → PySem.W.KasT β} : ∀ {t : PySem.W.KasT α}, AllT N f (fun a => AllT N f P (g a)) t → AllT N f P (KasT.bind t g)
  | .ret _, h => h
  | .ask _ _ _, h => ⟨h.1, AllT.bind h.2⟩
theorem AllT.wp {α : Type} {N : Nat} {f : Nat → Nat → Bool} {P : α → Prop} {cmp : Nat → Nat → (Bool → Shared → Prop) → Shared → Prop} {Q : α → Shared → Prop} {s : Shared}
    (hc : ∀ i j, i < N → j < N → ∀ C : Bool → Shared → Prop, C (f i j) s → cmp i j C s) (hq : ∀ a, P a → Q a s) : ∀ {t : PySem.W.KasT α}, AllT N f P t → KasT.kasWp cmp t Q s
  | .ret _, h => hq _ h
  | .ask i j _, h => hc i j h.1.1 h.1.2 _ (AllT.wp hc hq h.2)

variable {N : Nat} {f : Nat → Nat → Bool}
structure GoodA (N : Nat) (p : Array Nat) : Prop where
  perm : p.toList.Perm (List.range N)
theorem GoodA.size {p : Array Nat} (h : GoodA N p) : p.size = N := by simpa using h.perm.length_eq
theorem GoodA.lt {p : Array Nat} (h : GoodA N p) {i : Nat} (hi : i < N) : p.getD i 0 < N := by
  have hs := h.size
  have hi' : i < p.size := by omega
  have e : p.getD i 0 = p[i] := by simp [Array.getD, hi']
  rw [e]
  have : p[i] ∈ p.toList := by simp
  simpa using h.perm.subset this
def AscA (f : Nat → Nat → Bool) (p : Array Nat) (m : Nat) : Prop := ∀ i j, i < j → j < m → f (p.getD j 0) (p.getD i 0) = false
def DescA (f : Nat → Nat → Bool) (p : Array Nat) (m : Nat) : Prop := ∀ i j, i < j → j < m → f (p.getD i 0) (p.getD j 0) = false

theorem getD_of {p q : Array Nat} {i j : Nat} (h : p[i]? = q[j]?) : p.getD i 0 = q.getD j 0 := by
  rw [Array.getD_eq_getD_getElem?, Array.getD_eq_getD_getElem?, h]
theorem rev_getD {p : Array Nat} {i j : Nat} (hj : j ≤ p.size) (k : Nat) : (kas_rev p i j).getD k 0 = if i ≤ k ∧ k < j then p.getD (i + j - 1 - k) 0 else p.getD k 0 := by
  have := getElem?_mirror_all (xs := p) (i := i) hj k
  unfold kas_rev
  split
  · rename_i h; rw [if_pos h] at this; exact getD_of this
  · rename_i h; rw [if_neg h] at this; exact getD_of this
theorem rev_good {p : Array Nat} (h : GoodA N p) (i j : Nat) : GoodA N (kas_rev p i j) := ⟨(Array.perm_iff_toList_perm.mp (mirror_perm p i j _)).trans h.perm⟩
theorem bubble_good {p : Array Nat} (h : GoodA N p) (i j : Nat) : GoodA N (bubble p i j) := ⟨(Array.perm_iff_toList_perm.mp (bubble_perm p i j)).trans h.perm⟩
theorem bubble_getD {p : Array Nat} {src d : Nat} (hs : src < p.size) (hd : d ≤ src) (k : Nat) : (bubble p src d).getD k 0 = if k = src - d then p.getD src 0 else if src - d < k ∧ k ≤ src then p.getD (k - 1) 0 else p.getD k 0 := by
  have := getElem?_bubble hs d hd k
  by_cases h : k = src - d
  · rw [if_pos h] at this ⊢; exact getD_of this
  · rw [if_neg h] at this ⊢
    by_cases h2 : src - d < k ∧ k ≤ src
    · rw [if_pos h2] at this ⊢; exact getD_of this
    · rw [if_neg h2] at this ⊢; exact getD_of this

theorem asc_all (O : Ordr f) {p : Array Nat} (hg : GoodA N p) : ∀ (k n : Nat), 1 ≤ n → n + k ≤ N → AscA f p n → AllT N f (fun m => n ≤ m ∧ m ≤ n + k ∧ AscA f p m) (kas_asc p k n)
  | 0, n, _, _, ha => ⟨Nat.le_refl _, Nat.le_refl _, ha⟩
  | k + 1, n, h1, h2, ha => by
    unfold kas_asc
    refine ⟨⟨hg.lt (by omega), hg.lt (by omega)⟩, ?_⟩
    cases hc : f (p.getD n 0) (p.getD (n - 1) 0) with
    | true => exact ⟨Nat.le_refl _, by omega, ha⟩
    | false =>
      simp only [Bool.false_eq_true, if_false]
      refine (asc_all O hg k (n + 1) (by omega) (by omega) ?_).mono fun m h => ⟨by omega, by omega, h.2.2⟩
      intro i j hij hj
      by_cases hjn : j = n
      · subst hjn
        by_cases hi : i = j - 1
        · rw [hi]; exact hc
        · exact O.trans _ _ _ (ha i (j - 1) (by omega) (by omega)) hc
      · exact ha i j hij (by omega)

theorem desc_rev {p : Array Nat} {n a : Nat} (hn : n ≤ p.size) (hd : DescA f p n) (he : ∀ i j, a ≤ i → i < j → j < n → f (p.getD j 0) (p.getD i 0) = false) : DescA f (kas_rev p a n) n := by
  intro i j hij hj
  rw [rev_getD hn, rev_getD hn]
  by_cases hi : a ≤ i
  · rw [if_pos ⟨hi, by omega⟩, if_pos ⟨by omega, hj⟩]
    by_cases h : a + n - 1 - j < a + n - 1 - i
    · exact he _ _ (by omega) h (by omega)
    · omega
  · rw [if_neg (fun h => hi h.1)]
    split
    · exact hd i _ (by omega) (by omega)
    · exact hd i j hij hj

theorem descLoop_all (O : Ordr f) : ∀ (k n q : Nat) {p : Array Nat}, GoodA N p → n + k ≤ N → q + 1 ≤ n → DescA f p n → (∀ i j, n - (q + 1) ≤ i → i < j → j < n → f (p.getD j 0) (p.getD i 0) = false) →
    AllT N f (fun r => GoodA N r.1 ∧ n ≤ r.2.1 ∧ r.2.1 ≤ n + k ∧ r.2.2 + 1 ≤ r.2.1 ∧ DescA f r.1 r.2.1 ∧ ∀ i j, r.2.1 - (r.2.2 + 1) ≤ i → i < j → j < r.2.1 → f (r.1.getD j 0) (r.1.getD i 0) = false) (kas_desc k p n q)
  | 0, n, q, p, hg, _, hq, hd, he => ⟨hg, Nat.le_refl _, Nat.le_refl _, hq, hd, he⟩
  | k + 1, n, q, p, hg, hk, hq, hd, he => by
    have hsz := hg.size
    have ext : ∀ p' : Array Nat, GoodA N p' → DescA f p' n → f (p'.getD (n - 1) 0) (p'.getD n 0) = false → DescA f p' (n + 1) := by
      intro p' _ hd' h i j hij hj
      by_cases hjn : j = n
      · subst hjn
        by_cases hi : i = j - 1
        · rw [hi]; exact h
        · exact O.trans _ _ _ h (hd' i (j - 1) (by omega) (by omega))
      · exact hd' i j hij (by omega)
    unfold kas_desc
    refine ⟨⟨hg.lt (by omega), hg.lt (by omega)⟩, ?_⟩
    cases hc : f (p.getD n 0) (p.getD (n - 1) 0) with
    | true =>
      have hc' := O.asym _ _ hc
      simp only [if_true]
      by_cases hq0 : q > 0
      · rw [if_pos hq0]
        have hd1 := desc_rev (a := n - (q + 1)) (by omega : n ≤ p.size) hd he
        refine (descLoop_all O k (n + 1) 0 (rev_good hg _ _) (by omega) (by omega) (ext _ (rev_good hg _ _) hd1 ?_) ?_).mono fun r h => ⟨h.1, by omega, by omega, h.2.2.2⟩
        · rw [rev_getD (by omega), rev_getD (by omega), if_pos ⟨by omega, by omega⟩, if_neg (by omega)]
          -- the last but one is now the first of its run: all of the run stand alike
          by_cases h9 : n - (q + 1) + n - 1 - (n - 1) = n - 1
          · rw [h9]; exact hc'
          · exact O.trans _ _ _ hc' (hd _ _ (by omega) (by omega))
        · intro i j h1 h2 h3; omega
      · rw [if_neg hq0]
        exact (descLoop_all O k (n + 1) 0 hg (by omega) (by omega) (ext _ hg hd hc') (by intro i j h1 h2 h3; omega)).mono fun r h => ⟨h.1, by omega, by omega, h.2.2.2⟩
    | false =>
      simp only [Bool.false_eq_true, if_false]
      refine ⟨⟨hg.lt (by omega), hg.lt (by omega)⟩, ?_⟩
      cases hc2 : f (p.getD (n - 1) 0) (p.getD n 0) with
      | true => exact ⟨hg, Nat.le_refl _, Nat.le_add_right _ _, hq, hd, he⟩
      | false =>
        simp only [Bool.false_eq_true, if_false]
        refine (descLoop_all O k (n + 1) (q + 1) hg (by omega) (by omega) (ext _ hg hd hc2) ?_).mono fun r h => ⟨h.1, by omega, by omega, h.2.2.2⟩
        intro i j h1 h2 h3
        by_cases hjn : j = n
        · subst hjn
          by_cases hi : i = j - 1
          · rw [hi]; exact hc
          · exact O.trans _ _ _ (he i (j - 1) (by omega) (by omega) (by omega)) hc
        · exact he i j (by omega) h2 (by omega)

theorem tail3_all (O : Ordr f) {p : Array Nat} (hg : GoodA N p) {n : Nat} (h1 : 1 ≤ n) (hn : n ≤ N) (hd : DescA f p n) : AllT N f (fun r : Nat × Array Nat => GoodA N r.2 ∧ 1 ≤ r.1 ∧ r.1 ≤ N ∧ AscA f r.2 r.1) (kas_tail3 n N p) := by
  unfold kas_tail3
  have hsz := hg.size
  refine AllT.bind ((asc_all O (rev_good hg 0 n) (N - n) n h1 (by omega) ?_).mono fun m h => ⟨rev_good hg 0 n, by omega, by omega, h.2.2⟩)
  intro i j hij hj
  rw [rev_getD (by omega), rev_getD (by omega), if_pos ⟨by omega, by omega⟩, if_pos ⟨by omega, by omega⟩]
  exact hd _ _ (by omega) (by omega)

theorem descPart_all (O : Ordr f) {p : Array Nat} (hg : GoodA N p) {n : Nat} (h1 : 1 ≤ n) (hn : n + 1 ≤ N) (hd : DescA f p (n + 1)) : AllT N f (fun r : Nat × Array Nat => GoodA N r.2 ∧ 1 ≤ r.1 ∧ r.1 ≤ N ∧ AscA f r.2 r.1) (kas_descPart n N p) := by
  unfold kas_descPart
  refine AllT.bind ((descLoop_all O (N - (n + 1)) (n + 1) 0 hg (by omega) (by omega) hd (by intro i j h1 h2 h3; omega)).mono fun r h => ?_)
  obtain ⟨g1, g2, g3, g4, g5, g6⟩ := h
  have hsz := g1.size
  by_cases hq : r.2.2 > 0
  · rw [if_pos hq]
    exact tail3_all O (rev_good g1 _ _) (by omega) (by omega) (desc_rev (by omega) g5 g6)
  · rw [if_neg hq]
    exact tail3_all O g1 (by omega) (by omega) g5

theorem count_all (O : Ordr f) {p : Array Nat} (hg : GoodA N p) (h2 : 2 ≤ N) : AllT N f (fun r : Nat × Array Nat => GoodA N r.2 ∧ 1 ≤ r.1 ∧ r.1 ≤ N ∧ AscA f r.2 r.1) (kas_count N p) := by
  have hsz := hg.size
  unfold kas_count
  -- where the first run ends, its last step is known too
  have run : ∀ (k n : Nat), 1 ≤ n → n + k ≤ N → AscA f p n → AllT N f (fun m => n ≤ m ∧ m ≤ n + k ∧ AscA f p m ∧ (m = n + k ∨ f (p.getD m 0) (p.getD (m - 1) 0) = true)) (kas_asc p k n) := by
    intro k
    induction k with
    | zero => intro n _ _ ha; exact ⟨Nat.le_refl _, Nat.le_refl _, ha, .inl rfl⟩
    | succ k ih =>
      intro n h1 h2 ha
      unfold kas_asc
      refine ⟨⟨hg.lt (by omega), hg.lt (by omega)⟩, ?_⟩
      cases hc : f (p.getD n 0) (p.getD (n - 1) 0) with
      | true => exact ⟨Nat.le_refl _, by omega, ha, .inr hc⟩
      | false =>
        simp only [Bool.false_eq_true, if_false]
        refine (ih (n + 1) (by omega) (by omega) ?_).mono fun m h => ⟨by omega, by omega, h.2.2.1, h.2.2.2.imp (fun e => by omega) id⟩
        intro i j hij hj
        by_cases hjn : j = n
        · subst hjn
          by_cases hi : i = j - 1
          · rw [hi]; exact hc
          · exact O.trans _ _ _ (ha i (j - 1) (by omega) (by omega)) hc
        · exact ha i j hij (by omega)
  refine AllT.bind ((run (N - 1) 1 (Nat.le_refl _) (by omega) (by intro i j h1 h2; omega)).mono fun m h => ?_)
  obtain ⟨m1, m2, m3, m4⟩ := h
  by_cases hm : m = N
  · subst hm
    simp only [beq_self_eq_true, if_true]
    exact ⟨hg, m1, Nat.le_refl _, m3⟩
  · have hmN : (m == N) = false := by simpa using hm
    have hlast : f (p.getD m 0) (p.getD (m - 1) 0) = true := m4.resolve_left (by omega)
    rw [hmN]
    simp only [Bool.false_eq_true, if_false]
    by_cases hm1 : m > 1
    · rw [if_pos hm1]
      refine ⟨⟨hg.lt (by omega), hg.lt (by omega)⟩, ?_⟩
      cases hc : f (p.getD 0 0) (p.getD (m - 1) 0) with
      | true => exact ⟨hg, m1, by omega, m3⟩
      | false =>
        simp only [Bool.false_eq_true, if_false]
        refine descPart_all O (rev_good hg 0 m) m1 (by omega) ?_
        -- the run stands all alike
        have eqv : ∀ i j, i < m → j < m → f (p.getD i 0) (p.getD j 0) = false := by
          intro i j hi hj
          have a1 : f (p.getD i 0) (p.getD (m - 1) 0) = false ∨ i = m - 1 := by
            by_cases h : i = m - 1
            · exact .inr h
            · left
              by_cases h0 : i = 0
              · subst h0; exact hc
              · -- i ≤ last ≤ first ≤ i
                exact O.trans _ _ _ (show f (p.getD 0 0) (p.getD (m - 1) 0) = false from hc) (m3 0 i (by omega) (by omega)) |> fun h => by
                  first | exact h | skip
          have a1' : f (p.getD i 0) (p.getD (m - 1) 0) = false := a1.elim id fun h => by rw [h]; exact O.refl _
          by_cases h : j = m - 1
          · rw [h]; exact a1'
          · exact O.trans _ _ _ (m3 j (m - 1) (by omega) (by omega)) a1'
        intro i j hij hj
        rw [rev_getD (by omega), rev_getD (by omega)]
        by_cases hjm : j = m
        · subst hjm
          rw [if_pos ⟨by omega, by omega⟩, if_neg (by omega)]
          exact O.trans _ _ _ (O.asym _ _ hlast) (eqv _ _ (by omega) (by omega))
        · rw [if_pos ⟨by omega, by omega⟩, if_pos ⟨by omega, by omega⟩]
          exact eqv _ _ (by omega) (by omega)
    · rw [if_neg hm1]
      obtain rfl : m = 1 := by omega
      refine descPart_all O hg (Nat.le_refl _) (by omega) ?_
      intro i j hij hj
      obtain rfl : i = 0 := by omega
      obtain rfl : j = 1 := by omega
      exact O.asym _ _ hlast

theorem place_all (O : Ordr f) {p : Array Nat} (hg : GoodA N p) {k : Nat} (hk : k < N) (ha : AscA f p k) : ∀ (u l r : Nat), l ≤ r → r ≤ k → r - l ≤ u → (∀ i, i < l → f (p.getD k 0) (p.getD i 0) = false) → (∀ i, r ≤ i → i < k → f (p.getD k 0) (p.getD i 0) = true) →
    AllT N f (fun m => m ≤ k ∧ (∀ i, i < m → f (p.getD k 0) (p.getD i 0) = false) ∧ ∀ i, m ≤ i → i < k → f (p.getD k 0) (p.getD i 0) = true) (kas_place p k u l r)
  | 0, l, r, hlr, hrk, hu, h1, h2 => ⟨by omega, h1, fun i hi => h2 i (by omega)⟩
  | u + 1, l, r, hlr, hrk, hu, h1, h2 => by
    unfold kas_place
    by_cases hge : l ≥ r
    · rw [if_pos hge]
      exact ⟨by omega, h1, fun i hi => h2 i (by omega)⟩
    · rw [if_neg hge]
      refine ⟨⟨hg.lt (by omega), hg.lt (by omega)⟩, ?_⟩
      cases hc : f (p.getD k 0) (p.getD ((l + r) / 2) 0) with
      | true =>
        simp only [if_true]
        refine place_all O hg hk ha u l ((l + r) / 2) (by omega) (by omega) (by omega) h1 fun i hi hik => ?_
        by_cases h : i = (l + r) / 2
        · rw [h]; exact hc
        · cases hq : f (p.getD k 0) (p.getD i 0) with
          | true => rfl
          | false => have := O.trans _ _ _ (ha ((l + r) / 2) i (by omega) hik) hq; rw [hc] at this; cases this
      | false =>
        simp only [Bool.false_eq_true, if_false]
        refine place_all O hg hk ha u ((l + r) / 2 + 1) r (by omega) hrk (by omega) (fun i hi => ?_) h2
        by_cases h : i = (l + r) / 2
        · rw [h]; exact hc
        · exact O.trans _ _ _ (ha i ((l + r) / 2) (by omega) (by omega)) hc

theorem bin_all (O : Ordr f) : ∀ (u k : Nat) {p : Array Nat}, GoodA N p → k + u = N → AscA f p k → AllT N f (fun q => GoodA N q ∧ AscA f q N) (kas_bin u p k)
  | 0, k, p, hg, hk, ha => ⟨hg, by rw [← hk]; exact ha⟩
  | u + 1, k, p, hg, hk, ha => by
    have hsz := hg.size
    unfold kas_bin
    refine AllT.bind ((place_all O hg (by omega) ha k 0 k (Nat.zero_le _) (Nat.le_refl _) (by omega) (fun i hi => by omega) fun i h1 h2 => by omega).mono fun l h => ?_)
    obtain ⟨l1, l2, l3⟩ := h
    refine bin_all O u (k + 1) (bubble_good hg _ _) (by omega) ?_
    intro i j hij hj
    have hb := fun x => bubble_getD (p := p) (src := k) (d := k - l) (by omega) (by omega) x
    have hkl : k - (k - l) = l := by omega
    rw [hkl] at hb
    rw [hb, hb]
    by_cases hjl : j = l
    · rw [if_pos hjl, if_neg (by omega), if_neg (by omega)]
      exact l2 i (by omega)
    · rw [if_neg hjl]
      by_cases hjm : l < j ∧ j ≤ k
      · rw [if_pos hjm]
        by_cases hil : i = l
        · rw [if_pos hil]
          exact O.asym _ _ (l3 (j - 1) (by omega) (by omega))
        · rw [if_neg hil]
          by_cases him : l < i ∧ i ≤ k
          · rw [if_pos him]; exact ha (i - 1) (j - 1) (by omega) (by omega)
          · rw [if_neg him]
            by_cases h9 : i < j - 1
            · exact ha i (j - 1) h9 (by omega)
            · omega
      · rw [if_neg hjm, if_neg (by omega), if_neg (by omega)]
        exact ha i j hij (by omega)

theorem sort_all (O : Ordr f) (h2 : 2 ≤ N) : AllT N f (fun q => GoodA N q ∧ AscA f q N) (kas_sort N) := by
  unfold kas_sort
  have h0 : GoodA N (List.toArray (List.range N)) := ⟨.refl _⟩
  refine AllT.bind ((count_all O h0 h2).mono fun r h => ?_)
  obtain ⟨g1, g2, g3, g4⟩ := h
  by_cases hr : r.1 < N
  · rw [if_pos hr]
    have hm : max r.1 1 = r.1 := by omega
    rw [hm]
    exact bin_all O (N - r.1) r.1 g1 (by omega) g4
  · rw [if_neg hr]
    have : r.1 = N := by omega
    exact ⟨g1, by rw [← this]; exact g4⟩
end kas

section
variable {prog : Program} {w : World} {A : Around} {s : Shared} {h₀ : Heap} {L : Addr} {m : Str → Option Value} {news : List (Addr × Obj)} {K : Frag}
  {R : Result → Shared → Prop} {name qual : Str} {params : Arguments} {body : List Stmt} {scope : Scope} {dV kV doc pm cdv ct oc : Value} {an od : Option Addr} {osl : Array (Option Value)} {f : Addr} {args : Args} {binds : List (Str × Value)}
  {p : Program} {loose : List Str} {mean : ExcName → Option Value} {mg mb : Str → Option Value}
/-- a call entered whose frame has cells -/
theorem enterC (F : Fr h₀ L s.heap m) (X₀ : K.In h₀) (N : News h₀ L s.heap news) (T : Top p loose mean mg mb h₀)
    (ho : K.lookup f = some ⟨oc, od, .func (fnOf name qual params body scope dV kV doc pm an cdv ct), osl⟩) (hcd : codeIn K cdv qual = true) (hroom : A.depth < recursionLimit)
    (hbind : BindsTo s (fnOf name qual params body scope dV kV doc pm an cdv ct) args binds) (hkind : (binds.all fun y => scope.names.lookup y.1 == some .local || scope.names.lookup y.1 == some .cell) = true)
    (hnd : ((cellsFrom 0 scope.names []).map (·.1)).Nodup)
    (h : ∀ g L' h₁ tk cells, h₀.StaysIn g → Fr g L' h₁ (bindL (envOfC qual scope L' f cdv).kindOf binds fun _ => none) → News g L' h₁ (cells ++ news) →
      CellsAre (bindC (envOfC qual scope L' f cdv).kindOf binds fun _ => none) (cellsFrom (L' + 1) scope.names []) cells → K.In g → Top p loose mean mg mb g → (∀ p ∈ news, p.1 < L') →
      wpAny (model prog w) (A.deeper (envOfC qual scope L' f cdv)) (execs body (envOfC qual scope L' f cdv))
        (fun fl s' => LeaveK h₀ L m g R (match fl with | .ret v => v | _ => .none) s') (fun _ _ => False)
        { s with heap := h₁, toks := tk })
    (hco : scope.isCoroutine = false) (hgen : scope.isGenerator = false) (hk : scope.kind = .function) : codeAny (model prog w) A (.call (.ref f) args) R s := by
  obtain ⟨FG, st, lv⟩ := ground1 (R := R) F N
  have X := X₀.keeps F.keep
  refine codeAny_call_function hroom (X _ _ ho) rfl hco hgen rfl (codeRec_of X hcd) (hbind _ _ _ _ ?_)
  refine wpAny_newFunctionEnv_cells hk (kindsX hkind _) fun env' he s' x => ?_
  subst he
  refine ⟨(T.nolimit.keeps F.keep).keeps x.toInCall.keep, codeAny_func ?_⟩
  obtain ⟨h₁, tk, rfl, _⟩ := x.done
  have hk₁ := x.toInCall.keep
  obtain ⟨cells, NC, Y⟩ := Cl.news (h₀ := s.heap) (Nat.le_refl _) fun n c hm => ⟨x.cell n c (lookup_of_mem_nodup (cellsFrom_names scope.names 0 (s.heap.objs.size + 1) [] [] rfl ▸ hnd) hm), x.above n c hm⟩
  refine wpAny_mono (h _ s.heap.objs.size h₁ tk cells st ⟨x.toInCall.ns, fun b o e => hk₁ b o (of_hideAll _ e), Nat.le_of_eq (hideAll_size _ _)⟩ (fun p hp => ?_) Y (X₀.keeps st) (T.keeps st) (fun p hp => Heap.lt_size (N p hp).1)) (fun fl s' hl => lv _ _ hl) fun _ _ y => y.elim
  rcases List.mem_append.mp hp with hp | hp
  · refine ⟨(NC p hp).1, (NC p hp).2.1, ?_⟩
    cases q : (hideAll s.heap (news.map (·.1))).get? p.1 with
    | none => rfl
    | some o => have := of_hideAll _ q; rw [(NC p hp).2.2] at this; cases this
  · exact ⟨hk₁ _ _ (N p hp).1, Nat.ne_of_lt (Heap.lt_size (N p hp).1), hideAll_none _ (List.mem_map_of_mem hp)⟩
end

section
variable {prog : Program} {w : World} {A : Around} {E : Value → Shared → Prop} {s : Shared}
/-- an iterator whose own tuple is not kept -/
theorem lot_plain {target : Expr} {I : Addr} {o : Obj} {nm : String} {vs : Array Value} {v : Value} {Q : Unit → Shared → Prop} (ho : s.heap.get? I = some o) (hc : o.cls = .type nm) (hd : o.data = .fields vs)
    (hn : ["enumerate", "zip", "dict_itemiterator", "dict_reverseitemiterator", "odict_iterator", "itertools.zip_longest", "itertools.pairwise"].contains nm = false) (h : Q () s) :
    wpAny (model prog w) A (letOwnedTupleGo target (.ref I) v) Q E s := by
  have main : wpAny (model prog w) A (match (Value.ref I, v) with
      | (.ref r, .ref a) => (do
        let o ← load r
        match o.cls, o.data with
        | .type n, .fields vs =>
          if ["enumerate", "zip", "dict_itemiterator", "dict_reverseitemiterator", "odict_iterator", "itertools.zip_longest", "itertools.pairwise"].contains n && vs[0]? == some (rawInt a) then
            rule "for.unpacks-the-owned-tuple"
            updateField r 0 .none
        | _, _ => pure ())
      | _ => (pure () : Sem Unit)) Q E s := by
    cases v <;> try exact wpAny_pure h
    refine wpAny_bind (wpAny_load ho ?_)
    rw [hc, hd]
    dsimp only
    rw [hn]
    exact wpAny_pure h
  cases target <;> first | exact main | exact wpAny_pure h
end

/-- what a turn of a for loop must leave -/
def ForPost (h₀ : Heap) (L : Addr) (J : (Str → Option Value) → List (Addr × Obj) → Prop) (I : Addr) (oI : Obj) (s : Shared) (Q : Flow → Shared → Prop) (f : Flow) (s₃ : Shared) : Prop := match f with
  | .brk => Q .next s₃
  | .ret v => Q (.ret v) s₃
  | _ => Hold (∃ h' tk' m' nw', s₃ = { s with heap := h', toks := tk' } ∧ Fr h₀ L h' m' ∧ News h₀ L h' ((I, oI) :: nw') ∧ (∀ p ∈ nw', p.1 ≠ I) ∧ J m' nw')

section
variable {prog : Program} {w : World} {A : Around} {s : Shared} {env : Env} {h₀ : Heap} {m : Str → Option Value} {news : List (Addr × Obj)}
theorem for_walk {target : Expr} {body : List Stmt} {Q : Flow → Shared → Prop} {I : Addr} {fp : List Addr} {n : Nat} {P : Nat → Value → Prop} {St : Nat → Heap → Prop} (W : Walks prog w A I fp [I] n P St)
    (J : Nat → (Str → Option Value) → List (Addr × Obj) → Prop)
    (hI : ∀ i h, St i h → ∃ o, h.get? I = some o)
    (hSt : ∀ i h h' o m nw, St i h → h.get? I = some o → h'.get? I = some o → J i m nw → News h₀ env.locals h' nw → St i h')
    (hIL : I ≠ env.locals) (hI0 : h₀.get? I = none)
    (lot : ∀ i (s : Shared) v (Q : Unit → Shared → Prop), St i s.heap → Q () s → wpAny (model prog w) A (letOwnedTupleGo target (.ref I) v) Q (fun _ _ => False) s)
    (hst : St 0 s.heap) (F : Fr h₀ env.locals s.heap m) (N : News h₀ env.locals s.heap news) (off : ∀ p ∈ news, p.1 ≠ I) (hJ : J 0 m news)
    (turn : ∀ i v m₁ nw h tk oI, i < n → P i v → J i m₁ nw → Fr h₀ env.locals h m₁ → News h₀ env.locals h ((I, oI) :: nw) → (∀ p ∈ nw, p.1 ≠ I) →
      wpAny (model prog w) A (assign target env v) (fun _ s₂ => wpAny (model prog w) A (execs body env) (ForPost h₀ env.locals (J (i + 1)) I oI s Q) (fun _ _ => False) s₂) (fun _ _ => False) { s with heap := h, toks := tk })
    (done : ∀ m₁ nw h tk, J n m₁ nw → Fr h₀ env.locals h m₁ → News h₀ env.locals h nw → Q .next { s with heap := h, toks := tk }) :
    codeAny (model prog w) A (.forLoop target (.ref I) body [] env) (fun r s' => match r with | .ok f => Q f s' | .error e => cameBackBy (model prog w) A env (fun _ _ => False) e s') s := by
  refine codeAny_forLoop_any
    (fun k s' => ∃ h tk m₁ nw i, s' = { s with heap := h, toks := tk } ∧ St i h ∧ Fr h₀ env.locals h m₁ ∧ News h₀ env.locals h nw ∧ (∀ p ∈ nw, p.1 ≠ I) ∧ J i m₁ nw ∧ i ≤ n ∧ k = n + 1 - i) ?_ (n + 1)
    ⟨s.heap, s.toks, m, news, 0, rfl, hst, F, N, off, hJ, Nat.zero_le _, rfl⟩
  rintro k s' ⟨h, tk, m₁, nw, i, rfl, hst', F', N', off', hJ', hi, rfl⟩
  have next : ∀ h₁ : Heap, (∀ b o, b ∉ [I] → h.get? b = some o → h₁.get? b = some o) → Fr h₀ env.locals h₁ m₁ ∧ News h₀ env.locals h₁ nw := fun h₁ hk₁ => by
    refine ⟨⟨F'.ns.at' fun o e => hk₁ _ o (by simpa using hIL.symm) e, fun b o e => hk₁ b o (fun q => ?_) (F'.keep b o e), F'.above⟩, fun p hp => ⟨hk₁ _ _ (by simpa using off' p hp) (N' p hp).1, (N' p hp).2⟩⟩
    rw [List.mem_singleton.mp q, hI0] at e; cases e
  by_cases hlt : i < n
  · refine W.item i _ _ _ hlt hst' fun v h₁ tk₁ hP hst₁ hk₁ => ?_
    obtain ⟨F₁, N₁⟩ := next h₁ hk₁
    obtain ⟨oI, hoI⟩ := hI _ _ hst₁
    dsimp only
    refine wpAny_mono (lot (i + 1) { s with heap := h₁, toks := tk₁ } v (fun _ s₂ => s₂ = { s with heap := h₁, toks := tk₁ }) hst₁ rfl) (fun _ s₂ e => ?_) fun _ _ x => x.elim
    subst e
    have NI : News h₀ env.locals h₁ ((I, oI) :: nw) := fun p hp => by
      rcases List.mem_cons.mp hp with rfl | hp
      · exact ⟨hoI, hIL, hI0⟩
      · exact N₁ p hp
    refine wpAny_mono (turn i v m₁ nw h₁ tk₁ oI hlt hP hJ' F₁ NI off') (fun _ s₃ h₃ => ?_) fun _ _ x => x.elim
    refine wpAny_mono h₃ (fun f s₄ h₄ => ?_) fun _ _ x => x.elim
    have fin : Hold (∃ h' tk' m' nw', s₄ = { s with heap := h', toks := tk' } ∧ Fr h₀ env.locals h' m' ∧ News h₀ env.locals h' ((I, oI) :: nw') ∧ (∀ p ∈ nw', p.1 ≠ I) ∧ J (i + 1) m' nw') →
        ∃ m, m < n + 1 - i ∧ ∃ h tk m₁ nw i, s₄ = { s with heap := h, toks := tk } ∧ St i h ∧ Fr h₀ env.locals h m₁ ∧ News h₀ env.locals h nw ∧ (∀ p ∈ nw, p.1 ≠ I) ∧ J i m₁ nw ∧ i ≤ n ∧ m = n + 1 - i := by
      rintro ⟨h', tk', m', nw', rfl, F₂, N₂, off₂, hJ₂⟩
      have N₃ : News h₀ env.locals h' nw' := fun p hp => N₂ p (.tail _ hp)
      exact ⟨n + 1 - (i + 1), by omega, h', tk', m', nw', i + 1, rfl, hSt _ _ _ _ _ _ hst₁ hoI (N₂ _ (.head _)).1 hJ₂ N₃, F₂, N₃, off₂, hJ₂, hlt, rfl⟩
    cases f with
    | next => exact fin h₄
    | cont => exact fin h₄
    | brk => exact h₄
    | ret v => exact h₄
  · obtain rfl : i = n := by omega
    refine W.done _ _ _ hst' fun h₁ tk₁ hk₁ => ?_
    obtain ⟨F₁, N₁⟩ := next h₁ hk₁
    exact wpAny_execs_nil (done _ _ _ _ hJ' F₁ N₁)

/-- a for over a list of the ledger that no turn touches -/
theorem for_list {target iter : Expr} {body : List Stmt} {pos : Pos} {Q : Flow → Shared → Prop} {l : Addr} {vs : List Value} {nn : Nat} {s₀ : Shared}
    (hA : A.handled = none) (hs : ∀ x, foldedSetIterable iter env x = pure x)
    (J : Nat → (Str → Option Value) → List (Addr × Obj) → Prop)
    (he : wpAny (model prog w) A (eval iter env) (fun v s' => v = .ref l ∧ s' = s) (fun _ _ => False) s₀)
    (F : Fr h₀ env.locals s.heap m) (N : News h₀ env.locals s.heap news) (hJ : J 0 m news) (hl : ∀ i m nw, J i m nw → (l, listOf vs.toArray nn) ∈ nw)
    (turn : ∀ i v m₁ nw h tk I oI, vs[i]? = some v → J i m₁ nw → Fr h₀ env.locals h m₁ → News h₀ env.locals h ((I, oI) :: nw) → (∀ p ∈ nw, p.1 ≠ I) →
      wpAny (model prog w) A (assign target env v) (fun _ s₂ => wpAny (model prog w) A (execs body env) (ForPost h₀ env.locals (J (i + 1)) I oI s Q) (fun _ _ => False) s₂) (fun _ _ => False) { s with heap := h, toks := tk })
    (done : ∀ m₁ nw h tk, J vs.length m₁ nw → Fr h₀ env.locals h m₁ → News h₀ env.locals h nw → Q .next { s with heap := h, toks := tk }) :
    wpAny (model prog w) A (exec (.For target iter body [] pos) env) Q (fun _ _ => False) s₀ := by
  refine wpAny_For (wpAny_mono he (fun v s' h' => ?_) fun _ _ x => x.elim) hs
  obtain ⟨rfl, rfl⟩ := h'
  have hm := hl _ _ _ hJ
  have hls := h_isList N hm
  refine wpAny_pyIter_list hls ?_
  have hol := (N _ hm).1
  have up : ∀ b o, s'.heap.get? b = some o → (s'.heap.push { cls := .type "list_iterator", data := .fields #[.ref l, .int 0 0] }).get? b = some o := fun b o e => Heap.get?_push_of_some _ e
  have hne : l ≠ s'.heap.objs.size := Nat.ne_of_lt (Heap.lt_size hol)
  have W := Walks.list (prog := prog) (w := w) hA s'.heap.objs.size l hne vs.toArray
  have hlen : vs.toArray.size = vs.length := by simp
  rw [hlen] at W
  refine for_walk (s := { s' with heap := s'.heap.push { cls := .type "list_iterator", data := .fields #[.ref l, .int 0 0] } }) W J (fun i h st => by obtain ⟨o, e, _⟩ := st.1; exact ⟨o, e⟩)
    (fun i h h' o m nw st e e' hj N' => ⟨by obtain ⟨o', q, r⟩ := st.1; rw [e] at q; cases q; exact ⟨o, e', r⟩, h_isList N' (hl _ _ _ hj)⟩) ?_ ?_
    (fun i s v Q st h => ?_) ⟨⟨_, Heap.get?_push_size _ rfl, rfl, rfl⟩, hls.at fun o e => Heap.get?_push_of_some _ e⟩ (F.push _) (N.grown up) (fun p hp => Nat.ne_of_lt (Heap.lt_size (N p hp).1)) hJ ?_ ?_
  · exact Nat.ne_of_gt F.ns.lt
  · exact next_is_new F
  · obtain ⟨o, e, hc, hd⟩ := st.1
    exact lot_plain e hc hd (by decide) h
  · intro i v m₁ nw h tk oI hi hP hj F' N' off'
    exact turn i v m₁ nw h tk _ oI (by simpa using hP) hj F' N' off'
  · intro m₁ nw h tk hj F' N'
    exact done m₁ nw h tk hj F' N'

/-- a for over a range that begins at nought -/
theorem for_range {target : Expr} {body : List Stmt} {Q : Flow → Shared → Prop} {r : Addr} {t u v : Tok} {n : Nat}
    (hA : A.handled = none) (hn : n ≤ 100000)
    (J : Nat → (Str → Option Value) → List (Addr × Obj) → Prop)
    (hr : IsRange s.heap r 0 n 1 t u v)
    (F : Fr h₀ env.locals s.heap m) (N : News h₀ env.locals s.heap news) (hJ : J 0 m news)
    (turn : ∀ (i : Nat) ti m₁ nw h tk I oI, i < n → J i m₁ nw → Fr h₀ env.locals h m₁ → News h₀ env.locals h ((I, oI) :: nw) → (∀ p ∈ nw, p.1 ≠ I) →
      wpAny (model prog w) A (assign target env (.int i ti)) (fun _ s₂ => wpAny (model prog w) A (execs body env) (ForPost h₀ env.locals (J (i + 1)) I oI s Q) (fun _ _ => False) s₂) (fun _ _ => False) { s with heap := h, toks := tk })
    (done : ∀ m₁ nw h tk, J n m₁ nw → Fr h₀ env.locals h m₁ → News h₀ env.locals h nw → Q .next { s with heap := h, toks := tk }) :
    wpAny (model prog w) A (pyIter (.ref r)) (fun it s₂ => codeAny (model prog w) A (.forLoop target it body [] env) (fun r s' => match r with | .ok f => Q f s' | .error e => cameBackBy (model prog w) A env (fun _ _ => False) e s') s₂) (fun _ _ => False) s := by
  have hsm : Builtin.Range.small 0 n 1 = true := small_one (by omega) (by omega) (by omega) (by omega)
  have hsz : Builtin.Range.rangeSize 0 n 1 = ((n : Nat) : Int) := rangeSize_nat _ _
  refine wpAny_pyIter_range hr hsm ?_
  have up : ∀ b o, s.heap.get? b = some o → (s.heap.push { cls := .type "range_iterator", data := .fields #[rawInt 0, rawInt (Builtin.Range.rangeSize 0 n 1), rawInt 1] }).get? b = some o := fun b o e => Heap.get?_push_of_some _ e
  have W := LCg.range_walks (prog := prog) (w := w) (I := s.heap.objs.size) hA 0 n
  refine for_walk (s := { s with heap := s.heap.push { cls := .type "range_iterator", data := .fields #[rawInt 0, rawInt (Builtin.Range.rangeSize 0 n 1), rawInt 1] } }) W J (fun i h st => ⟨_, st⟩)
    (fun i h h' o m nw st e e' hj N' => ?_) ?_ ?_
    (fun i s v Q st h => ?_) ?_ (F.push _) (N.grown up) (fun p hp => Nat.ne_of_lt (Heap.lt_size (N p hp).1)) hJ ?_ ?_
  · have st' : h.get? _ = some _ := st
    show h'.get? _ = some _
    rw [e', ← e]; exact st'
  · exact Nat.ne_of_gt F.ns.lt
  · exact next_is_new F
  · exact lot_plain st rfl rfl (by decide) h
  · show IsRangeIter _ _ _ _ _
    rw [hsz]; simpa using Heap.get?_push_size _ rfl
  · intro i v m₁ nw h tk oI hi hP hj F' N' off'
    obtain ⟨ti, rfl⟩ := hP
    rw [Int.zero_add]
    exact turn i ti m₁ nw h tk _ oI hi hj F' N' off'
  · intro m₁ nw h tk hj F' N'
    exact done m₁ nw h tk hj F' N'
end

section
variable {prog : Program} {w : World} {A : Around} {R : Result → Shared → Prop} {s : Shared} {env : Env}
abbrev tests (ifs : List Expr) (env : Env) : Sem Bool := forIn ifs true fun c r => if r = true then do let ok ← isTrue c env (eval c env); pure (ForInStep.yield ok) else pure (ForInStep.yield r)
theorem compLoop_any {elt target iter : Expr} {ifs : List Expr} {scope : Scope} {pos : Pos} {it acc : Value} (I : Nat → Shared → Prop)
    (turn : ∀ n s, I n s → wpAny (model prog w) A (pyNext it) (fun r s₁ => match r with
      | none => R (.ok .next) s₁
      | some v => wpAny (model prog w) A (letOwnedTupleGo target it v) (fun _ s₁' => wpAny (model prog w) A (assign target env v) (fun _ s₂ =>
          wpAny (model prog w) A (tests ifs env) (fun ok s₃ =>
            if ok = true then wpAny (model prog w) A (eval elt env) (fun x s₄ =>
              wpAny (model prog w) A (call (.builtin "list.append") [acc, x]) (fun _ s₅ => ∃ m, m < n ∧ I m s₅) (fun _ _ => False) s₄) (fun _ _ => False) s₃
            else ∃ m, m < n ∧ I m s₃) (fun _ _ => False) s₂) (fun _ _ => False) s₁') (fun _ _ => False) s₁) (fun _ _ => False) s)
    (n : Nat) (h : I n s) :
    codeAny (model prog w) A (.compLoop (.ListComp elt [⟨target, iter, ifs, 0⟩] scope pos) 0 it acc env) R s := by
  refine codeAny_loop rfl I (fun n s hI => ?_) n h
  show wpAny _ A ((compTurn (.ListComp elt [⟨target, iter, ifs, 0⟩] scope pos) 0 it acc env).onRaise (fun x => do noteFrame x env; theTreesLotGoes x)) _ _ s
  refine wpAny_noted ?_
  rw [compTurn_list]
  refine wpAny_bind (wpAny_standAt (wpAny_bind (wpAny_mono (turn n s hI) (fun r s₁ h₁ => ?_) fun _ _ x => x.elim)))
  cases r with
  | none => exact wpAny_pure h₁
  | some v =>
    refine wpAny_bind (wpAny_mono h₁ (fun _ s₁' h₁' => ?_) fun _ _ x => x.elim)
    refine wpAny_bind (wpAny_mono h₁' (fun _ s₂ h₂ => wpAny_bind (wpAny_mono h₂ (fun ok s₃ h₃ => ?_) fun _ _ x => x.elim)) fun _ _ x => x.elim)
    cases ok with
    | false => exact wpAny_pure ⟨rfl, h₃⟩
    | true =>
      exact wpAny_bind (wpAny_bind (wpAny_mono h₃ (fun x s₄ h₄ => wpAny_bind (wpAny_mono h₄ (fun _ s₅ h₅ => wpAny_pure (wpAny_pure ⟨rfl, h₅⟩)) fun _ _ x => x.elim)) fun _ _ x => x.elim))
end

/-- what a turn of a comprehension must leave -/
def CompEnd (g : Heap) (C I D : Addr) (oI oD : Obj) (s : Shared) (J : List (Addr × Obj) → Prop) (s₃ : Shared) : Prop :=
  Hold (∃ h' tk' m' nw', s₃ = { s with heap := h', toks := tk' } ∧ Fr g C h' m' ∧ News g C h' ((I, oI) :: (D, oD) :: nw') ∧ (∀ p ∈ nw', p.1 ≠ I ∧ p.1 ≠ D) ∧ J nw')

section
variable {prog : Program} {w : World} {A : Around} {s : Shared} {env : Env} {h₀ : Heap} {L : Addr} {m : Str → Option Value} {news : List (Addr × Obj)}
theorem comp_block {elt target iter : Expr} {ifs : List Expr} {scope : Scope} {cl : List (Str × Addr)} {pos : Pos} {R : Value → Addr → Result → Shared → Prop} {I : Addr} {fp : List Addr} {n : Nat} {P : Nat → Value → Prop} {St : Nat → Heap → Prop}
    (W : Walks prog w A I fp [I] n P St) (hz : n ≤ 10000) (J : Nat → List Value → List (Addr × Obj) → Prop)
    (hI : ∀ i h, St i h → ∃ o, h.get? I = some o)
    (hSt : ∀ i h h' o ys nw g C, St i h → h.get? I = some o → h'.get? I = some o → J i ys nw → News g C h' nw → St i h')
    (hIL : I ≠ L) (hI0 : h₀.get? I = none)
    (lot : ∀ i (s : Shared) v (Q : Unit → Shared → Prop), St i s.heap → Q () s → wpAny (model prog w) A (letOwnedTupleGo target (.ref I) v) Q (fun _ _ => False) s)
    (hcell : ∀ y ∈ scope.names, y.2 ≠ .cell) (hkind : scope.kind = .function)
    (hst : St 0 s.heap) (F : Fr h₀ L s.heap m) (N : News h₀ L s.heap news) (off : ∀ p ∈ news, p.1 ≠ I) (hJ : J 0 [] news)
    (turn : ∀ g C D i v (ys : List Value) k mC nw h tk oI, h₀.StaysIn g → i < n → P i v → ys.length ≤ i → J i ys nw → Fr g C h mC → News g C h ((I, oI) :: (D, listOf ys.toArray k) :: nw) → (∀ p ∈ nw, p.1 ≠ I ∧ p.1 ≠ D) →
      wpAny (model prog w) A (assign target (compEnvC scope cl C env) v) (fun _ s₂ => wpAny (model prog w) A (tests ifs (compEnvC scope cl C env)) (fun ok s₃ =>
        if ok = true then wpAny (model prog w) A (eval elt (compEnvC scope cl C env)) (fun y s₄ => CompEnd g C I D oI (listOf ys.toArray k) s (J (i + 1) (ys ++ [y])) s₄) (fun _ _ => False) s₃
        else CompEnd g C I D oI (listOf ys.toArray k) s (J (i + 1) ys) s₃) (fun _ _ => False) s₂) (fun _ _ => False) { s with heap := h, toks := tk })
    (done : ∀ h tk ys k D C mC nw, J n ys nw → Fr h₀ L h m → News h₀ L h ((D, listOf ys.toArray k) :: nw) → (∀ p ∈ nw, p.1 ≠ D) → h.Ns C mC → C ≠ L → h₀.get? C = none → (∀ p ∈ (D, listOf ys.toArray k) :: nw, p.1 ≠ C) → R (.ref D) C (.ok .next) { s with heap := h, toks := tk }) :
    wpAny (model prog w) A (newList []) (fun acc s₃ => wpAny (model prog w) A (newFunctionEnv scope env.globals cl [] env.qual none .none (some env)) (fun cenv s₄ =>
      codeAny (model prog w) A (.compStart (.ListComp elt [⟨target, iter, ifs, 0⟩] scope pos) 0 (.ref I) acc { cenv with scope := relabel scope env }) (R acc cenv.locals) s₄) (fun _ _ => False) s₃) (fun _ _ => False) s := by
  have nm : ∀ b o, h₀.get? b = some o → b ∉ I :: news.map (·.1) := fun b o e q => by
    rcases List.mem_cons.mp q with rfl | q
    · rw [hI0] at e; cases e
    · obtain ⟨p, hp, rfl⟩ := List.mem_map.mp q
      rw [(N p hp).2.2] at e; cases e
  have st : h₀.StaysIn (hideAll s.heap (I :: news.map (·.1))) := fun b o e => hideAll_get _ (F.keep b o e) (nm b o e)
  obtain ⟨oL, es, ep, hL, hLd, hLk, hLf⟩ := F.ns
  have nL : L ∉ I :: news.map (·.1) := fun q => by
    rcases List.mem_cons.mp q with q | q
    · exact hIL q.symm
    · obtain ⟨p, hp, e⟩ := List.mem_map.mp q
      exact (N p hp).2.1 e
  have hLg := hideAll_get (I :: news.map (·.1)) hL nL
  have hLlt := Heap.lt_size hL
  obtain ⟨oI0, hoI0⟩ := hI _ _ hst
  have hIlt := Heap.lt_size hoI0
  refine wpAny_newObj_type (wpAny_newFunctionEnv hcell (by intro y hy; simp at hy) (fun h₁ hns₁ hsb₁ => ?_) hkind)
  dsimp only at hns₁ hsb₁ ⊢
  generalize hH2 : s.heap.push { cls := .type "list", dict := none, data := .seq ([] : List Value).toArray } = H2 at hns₁ hsb₁ ⊢
  have hC : H2.objs.size = s.heap.objs.size + 1 := by rw [← hH2, Heap.size_push]
  have old : ∀ b o, s.heap.get? b = some o → h₁.get? b = some o := fun b o e =>
    hsb₁.extBut b o (Nat.ne_of_lt (Nat.lt_of_lt_of_le (Heap.lt_size e) (by omega))) (Heap.get?_push_of_some _ (hH2 ▸ Heap.get?_push_of_some _ e))
  have hacc : h₁.get? s.heap.objs.size = some (listOf ([] : List Value).toArray 0) := hsb₁.extBut _ _ (Nat.ne_of_lt (by omega)) (Heap.get?_push_of_some _ (hH2 ▸ Heap.get?_push_size _ rfl))
  generalize hg : hideAll s.heap (I :: news.map (·.1)) = g at st hLg
  have gsub : ∀ b o, g.get? b = some o → s.heap.get? b = some o := fun b o e => of_hideAll (I :: news.map (·.1)) (by rw [hg]; exact e)
  have gnone : ∀ b, s.heap.objs.size ≤ b → g.get? b = none := fun b hb => by
    cases e : g.get? b with
    | none => rfl
    | some o => exact absurd (Heap.lt_size (gsub _ _ e)) (Nat.not_lt.mpr hb)
  have gI : g.get? I = none := by rw [← hg]; exact hideAll_none _ (.head _)
  have gnew : ∀ p ∈ news, g.get? p.1 = none := fun p hp => by rw [← hg]; exact hideAll_none _ (.tail _ (List.mem_map_of_mem hp))
  have gsz : g.objs.size = s.heap.objs.size := by rw [← hg]; exact hideAll_size _ _
  have hst₁ : St 0 h₁ := W.frame _ _ _ hst fun b _ o e => old b o e
  have F1 : Fr g H2.objs.size h₁ (fun y => List.lookup y [].reverse) := ⟨hns₁, fun b o e => old b o (gsub b o e), by omega⟩
  obtain ⟨C, hCC⟩ : ∃ C : Nat, H2.objs.size = C := ⟨_, rfl⟩
  obtain ⟨D, hDD⟩ : ∃ D : Nat, s.heap.objs.size = D := ⟨_, rfl⟩
  rw [hCC, hDD] at hC
  rw [hCC] at F1 ⊢
  rw [hDD] at hacc hIlt gsz gnone ⊢
  have N1 : News g C h₁ ((D, listOf ([] : List Value).toArray 0) :: news) := fun p hp => by
    rcases List.mem_cons.mp hp with rfl | hp
    · exact ⟨hacc, Nat.ne_of_lt (by omega), gnone _ (Nat.le_refl _)⟩
    · have := N p hp
      exact ⟨old _ _ this.1, Nat.ne_of_lt (Nat.lt_of_lt_of_le (Heap.lt_size this.1) (by omega)), gnew p hp⟩
  have hDI : D ≠ I := Nat.ne_of_gt (by omega)
  have hDN : ∀ p ∈ news, p.1 ≠ D := fun p hp => Nat.ne_of_lt (Nat.lt_of_lt_of_le (Heap.lt_size (N p hp).1) (by omega))
  have hCI : C ≠ I := Nat.ne_of_gt (by rw [hC]; exact Nat.lt_succ_of_lt hIlt)
  have loop : ∀ s₃ : Shared, s₃ = { s with heap := h₁, toks := s.toks + ([] : List (Str × Value)).length } →
      codeAny (model prog w) A (.compLoop (.ListComp elt [⟨target, iter, ifs, 0⟩] scope pos) 0 (.ref I) (.ref D) (compEnvC scope cl C env)) (R (.ref D) C) s₃ := by
    rintro s₃ rfl
    refine compLoop_any
      (fun k s' => ∃ (h : Heap) (tk : Nat) (ys : List Value) (e : Nat) (mC : Str → Option Value) (nw : List (Addr × Obj)) (i : Nat), s' = { s with heap := h, toks := tk } ∧ St i h ∧ Fr g C h mC ∧ News g C h ((D, listOf ys.toArray e) :: nw) ∧ (∀ p ∈ nw, p.1 ≠ I ∧ p.1 ≠ D) ∧ J i ys nw ∧ ys.length ≤ i ∧ i ≤ n ∧ k = n + 1 - i) ?_ (n + 1)
      ⟨h₁, _, [], 0, _, news, 0, rfl, hst₁, F1, N1, fun p hp => ⟨off p hp, hDN p hp⟩, hJ, Nat.le_refl _, Nat.zero_le _, rfl⟩
    rintro k s' ⟨h, tk, ys, e, mC, nw, i, rfl, hst', F', N', off', hJ', hyl, hi, rfl⟩
    have next : ∀ h₁ : Heap, (∀ b o, b ∉ [I] → h.get? b = some o → h₁.get? b = some o) → Fr g C h₁ mC ∧ News g C h₁ ((D, listOf ys.toArray e) :: nw) := fun h₁ hk₁ => by
      refine ⟨⟨F'.ns.at' fun o e => hk₁ _ o (by simpa using hCI) e, fun b o e => hk₁ b o (fun q => ?_) (F'.keep b o e), F'.above⟩, fun p hp => ⟨hk₁ _ _ ?_ (N' p hp).1, (N' p hp).2⟩⟩
      · rw [List.mem_singleton.mp q, gI] at e; cases e
      · rcases List.mem_cons.mp hp with rfl | hp
        · simpa using hDI
        · simpa using (off' p hp).1
    by_cases hlt : i < n
    · refine W.item i _ _ _ hlt hst' fun v h₁ tk₁ hP hst₁ hk₁ => ?_
      obtain ⟨F₁, N₁⟩ := next h₁ hk₁
      obtain ⟨oI, hoI⟩ := hI _ _ hst₁
      dsimp only
      refine wpAny_mono (lot (i + 1) { s with heap := h₁, toks := tk₁ } v (fun _ s₂ => s₂ = { s with heap := h₁, toks := tk₁ }) hst₁ rfl) (fun _ s₂ e => ?_) fun _ _ x => x.elim
      subst e
      have NI : News g C h₁ ((I, oI) :: (D, listOf ys.toArray e) :: nw) := fun p hp => by
        rcases List.mem_cons.mp hp with rfl | hp
        · exact ⟨hoI, hCI.symm, gI⟩
        · exact N₁ p hp
      refine wpAny_mono (turn g C D i v ys e mC nw h₁ tk₁ oI st hlt hP hyl hJ' F₁ NI off') (fun _ s₃ h₃ => ?_) fun _ _ x => x.elim
      refine wpAny_mono h₃ (fun ok s₄ h₄ => ?_) fun _ _ x => x.elim
      cases ok with
      | false =>
        simp only [Bool.false_eq_true, if_false] at h₄ ⊢
        obtain ⟨h', tk', m', nw', rfl, F₂, N₂, off₂, hJ₂⟩ := h₄
        have N₃ : News g C h' ((D, listOf ys.toArray e) :: nw') := fun p hp => N₂ p (.tail _ hp)
        exact ⟨n + 1 - (i + 1), by omega, h', tk', ys, e, m', nw', i + 1, rfl, hSt _ _ _ _ _ _ _ _ hst₁ hoI (N₂ _ (.head _)).1 hJ₂ (fun p hp => N₃ p (.tail _ hp)), F₂, N₃, off₂, hJ₂, by omega, hlt, rfl⟩
      | true =>
        simp only [if_true] at h₄ ⊢
        refine wpAny_mono h₄ (fun y s₅ h₅ => ?_) fun _ _ x => x.elim
        obtain ⟨h', tk', m', nw', rfl, F₂, N₂, off₂, hJ₂⟩ := h₅
        refine h_append (n := e) (tl := (I, oI) :: nw') F₂ (vs := ys) (N₂.perm fun p hp => ?_) (fun p hp => ?_) (by rw [sizeLine_eq]; omega) ?_
        · rcases List.mem_cons.mp hp with rfl | hp
          · exact .tail _ (.head _)
          · rcases List.mem_cons.mp hp with rfl | hp
            · exact .head _
            · exact .tail _ (.tail _ hp)
        · rcases List.mem_cons.mp hp with rfl | hp
          · exact hDI.symm
          · exact (off₂ p hp).2
        · intro h₆ F₆ N₆
          exact ⟨n + 1 - (i + 1), by omega, h₆, tk', ys ++ [y], e + 1, m', nw', i + 1, rfl, hSt _ _ _ _ _ _ _ _ hst₁ hoI (N₆ _ (.tail _ (.head _))).1 hJ₂ (fun p hp => N₆ p (.tail _ (.tail _ hp))), F₆,
            N₆.perm (fun p hp => by
              rcases List.mem_cons.mp hp with rfl | hp
              · exact .head _
              · exact .tail _ (.tail _ hp)), off₂, hJ₂, by simp; omega, hlt, rfl⟩
    · obtain rfl : i = n := by omega
      refine W.done _ _ _ hst' fun h₁ tk₁ hk₁ => ?_
      obtain ⟨F₁, N₁⟩ := next h₁ hk₁
      have kg : ∀ b o, g.get? b = some o → h₁.get? b = some o := fun b o e => F₁.keep b o e
      have hCL : C ≠ L := fun q => by rw [← q, gnone _ (by omega)] at hLg; cases hLg
      have hC0 : h₀.get? C = none := by
        cases q : h₀.get? C with
        | none => rfl
        | some o => have := st _ _ q; rw [gnone _ (by omega)] at this; cases this
      refine done h₁ tk₁ ys e D C mC nw hJ' ⟨⟨oL, es, ep, kg _ _ hLg, hLd, hLk, hLf⟩, fun b o e => kg b o (st b o e), F.above⟩ (fun p hp => ⟨(N₁ p hp).1, fun q => ?_, ?_⟩) (fun p hp => (off' p hp).2) F₁.ns hCL hC0 fun p hp => (N₁ p hp).2.1
      · have := (N₁ p hp).2.2; rw [q, hLg] at this; cases this
      · cases q : h₀.get? p.1 with
        | none => rfl
        | some o => have := (N₁ p hp).2.2; rw [st _ _ q] at this; cases this
  exact codeAny_compStart_list (loop _ rfl) (W.self 0 _ _ _ hst₁ (loop _ rfl))


theorem comp_fin {Q : Value → Shared → Prop} {C D : Addr} {mC : Str → Option Value} {nw : List (Addr × Obj)} {oD : Obj} {h : Heap} {tk : Nat}
    (F : Fr h₀ L h m) (N : News h₀ L h ((D, oD) :: nw)) (hns : h.Ns C mC) (hCL : C ≠ L) (hC0 : h₀.get? C = none) (off : ∀ p ∈ (D, oD) :: nw, p.1 ≠ C)
    (hq : ∀ h', Fr h₀ L h' m → News h₀ L h' ((D, oD) :: nw) → Q (.ref D) { s with heap := h', toks := tk }) :
    compPost (model prog w) A (fun _ _ => False) none Q (.ref D) C (.ok .next) { s with heap := h, toks := tk } :=
  ⟨mC, hns, fun h' hs' => hq h' (F.change hs' hCL hC0) fun p hp => ⟨hs'.extBut _ _ (off p hp) (N p hp).1, (N p hp).2⟩⟩
theorem comp_fin_as {Q : Flow → Shared → Prop} {C D : Addr} {mC : Str → Option Value} {nw : List (Addr × Obj)} {oD : Obj} {h : Heap} {tk : Nat} {y : Str} {py : Pos}
    (hy : env.kindOf y = some .local) (hp : (env.scope.kind == .class || (env.scope.kind == .module && env.locals != env.globals)) = false)
    (F : Fr h₀ env.locals h m) (N : News h₀ env.locals h ((D, oD) :: nw)) (hns : h.Ns C mC) (hCL : C ≠ env.locals) (hC0 : h₀.get? C = none) (off : ∀ p ∈ (D, oD) :: nw, p.1 ≠ C)
    (hq : ∀ h' tk, Fr h₀ env.locals h' (fun z => if z = y then some (.ref D) else m z) → News h₀ env.locals h' ((D, oD) :: nw) → Q .next { s with heap := h', toks := tk }) :
    compPost (model prog w) A (fun _ _ => False) (some (assign (.Name y py) env)) (fun _ s' => Q .next s') (.ref D) C (.ok .next) { s with heap := h, toks := tk } := by
  show wpAny _ A (assign (.Name y py) env (.ref D)) _ _ _
  refine wpAny_assign_Name (wpAny_storeName_local hy F.ns (fun h₂ hn₂ hs₂ => ?_) hp)
  have F₂ := F.set hn₂ hs₂
  have N₂ := N.set hs₂
  exact ⟨mC, hns.sameBut hs₂ hCL, fun h'' hs'' => hq h'' _ (F₂.change hs'' hCL hC0) fun p hp => ⟨hs''.extBut _ _ (off p hp) (N₂ p hp).1, (N₂ p hp).2⟩⟩

theorem comp_list {elt target iter : Expr} {ifs : List Expr} {scope : Scope} {cl : List (Str × Addr)} {pos : Pos} {Q : Value → Shared → Prop} {l : Addr} {vs : List Value} {nn : Nat} {s₀ : Shared}
    (hA : A.handled = none) (hs : ∀ x, foldedSetIterable iter env x = pure x) (hclos : closureFor scope env = pure cl) (hcell : ∀ y ∈ scope.names, y.2 ≠ .cell) (hkind : scope.kind = .function)
    (hnames : ∀ y ∈ scope.names, y.2 = .local → scope.names.lookup y.1 = some .local) (hz : vs.length ≤ 10000)
    (J : Nat → List Value → List (Addr × Obj) → Prop)
    (he : wpAny (model prog w) A (eval iter env) (fun v s' => v = .ref l ∧ s' = s) (fun _ _ => False) s₀)
    (F : Fr h₀ L s.heap m) (N : News h₀ L s.heap news) (hJ : J 0 [] news) (hl : ∀ i ys nw, J i ys nw → (l, listOf vs.toArray nn) ∈ nw)
    (turn : ∀ g C D I i v (ys : List Value) k mC nw h tk oI, h₀.StaysIn g → vs[i]? = some v → ys.length ≤ i → J i ys nw → Fr g C h mC → News g C h ((I, oI) :: (D, listOf ys.toArray k) :: nw) → (∀ p ∈ nw, p.1 ≠ I ∧ p.1 ≠ D) →
      wpAny (model prog w) A (assign target (compEnvC scope cl C env) v) (fun _ s₂ => wpAny (model prog w) A (tests ifs (compEnvC scope cl C env)) (fun ok s₃ =>
        if ok = true then wpAny (model prog w) A (eval elt (compEnvC scope cl C env)) (fun y s₄ => CompEnd g C I D oI (listOf ys.toArray k) s (J (i + 1) (ys ++ [y])) s₄) (fun _ _ => False) s₃
        else CompEnd g C I D oI (listOf ys.toArray k) s (J (i + 1) ys) s₃) (fun _ _ => False) s₂) (fun _ _ => False) { s with heap := h, toks := tk })
    (done : ∀ h tk ys k D nw, J vs.length ys nw → Fr h₀ L h m → News h₀ L h ((D, listOf ys.toArray k) :: nw) → (∀ p ∈ nw, p.1 ≠ D) → Q (.ref D) { s with heap := h, toks := tk }) :
    wpAny (model prog w) A (eval (.ListComp elt [⟨target, iter, ifs, 0⟩] scope pos) env) Q (fun _ _ => False) s₀ := by
  rw [eval_ListComp]
  refine wpAny_comprehension_free (use := none) rfl hs hclos hkind hnames (wpAny_mono he (fun v s' h' => ?_) fun _ _ x => x.elim)
  obtain ⟨rfl, rfl⟩ := h'
  have hm := hl _ _ _ hJ
  have hls := h_isList N hm
  refine wpAny_pyIter_list hls ?_
  have hol := (N _ hm).1
  have up : ∀ b o, s'.heap.get? b = some o → (s'.heap.push { cls := .type "list_iterator", data := .fields #[.ref l, .int 0 0] }).get? b = some o := fun b o e => Heap.get?_push_of_some _ e
  have hne : l ≠ s'.heap.objs.size := Nat.ne_of_lt (Heap.lt_size hol)
  have W := Walks.list (prog := prog) (w := w) hA s'.heap.objs.size l hne vs.toArray
  have hlen : vs.toArray.size = vs.length := by simp
  rw [hlen] at W
  refine comp_block (s := { s' with heap := s'.heap.push { cls := .type "list_iterator", data := .fields #[.ref l, .int 0 0] } }) W hz J (fun i h st => by obtain ⟨o, e, _⟩ := st.1; exact ⟨o, e⟩)
    (fun i h h' o ys nw g C st e e' hj N' => ⟨by obtain ⟨o', q, r⟩ := st.1; rw [e] at q; cases q; exact ⟨o, e', r⟩, h_isList N' (hl _ _ _ hj)⟩) ?_ ?_
    (fun i s v Q st h => ?_) hcell hkind ⟨⟨_, Heap.get?_push_size _ rfl, rfl, rfl⟩, hls.at fun o e => Heap.get?_push_of_some _ e⟩ (F.push _) (N.grown up) (fun p hp => Nat.ne_of_lt (Heap.lt_size (N p hp).1)) hJ ?_ ?_
  · exact Nat.ne_of_gt F.ns.lt
  · exact next_is_new F
  · obtain ⟨o, e, hc, hd⟩ := st.1
    exact lot_plain e hc hd (by decide) h
  · intro g C D i v ys k mC nw h tk oI hst hi hP hy hj F' N' off'
    exact turn g C D _ i v ys k mC nw h tk oI hst (by simpa using hP) hy hj F' N' off'
  · intro h tk ys k D C mC nw hj F' N' o a b c d
    exact comp_fin F' N' a b c d fun h'' F'' N'' => done h'' tk ys k D nw hj F'' N'' o

/-- where a comprehension over a range begins -/
def RangeAt (h₀ : Heap) (L : Addr) (m : Str → Option Value) (n : Nat) (v : Value) (s : Shared) (K : Addr → List (Addr × Obj) → Prop) : Prop :=
  ∃ r t u tk news, v = .ref r ∧ IsRange s.heap r 0 n 1 t u tk ∧ Fr h₀ L s.heap m ∧ News h₀ L s.heap news ∧ K r news
theorem comp_range {elt target iter : Expr} {ifs : List Expr} {scope : Scope} {cl : List (Str × Addr)} {pos : Pos} {Q : Value → Shared → Prop} {n : Nat}
    (hA : A.handled = none) (hs : ∀ x, foldedSetIterable iter env x = pure x) (hclos : closureFor scope env = pure cl) (hcell : ∀ y ∈ scope.names, y.2 ≠ .cell) (hkind : scope.kind = .function)
    (hnames : ∀ y ∈ scope.names, y.2 = .local → scope.names.lookup y.1 = some .local) (hz : n ≤ 10000)
    (he : wpAny (model prog w) A (eval iter env) (fun v s => RangeAt h₀ L m n v s fun _ news => ∃ J : Nat → List Value → List (Addr × Obj) → Prop, J 0 [] news ∧
      (∀ g C D I (i : Nat) ti (ys : List Value) k mC nw h tk oI, h₀.StaysIn g → i < n → ys.length ≤ i → J i ys nw → Fr g C h mC → News g C h ((I, oI) :: (D, listOf ys.toArray k) :: nw) → (∀ p ∈ nw, p.1 ≠ I ∧ p.1 ≠ D) →
        wpAny (model prog w) A (assign target (compEnvC scope cl C env) (.int i ti)) (fun _ s₂ => wpAny (model prog w) A (tests ifs (compEnvC scope cl C env)) (fun ok s₃ =>
          if ok = true then wpAny (model prog w) A (eval elt (compEnvC scope cl C env)) (fun y s₄ => CompEnd g C I D oI (listOf ys.toArray k) s (J (i + 1) (ys ++ [y])) s₄) (fun _ _ => False) s₃
          else CompEnd g C I D oI (listOf ys.toArray k) s (J (i + 1) ys) s₃) (fun _ _ => False) s₂) (fun _ _ => False) { s with heap := h, toks := tk }) ∧
      (∀ h tk ys k D nw, J n ys nw → Fr h₀ L h m → News h₀ L h ((D, listOf ys.toArray k) :: nw) → (∀ p ∈ nw, p.1 ≠ D) → Q (.ref D) { s with heap := h, toks := tk })) (fun _ _ => False) s) :
    wpAny (model prog w) A (eval (.ListComp elt [⟨target, iter, ifs, 0⟩] scope pos) env) Q (fun _ _ => False) s := by
  rw [eval_ListComp]
  refine wpAny_comprehension_free (use := none) rfl hs hclos hkind hnames (wpAny_mono he (fun v s' h' => ?_) fun _ _ x => x.elim)
  obtain ⟨r, t, u, tk, news, rfl, hr, F, N, J, hJ, turn, done⟩ := h'
  have hsm : Builtin.Range.small 0 n 1 = true := small_one (by omega) (by omega) (by omega) (by omega)
  have hsz : Builtin.Range.rangeSize 0 n 1 = ((n : Nat) : Int) := rangeSize_nat _ _
  refine wpAny_pyIter_range hr hsm ?_
  have up : ∀ b o, s'.heap.get? b = some o → (s'.heap.push { cls := .type "range_iterator", data := .fields #[rawInt 0, rawInt (Builtin.Range.rangeSize 0 n 1), rawInt 1] }).get? b = some o := fun b o e => Heap.get?_push_of_some _ e
  have W := LCg.range_walks (prog := prog) (w := w) (I := s'.heap.objs.size) hA 0 n
  refine comp_block (s := { s' with heap := s'.heap.push { cls := .type "range_iterator", data := .fields #[rawInt 0, rawInt (Builtin.Range.rangeSize 0 n 1), rawInt 1] } }) W hz J (fun i h st => ⟨_, st⟩)
    (fun i h h' o ys nw g C st e e' hj N' => ?_) ?_ ?_
    (fun i s v Q st h => ?_) hcell hkind ?_ (F.push _) (N.grown up) (fun p hp => Nat.ne_of_lt (Heap.lt_size (N p hp).1)) hJ ?_ ?_
  · have st' : h.get? _ = some _ := st
    show h'.get? _ = some _
    rw [e', ← e]; exact st'
  · exact Nat.ne_of_gt F.ns.lt
  · exact next_is_new F
  · exact lot_plain st rfl rfl (by decide) h
  · show IsRangeIter _ _ _ _ _
    rw [hsz]; simpa using Heap.get?_push_size _ rfl
  · intro g C D i v ys k mC nw h tk oI hst hi hP hy hj F' N' off'
    obtain ⟨ti, rfl⟩ := hP
    rw [Int.zero_add]
    exact turn g C D _ i ti ys k mC nw h tk oI hst hi hy hj F' N' off'
  · intro h tk ys k D C mC nw hj F' N' o a b c d
    exact comp_fin F' N' a b c d fun h'' F'' N'' => done h'' tk ys k D nw hj F'' N'' o

theorem comp_range_as {elt target iter : Expr} {ifs : List Expr} {scope : Scope} {cl : List (Str × Addr)} {pos spos : Pos} {y : Str} {py : Pos} {Q : Flow → Shared → Prop} {n : Nat}
    (hsw : swapsWith (.ListComp elt [⟨target, iter, ifs, 0⟩] scope pos) (some (.Name y py)) spos.line env = pure true) (hy : env.kindOf y = some .local) (hp : (env.scope.kind == .class || (env.scope.kind == .module && env.locals != env.globals)) = false) (hL : env.locals = L)
    (hA : A.handled = none) (hs : ∀ x, foldedSetIterable iter env x = pure x) (hclos : closureFor scope env = pure cl) (hcell : ∀ y ∈ scope.names, y.2 ≠ .cell) (hkind : scope.kind = .function)
    (hnames : ∀ y ∈ scope.names, y.2 = .local → scope.names.lookup y.1 = some .local) (hz : n ≤ 10000)
    (he : wpAny (model prog w) A (eval iter env) (fun v s => RangeAt h₀ L m n v s fun _ news => ∃ J : Nat → List Value → List (Addr × Obj) → Prop, J 0 [] news ∧
      (∀ g C D I (i : Nat) ti (ys : List Value) k mC nw h tk oI, h₀.StaysIn g → i < n → ys.length ≤ i → J i ys nw → Fr g C h mC → News g C h ((I, oI) :: (D, listOf ys.toArray k) :: nw) → (∀ p ∈ nw, p.1 ≠ I ∧ p.1 ≠ D) →
        wpAny (model prog w) A (assign target (compEnvC scope cl C env) (.int i ti)) (fun _ s₂ => wpAny (model prog w) A (tests ifs (compEnvC scope cl C env)) (fun ok s₃ =>
          if ok = true then wpAny (model prog w) A (eval elt (compEnvC scope cl C env)) (fun y s₄ => CompEnd g C I D oI (listOf ys.toArray k) s (J (i + 1) (ys ++ [y])) s₄) (fun _ _ => False) s₃
          else CompEnd g C I D oI (listOf ys.toArray k) s (J (i + 1) ys) s₃) (fun _ _ => False) s₂) (fun _ _ => False) { s with heap := h, toks := tk }) ∧
      (∀ h tk ys k D nw, J n ys nw → Fr h₀ L h (fun z => if z = y then some (.ref D) else m z) → News h₀ L h ((D, listOf ys.toArray k) :: nw) → (∀ p ∈ nw, p.1 ≠ D) → Q .next { s with heap := h, toks := tk })) (fun _ _ => False) s) :
    wpAny (model prog w) A (exec (.Assign [.Name y py] (.ListComp elt [⟨target, iter, ifs, 0⟩] scope pos) spos) env) Q (fun _ _ => False) s := by
  subst hL
  rw [exec_Assign_Name_used _ _ _ _ hsw]
  refine wpAny_bind (wpAny_standAt (wpAny_bind ?_))
  show wpAny _ A (do let _ ← comprehension (.ListComp elt [⟨target, iter, ifs, 0⟩] scope pos) scope env _ (newList []) false (eval iter env) (some (assign (.Name y py) env))) _ _ s
  refine wpAny_bind (wpAny_mono (wpAny_comprehension_free (use := some (assign (.Name y py) env)) (Q := fun _ s' => Q .next s') rfl hs hclos hkind hnames
    (wpAny_mono he (fun v s' h' => ?_) fun _ _ x => x.elim)) (fun _ s' hq => wpAny_pure (wpAny_pure hq)) fun _ _ e => e)
  obtain ⟨r, t, u, tk, news, rfl, hr, F, N, J, hJ, turn, done⟩ := h'
  have hsm : Builtin.Range.small 0 n 1 = true := small_one (by omega) (by omega) (by omega) (by omega)
  have hsz : Builtin.Range.rangeSize 0 n 1 = ((n : Nat) : Int) := rangeSize_nat _ _
  refine wpAny_pyIter_range hr hsm ?_
  have up : ∀ b o, s'.heap.get? b = some o → (s'.heap.push { cls := .type "range_iterator", data := .fields #[rawInt 0, rawInt (Builtin.Range.rangeSize 0 n 1), rawInt 1] }).get? b = some o := fun b o e => Heap.get?_push_of_some _ e
  have W := LCg.range_walks (prog := prog) (w := w) (I := s'.heap.objs.size) hA 0 n
  refine comp_block (s := { s' with heap := s'.heap.push { cls := .type "range_iterator", data := .fields #[rawInt 0, rawInt (Builtin.Range.rangeSize 0 n 1), rawInt 1] } }) W hz J (fun i h st => ⟨_, st⟩)
    (fun i h h' o ys nw g C st e e' hj N' => ?_) ?_ ?_
    (fun i s v Q st h => ?_) hcell hkind ?_ (F.push _) (N.grown up) (fun p hp => Nat.ne_of_lt (Heap.lt_size (N p hp).1)) hJ ?_ ?_
  · have st' : h.get? _ = some _ := st
    show h'.get? _ = some _
    rw [e', ← e]; exact st'
  · exact Nat.ne_of_gt F.ns.lt
  · exact next_is_new F
  · exact lot_plain st rfl rfl (by decide) h
  · show IsRangeIter _ _ _ _ _
    rw [hsz]; simpa using Heap.get?_push_size _ rfl
  · intro g C D i v ys k mC nw h tk oI hst hi hP hy hj F' N' off'
    obtain ⟨ti, rfl⟩ := hP
    rw [Int.zero_add]
    exact turn g C D _ i ti ys k mC nw h tk oI hst hi hy hj F' N' off'
  · intro h tk ys k D C mC nw hj F' N' o a b c d
    exact comp_fin_as hy hp F' N' a b c d fun h'' tk'' F'' N'' => done h'' tk'' ys k D nw hj F'' N'' o
end

/-- a stretch: when it begins, when it ends, its name -/
abbrev Tri := Int × Int × Str
abbrev embT (p : Tri) : Dat := .tuple [.int p.1, .int p.2.1, .str p.2.2]
theorem datT {news : List (Addr × Obj)} {v : Value} {p : Tri} (h : DatIn news v (embT p)) : ∃ a t1 t2 t3 n, v = .ref a ∧ (a, ({ cls := .type "tuple", data := .seq #[.int p.1 t1, .int p.2.1 t2, .str p.2.2 t3] n } : Obj)) ∈ news := by
  cases h with
  | tuple hm hd =>
    cases hd with
    | cons h1 r =>
      cases r with
      | cons h2 r =>
        cases r with
        | cons h3 r =>
          cases r; cases h1; cases h2; cases h3
          exact ⟨_, _, _, _, _, rfl, hm⟩

/-- how many stretches hold a time -/
def atOnce (S : List Tri) (t : Int) : List Tri := S.filter fun p => decide (p.1 ≤ t) && decide (t < p.2.1)

theorem atOnce_take {S : List Tri} (t : Int) {i : Nat} (hi : i < S.length) : atOnce (S.take (i + 1)) t = atOnce (S.take i) t ++ (if S[i].1 ≤ t ∧ t < S[i].2.1 then [S[i]] else []) := by
  rw [List.take_add_one, List.getElem?_eq_getElem hi]
  unfold atOnce
  rw [List.filter_append]
  congr 1
  by_cases h : S[i].1 ≤ t ∧ t < S[i].2.1
  · rw [if_pos h]; simp [h.1, h.2]
  · rw [if_neg h]
    by_cases h1 : S[i].1 ≤ t
    · have h2 : ¬ t < S[i].2.1 := fun h2 => h ⟨h1, h2⟩
      simp [h1, h2]
    · simp [h1]

section
variable {w : World} {A : Around} {h₀ : Heap} {L l : Addr} {m : Str → Option Value} {s : Shared} {news : List (Addr × Obj)} {vs : List Value} {n : Nat} {S : List Tri}
theorem atOnce_spec {t : Int} {tt : Tok} {Q : Value → Shared → Prop} {E : Value → Shared → Prop}
    (hA : A.handled = none) (hdp : A.depth + 5 < recursionLimit) (hu : A.units + 50 < cLine)
    (G : Gd w h₀) (F : Fr h₀ L s.heap m) (N : News h₀ L s.heap news) (hm : (l, listOf vs.toArray n) ∈ news)
    (hD : DatAll news vs (S.map embT)) (hlen : S.length ≤ 1000)
    (ret : ∀ h' tk t', Fr h₀ L h' m → News h₀ L h' news → Q (.int ((atOnce S t).length : Nat) t') {s with heap := h', toks := tk}) :
    wpAny (model Challenge.rw_ir0003_01.row.prog w) A (call (.ref 73) [.ref l, .int t tt]) Q E s := by
  obtain ⟨hn, dp, fr, gd, un⟩ := A
  obtain rfl : hn = none := hA
  obtain ⟨X, loose, mean, mg, mb, T⟩ := G
  have hh : Challenge.rw_ir0003_01.Holds → (hd.heap_39 w.params).In h₀ → True := fun _ _ => trivial
  revert hh
  k_fill
  intro hh
  refine wpAny_call ?_
  refine enterC F X N T (by k_is) (by k_is) (by (try dsimp only at hdp ⊢); omega) (binds := [(Str.ofString "stretches", .ref l), (Str.ofString "time", .int t tt)]) (BindsTo.of_eq rfl) rfl (by decide +kernel) ?_ rfl rfl rfl
  intro g L' h' tk' cells st F' N' Y' X' T' hlt
  obtain ⟨o', rfl, d1⟩ := CellsAre.one Y'
  replace d1 : o'.data = .cell (some (.int t tt)) := d1
  try dsimp only
  have hvl := dat_len hD
  k_steps
  refine Hold.mk ?_
  refine comp_list (vs := vs) (nn := n) rfl (fun _ => rfl) (by with_unfolding_all rfl) (by decide) rfl (by decide) (by omega)
    (fun i ys nw => nw = (L' + 1, o') :: news ∧ ys.length = (atOnce (S.take i) t).length) (nm_local (by assumption) rfl ⟨rfl, rfl⟩) (by assumption) (by assumption) ⟨rfl, by simp [atOnce]⟩ (fun i ys nw h => by rw [h.1]; exact .tail _ hm) ?_ ?_
  · rintro g2 C D I i v ys k mC nw h tk oI st2 hv hyl ⟨rfl, hy⟩ F2 N2 off
    have hi : i < S.length := by rw [← hvl]; exact (List.getElem?_eq_some_iff.mp hv).1
    obtain ⟨v', hv', hd⟩ := dat_get hD hi
    obtain rfl : v' = v := by rw [hv] at hv'; exact (Option.some.inj hv').symm
    obtain ⟨a, t1, t2, t3, na, rfl, ha⟩ := datT hd
    have ha' := List.mem_cons_of_mem (I, oI) (List.mem_cons_of_mem (D, W.listOf ys.toArray k) (List.mem_cons_of_mem (L' + 1, o') ha))
    have hc' : (L' + 1, o') ∈ (I, oI) :: (D, W.listOf ys.toArray k) :: (L' + 1, o') :: news := .tail _ (.tail _ (.head _))
    refine assign3 rfl F2 N2 (News.isTup N2 ha') ?_
    intro h3 tk3 F3 N3
    refine wpAny_tests_one ?_
    have htk := atOnce_take t hi
    have off2 : ∀ p ∈ (L' + 1, o') :: news, p.1 ≠ I ∧ p.1 ≠ D := off
    k_steps
    · rename_i c1 c2
      refine Hold.mk ⟨_, _, _, _, rfl, F3, N3, off2, rfl, ?_⟩
      rw [htk, if_pos ⟨c1, c2⟩, List.length_append, List.length_append, hy]
      rfl
    · rename_i c1 c2
      refine Hold.mk ⟨_, _, _, _, rfl, F3, N3, off2, rfl, ?_⟩
      rw [htk, if_neg (fun h => c2 h.2), List.append_nil, hy]
    · rename_i c1
      refine Hold.mk ⟨_, _, _, _, rfl, F3, N3, off2, rfl, ?_⟩
      rw [htk, if_neg (fun h => c1 h.1), List.append_nil, hy]
  · rintro h tk ys k D nw ⟨rfl, hy⟩ F2 N2 off
    have hle : (atOnce S t).length ≤ S.length := List.length_filter_le ..
    rw [hvl, List.take_length] at hy
    k_steps
    refine Hold.mk ?_
    refine h_len N2 (.head _) (by omega) ?_
    k_steps
    rename_i kF kN _ _
    rw [hy]
    exact ret _ _ _ kF (fun p hp => kN p (.tail _ (.tail _ hp)))
end

/-- the rooms by the plain list: a step, all steps -/
def blStep (st : List Int × List Nat) (p : Tri) : List Int × List Nat :=
  let r := st.1.findIdx fun e => decide (e ≤ p.1)
  (if r = st.1.length then st.1 ++ [p.2.1] else st.1.set r p.2.1, st.2 ++ [r])
def blAll (S : List Tri) : List Int × List Nat := S.foldl blStep ([], [])
theorem blAll_take {S : List Tri} {i : Nat} (hi : i < S.length) : blAll (S.take (i + 1)) = blStep (blAll (S.take i)) S[i] := by
  unfold blAll
  rw [List.take_add_one, List.getElem?_eq_getElem hi, List.foldl_append]
  rfl
theorem findIdx_of {xs : List Int} {b : Int} {p : Nat} (hp : p ≤ xs.length) (h1 : ∀ j, (hj : j < p) → b < xs[j]'(by omega)) (h2 : (hj : p < xs.length) → xs[p] ≤ b) : xs.findIdx (fun e => decide (e ≤ b)) = p := by
  by_cases h : p < xs.length
  · rw [List.findIdx_eq h]
    refine ⟨by simpa using h2 h, fun j hj => ?_⟩
    simpa using h1 j hj
  · have : p = xs.length := by omega
    subst this
    rw [List.findIdx_eq_length]
    intro x hx
    obtain ⟨j, hj, rfl⟩ := List.mem_iff_getElem.mp hx
    simpa using h1 j hj

theorem blAll_len (S : List Tri) : (blAll S).1.length ≤ S.length ∧ (blAll S).2.length = S.length := by
  have key : ∀ (S : List Tri) (st : List Int × List Nat), (S.foldl blStep st).1.length ≤ st.1.length + S.length ∧ (S.foldl blStep st).2.length = st.2.length + S.length := by
    intro S
    induction S with
    | nil => intro st; simp
    | cons p r ih =>
      intro st
      have h1 : (blStep st p).1.length ≤ st.1.length + 1 := by
        unfold blStep; dsimp only; split <;> simp
      have h2 : (blStep st p).2.length = st.2.length + 1 := by unfold blStep; simp
      obtain ⟨a, b⟩ := ih (blStep st p)
      rw [List.foldl_cons, List.length_cons]
      omega
  have := key S ([], [])
  simpa [blAll] using this

section
variable {w : World} {A : Around} {h₀ : Heap} {L l : Addr} {m : Str → Option Value} {s : Shared} {news : List (Addr × Obj)} {vs : List Value} {n : Nat} {S : List Tri}
theorem byLists_spec {Q : Value → Shared → Prop} {E : Value → Shared → Prop}
    (hA : A.handled = none) (hdp : A.depth + 5 < recursionLimit) (hu : A.units + 50 < cLine)
    (G : Gd w h₀) (F : Fr h₀ L s.heap m) (N : News h₀ L s.heap news) (hm : (l, listOf vs.toArray n) ∈ news)
    (hD : DatAll news vs (S.map embT)) (hlen : S.length ≤ 1000)
    (ret : ∀ h' tk r (vr : List Value) k, Fr h₀ L h' m → News h₀ L h' ((r, listOf vr.toArray k) :: news) → (∀ p ∈ news, p.1 ≠ r) → DatAll [] vr ((blAll S).2.map fun i => Dat.int (i : Nat)) → Q (.ref r) {s with heap := h', toks := tk}) :
    wpAny (model Challenge.rw_ir0003_01.row.prog w) A (call (.ref 68) [.ref l]) Q E s := by
  obtain ⟨hn, dp, fr, gd, un⟩ := A
  obtain rfl : hn = none := hA
  obtain ⟨X, loose, mean, mg, mb, T⟩ := G
  have hh : Challenge.rw_ir0003_01.Holds → (hd.heap_39 w.params).In h₀ → True := fun _ _ => trivial
  revert hh
  k_fill
  intro hh
  refine wpAny_call ?_
  refine enter F X N T (by k_is) (by k_is) (by (try dsimp only at hdp ⊢); omega) (binds := [(Str.ofString "stretches", .ref l)]) (BindsTo.of_eq rfl) (locs rfl) ?_ rfl rfl rfl (by decide)
  intro g L' h' st F' N' X' T' hlt
  try dsimp only
  have hvl := dat_len hD
  k_steps
  rename_i ro _ o1 la _ o2 Dt _ o3 _ _ h1 F1 N1
  refine Hold.mk ?_
  have hrl : ro ≠ la := Nat.ne_of_lt o2.1
  have hnr : ∀ p ∈ news, p.1 ≠ ro := fun p hp => Nat.ne_of_lt (o1 p hp)
  have hnl : ∀ p ∈ news, p.1 ≠ la := fun p hp => Nat.ne_of_lt (Nat.lt_trans (o1 p hp) o2.1)
  refine for_list (vs := vs) (nn := n) rfl (fun _ => rfl) (fun i m nw => ∃ (u : Str → Option Value) (vl vr : List Value) (kl kr : Nat),
      m = fm [(Str.ofString "stretches", .ref l), (Str.ofString "rooms", .ref ro), (Str.ofString "lasts", .ref la)] u ∧
      nw = (la, W.listOf vl.toArray kl) :: (ro, W.listOf vr.toArray kr) :: news ∧ DatAll [] vl ((blAll (S.take i)).1.map Dat.int) ∧ DatAll [] vr ((blAll (S.take i)).2.map fun r => Dat.int (r : Nat)))
    (nm_local F1 rfl ⟨rfl, rfl⟩) F1 (N1.perm fun p hp => .tail _ hp) ⟨_, [], [], 0, 0, (fm_eq _ _ (by walk_at "PINS")).symm, rfl, .nil, .nil⟩ ?_ ?_ ?_
  · rintro i m nw ⟨u, vl, vr, kl, kr, rfl, rfl, _, _⟩
    exact .tail _ (.tail _ hm)
  · rintro i v m₁ nw h tk I oI hv ⟨u, vl, vr, kl, kr, rfl, rfl, hDl, hDr⟩ F2 N2 off
    have hi : i < S.length := by rw [← hvl]; exact (List.getElem?_eq_some_iff.mp hv).1
    obtain ⟨v', hv', hd⟩ := dat_get hD hi
    obtain rfl : v' = v := by rw [hv] at hv'; exact (Option.some.inj hv').symm
    obtain ⟨a, t1, t2, t3, na, rfl, ha⟩ := datT hd
    have ha' : (a, _) ∈ (I, oI) :: (la, W.listOf vl.toArray kl) :: (ro, W.listOf vr.toArray kr) :: news := .tail _ (.tail _ (.tail _ ha))
    have hla : (la, W.listOf vl.toArray kl) ∈ (I, oI) :: (la, W.listOf vl.toArray kl) :: (ro, W.listOf vr.toArray kr) :: news := .tail _ (.head _)
    have hbl := blAll_len (S.take i)
    have hti : (S.take i).length ≤ 1000 := by rw [List.length_take]; omega
    generalize hst : blAll (S.take i) = st0 at hDl hDr hbl
    obtain ⟨ls, rs⟩ := st0
    dsimp only at hDl hDr hbl
    refine assign3 rfl F2 N2 (News.isTup N2 ha') ?_
    intro h3 tk3 F3 N3
    k_steps
    rename_i h4 F4 N4
    refine Hold.mk ?_
    refine my_while (fun k s' => ∃ (h' : Heap) (tk p : Nat) (t : Tok) (u : Str → Option Value), s' = { heap := h', gens := s.gens, drawn := s.drawn, toks := tk, os := s.os } ∧
      Fr g L' h' (fm [(Str.ofString "stretches", .ref l), (Str.ofString "rooms", .ref ro), (Str.ofString "lasts", .ref la), (Str.ofString "begin", .int S[i].1 t1), (Str.ofString "end", .int S[i].2.1 t2), (Str.ofString "room", .int (p : Nat) t)] u) ∧
      News g L' h' ((I, oI) :: (la, W.listOf vl.toArray kl) :: (ro, W.listOf vr.toArray kr) :: news) ∧ p ≤ ls.length ∧ (∀ j, (hj : j < ls.length) → j < p → S[i].1 < ls[j]) ∧ k = ls.length - p) ?_ (ls.length - 0)
      ⟨h4, _, 0, _, _, rfl, fr_pin F4 _ (by walk_at "PINS"), N4, Nat.zero_le _, fun j _ h => absurd h (Nat.not_lt_zero _), rfl⟩
    clear F4 N4 F3 N3 F2 N2
    rintro k s' ⟨h5, tk5, p, t, u5, rfl, F5, N5, hp5, hq5, rfl⟩
    have hIla : I ≠ la := fun e => off _ (.head _) e.symm
    have hIro : I ≠ ro := fun e => off _ (.tail _ (.head _)) e.symm
    have hvll := dat_len hDl
    have hvrl := hDr.length
    rw [List.length_map] at hvrl
    k_steps
    refine Hold.mk ?_
    refine h_lenD N5 (.tail _ (.head _)) hDl (by omega) ?_
    k_steps
    · rename_i hc1
      refine Hold.mk ?_
      have hpl : p < ls.length := by omega
      refine h_sub (by assumption) (.tail _ (.head _)) hDl (k := (p : Int)) (by omega) (by omega) (x := ls[p]) (by rw [Int.toNat_natCast]; exact List.getElem?_eq_getElem hpl) ?_
      intro v1 hv1
      cases hv1
      k_steps
      · rename_i hc2 h6 F6 N6
        refine Hold.mk ⟨ls.length - (p + 1), by omega, _, _, p + 1, _, _, rfl, fr_pin F6 _ (by walk_at "PINS"), N6, hpl, fun j hj hjp => ?_, rfl⟩
        rcases Nat.lt_succ_iff_lt_or_eq.mp hjp with h | rfl
        · exact hq5 j hj h
        · exact hc2
      · rename_i hc2
        have hr : ls.findIdx (fun e => decide (e ≤ S[i].1)) = p := findIdx_of hp5 (fun j hj => hq5 j (by omega) hj) fun _ => by omega
        refine Hold.mk ?_
        refine h_lenD (by assumption) (.tail _ (.head _)) hDl (by omega) ?_
        k_steps
        · rename_i hc3
          exact absurd hc3 (by omega)
        · rename_i hc3
          refine Hold.mk ?_
          refine h_setM [(I, oI)] (by assumption) (by assumption) (by simpa using hIla) (fun q hq => ?_) (by omega) (by omega) (by omega) ?_
          · rcases List.mem_cons.mp hq with rfl | hq
            · exact hrl
            · exact hnl q hq
          intro h7 F7 N7
          dsimp only
          k_steps
          refine Hold.mk ?_
          refine h_appendM [(I, oI), (la, _)] (by assumption) N7 (by simp [hIro, hrl.symm]) hnr (by rw [sizeLine_eq]; omega) ?_
          intro h8 F8 N8
          k_steps
          refine Hold.mk ⟨_, _, _, _, rfl, F8, N8, fun q hq => ?_, _, _, _, _, _, (fm_eq _ _ (by walk_at "PINS")).symm, rfl, ?_, ?_⟩
          · rcases List.mem_cons.mp hq with rfl | hq
            · exact hIla.symm
            · rcases List.mem_cons.mp hq with rfl | hq
              · exact hIro.symm
              · exact off q (.tail _ (.tail _ hq))
          · rw [blAll_take hi, hst]
            simp only [blStep, hr, if_neg (Nat.ne_of_lt hpl)]
            exact dat_set hDl (.int _ _) _
          · rw [blAll_take hi, hst]
            simp only [blStep, hr]
            exact dat_snoc hDr (.int _ _)
    · rename_i hc1
      obtain rfl : p = ls.length := by omega
      have hr : ls.findIdx (fun e => decide (e ≤ S[i].1)) = ls.length := findIdx_of hp5 (fun j hj => hq5 j (by omega) hj) fun h => absurd h (Nat.lt_irrefl _)
      refine Hold.mk ?_
      refine h_lenD (by assumption) (.tail _ (.head _)) hDl (by omega) ?_
      k_steps
      · refine Hold.mk ?_
        refine h_appendM [(I, oI)] (by assumption) (by assumption) (by simpa using hIla) (fun q hq => ?_) (by rw [sizeLine_eq]; omega) ?_
        · rcases List.mem_cons.mp hq with rfl | hq
          · exact hrl
          · exact hnl q hq
        intro h6 F6 N6
        k_steps
        refine Hold.mk ?_
        refine h_setM [(I, oI)] (by assumption) (by assumption) (by simpa using hIla) (fun q hq => ?_) (by omega) (by omega) (by rw [List.length_append, List.length_singleton]; omega) ?_
        · rcases List.mem_cons.mp hq with rfl | hq
          · exact hrl
          · exact hnl q hq
        intro h7 F7 N7
        dsimp only
        k_steps
        refine Hold.mk ?_
        refine h_appendM [(I, oI), (la, _)] (by assumption) N7 (by simp [hIro, hrl.symm]) hnr (by rw [sizeLine_eq]; omega) ?_
        intro h8 F8 N8
        k_steps
        refine Hold.mk ⟨_, _, _, _, rfl, F8, N8, fun q hq => ?_, _, _, _, _, _, (fm_eq _ _ (by walk_at "PINS")).symm, rfl, ?_, ?_⟩
        · rcases List.mem_cons.mp hq with rfl | hq
          · exact hIla.symm
          · rcases List.mem_cons.mp hq with rfl | hq
            · exact hIro.symm
            · exact off q (.tail _ (.tail _ hq))
        · rw [blAll_take hi, hst]
          simp only [blStep, hr, if_true]
          have e : ls ++ [S[i].2.1] = (ls ++ [S[i].2.1]).set ls.length S[i].2.1 := by
            apply List.ext_getElem (by simp)
            intro j h1 h2
            by_cases hj : j = ls.length
            · subst hj; simp
            · rw [List.getElem_set_ne (fun h => hj h.symm)]
          rw [e]
          exact dat_set (dat_snoc hDl (.int _ _)) (.int _ _) _
        · rw [blAll_take hi, hst]
          simp only [blStep, hr]
          exact dat_snoc hDr (.int _ _)
      · rename_i hc3
        exact absurd rfl hc3
  · rintro m₁ nw h tk ⟨u, vl, vr, kl, kr, rfl, rfl, hDl, hDr⟩ F2 N2
    rw [hvl, List.take_length] at hDr
    k_steps
    exact ret _ _ _ _ _ (by assumption) (fun p hp => by
      rename News h₀ L _ _ => kN
      exact kN p (.tail _ hp)) hnr hDr
end

abbrev ltI (a b : Int) : Bool := decide (a < b)
/-- what the two heaps hold, told by the plain list of last ends -/
structure HInv (ends : List (Int × Int)) (free : List Int) (lasts : List Int) (b : Int) : Prop where
  h1 : IsHeap ltP ends
  h2 : IsHeap ltI free
  h3 : (ends.map (·.2) ++ free).Perm ((List.range lasts.length).map fun i => ((i : Nat) : Int))
  h4 : ∀ p ∈ ends, ∃ r : Nat, p.2 = r ∧ lasts[r]? = some p.1
  h5 : ∀ x ∈ free, ∃ r : Nat, x = r ∧ ∃ e, lasts[r]? = some e ∧ e ≤ b
theorem HInv.later {ends : List (Int × Int)} {free lasts : List Int} {b b' : Int} (H : HInv ends free lasts b) (h : b ≤ b') : HInv ends free lasts b' :=
  ⟨H.h1, H.h2, H.h3, H.h4, fun x hx => by obtain ⟨r, e1, e, e2, e3⟩ := H.h5 x hx; exact ⟨r, e1, e, e2, by omega⟩⟩
theorem HInv.nil (b : Int) : HInv [] [] [] b := ⟨(fun i a b _ h => by simp at h), (fun i a b _ h => by simp at h), .refl _, (fun _ h => nomatch h), (fun _ h => nomatch h)⟩

theorem rel_step {qs : List (Int × Int)} {z : Int × Int} {free lasts : List Int} {b : Int} (H : HInv (qs ++ [z]) free lasts b) {q : Int × Int} (hq : (qs ++ [z])[0]? = some q) (hb : q.1 ≤ b) :
    HInv (hpop ltP qs z).2 (hpush ltI free (hpop ltP qs z).1.2) lasts b ∧ (hpop ltP qs z).2.length = qs.length := by
  obtain ⟨p1, p2, p3, p4⟩ := pop_heap ordP H.h1
  obtain ⟨s1, s2⟩ := push_heap ordI H.h2 (hpop ltP qs z).1.2
  rw [p3] at hq
  obtain rfl := Option.some.inj hq
  refine ⟨⟨p1, s1, ?_, fun p hp => H.h4 p (p2.subset (.tail _ hp)), fun x hx => ?_⟩, ?_⟩
  · refine .trans ?_ H.h3
    refine (List.Perm.append_left _ s2).trans ?_
    have := p2.map (·.2)
    rw [List.map_cons] at this
    refine .trans ?_ (this.append_right free)
    rw [List.cons_append]
    refine (List.Perm.append_left _ (List.perm_append_singleton _ _)).trans ?_
    exact List.perm_middle
  · have := s2.subset hx
    rcases List.mem_append.mp this with h | h
    · exact H.h5 x h
    · rw [List.mem_singleton.mp h]
      obtain ⟨r, e1, e2⟩ := H.h4 _ (p2.subset (.head _))
      exact ⟨r, e1, _, e2, hb⟩
  · have := p2.length_eq
    simp at this
    exact this

theorem busy {ends : List (Int × Int)} {free lasts : List Int} {b : Int} (H : HInv ends free lasts b) (hx : ∀ q, ends[0]? = some q → b < q.1) : ∀ p ∈ ends, b < p.1 := by
  intro p hp
  cases ends with
  | nil => cases hp
  | cons q r =>
    have h1 := hx q rfl
    have h2 := heap_root ordP H.h1 (q := q) rfl p hp
    simp only [ltP, Bool.or_eq_false_iff, decide_eq_false_iff_not] at h2
    omega

theorem HInv.len {ends : List (Int × Int)} {free lasts : List Int} {b : Int} (H : HInv ends free lasts b) : ends.length + free.length = lasts.length := by
  have := H.h3.length_eq
  simpa using this
/-- every room is in one of the two heaps -/
theorem HInv.room {ends : List (Int × Int)} {free lasts : List Int} {b : Int} (H : HInv ends free lasts b) {r : Nat} (hr : r < lasts.length) : (∃ p ∈ ends, p.2 = r ∧ lasts[r]? = some p.1) ∨ ((r : Int) ∈ free) := by
  have : ((r : Nat) : Int) ∈ ends.map (·.2) ++ free := H.h3.symm.subset (List.mem_map.mpr ⟨r, List.mem_range.mpr hr, rfl⟩)
  rcases List.mem_append.mp this with h | h
  · obtain ⟨p, hp, e⟩ := List.mem_map.mp h
    obtain ⟨r', e1, e2⟩ := H.h4 p hp
    have : r = r' := by omega
    subst this
    exact .inl ⟨p, hp, e1, e2⟩
  · exact .inr h

theorem open_step {ends : List (Int × Int)} {lasts : List Int} {b e : Int} (H : HInv ends [] lasts b) (hbusy : ∀ p ∈ ends, b < p.1) :
    lasts.findIdx (fun x => decide (x ≤ b)) = lasts.length ∧ ends.length = lasts.length ∧ HInv (hpush ltP ends (e, (lasts.length : Int))) [] (lasts ++ [e]) b := by
  have hl := H.len
  simp at hl
  obtain ⟨s1, s2⟩ := push_heap ordP H.h1 (e, (lasts.length : Int))
  refine ⟨?_, hl, ⟨s1, H.h2, ?_, fun p hp => ?_, fun _ h => nomatch h⟩⟩
  · rw [List.findIdx_eq_length]
    intro x hx
    obtain ⟨r, hr, rfl⟩ := List.mem_iff_getElem.mp hx
    rcases H.room hr with ⟨p, hp, _, e2⟩ | h
    · have := hbusy p hp
      rw [List.getElem?_eq_getElem hr] at e2
      have e3 := Option.some.inj e2
      simp only [decide_eq_false_iff_not]
      omega
    · cases h
  · rw [List.append_nil, List.length_append, List.length_singleton, List.range_succ, List.map_append]
    have := s2.map (·.2)
    rw [List.map_append] at this
    refine this.trans ?_
    have h3 := H.h3
    rw [List.append_nil] at h3
    exact h3.append_right _
  · rcases List.mem_append.mp (s2.subset hp) with h | h
    · obtain ⟨r, e1, e2⟩ := H.h4 p h
      exact ⟨r, e1, by rw [List.getElem?_append_left (List.getElem?_eq_some_iff.mp e2).1]; exact e2⟩
    · rw [List.mem_singleton.mp h]
      exact ⟨lasts.length, rfl, by simp⟩

theorem reuse_step {ends : List (Int × Int)} {qs lasts : List Int} {z b e : Int} (H : HInv ends (qs ++ [z]) lasts b) (hbusy : ∀ p ∈ ends, b < p.1) :
    ∃ r : Nat, (hpop ltI qs z).1 = r ∧ r < lasts.length ∧ lasts.findIdx (fun x => decide (x ≤ b)) = r ∧ HInv (hpush ltP ends (e, (r : Int))) (hpop ltI qs z).2 (lasts.set r e) b := by
  obtain ⟨p1, p2, p3, p4⟩ := pop_heap ordI H.h2
  obtain ⟨r, e1, e0, e2, e3⟩ := H.h5 _ (p2.subset (.head _))
  have hr := (List.getElem?_eq_some_iff.mp e2).1
  obtain ⟨s1, s2⟩ := push_heap ordP H.h1 (e, (r : Int))
  have hnd : (ends.map (·.2) ++ (qs ++ [z])).Nodup := H.h3.symm.nodup_iff.mp (by
    have : (List.range lasts.length).Nodup := List.nodup_range
    exact List.pairwise_map.mpr (this.imp fun h e => h (by omega)))
  have hperm : (ends.map (·.2) ++ (qs ++ [z])).Perm ((r : Int) :: (ends.map (·.2) ++ (hpop ltI qs z).2)) := by
    refine (List.Perm.append_left _ p2.symm).trans ?_
    rw [e1]
    exact List.perm_middle
  have hnd2 := hperm.nodup_iff.mp hnd
  rw [List.nodup_cons] at hnd2
  refine ⟨r, e1, hr, ?_, ⟨s1, p1, ?_, fun p hp => ?_, fun x hx => ?_⟩⟩
  · refine findIdx_of (Nat.le_of_lt hr) (fun j hj => ?_) fun _ => by rw [List.getElem?_eq_getElem hr] at e2; have := Option.some.inj e2; omega
    rcases H.room (r := j) (by omega) with ⟨p, hp, _, e4⟩ | h
    · have := hbusy p hp
      rw [List.getElem?_eq_getElem (by omega)] at e4
      have := Option.some.inj e4
      omega
    · -- j is free, and below the least
      have h5 := p2.symm.subset h
      rcases List.mem_cons.mp h5 with h6 | h6
      · omega
      · have := p4 _ h6
        simp only [decide_eq_false_iff_not] at this
        omega
  · rw [List.length_set]
    refine .trans ?_ H.h3
    refine .trans ?_ hperm.symm
    have := (s2.map (·.2)).append_right (hpop ltI qs z).2
    refine this.trans ?_
    rw [List.map_append, List.append_assoc]
    exact List.perm_middle
  · rcases List.mem_append.mp (s2.subset hp) with h | h
    · obtain ⟨r', f1, f2⟩ := H.h4 p h
      refine ⟨r', f1, ?_⟩
      rw [List.getElem?_set_ne]
      · exact f2
      · rintro rfl
        refine hnd2.1 (List.mem_append.mpr (.inl (List.mem_map.mpr ⟨p, h, f1⟩)))
    · rw [List.mem_singleton.mp h]
      exact ⟨r, rfl, by simp [hr]⟩
  · obtain ⟨r', f1, e', f2, f3⟩ := H.h5 x (p2.subset (.tail _ hx))
    refine ⟨r', f1, e', ?_, f3⟩
    rw [List.getElem?_set_ne]
    · exact f2
    · rintro rfl
      exact hnd2.1 (List.mem_append.mpr (.inr (f1 ▸ hx)))

/-- when the last room was opened -/
def opStep (st : (List Int × List Nat) × Option Int) (p : Tri) : (List Int × List Nat) × Option Int :=
  (blStep st.1 p, if (st.1.1.findIdx fun e => decide (e ≤ p.1)) = st.1.1.length then some p.1 else st.2)
def blOpen (S : List Tri) : Option Int := (S.foldl opStep (([], []), none)).2
theorem opFold (S : List Tri) : ∀ st o, (S.foldl opStep (st, o)).1 = S.foldl blStep st := by
  induction S with
  | nil => intro st o; rfl
  | cons p r ih => intro st o; rw [List.foldl_cons, List.foldl_cons]; exact ih _ _
theorem blOpen_take {S : List Tri} {i : Nat} (hi : i < S.length) : blOpen (S.take (i + 1)) = if ((blAll (S.take i)).1.findIdx fun e => decide (e ≤ S[i].1)) = (blAll (S.take i)).1.length then some S[i].1 else blOpen (S.take i) := by
  unfold blOpen
  have h := opFold (S.take i) ([], []) none
  rw [List.take_add_one, List.getElem?_eq_getElem hi, List.foldl_append]
  have key : ∀ (st : (List Int × List Nat) × Option Int) (p : Tri), (opStep st p).2 = if (st.1.1.findIdx fun e => decide (e ≤ p.1)) = st.1.1.length then some p.1 else st.2 := fun _ _ => rfl
  show (opStep _ S[i]).2 = _
  rw [key, h]
  rfl

theorem blAll_rooms (S : List Tri) : (∀ r ∈ (blAll S).2, r < (blAll S).1.length) ∧ ∀ r, r < (blAll S).1.length → r ∈ (blAll S).2 := by
  have key : ∀ (S : List Tri) (st : List Int × List Nat), ((∀ r ∈ st.2, r < st.1.length) ∧ ∀ r, r < st.1.length → r ∈ st.2) →
      (∀ r ∈ (S.foldl blStep st).2, r < (S.foldl blStep st).1.length) ∧ ∀ r, r < (S.foldl blStep st).1.length → r ∈ (S.foldl blStep st).2 := by
    intro S
    induction S with
    | nil => intro st h; exact h
    | cons p t ih =>
      intro st ⟨h1, h2⟩
      rw [List.foldl_cons]
      apply ih
      have hle : (st.1.findIdx fun e => decide (e ≤ p.1)) ≤ st.1.length := List.findIdx_le_length
      unfold blStep
      dsimp only
      split
      · rename_i h
        rw [h]
        constructor
        · intro r hr
          rcases List.mem_append.mp hr with hr | hr
          · have := h1 r hr; simp; omega
          · rw [List.mem_singleton.mp hr]; simp
        · intro r hr
          simp at hr
          by_cases he : r = st.1.length
          · subst he; exact List.mem_append.mpr (.inr (.head _))
          · exact List.mem_append.mpr (.inl (h2 r (by omega)))
      · rename_i h
        constructor
        · intro r hr
          rw [List.length_set]
          rcases List.mem_append.mp hr with hr | hr
          · exact h1 r hr
          · rw [List.mem_singleton.mp hr]; omega
        · intro r hr
          rw [List.length_set] at hr
          exact List.mem_append.mpr (.inl (h2 r hr))
  exact key S ([], []) ⟨(fun _ h => nomatch h), fun r h => absurd h (Nat.not_lt_zero _)⟩
theorem blAll_pos {S : List Tri} (h : S ≠ []) : 0 < (blAll S).1.length := by
  have h1 := (blAll_len S).2
  cases hr : (blAll S).2 with
  | nil => rw [hr] at h1; cases S with
    | nil => exact absurd rfl h
    | cons _ _ => simp at h1
  | cons r t =>
    have := (blAll_rooms S).1 r (by rw [hr]; exact .head _)
    omega

/-- where a run of pops stands -/
structure Drain (ends dn en : List (Int × Int)) : Prop where
  h : IsHeap ltP en
  p : (dn ++ en).Perm ends
  s : dn.Pairwise fun a b => ltP b a = false
  b : ∀ a ∈ dn, ∀ x ∈ en, ltP x a = false
theorem Drain.nil {ends : List (Int × Int)} (h : IsHeap ltP ends) : Drain ends [] ends := ⟨h, .refl _, .nil, fun _ h => nomatch h⟩
theorem Drain.step {ends dn qs : List (Int × Int)} {z : Int × Int} (H : Drain ends dn (qs ++ [z])) : Drain ends (dn ++ [(hpop ltP qs z).1]) (hpop ltP qs z).2 := by
  obtain ⟨p1, p2, p3, p4⟩ := pop_heap ordP H.h
  refine ⟨p1, ?_, ?_, ?_⟩
  · refine .trans ?_ H.p
    rw [List.append_assoc]
    exact List.Perm.append_left _ p2
  · rw [List.pairwise_append]
    refine ⟨H.s, List.pairwise_singleton _ _, fun a ha x hx => ?_⟩
    rw [List.mem_singleton.mp hx]
    exact H.b a ha _ (p2.subset (.head _))
  · intro a ha x hx
    rcases List.mem_append.mp ha with h | h
    · exact H.b a h x (p2.subset (.tail _ hx))
    · rw [List.mem_singleton.mp h]
      exact p4 x hx
/-- one order alone -/
theorem sort_uniq {α : Type} {lt : α → α → Bool} (anti : ∀ a b, lt a b = false → lt b a = false → a = b) : ∀ {xs ys : List α}, xs.Perm ys → xs.Pairwise (fun a b => lt b a = false) → ys.Pairwise (fun a b => lt b a = false) → xs = ys
  | [], ys, p, _, _ => by rw [List.nil_perm] at p; exact p.symm
  | x :: xs, [], p, _, _ => by simp at p
  | x :: xs, y :: ys, p, h1, h2 => by
    rw [List.pairwise_cons] at h1 h2
    have e : x = y := by
      have a := p.subset (List.Mem.head _)
      have b := p.symm.subset (List.Mem.head _)
      rcases List.mem_cons.mp a with a | a
      · exact a
      · rcases List.mem_cons.mp b with b | b
        · exact b.symm
        · exact anti _ _ (h2.1 _ a) (h1.1 _ b)
    subst e
    rw [List.perm_cons] at p
    rw [sort_uniq anti p h1.2 h2.2]
theorem antiP (a b : Int × Int) (h1 : ltP a b = false) (h2 : ltP b a = false) : a = b := by
  simp only [ltP, Bool.or_eq_false_iff, Bool.and_eq_false_iff, decide_eq_false_iff_not, beq_eq_false_iff_ne] at h1 h2
  have e : a.1 = b.1 := by omega
  have e2 : a.2 = b.2 := by
    rcases h1.2 with h | h
    · exact absurd e h
    · rcases h2.2 with k | k
      · exact absurd e.symm k
      · omega
  exact Prod.ext e e2

/-- no two stretches in one room meet -/
def Apart (S : List Tri) (rs : List Nat) : Prop := ∀ i j, (hi : i < S.length) → (hj : j < i) → rs[i]? = rs[j]? → ¬ (S[i].1 < (S[j]'(by omega)).2.1 ∧ (S[j]'(by omega)).1 < S[i].2.1)

section
variable {w : World} {A : Around} {h₀ : Heap} {L l r : Addr} {m : Str → Option Value} {s : Shared} {news : List (Addr × Obj)} {vs vr : List Value} {n k : Nat} {S : List Tri} {rs : List Nat}
theorem apart_spec {Q : Value → Shared → Prop} {E : Value → Shared → Prop}
    (hA : A.handled = none) (hdp : A.depth + 5 < recursionLimit) (hu : A.units + 50 < cLine)
    (G : Gd w h₀) (F : Fr h₀ L s.heap m) (N : News h₀ L s.heap news) (hm : (l, listOf vs.toArray n) ∈ news) (hr : (r, listOf vr.toArray k) ∈ news)
    (hD : DatAll news vs (S.map embT)) (hR : DatAll [] vr (rs.map fun i => Dat.int (i : Nat))) (hlen : S.length ≤ 1000) (hrs : rs.length = S.length) (hap : Apart S rs)
    (ret : ∀ h' tk, Fr h₀ L h' m → News h₀ L h' news → Q (.bool true) {s with heap := h', toks := tk}) :
    wpAny (model Challenge.rw_ir0003_01.row.prog w) A (call (.ref 80) [.ref l, .ref r]) Q E s := by
  obtain ⟨hn, dp, fr, gd, un⟩ := A
  obtain rfl : hn = none := hA
  obtain ⟨X, loose, mean, mg, mb, T⟩ := G
  have hh : Challenge.rw_ir0003_01.Holds → (hd.heap_39 w.params).In h₀ → True := fun _ _ => trivial
  revert hh
  k_fill
  intro hh
  refine wpAny_call ?_
  refine enter F X N T (by k_is) (by k_is) (by (try dsimp only at hdp ⊢); omega) (binds := [(Str.ofString "stretches", .ref l), (Str.ofString "rooms", .ref r)]) (BindsTo.of_eq rfl) (locs rfl) ?_ rfl rfl rfl (by decide)
  intro g L' h' st F' N' X' T' hlt
  try dsimp only
  have hvl := dat_len hD
  k_steps
  refine Hold.mk (wpAny_For ?_ (fun _ => rfl))
  k_steps
  refine Hold.mk ?_
  refine h_lenD N' hm hD (by omega) ?_
  k_steps
  rename Fr g L' _ _ => F1
  rename News g L' _ _ => N1
  refine Hold.mk ?_
  refine for_range (n := S.length) rfl (by omega) (fun i m nw => ∃ u : Str → Option Value, m = fm [(Str.ofString "stretches", .ref l), (Str.ofString "rooms", .ref r)] u ∧ news = nw) (by assumption) F1 N1 ⟨_, (fm_eq _ _ (by walk_at "PINS")).symm, rfl⟩ ?_ ?_
  · rintro i ti m₁ nw h tk I oI hi ⟨u, rfl, rfl⟩ F2 N2 off
    refine wpAny_assign_Name ?_
    k_steps
    refine Hold.mk (wpAny_For ?_ (fun _ => rfl))
    k_steps
    rename Fr g L' _ _ => F3
    rename News g L' _ _ => N3
    refine Hold.mk ?_
    refine for_range (n := i) rfl (by omega) (fun j m nw => ∃ u : Str → Option Value, m = fm [(Str.ofString "stretches", .ref l), (Str.ofString "rooms", .ref r), (Str.ofString "at", .int (i : Nat) ti)] u ∧ nw = (I, oI) :: news) (by assumption) F3 N3 ⟨_, (fm_eq _ _ (by walk_at "PINS")).symm, rfl⟩ ?_ ?_
    · rintro j tj m₁ nw h tk I2 oI2 hj ⟨u, rfl, rfl⟩ F4 N4 off2
      refine wpAny_assign_Name ?_
      have hml : (l, W.listOf vs.toArray n) ∈ (I2, oI2) :: (I, oI) :: news := .tail _ (.tail _ hm)
      have hmr : (r, W.listOf vr.toArray k) ∈ (I2, oI2) :: (I, oI) :: news := .tail _ (.tail _ hr)
      k_steps
      refine Hold.mk ?_
      refine h_sub (by assumption) hml hD (k := (i : Int)) (by omega) (by omega) (x := S[i]) (by rw [Int.toNat_natCast]; exact List.getElem?_eq_getElem hi) ?_
      intro v1 hv1
      obtain ⟨a, t1, t2, t3, na, rfl, ha⟩ := datT hv1
      k_steps
      refine Hold.mk ?_
      refine h_sub (by assumption) hml hD (k := (j : Int)) (by omega) (by omega) (x := S[j]) (by rw [Int.toNat_natCast]; exact List.getElem?_eq_getElem (by omega)) ?_
      intro v2 hv2
      obtain ⟨b, u1, u2, u3, nb, rfl, hb⟩ := datT hv2
      have hir : i < rs.length := by omega
      have hjr : j < rs.length := by omega
      k_steps
      refine Hold.mk ?_
      refine h_sub (by assumption) (.tail _ hmr) hR (k := (i : Int)) (by omega) (by omega) (x := rs[i]) (by rw [Int.toNat_natCast]; exact List.getElem?_eq_getElem hir) ?_
      intro w1 hw1
      cases hw1
      k_steps
      refine Hold.mk ?_
      refine h_sub (by assumption) (.tail _ hmr) hR (k := (j : Int)) (by omega) (by omega) (x := rs[j]) (by rw [Int.toNat_natCast]; exact List.getElem?_eq_getElem hjr) ?_
      intro w2 hw2
      cases hw2
      k_steps
      · rename_i hc1
        refine Hold.mk ?_
        refine tup_sub (k := 0) (j := 0) (by assumption) (.tail _ (.tail _ (.tail _ ha))) (by decide) (by decide) rfl rfl ?_
        k_steps
        refine Hold.mk ?_
        refine tup_sub (k := 1) (j := 1) (by assumption) (.tail _ (.tail _ (.tail _ hb))) (by decide) (by decide) rfl rfl ?_
        k_steps
        · rename_i hc2
          refine Hold.mk ?_
          refine tup_sub (k := 0) (j := 0) (by assumption) (.tail _ (.tail _ (.tail _ hb))) (by decide) (by decide) rfl rfl ?_
          k_steps
          refine Hold.mk ?_
          refine tup_sub (k := 1) (j := 1) (by assumption) (.tail _ (.tail _ (.tail _ ha))) (by decide) (by decide) rfl rfl ?_
          k_steps
          · rename_i hc3
            refine absurd (And.intro hc2 hc3) (hap i j hi hj ?_)
            rw [List.getElem?_eq_getElem hir, List.getElem?_eq_getElem hjr]
            exact congrArg some (by omega)
          · rename Fr g L' _ _ => F9
            rename News g L' _ _ => N9
            exact Hold.mk ⟨_, _, _, _, rfl, F9, N9.perm (fun p hp => .tail _ hp), off2, _, (fm_eq _ _ (by walk_at "PINS")).symm, rfl⟩
        · rename Fr g L' _ _ => F9
          rename News g L' _ _ => N9
          exact Hold.mk ⟨_, _, _, _, rfl, F9, N9.perm (fun p hp => .tail _ hp), off2, _, (fm_eq _ _ (by walk_at "PINS")).symm, rfl⟩
      · rename Fr g L' _ _ => F9
        rename News g L' _ _ => N9
        exact Hold.mk ⟨_, _, _, _, rfl, F9, N9.perm (fun p hp => .tail _ hp), off2, _, (fm_eq _ _ (by walk_at "PINS")).symm, rfl⟩
    · rintro m₁ nw h tk ⟨u, rfl, rfl⟩ F4 N4
      k_steps
      exact Hold.mk ⟨_, _, _, _, rfl, F4, N4, off, _, (fm_eq _ _ (by walk_at "PINS")).symm, rfl⟩
  · rintro m₁ nw h tk ⟨u, rfl, rfl⟩ F2 N2
    k_steps
    exact ret _ _ (by assumption) (by assumption)
end

/-- stretches, compared as Python compares them -/
def ltT (x y : Tri) : Bool := decide (x.1 < y.1) || (x.1 == y.1 && (decide (x.2.1 < y.2.1) || (x.2.1 == y.2.1 && decide (x.2.2.cps.toList < y.2.2.cps.toList))))
theorem ltL_asym {a b : List Nat} (h : a < b) : ¬ b < a := List.lt_asymm h
theorem ltL_trans {a b c : List Nat} (h1 : ¬ b < a) (h2 : ¬ c < b) : ¬ c < a := by
  have h1' : a ≤ b := List.not_lt.mp h1
  have h2' : b ≤ c := List.not_lt.mp h2
  exact List.not_lt.mpr (List.le_trans h1' h2')
theorem ordT : Ordr ltT where
  asym a b h := by
    simp only [ltT, Bool.or_eq_true, Bool.and_eq_true, decide_eq_true_eq, beq_iff_eq] at h
    simp only [ltT, Bool.or_eq_false_iff, Bool.and_eq_false_iff, decide_eq_false_iff_not, beq_eq_false_iff_ne]
    rcases h with h | ⟨h1, h | ⟨h2, h⟩⟩
    · exact ⟨by omega, .inl (by omega)⟩
    · exact ⟨by omega, .inr ⟨by omega, .inl (by omega)⟩⟩
    · exact ⟨by omega, .inr ⟨by omega, .inr (ltL_asym h)⟩⟩
  trans a b c h1 h2 := by
    simp only [ltT, Bool.or_eq_false_iff, Bool.and_eq_false_iff, decide_eq_false_iff_not, beq_eq_false_iff_ne] at h1 h2 ⊢
    obtain ⟨a1, a2⟩ := h1
    obtain ⟨b1, b2⟩ := h2
    refine ⟨by omega, ?_⟩
    by_cases e1 : c.1 = a.1
    · have e2 : b.1 = a.1 := by omega
      have e3 : c.1 = b.1 := by omega
      obtain ⟨a3, a4⟩ := a2.resolve_left (fun h => h e2)
      obtain ⟨b3, b4⟩ := b2.resolve_left (fun h => h e3)
      refine .inr ⟨by omega, ?_⟩
      by_cases e4 : c.2.1 = a.2.1
      · have e5 : b.2.1 = a.2.1 := by omega
        have e6 : c.2.1 = b.2.1 := by omega
        exact .inr (ltL_trans (a4.resolve_left (fun h => h e5)) (b4.resolve_left (fun h => h e6)))
      · exact .inl e4
    · exact .inl e1

section
variable {prog : Program} {w : World} {A : Around} {E : Value → Shared → Prop} {s : Shared}
theorem key_pair {h₀ : Heap} {L : Addr} {news : List (Addr × Obj)} {x y : Value} {a b : Int × Int} {C : Bool → Shared → Prop} (N : News h₀ L s.heap news) (hx : DatIn news x (embP a)) (hy : DatIn news y (embP b)) (h : C (ltP a b) s) :
    wpAny (model prog w) A (keyLt' (tuples' true) x y) C E s := by
  obtain ⟨p, t1, t2, n, rfl, hp⟩ := datP hx
  obtain ⟨q, t3, t4, k, rfl, hq⟩ := datP hy
  refine kat_lt (N.get hp) rfl (N.get hq) rfl ?_
  refine kat_cons (wpAny_eqBool_int (kat_go (fun e1 => kat_yes ?_) fun e1 => kat_no ?_))
  · refine kat_cons (wpAny_eqBool_int (kat_go (fun e2 => kat_yes (kat_nil ?_)) fun e2 => kat_no (kat_one _ _ (lt_int ?_))))
    · have : ltP a b = false := by simp only [beq_iff_eq] at e1 e2; simp [ltP, e1, e2]
      rw [this] at h; exact h
    · have : ltP a b = decide (a.2 < b.2) := by simp only [beq_iff_eq] at e1; simp [ltP, e1]
      rw [this] at h; exact h
  · refine oneLt_int ?_
    have : ltP a b = decide (a.1 < b.1) := by
      have e1' : ¬ a.1 = b.1 := by simpa using e1
      simp [ltP, e1']
    rw [this] at h; exact h
theorem key_tri {h₀ : Heap} {L : Addr} {news : List (Addr × Obj)} {x y : Value} {a b : Tri} {C : Bool → Shared → Prop} (N : News h₀ L s.heap news) (hx : DatIn news x (embT a)) (hy : DatIn news y (embT b)) (h : C (ltT a b) s) :
    wpAny (model prog w) A (keyLt' (tuples' true) x y) C E s := by
  obtain ⟨p, t1, t2, t5, n, rfl, hp⟩ := datT hx
  obtain ⟨q, t3, t4, t6, k, rfl, hq⟩ := datT hy
  refine kat_lt (N.get hp) rfl (N.get hq) rfl ?_
  refine kat_cons (wpAny_eqBool_int (kat_go (fun e1 => kat_yes ?_) fun e1 => kat_no ?_))
  · refine kat_cons (wpAny_eqBool_int (kat_go (fun e2 => kat_yes ?_) fun e2 => kat_no (kat_one _ _ (lt_int ?_))))
    · simp only [beq_iff_eq] at e1 e2
      refine kat_cons (wpAny_eqBool_str (kat_go (fun e3 => kat_yes (kat_nil ?_)) fun e3 => kat_no (kat_one _ _ (lt_str ?_))))
      · have e3' : a.2.2 = b.2.2 := by simpa using e3
        have hll : ¬ b.2.2.cps.toList < b.2.2.cps.toList := List.lt_irrefl _
        have : ltT a b = false := by simp [ltT, e1, e2, e3', hll]
        rw [this] at h; exact h
      · have : ltT a b = decide (a.2.2.cps.toList < b.2.2.cps.toList) := by simp [ltT, e1, e2]
        rw [this] at h; exact h
    · have e2' : ¬ a.2.1 = b.2.1 := by simpa using e2
      have : ltT a b = decide (a.2.1 < b.2.1) := by simp only [beq_iff_eq] at e1; simp [ltT, e1, e2']
      rw [this] at h; exact h
  · refine oneLt_int ?_
    have : ltT a b = decide (a.1 < b.1) := by
      have e1' : ¬ a.1 = b.1 := by simpa using e1
      simp [ltT, e1']
    rw [this] at h; exact h

theorem tups_of {h₀ : Heap} {L : Addr} {news : List (Addr × Obj)} {α : Type} {emb : α → Dat} (N : News h₀ L s.heap news) (hf : ∀ v a, DatIn news v (emb a) → ∃ (r : Addr) (xs : Array Value) (n : Nat) (i : Int) (t : Tok), v = .ref r ∧ (r, ({ cls := .type "tuple", data := .seq xs n } : Obj)) ∈ news ∧ xs[0]? = some (.int i t)) :
    ∀ {vs : List Value} {xs : List α}, DatAll news vs (xs.map emb) → ∃ fs, KatTups s.heap vs fs ∧ fs.length = xs.length ∧ ∀ v ∈ fs, ∃ i t, v = .int i t
  | vs, [], h => by cases h; exact ⟨[], trivial, rfl, fun _ h => nomatch h⟩
  | vs, x :: xs, h => by
    cases h with
    | cons h r =>
      obtain ⟨fs, a, b, c⟩ := tups_of N hf r
      obtain ⟨r, ys, n, i, t, rfl, hm, h0⟩ := hf _ _ h
      refine ⟨.int i t :: fs, KatTups.cons (N.get hm) rfl rfl h0 a, by simp [b], fun v hv => ?_⟩
      rcases List.mem_cons.mp hv with rfl | hv
      · exact ⟨_, _, rfl⟩
      · exact c v hv

/-- sorted over a list of tuples that begin with an int -/
theorem sorted_tups {h₀ : Heap} {L l : Addr} {m : Str → Option Value} {news : List (Addr × Obj)} {vs : List Value} {n : Nat} {α : Type} {emb : α → Dat} {lt : α → α → Bool} {xs : List α} {Q : Value → Shared → Prop} (O : Ordr lt)
    (hf : ∀ (nw : List (Addr × Obj)) v a, DatIn nw v (emb a) → ∃ (r : Addr) (xs : Array Value) (n : Nat) (i : Int) (t : Tok), v = .ref r ∧ (r, ({ cls := .type "tuple", data := .seq xs n } : Obj)) ∈ nw ∧ xs[0]? = some (.int i t))
    (hk : ∀ (A : Around) (s : Shared) (h₀ : Heap) (L : Addr) (nw : List (Addr × Obj)) x y a b (C : Bool → Shared → Prop), News h₀ L s.heap nw → DatIn nw x (emb a) → DatIn nw y (emb b) → C (lt a b) s → wpAny (model prog w) A (keyLt' (tuples' true) x y) C (fun _ _ => False) s)
    (F : Fr h₀ L s.heap m) (N : News h₀ L s.heap news) (hm : (l, listOf vs.toArray n) ∈ news) (hD : DatAll news vs (xs.map emb)) (h2 : 2 ≤ xs.length) (h64 : xs.length < 64)
    (ret : ∀ h' D (vs' : List Value) e (xs' : List α), Fr h₀ L h' m → News h₀ L h' ((D, listOf vs'.toArray e) :: news) → (∀ p ∈ news, p.1 ≠ D) → DatAll news vs' (xs'.map emb) → xs'.Perm xs → xs'.Pairwise (fun a b => lt b a = false) → Q (.ref D) { s with heap := h' }) :
    wpAny (model prog w) A (call (.builtin "sorted") [.ref l]) Q E s := by
  have hvl := dat_len hD
  obtain ⟨x0, hx0⟩ : ∃ x0, x0 ∈ xs := by
    cases xs with
    | nil => simp at h2
    | cons a r => exact ⟨a, .head _⟩
  refine kat_sorted F N (h_isList N hm) (by omega) (by omega) ?_
  intro D e1 h' F' N' hlt
  obtain ⟨fs, t1, t2, t3⟩ := tups_of (s := { s with heap := h' }) (fun p hp => N' p (.tail _ hp)) (hf news) hD
  refine kat_kind (T := Value.type "int") t1 (by omega) (fun v hv => ?_) (by decide) ?_
  · obtain ⟨i, t, rfl⟩ := t3 v hv
    exact Looks.of_pure (r := Value.type "int") rfl
  rw [show (Value.type "int" != Value.type "tuple") = true by decide]
  have Of : Ordr (fun i j : Nat => lt (xs.getD i x0) (xs.getD j x0)) := ⟨fun a b h => O.asym _ _ h, fun a b c h1 h2 => O.trans _ _ _ h1 h2⟩
  refine AllT.wp (N := vs.length) (f := fun i j => lt (xs.getD i x0) (xs.getD j x0)) (fun i j hi hj C hC => ?_) (fun p hp => ?_) (sort_all Of (by omega))
  · have hi' : i < xs.length := by omega
    have hj' : j < xs.length := by omega
    obtain ⟨u, hu, du⟩ := dat_get hD hi'
    obtain ⟨v, hv, dv⟩ := dat_get hD hj'
    show wpAny _ _ (keyLt' (tuples' true) (vs.getD i Value.none) (vs.getD j Value.none)) C (fun _ _ => False) _
    rw [List.getD_eq_getElem?_getD, List.getD_eq_getElem?_getD, hu, hv]
    refine hk _ _ _ _ news _ _ _ _ C (fun p hp => N' p (.tail _ hp)) du dv ?_
    have e1 : xs.getD i x0 = xs[i] := by simp [hi']
    have e2 : xs.getD j x0 = xs[j] := by simp [hj']
    rw [e1, e2] at hC
    exact hC
  · obtain ⟨g1, g2⟩ := hp
    refine KasFin.intro F' N' (UpdF.head fun p hp => Nat.ne_of_lt (hlt p hp)) fun h3 c F3 N3 => ?_
    have hdat : ∀ q : List Nat, (∀ i ∈ q, i < vs.length) → DatAll news (q.map fun i => vs.getD i Value.none) ((q.map fun i => xs.getD i x0).map emb) := by
      intro q
      induction q with
      | nil => intro _; exact .nil
      | cons i r ih =>
        intro hq
        have hi : i < vs.length := hq i (.head _)
        obtain ⟨u, hu, du⟩ := dat_get hD (k := i) (by omega)
        have e1 : xs.getD i x0 = xs[i] := by
          have hi' : i < xs.length := by omega
          simp [hi']
        simp only [List.map_cons, List.getD_eq_getElem?_getD, hu, Option.getD_some] at *
        refine .cons ?_ (ih fun j hj => hq j (.tail _ hj))
        rw [e1]; exact du
    have hmem : ∀ i ∈ p.toList, i < vs.length := fun i hi => by simpa using g1.perm.subset hi
    refine ret h3 D _ c (p.toList.map fun i => xs.getD i x0) F3 N3 (fun q hq => Nat.ne_of_lt (hlt q hq)) (hdat _ hmem) ?_ ?_
    · have e : (List.range vs.length).map (fun i => xs.getD i x0) = xs := by
        apply List.ext_getElem
        · simp [hvl]
        · intro i h1 h2
          simp [List.getD_eq_getElem?_getD, h2]
      have := g1.perm.map fun i => xs.getD i x0
      rw [e] at this
      exact this
    · rw [List.pairwise_map, List.pairwise_iff_getElem]
      intro i j hi hj hij
      have hsz := g1.size
      have := g2 i j hij (by simp at hj; omega)
      simp only at this
      have e1 : p.getD i 0 = p.toList[i] := by
        have h : i < p.size := by simpa using hi
        simp [Array.getD, h]
      have e2 : p.getD j 0 = p.toList[j] := by
        have h : j < p.size := by simpa using hj
        simp [Array.getD, h]
      rw [e1, e2] at this
      exact this
end

section
variable {prog : Program} {w : World} {A : Around} {E : Value → Shared → Prop} {s : Shared}
theorem sort_short {a : Addr} {vs : List Value} {n : Nat} {P : PySem.Fin → Shared → Prop} (ho : s.heap.get? a = some (seqObj "list" vs.toArray n)) (h1 : vs.length < 2)
    (h : P (.done (.ret .none)) { s with heap := sortedHeap s.heap a vs vs.toArray }) : wpAny (model prog w) A (Builtin.«list.sort» ⟨[.ref a], []⟩) P E s := by
  have ha : a < s.heap.objs.size := Heap.lt_size ho
  obtain ⟨e1, ho1⟩ : ∃ e1, (s.heap.update a (Obj.mapSeq fun _ => #[])).get? a = some (seqObj "list" #[] e1) := ⟨_, get?_update_seq ho fun _ => #[]⟩
  have ho2 : (((s.heap.update a (Obj.mapSeq fun _ => #[])).push (seqObj "tuple" vs.toArray 0)).push (seqObj "list" #[] 0)).get? a = some (seqObj "list" #[] e1) :=
    Heap.get?_push_of_some _ (Heap.get?_push_of_some _ ho1)
  have hsz : vs.toArray.size < 2 := by rw [List.size_toArray]; exact h1
  have hzip : (vs.toArray.zip vs.toArray).map (·.2) = vs.toArray := by
    apply Array.toList_inj.mp
    simp only [Array.toList_map, Array.toList_zip]
    rw [List.map_snd_zip (Nat.le_refl _)]
  rw [list_sort_plain]
  refine wpAny_bind (listItems_at ho rfl (wpAny_bind (listUpdate_at ho rfl ?_ (by rw [List.size_toArray, sizeLine_eq]; omega) (Nat.zero_le _))))
  refine wpAny_bind (seqEpoch_at ho1 rfl (wpAny_bind (wpAny_newTuple ?_ (by show vs.length ≤ _; rw [sizeLine_eq]; omega))))
  refine wpAny_bind (wpAny_newList ?_ (Nat.zero_le _))
  refine wpAny_holding ?_
  show wpAny (model prog w) A _ P E { s with heap := ((s.heap.update a (Obj.mapSeq fun _ => #[])).push (seqObj "tuple" vs.toArray 0)).push (seqObj "list" #[] 0) }
  dsimp only
  rw [if_pos hsz, if_pos hsz]
  refine wpAny_bind (wpAny_pure ?_)
  rw [StateT.run_pure]
  refine wpAny_bind (wpAny_pure ?_)
  dsimp only
  refine wpAny_bind (seqEpoch_at ho2 rfl ?_)
  have harr : arrOf (SortSt.mk' general' (vs.toArray.zip vs.toArray) #[] 7 none) = vs.toArray.zip vs.toArray := rfl
  rw [harr, hzip]
  refine wpAny_bind (listUpdate_at ho2 rfl ?_ (Nat.zero_le _) (by rw [List.size_toArray, sizeLine_eq]; omega))
  simp only [bne_self_eq_false, Bool.false_eq_true, if_false]
  exact wpAny_pure h

/-- sorted over a list of one thing or none -/
theorem sorted_short {h₀ : Heap} {L l : Addr} {m : Str → Option Value} {news : List (Addr × Obj)} {vs : List Value} {n : Nat} {Q : Value → Shared → Prop} (F : Fr h₀ L s.heap m) (N : News h₀ L s.heap news) (hm : (l, listOf vs.toArray n) ∈ news) (h1 : vs.length < 2)
    (ret : ∀ h' D e, Fr h₀ L h' m → News h₀ L h' ((D, listOf vs.toArray e) :: news) → (∀ p ∈ news, p.1 ≠ D) → Q (.ref D) { s with heap := h' }) :
    wpAny (model prog w) A (call (.builtin "sorted") [.ref l]) Q E s := by
  refine Calls.call_function_entry kind_sorted plain_sorted entry_sorted (args_sorted1 _) ?_
  unfold Builtin.«sorted»
  refine wpAny_bind (m := checkCount "sorted" 1 1 _) (wpAny_pure ?_)
  refine wpAny_bind (collect_list (h_isList N hm) ?_ (by rw [sizeLine_eq]; omega))
  refine wpAny_bind (wpAny_newList ?_ (by rw [sizeLine_eq]; omega))
  have hsz : ((s.heap.push (seqObj "list" #[] 0)).update s.heap.objs.size (Obj.mapSeq (· ++ vs.toArray))).objs.size = s.heap.objs.size + 1 := by
    rw [Heap.size_update, size_push']
  have hoL : (((s.heap.push (seqObj "list" #[] 0)).update s.heap.objs.size (Obj.mapSeq (· ++ vs.toArray))).push (seqObj "list" vs.toArray 0)).get? (s.heap.objs.size + 1) = some (seqObj "list" vs.toArray 0) := by
    rw [← hsz]; exact Heap.get?_push_size _ rfl
  show wpAny _ _ _ _ _ { s with heap := ((s.heap.push (seqObj "list" #[] 0)).update s.heap.objs.size (Obj.mapSeq (· ++ vs.toArray))).push (seqObj "list" vs.toArray 0) }
  rw [hsz]
  refine wpAny_bind (wpAny_holding (wpAny_call_entry slot_list_sort ⟨_, hoL, rfl⟩ entry_list_sort (sort_short hoL h1 ⟨_, rfl, ?_⟩) (args_list_sort _)))
  obtain ⟨e, he⟩ := sortedAll_at s.heap vs vs.toArray
  exact wpAny_pure ⟨_, rfl, ret _ _ e (F.kept fun _ _ => sortedAll_old) (N.kept_cons F (fun _ _ => sortedAll_old) (Nat.le_succ _) he) fun p hp => Nat.ne_of_lt (Nat.lt_succ_of_lt (Heap.lt_size (N p hp).1))⟩

/-- sorted over a list of tuples that begin with an int, however short -/
theorem sorted_any {h₀ : Heap} {L l : Addr} {m : Str → Option Value} {news : List (Addr × Obj)} {vs : List Value} {n : Nat} {α : Type} {emb : α → Dat} {lt : α → α → Bool} {xs : List α} {Q : Value → Shared → Prop} (O : Ordr lt)
    (hf : ∀ (nw : List (Addr × Obj)) v a, DatIn nw v (emb a) → ∃ (r : Addr) (xs : Array Value) (n : Nat) (i : Int) (t : Tok), v = .ref r ∧ (r, ({ cls := .type "tuple", data := .seq xs n } : Obj)) ∈ nw ∧ xs[0]? = some (.int i t))
    (hk : ∀ (A : Around) (s : Shared) (h₀ : Heap) (L : Addr) (nw : List (Addr × Obj)) x y a b (C : Bool → Shared → Prop), News h₀ L s.heap nw → DatIn nw x (emb a) → DatIn nw y (emb b) → C (lt a b) s → wpAny (model prog w) A (keyLt' (tuples' true) x y) C (fun _ _ => False) s)
    (F : Fr h₀ L s.heap m) (N : News h₀ L s.heap news) (hm : (l, listOf vs.toArray n) ∈ news) (hD : DatAll news vs (xs.map emb)) (h64 : xs.length < 64)
    (ret : ∀ h' D (vs' : List Value) e (xs' : List α), Fr h₀ L h' m → News h₀ L h' ((D, listOf vs'.toArray e) :: news) → (∀ p ∈ news, p.1 ≠ D) → DatAll news vs' (xs'.map emb) → xs'.Perm xs → xs'.Pairwise (fun a b => lt b a = false) → Q (.ref D) { s with heap := h' }) :
    wpAny (model prog w) A (call (.builtin "sorted") [.ref l]) Q E s := by
  by_cases h2 : 2 ≤ xs.length
  · exact sorted_tups O hf hk F N hm hD h2 h64 ret
  · have hvl := dat_len hD
    refine sorted_short F N hm (by omega) fun h' D e F' N' off => ret h' D vs e xs F' N' off hD (.refl _) ?_
    rcases xs with _ | ⟨a, _ | ⟨b, r⟩⟩
    · exact .nil
    · exact List.pairwise_singleton _ _
    · simp at h2
theorem hfP : ∀ (nw : List (Addr × Obj)) (v : Value) (a : Int × Int), DatIn nw v (embP a) → ∃ (r : Addr) (xs : Array Value) (n : Nat) (i : Int) (t : Tok), v = .ref r ∧ (r, ({ cls := .type "tuple", data := .seq xs n } : Obj)) ∈ nw ∧ xs[0]? = some (.int i t) := fun nw v a h => by
  obtain ⟨p, t1, t2, n, rfl, hp⟩ := datP h
  exact ⟨p, _, n, _, t1, rfl, hp, rfl⟩
theorem hfT : ∀ (nw : List (Addr × Obj)) (v : Value) (a : Tri), DatIn nw v (embT a) → ∃ (r : Addr) (xs : Array Value) (n : Nat) (i : Int) (t : Tok), v = .ref r ∧ (r, ({ cls := .type "tuple", data := .seq xs n } : Obj)) ∈ nw ∧ xs[0]? = some (.int i t) := fun nw v a h => by
  obtain ⟨p, t1, t2, t3, n, rfl, hp⟩ := datT h
  exact ⟨p, _, n, _, t1, rfl, hp, rfl⟩
end

theorem ints_of {tl : List (Addr × Obj)} : ∀ {vs : List Value} {ns : List Int}, DatAll tl vs (ns.map Dat.int) → IntsAre vs ns
  | vs, [], h => by cases h; exact .nil
  | vs, n :: ns, h => by
    cases h with
    | cons h r => cases h; exact .cons _ _ (ints_of r)
theorem of_ints {tl : List (Addr × Obj)} : ∀ {vs : List Value} {ns : List Int}, IntsAre vs ns → DatAll tl vs (ns.map Dat.int)
  | _, _, .nil => .nil
  | _, _, .cons _ _ r => .cons (.int _ _) (of_ints r)
theorem ok_ints {ns : List Int} : ∀ d ∈ ns.map Dat.int, kqdOk 8 d = true := fun d hd => by obtain ⟨p, _, rfl⟩ := List.mem_map.mp hd; rfl
theorem int_inj {ns ms : List Int} : ns.map Dat.int = ms.map Dat.int ↔ ns = ms := ⟨fun h => List.map_inj_right (fun _ _ e => by injection e) |>.mp h, fun h => by rw [h]⟩
theorem sorted_le {ns : List Int} (h : ns.Pairwise (· ≤ ·)) : ns.Pairwise (fun a b => ltI b a = false) := h.imp fun {a b} h => by simp only [ltI, decide_eq_false_iff_not]; omega
theorem antiI (a b : Int) (h1 : ltI a b = false) (h2 : ltI b a = false) : a = b := by simp only [ltI, decide_eq_false_iff_not] at h1 h2; omega
theorem range_le (n : Nat) : ((List.range n).map fun i => ((i : Nat) : Int)).Pairwise (· ≤ ·) := by
  rw [List.pairwise_map]
  exact (List.pairwise_lt_range (n := n)).imp fun h => by omega

/-- where the plain lists stand after i stretches -/
structure LInv (S : List Tri) (i : Nat) (lasts : List Int) (rs : List Nat) (op : Option Int) : Prop where
  n : rs.length = i
  a : ∀ j, (hj : j < S.length) → j < i → ∃ r, rs[j]? = some r ∧ ∃ e, lasts[r]? = some e ∧ S[j].2.1 ≤ e
  ap : ∀ x y, (hx : x < S.length) → (hy : y < x) → x < i → rs[x]? = rs[y]? → (S[y]'(by omega)).2.1 ≤ S[x].1
  c : ∀ t, (∀ j, (hj : j < S.length) → j < i → S[j].1 ≤ t) → (atOnce (S.take i) t).length = lasts.countP fun e => decide (t < e)
  u : ∀ t, (atOnce (S.take i) t).length ≤ lasts.length
  o : 0 < i → ∃ o, op = some o ∧ (∃ j, ∃ hj : j < S.length, j < i ∧ S[j].1 = o) ∧ (atOnce (S.take i) o).length = lasts.length

theorem LInv.zero (S : List Tri) : LInv S 0 [] [] none :=
  ⟨rfl, (fun j _ h => absurd h (Nat.not_lt_zero _)), (fun x y _ _ h => absurd h (Nat.not_lt_zero _)), (fun t _ => rfl), (fun t => Nat.le_refl _), fun h => absurd h (Nat.lt_irrefl _)⟩

theorem LInv.step {S : List Tri} {i : Nat} {lasts : List Int} {rs : List Nat} {op : Option Int} (H : LInv S i lasts rs op) (hi : i < S.length)
    (hs : ∀ j k, (hj : j < S.length) → (hk : k < S.length) → j ≤ k → S[j].1 ≤ S[k].1) (hp : ∀ j, (hj : j < S.length) → S[j].1 < S[j].2.1) :
    LInv S (i + 1) (blStep (lasts, rs) S[i]).1 (blStep (lasts, rs) S[i]).2 (if (lasts.findIdx fun e => decide (e ≤ S[i].1)) = lasts.length then some S[i].1 else op) := by
  obtain ⟨r, hr⟩ : ∃ r, (lasts.findIdx fun e => decide (e ≤ S[i].1)) = r := ⟨_, rfl⟩
  have hle : r ≤ lasts.length := hr ▸ List.findIdx_le_length
  have hlast : (h : r < lasts.length) → lasts[r] ≤ S[i].1 := fun h => by
    have := List.findIdx_getElem (xs := lasts) (p := fun e => decide (e ≤ S[i].1)) (w := by rw [hr]; exact h)
    simpa [hr] using this
  have hall : r = lasts.length → ∀ e ∈ lasts, S[i].1 < e := fun h e he => by
    rw [h] at hr
    have := List.findIdx_eq_length.mp hr e he
    simpa using this
  obtain ⟨la', hla'⟩ : ∃ la', la' = (if r = lasts.length then lasts ++ [S[i].2.1] else lasts.set r S[i].2.1) := ⟨_, rfl⟩
  have e1 : blStep (lasts, rs) S[i] = (la', rs ++ [r]) := by
    simp only [blStep, hr, hla']
  rw [e1, hr]
  dsimp only
  have hlen : lasts.length ≤ la'.length := by
    rw [hla']; split <;> simp
  have hnew : la'[r]? = some S[i].2.1 := by
    rw [hla']
    split
    · rename_i h; subst h; simp
    · rename_i h
      have : r < lasts.length := by omega
      simp [this]
  have hold : ∀ r' e, lasts[r']? = some e → r' ≠ r → la'[r']? = some e := fun r' e h1 h2 => by
    have h3 := (List.getElem?_eq_some_iff.mp h1).1
    rw [hla']
    split
    · rw [List.getElem?_append_left h3]; exact h1
    · rw [List.getElem?_set_ne (Ne.symm h2)]; exact h1
  have hcnt : ∀ t, (∀ j, (hj : j < S.length) → j < i + 1 → S[j].1 ≤ t) → (atOnce (S.take (i + 1)) t).length = la'.countP fun e => decide (t < e) := fun t ht => by
    have h0 := H.c t fun j hj hji => ht j hj (by omega)
    have h1 := ht i hi (by omega)
    rw [atOnce_take t hi, List.length_append, h0]
    have key : la'.countP (fun e => decide (t < e)) = lasts.countP (fun e => decide (t < e)) + (if t < S[i].2.1 then 1 else 0) := by
      rw [hla']
      split
      · rw [List.countP_append]
        simp [List.countP_cons]
      · rename_i h
        have h2 : r < lasts.length := by omega
        have h3 := hlast h2
        rw [List.countP_set h2]
        have h4 : ¬ t < lasts[r] := by omega
        simp [h4]
    rw [key]
    congr 1
    by_cases h2 : t < S[i].2.1
    · simp [h1, h2]
    · simp [h2]
  refine ⟨by rw [List.length_append, H.n]; rfl, fun j hj hji => ?_, fun x y hx hy hxi heq => ?_, hcnt, fun t => ?_, fun _ => ?_⟩
  · by_cases hjl : j < i
    · obtain ⟨r', h1, e, h2, h3⟩ := H.a j hj hjl
      have h4 : (rs ++ [r])[j]? = some r' := by rw [List.getElem?_append_left (by rw [H.n]; exact hjl)]; exact h1
      by_cases hrr : r' = r
      · subst hrr
        have h5 := (List.getElem?_eq_some_iff.mp h2)
        have h6 := hlast h5.1
        have h7 := hp i hi
        exact ⟨r', h4, _, hnew, by have := h5.2; omega⟩
      · exact ⟨r', h4, e, hold r' e h2 hrr, h3⟩
    · obtain rfl : j = i := by omega
      refine ⟨r, by rw [← H.n]; simp, _, hnew, Int.le_refl _⟩
  · by_cases hxl : x < i
    · refine H.ap x y hx hy hxl ?_
      rw [List.getElem?_append_left (by rw [H.n]; exact hxl), List.getElem?_append_left (by rw [H.n]; omega)] at heq
      exact heq
    · obtain rfl : x = i := by omega
      obtain ⟨r', h1, e, h2, h3⟩ := H.a y (by omega) hy
      have h4 : (rs ++ [r])[x]? = some r := by rw [← H.n]; simp
      rw [h4, List.getElem?_append_left (by rw [H.n]; exact hy), h1] at heq
      obtain rfl := Option.some.inj heq
      have h5 := (List.getElem?_eq_some_iff.mp h2)
      have h6 := hlast h5.1
      have := h5.2
      omega
  · by_cases h : S[i].1 ≤ t ∧ t < S[i].2.1
    · rw [hcnt t fun j hj hji => Int.le_trans (hs j i hj hi (by omega)) h.1]
      exact List.countP_le_length
    · rw [atOnce_take t hi, if_neg h, List.append_nil]
      exact Nat.le_trans (H.u t) hlen
  · by_cases hrl : r = lasts.length
    · rw [if_pos hrl]
      refine ⟨_, rfl, ⟨i, hi, by omega, rfl⟩, ?_⟩
      rw [hcnt _ fun j hj hji => hs j i hj hi (by omega), List.countP_eq_length]
      intro e he
      rw [hla', if_pos hrl] at he
      rcases List.mem_append.mp he with he | he
      · simpa using hall hrl e he
      · rw [List.mem_singleton.mp he]
        simpa using hp i hi
    · rw [if_neg hrl]
      have hi0 : 0 < i := by
        rcases Nat.eq_zero_or_pos i with h | h
        · subst h
          have h2 : r < lasts.length := by omega
          have h3 := H.c (lasts[r] - 1) fun j _ h => absurd h (Nat.not_lt_zero _)
          have h4 : 0 < lasts.countP fun e => decide (lasts[r] - 1 < e) := List.countP_pos_iff.mpr ⟨_, List.getElem_mem h2, by simp; omega⟩
          rw [← h3] at h4
          simp [atOnce] at h4
        · exact h
      obtain ⟨o, h1, ⟨j, hj, hji, h2⟩, h3⟩ := H.o hi0
      refine ⟨o, h1, ⟨j, hj, by omega, h2⟩, ?_⟩
      have hll : la'.length = lasts.length := by rw [hla', if_neg hrl, List.length_set]
      rw [hll, atOnce_take o hi, List.length_append, h3]
      have ho : o ≤ S[i].1 := h2 ▸ hs j i hj hi (by omega)
      by_cases hq : S[i].1 ≤ o
      · exfalso
        have heq : S[i].1 = o := by omega
        have h4 := H.c o fun k hk hki => heq ▸ hs k i hk hi (by omega)
        rw [h3] at h4
        have h5 := List.countP_eq_length.mp h4.symm
        have h6 : r < lasts.length := by omega
        have h7 := h5 _ (List.getElem_mem h6)
        have h8 := hlast h6
        simp at h7
        omega
      · rw [if_neg fun h => hq h.1]; rfl

theorem linv (S : List Tri) (hs : ∀ j k, (hj : j < S.length) → (hk : k < S.length) → j ≤ k → S[j].1 ≤ S[k].1) (hp : ∀ j, (hj : j < S.length) → S[j].1 < S[j].2.1) :
    ∀ i, i ≤ S.length → LInv S i (blAll (S.take i)).1 (blAll (S.take i)).2 (blOpen (S.take i))
  | 0, _ => LInv.zero S
  | i + 1, h => by
    have ih := linv S hs hp i (by omega)
    have := ih.step (by omega) hs hp
    rw [blAll_take (by omega), blOpen_take (by omega)]
    exact this

/-- stretches in order, each of some length -/
structure Good (S : List Tri) : Prop where
  s : S.Pairwise fun a b => a.1 ≤ b.1
  p : ∀ x ∈ S, x.1 < x.2.1
theorem Good.linv {S : List Tri} (G : Good S) : LInv S S.length (blAll S).1 (blAll S).2 (blOpen S) := by
  have := Mine.linv S (fun j k hj hk hjk => by
    rcases Nat.lt_or_eq_of_le hjk with h | rfl
    · exact List.pairwise_iff_getElem.mp G.s j k hj hk h
    · exact Int.le_refl _) (fun j hj => G.p _ (List.getElem_mem hj)) S.length (Nat.le_refl _)
  rwa [List.take_length] at this
theorem Good.apart {S : List Tri} (G : Good S) : Apart S (blAll S).2 := fun i j hi hj he hc => by
  have := G.linv.ap i j hi hj hi he
  omega
theorem Good.most {S : List Tri} (G : Good S) (t : Int) : (atOnce S t).length ≤ (blAll S).1.length := by
  have := G.linv.u t
  rwa [List.take_length] at this
theorem Good.open' {S : List Tri} (G : Good S) (h : S ≠ []) : ∃ o, blOpen S = some o ∧ (∃ x ∈ S, x.1 = o) ∧ (atOnce S o).length = (blAll S).1.length := by
  obtain ⟨o, h1, ⟨j, hj, _, h2⟩, h3⟩ := G.linv.o (List.length_pos_iff.mpr h)
  rw [List.take_length] at h3
  exact ⟨o, h1, ⟨_, List.getElem_mem hj, h2⟩, h3⟩

/-- a stretch seen in a mirror -/
def mirr (p : Tri) : Tri := (-p.2.1, -p.1, p.2.2)
theorem atOnce_mirr (S : List Tri) (t : Int) : (atOnce (S.map mirr) t).length = (atOnce S (-t - 1)).length := by
  unfold atOnce
  rw [List.filter_map, List.length_map]
  congr 1
  apply List.filter_congr
  intro x _
  show (decide (-x.2.1 ≤ t) && decide (t < -x.1)) = (decide (x.1 ≤ -t - 1) && decide (-t - 1 < x.2.1))
  rw [Bool.eq_iff_iff]
  simp only [Bool.and_eq_true, decide_eq_true_eq]
  omega
theorem same_many {S S' : List Tri} (G : Good S) (G' : Good S') (h : S ≠ []) (hp : S'.Perm (S.map mirr)) : (blAll S').1.length = (blAll S).1.length := by
  have h' : S' ≠ [] := fun e => by
    rw [e] at hp
    have := hp.length_eq
    simp at this
    exact h (List.length_eq_zero_iff.mp this.symm)
  have cnt : ∀ t, (atOnce S' t).length = (atOnce S (-t - 1)).length := fun t => by
    rw [← atOnce_mirr]
    exact (hp.filter _).length_eq
  obtain ⟨o, _, _, h1⟩ := G.open' h
  obtain ⟨o', _, _, h2⟩ := G'.open' h'
  have a := G.most (-o' - 1)
  have b := G'.most (-o - 1)
  rw [← cnt, h2] at a
  rw [cnt, show -(-o - 1) - 1 = o by omega, h1] at b
  omega

/-- how the three lists of the law by heaps stand in the memory -/
structure BH (c : Addr) (oc : Obj) (e f r : Addr) (news tl : List (Addr × Obj)) (ends : List (Int × Int)) (free : List Int) (rooms : List Nat) (ve vf vr : List Value) : Prop where
  sub : ∀ p ∈ (c, oc) :: news, p ∈ tl
  off : ∀ p ∈ tl, p.1 ≠ e ∧ p.1 ≠ f ∧ p.1 ≠ r
  de : DatAll tl ve (ends.map embP)
  df : DatAll [] vf (free.map Dat.int)
  dr : DatAll [] vr (rooms.map fun i => Dat.int (i : Nat))
/-- opened as it stands -/
def OpV (ov : Value) (o : Option Int) : Prop := match o with
  | none => ov = .none
  | some x => ∃ t, ov = .int x t
section
variable {w : World} {A : Around} {h₀ : Heap} {L l : Addr} {m : Str → Option Value} {s : Shared} {news : List (Addr × Obj)} {vs : List Value} {n : Nat} {S : List Tri}
set_option maxHeartbeats 4000000 in
theorem byHeaps_spec {Q : Value → Shared → Prop} {E : Value → Shared → Prop}
    (hA : A.handled = none) (hdp : A.depth + 30 < recursionLimit) (hu : A.units + 120 < cLine)
    (G : Gd w h₀) (F : Fr h₀ L s.heap m) (N : News h₀ L s.heap news) (hm : (l, listOf vs.toArray n) ∈ news)
    (hD : DatAll news vs (S.map embT)) (hlen : S.length ≤ 60) (hne : S ≠ []) (hsort : S.Pairwise fun a b => a.1 ≤ b.1)
    (ret : ∀ h' tk a r (vr : List Value) k ov, Fr h₀ L h' m → News h₀ L h' ((a, { cls := .type "tuple", data := .seq #[.ref r, ov] }) :: (r, listOf vr.toArray k) :: news) →
      DatAll [] vr ((blAll S).2.map fun i => Dat.int (i : Nat)) → OpV ov (blOpen S) → Q (.ref a) {s with heap := h', toks := tk}) :
    wpAny (model Challenge.rw_ir0003_01.row.prog w) A (call (.ref 61) [.ref l]) Q E s := by
  obtain ⟨hn, dp, fr, gd, un⟩ := A
  obtain rfl : hn = none := hA
  obtain ⟨X, loose, mean, mg, mb, T⟩ := G
  have hh : Challenge.rw_ir0003_01.Holds → (hd.heap_39 w.params).In h₀ → True := fun _ _ => trivial
  revert hh
  k_fill
  intro hh
  refine wpAny_call ?_
  refine enterC F X N T (by k_is) (by k_is) (by (try dsimp only at hdp ⊢); omega) (binds := [(Str.ofString "stretches", .ref l)]) (BindsTo.of_eq rfl) rfl (by decide +kernel) ?_ rfl rfl rfl
  intro g L' h' tk' cells st F' N' Y' X' T' hlt
  obtain ⟨o', rfl, d1⟩ := CellsAre.one Y'
  replace d1 : o'.data = .cell none := d1
  try dsimp only
  have hvl := dat_len hD
  k_steps
  rename_i e _ o3 f _ o2 r _ o1 Dt _ o4 _ F1 N1
  dsimp only [List.cons_append, List.nil_append] at N1 o1 o2 o3 o4
  have hce : (L' + 1 : Nat) < e := o3 (L' + 1, o') (.head _)
  have hne' : ∀ p ∈ news, p.1 < e := fun p hp => o3 p (.tail _ hp)
  have hef : e < f := o2.1
  have hfr : f < r := o1.1
  have hrD : r < Dt := o4.1
  have hnc : ∀ p ∈ news, p.1 ≠ L' + 1 := fun p hp => Nat.ne_of_lt (Nat.lt_succ_of_lt (hlt p hp))
  refine st_cell [_, _, _, _] F1 N1 ?_ hnc rfl d1 ?_
  · intro p hp
    simp only [List.mem_cons, List.not_mem_nil, or_false] at hp
    rcases hp with rfl | rfl | rfl | rfl
    · exact Nat.ne_of_gt (Nat.lt_trans hce (Nat.lt_trans hef (Nat.lt_trans hfr hrD)))
    · exact Nat.ne_of_gt (Nat.lt_trans hce (Nat.lt_trans hef hfr))
    · exact Nat.ne_of_gt (Nat.lt_trans hce hef)
    · exact Nat.ne_of_gt hce
  intro h2 oc F2 N2 dc
  dsimp only [List.cons_append, List.nil_append] at N2
  clear F1 N1
  k_steps
  rename_i h3 F3 N3
  refine Hold.mk ?_
  have hef' : e ≠ f := Nat.ne_of_lt hef
  have her' : e ≠ r := Nat.ne_of_lt (Nat.lt_trans hef hfr)
  have hfr' : f ≠ r := Nat.ne_of_lt hfr
  have hS0 : 0 < S.length := List.length_pos_iff.mpr hne
  have hso : ∀ i j, (hi : i < S.length) → (hj : j < S.length) → i ≤ j → S[i].1 ≤ S[j].1 := by
    intro i j hi hj hij
    rcases Nat.lt_or_eq_of_le hij with h | rfl
    · exact List.pairwise_iff_getElem.mp hsort i j hi hj h
    · exact Int.le_refl _
  refine for_list (vs := vs) (nn := n) rfl (fun _ => rfl) (fun i m nw => ∃ (u : Str → Option Value) (ve vf vr : List Value) (ke kf kr : Nat) (tl : List (Addr × Obj)) (ends : List (Int × Int)) (free : List Int) (ov : Value) (b : Int),
      m = fm [(Str.ofString "stretches", .ref l), (Str.ofString "free", .ref f), (Str.ofString "rooms", .ref r), (Str.ofString "opened", ov)] u ∧
      nw = (e, W.listOf ve.toArray ke) :: (f, W.listOf vf.toArray kf) :: (r, W.listOf vr.toArray kr) :: tl ∧
      BH (L' + 1) oc e f r news tl ends free (blAll (S.take i)).2 ve vf vr ∧ OpV ov (blOpen (S.take i)) ∧ HInv ends free (blAll (S.take i)).1 b ∧ ∀ j, (hj : j < S.length) → i ≤ j → b ≤ S[j].1)
    (nm_local F3 rfl ⟨rfl, rfl⟩) F3 (N3.perm (news' := (e, _) :: (f, _) :: (r, _) :: (L' + 1, oc) :: news) fun p hp => ?_)
    ⟨_, [], [], [], 0, 0, 0, (L' + 1, oc) :: news, [], [], .none, S[0].1, (fm_eq _ _ (by walk_at "PINS")).symm, rfl, ⟨fun _ h => h, fun p hp => ?_, .nil, .nil, .nil⟩, rfl, HInv.nil _, fun j hj _ => hso 0 j hS0 hj (Nat.zero_le _)⟩ ?_ ?_ ?_
  · simp only [List.mem_cons] at hp ⊢
    rcases hp with rfl | rfl | rfl | rfl | hp
    · simp
    · simp
    · simp
    · simp
    · simp [hp]
  · have : p.1 < e := by
      rcases List.mem_cons.mp hp with rfl | hp
      · exact hce
      · exact hne' p hp
    exact ⟨Nat.ne_of_lt this, Nat.ne_of_lt (Nat.lt_trans this hef), Nat.ne_of_lt (Nat.lt_trans this (Nat.lt_trans hef hfr))⟩
  · rintro i m nw ⟨u, ve, vf, vr, ke, kf, kr, tl, ends, free, ov, b, rfl, rfl, B, _⟩
    exact .tail _ (.tail _ (.tail _ (B.sub _ (.tail _ hm))))
  · rintro i v m₁ nw h tk I oI hv ⟨u, ve, vf, vr, ke, kf, kr, tl, ends, free, ov, b, rfl, rfl, B, hov, H, hb⟩ F4 N4 off
    have hi : i < S.length := by rw [← hvl]; exact (List.getElem?_eq_some_iff.mp hv).1
    obtain ⟨v', hv', hd⟩ := dat_get hD hi
    obtain rfl : v' = v := by rw [hv] at hv'; exact (Option.some.inj hv').symm
    obtain ⟨a, t1, t2, t3, na, rfl, ha⟩ := datT hd
    have ha' : (a, _) ∈ (I, oI) :: (e, W.listOf ve.toArray ke) :: (f, W.listOf vf.toArray kf) :: (r, W.listOf vr.toArray kr) :: tl := .tail _ (.tail _ (.tail _ (.tail _ (B.sub _ (.tail _ ha)))))
    have hcell : (L' + 1, oc) ∈ tl := B.sub _ (.head _)
    have hIe : I ≠ e := fun q => off _ (.head _) q.symm
    have hIf : I ≠ f := fun q => off _ (.tail _ (.head _)) q.symm
    have hIr : I ≠ r := fun q => off _ (.tail _ (.tail _ (.head _))) q.symm
    have hbl := blAll_len (S.take i)
    have hti : (S.take i).length ≤ 60 := by rw [List.length_take]; omega
    have H' := H.later (hb i hi (Nat.le_refl _))
    refine assign3 rfl F4 N4 (News.isTup N4 ha') ?_
    intro h5 tk5 F5 N5
    k_steps
    refine Hold.mk ?_
    refine wpAny_mono (my_while (Q := fun fl s' => Hold (fl = .next ∧ ∃ (h' : Heap) (tk : Nat) (u : Str → Option Value) (ve vf : List Value) (ke kf : Nat) (ends : List (Int × Int)) (free : List Int), s' = { heap := h', gens := s.gens, drawn := s.drawn, toks := tk, os := s.os } ∧
        Fr g L' h' (fm [(Str.ofString "stretches", .ref l), (Str.ofString "free", .ref f), (Str.ofString "rooms", .ref r), (Str.ofString "opened", ov), (Str.ofString "begin", .int S[i].1 t1), (Str.ofString "end", .int S[i].2.1 t2)] u) ∧
        News g L' h' ((I, oI) :: (e, W.listOf ve.toArray ke) :: (f, W.listOf vf.toArray kf) :: (r, W.listOf vr.toArray kr) :: tl) ∧ BH (L' + 1) oc e f r news tl ends free (blAll (S.take i)).2 ve vf vr ∧ HInv ends free (blAll (S.take i)).1 S[i].1 ∧ ∀ p ∈ ends, S[i].1 < p.1))
      (fun k s' => ∃ (h' : Heap) (tk : Nat) (u : Str → Option Value) (ve vf : List Value) (ke kf : Nat) (ends : List (Int × Int)) (free : List Int), s' = { heap := h', gens := s.gens, drawn := s.drawn, toks := tk, os := s.os } ∧
        Fr g L' h' (fm [(Str.ofString "stretches", .ref l), (Str.ofString "free", .ref f), (Str.ofString "rooms", .ref r), (Str.ofString "opened", ov), (Str.ofString "begin", .int S[i].1 t1), (Str.ofString "end", .int S[i].2.1 t2)] u) ∧
        News g L' h' ((I, oI) :: (e, W.listOf ve.toArray ke) :: (f, W.listOf vf.toArray kf) :: (r, W.listOf vr.toArray kr) :: tl) ∧ BH (L' + 1) oc e f r news tl ends free (blAll (S.take i)).2 ve vf vr ∧ HInv ends free (blAll (S.take i)).1 S[i].1 ∧ k = ends.length)
      ?_ ends.length ⟨h5, _, _, ve, vf, ke, kf, ends, free, rfl, fr_pin F5 _ (by walk_at "PINS"), N5, B, H', rfl⟩) ?_ (fun _ _ x => x)
    · clear F5 N5 F4 N4 H H' ha' B
      rintro k s' ⟨h6, tk6, u6, ve, vf, ke, kf, ends, free, rfl, F6, N6, B, H, rfl⟩
      have ok : ∀ d ∈ ends.map embP, kqdOk 8 d = true := fun d hd => by obtain ⟨p, _, rfl⟩ := List.mem_map.mp hd; rfl
      have hel : ends.length ≤ 60 := by have := H.len; omega
      have hfl : free.length ≤ 60 := by have := H.len; omega
      k_steps
      rename_i d0 h7 F7 N7 od
      refine Hold.mk ?_
      have sub7 : ∀ p ∈ tl, p ∈ (d0, W.listOf ([] : List Value).toArray 0) :: (I, oI) :: (e, W.listOf ve.toArray ke) :: (f, W.listOf vf.toArray kf) :: (r, W.listOf vr.toArray kr) :: tl := fun p hp => .tail _ (.tail _ (.tail _ (.tail _ (.tail _ hp))))
      rcases List.eq_nil_or_concat ends with rfl | ⟨qs, z, hqz⟩
      · refine h_ne (n₂ := []) (ys := []) (t := false) N7 (.tail _ (.tail _ (.head _))) B.de sub7 (.head _) DatAll.nil (fun _ h => nomatch h) ok (fun _ h => nomatch h) (by show un + 3 + 64 < cLine; dsimp only at hu; omega) (by simp) ?_
        k_steps
        exact Hold.mk ⟨by first | exact rfl | exact trivial, _, _, _, ve, vf, ke, kf, [], free, rfl, fr_pin F7 _ (by walk_at "PINS"), (fun p hp => N7 p (.tail _ hp)), B, H, fun _ h => nomatch h⟩
      · rw [List.concat_eq_append] at hqz
        subst hqz
        obtain ⟨q, hq⟩ : ∃ q, (qs ++ [z])[0]? = some q := ⟨_, List.getElem?_eq_getElem (by simp)⟩
        refine h_ne (n₂ := []) (ys := []) (t := true) N7 (.tail _ (.tail _ (.head _))) B.de sub7 (.head _) DatAll.nil (fun _ h => nomatch h) ok (fun _ h => nomatch h) (by show un + 3 + 64 < cLine; dsimp only at hu; omega) (by simp) ?_
        k_steps
        refine Hold.mk ?_
        refine h_sub N7 (.tail _ (.tail _ (.head _))) B.de (k := (0 : Int)) (by omega) (by omega) (x := q) hq ?_
        intro v1 hv1
        obtain ⟨a1, u1, u2, n1, rfl, ha1⟩ := datP hv1
        k_steps
        refine Hold.mk ?_
        refine tup_sub (k := 0) (j := 0) (by assumption) (sub7 _ ha1) (by decide) (by decide) rfl rfl ?_
        k_steps
        · rename_i hc1
          refine Hold.mk ?_
          have offe : ∀ p ∈ (I, oI) :: (f, W.listOf vf.toArray kf) :: (r, W.listOf vr.toArray kr) :: tl, p.1 ≠ e := fun p hp => by
            simp only [List.mem_cons] at hp
            rcases hp with rfl | rfl | rfl | hp
            · exact hIe
            · exact hef'.symm
            · exact her'.symm
            · exact (B.off p hp).1
          refine pop_spec (pairItem w) (TT := tl) rfl (by show dp + 1 + 15 < recursionLimit; dsimp only at hdp; omega) (by show un + 3 + 70 < cLine; dsimp only at hu; omega) ⟨X', _, _, _, _, T'⟩ F7
            (N7.perm (news' := (e, W.listOf ve.toArray ke) :: (I, oI) :: (f, W.listOf vf.toArray kf) :: (r, W.listOf vr.toArray kr) :: tl) fun p hp => by simp only [List.mem_cons] at hp ⊢; rcases hp with h | h | h | h | h <;> simp [h])
            offe (fun p hp => .tail _ (.tail _ (.tail _ hp))) B.de (by simp at hel; omega) ?_
          intro h8 tk8 v8 ve8 ke8 F8 N8 dv8 dve8
          obtain ⟨a8, u3, u4, n8, rfl, ha8⟩ := datP dv8
          k_steps
          refine Hold.mk ?_
          refine tup_sub (k := 1) (j := 1) N8 (.tail _ (.tail _ (.tail _ (.tail _ ha8)))) (by decide) (by decide) rfl rfl ?_
          k_steps
          refine Hold.mk ?_
          have offf : ∀ p ∈ (I, oI) :: (e, W.listOf ve8.toArray ke8) :: (r, W.listOf vr.toArray kr) :: tl, p.1 ≠ f := fun p hp => by
            simp only [List.mem_cons] at hp
            rcases hp with rfl | rfl | rfl | hp
            · exact hIf
            · exact hef'
            · exact hfr'.symm
            · exact (B.off p hp).2.1
          refine push_spec (intItem w) (TT := []) (x := ((hpop (pairItem w).lt qs z).1).2) rfl (by show dp + 1 + 10 < recursionLimit; dsimp only at hdp; omega) (by show un + 3 + 60 < cLine; dsimp only at hu; omega) ⟨X', _, _, _, _, T'⟩ F8
            (N8.perm (news' := (f, W.listOf vf.toArray kf) :: (I, oI) :: (e, W.listOf ve8.toArray ke8) :: (r, W.listOf vr.toArray kr) :: tl) fun p hp => by simp only [List.mem_cons] at hp ⊢; rcases hp with h | h | h | h | h <;> simp [h])
            offf (fun _ h => nomatch h) B.df (.int _ _) (by omega) ?_
          intro h9 tk9 vf9 kf9 F9 N9 df9
          k_steps
          obtain ⟨R1, R2⟩ := rel_step H hq hc1
          refine Hold.mk ⟨(hpop ltP qs z).2.length, by rw [R2]; simp, _, _, _, ve8, vf9, ke8, kf9, (hpop ltP qs z).2, _, rfl, fr_pin F9 _ (by walk_at "PINS"),
            (N9.perm fun p hp => by simp only [List.mem_cons] at hp ⊢; rcases hp with h | h | h | h | h <;> simp [h]), ⟨B.sub, B.off, dve8, df9, B.dr⟩, R1, rfl⟩
        · rename_i hc1
          refine Hold.mk ⟨by first | exact rfl | exact trivial, _, _, _, ve, vf, ke, kf, qs ++ [z], free, rfl, fr_pin F7 _ (by walk_at "PINS"), (fun p hp => N7 p (.tail _ hp)), B, H, busy H fun q' hq' => ?_⟩
          rw [hq] at hq'
          obtain rfl := Option.some.inj hq'
          omega
    · clear F5 N5 F4 N4 H H' ha' B
      intro fl s' hq
      obtain ⟨rfl, h6, tk6, u6, ve, vf, ke, kf, ends, free, rfl, F6, N6, B, H, hbusy⟩ := hq.out
      dsimp only
      k_steps
      rename_i d0 h7 F7 N7 od
      have ok : ∀ d ∈ free.map Dat.int, kqdOk 8 d = true := fun d hd => by obtain ⟨p, _, rfl⟩ := List.mem_map.mp hd; rfl
      have hHl := H.len
      have hel : ends.length ≤ 60 := by omega
      have hfl : free.length ≤ 60 := by omega
      refine Hold.mk ?_
      rcases List.eq_nil_or_concat free with rfl | ⟨qs, z, hqz⟩
      · refine h_eq (n₂ := []) (ys := []) (t := true) N7 (.tail _ (.tail _ (.tail _ (.head _)))) B.df (fun _ h => nomatch h) (.head _) DatAll.nil (fun _ h => nomatch h) ok (fun _ h => nomatch h) (by show un + 3 + 64 < cLine; dsimp only at hu; omega) (by simp) ?_
        k_steps
        refine Hold.mk ?_
        refine h_lenD N7 (.tail _ (.tail _ (.head _))) B.de (by omega) ?_
        k_steps
        rename_i tk0 D1 _ _ _ _ _ Dp h8 F8 N8 l2
        obtain ⟨-, -, q1, q2, q3, q4, -⟩ := l2
        have oDp : Dp ≠ e ∧ Dp ≠ f ∧ Dp ≠ r := ⟨Nat.ne_of_gt q2, Nat.ne_of_gt q3, Nat.ne_of_gt q4⟩
        have oDI : Dp ≠ I := Nat.ne_of_gt q1
        obtain ⟨E1, E2, H2⟩ := open_step (e := S[i].2.1) H hbusy
        obtain ⟨oT, hoT⟩ : ∃ oT : Obj, oT = { cls := .type "tuple", data := .seq #[.int S[i].2.1 t2, .int (ends.length : Nat) (tk0 + 1)] } := ⟨_, rfl⟩
        rw [← hoT] at N8
        replace N8 : News g L' h8 ((Dp, oT) :: (I, oI) :: (e, W.listOf ve.toArray ke) :: (f, W.listOf vf.toArray kf) :: (r, W.listOf vr.toArray kr) :: tl) := fun p hp => N8 p (by simp only [List.mem_cons] at hp ⊢; rcases hp with h | h | h | h | h | h <;> simp [h])
        rw [← E2] at H2
        have oD : ∀ p ∈ (Dp, oT) :: tl, p.1 ≠ e ∧ p.1 ≠ f ∧ p.1 ≠ r := fun p hp => by
          rcases List.mem_cons.mp hp with rfl | hp
          · exact oDp
          · exact B.off p (by assumption)
        have offe : ∀ p ∈ (Dp, oT) :: (I, oI) :: (f, W.listOf vf.toArray kf) :: (r, W.listOf vr.toArray kr) :: tl, p.1 ≠ e := fun p hp => by
          simp only [List.mem_cons] at hp
          rcases hp with rfl | rfl | rfl | rfl | hp
          · exact oDp.1
          · exact hIe
          · exact hef'.symm
          · exact her'.symm
          · exact (B.off p hp).1
        refine Hold.mk ?_
        refine push_spec (pairItem w) (TT := (Dp, oT) :: tl) (x := (S[i].2.1, ((ends.length : Nat) : Int))) ?_ ?_ ?_ ⟨X', _, _, _, _, T'⟩ F8
          (N8.perm (news' := (e, W.listOf ve.toArray ke) :: (Dp, oT) :: (I, oI) :: (f, W.listOf vf.toArray kf) :: (r, W.listOf vr.toArray kr) :: tl) ?_)
          offe ?_ (B.de.mono fun p hp => .tail _ hp) ?_ ?_ ?_
        · rfl
        · show dp + 1 + 10 < recursionLimit; dsimp only at hdp; omega
        · show un + 3 + 60 < cLine; dsimp only at hu; omega
        · intro p hp; simp only [List.mem_cons] at hp ⊢; rcases hp with h | h | h | h | h | h <;> simp [h]
        · intro p hp; simp only [List.mem_cons] at hp ⊢; rcases hp with h | h <;> simp [h]
        · subst hoT; exact .tuple (.head _) (.cons (.int _ _) (.cons (.int _ _) .nil))
        · omega
        intro h9 tk9 ve9 ke9 F9 N9 de9
        k_steps
        refine Hold.mk ?_
        refine h_appendM [(e, _), (Dp, oT), (I, oI), (f, _)] F9 N9 (fun p hp => by
          simp only [List.mem_cons, List.not_mem_nil, or_false] at hp
          rcases hp with rfl | rfl | rfl | rfl
          · exact her'
          · exact oDp.2.2
          · exact hIr
          · exact hfr') (fun p hp => (B.off p hp).2.2) (by have := dat_len B.dr; rw [this, hbl.2, sizeLine_eq]; omega) ?_
        intro h10 F10 N10
        dsimp only [List.cons_append, List.nil_append] at N10
        k_steps
        refine Hold.mk ⟨_, _, _, _, rfl, F10, N10.perm (news' := (I, oI) :: (e, _) :: (f, _) :: (r, _) :: (Dp, oT) :: tl) ?_, fun q hq => ?_, _, ve9, vf, vr ++ [.int (ends.length : Nat) (tk0 + 1)], ke9, kf, kr + 1, _, _, _, (.int S[i].1 t1), S[i].1, (fm_eq _ _ (by walk_at "PINS")).symm, rfl, ⟨fun p hp => .tail _ (B.sub p hp), oD, de9, B.df, ?_⟩, ?_, ?_, fun j hj hij => hso i j hi hj (by omega)⟩
        · intro p hp; simp only [List.mem_cons] at hp ⊢; rcases hp with h | h | h | h | h | h <;> simp [h]
        · simp only [List.mem_cons] at hq
          rcases hq with rfl | rfl | rfl | rfl | hq
          · exact hIe.symm
          · exact hIf.symm
          · exact hIr.symm
          · exact oDI
          · exact off q (.tail _ (.tail _ (.tail _ hq)))
        · rw [blAll_take hi]
          simp only [blStep, E1]
          rw [← E2]
          exact dat_snoc B.dr (.int _ _)
        · rw [blOpen_take hi, E1]
          rw [if_pos rfl]
          exact ⟨_, rfl⟩
        · rw [blAll_take hi]
          simp only [blStep, E1, if_true]
          exact H2
      · rw [List.concat_eq_append] at hqz
        subst hqz
        refine h_eq (n₂ := []) (ys := []) (t := false) N7 (.tail _ (.tail _ (.tail _ (.head _)))) B.df (fun _ h => nomatch h) (.head _) DatAll.nil (fun _ h => nomatch h) ok (fun _ h => nomatch h) (by show un + 3 + 64 < cLine; dsimp only at hu; omega) (by simp) ?_
        k_steps
        refine Hold.mk ?_
        have offf : ∀ p ∈ (I, oI) :: (e, W.listOf ve.toArray ke) :: (r, W.listOf vr.toArray kr) :: tl, p.1 ≠ f := fun p hp => by
          simp only [List.mem_cons] at hp
          rcases hp with rfl | rfl | rfl | hp
          · exact hIf
          · exact hef'
          · exact hfr'.symm
          · exact (B.off p hp).2.1
        refine pop_spec (intItem w) (TT := []) rfl (by show dp + 1 + 15 < recursionLimit; dsimp only at hdp; omega) (by show un + 3 + 70 < cLine; dsimp only at hu; omega) ⟨X', _, _, _, _, T'⟩ F7
            (N7.perm (news' := (f, W.listOf vf.toArray kf) :: (I, oI) :: (e, W.listOf ve.toArray ke) :: (r, W.listOf vr.toArray kr) :: tl) fun p hp => by simp only [List.mem_cons] at hp ⊢; rcases hp with h | h | h | h | h <;> simp [h])
            offf (fun _ h => nomatch h) B.df (by simp at hfl; omega) ?_
        intro h8 tk8 v8 vf8 kf8 F8 N8 dv8 dvf8
        obtain ⟨rr, e1, e2, e3, H2⟩ := reuse_step (e := S[i].2.1) H hbusy
        rw [show (intItem w).lt = ltI from rfl, e1] at dv8
        obtain ⟨tr, rfl⟩ : ∃ tr, v8 = .int (rr : Nat) tr := by cases dv8; exact ⟨_, rfl⟩
        k_steps
        rename_i Dp h8x F8x N8x l2
        obtain ⟨q3, q1, q2, q4, -⟩ := l2
        have oDp : Dp ≠ e ∧ Dp ≠ f ∧ Dp ≠ r := ⟨Nat.ne_of_gt q2, Nat.ne_of_gt q3, Nat.ne_of_gt q4⟩
        have oDI : Dp ≠ I := Nat.ne_of_gt q1
        obtain ⟨oT, hoT⟩ : ∃ oT : Obj, oT = { cls := .type "tuple", data := .seq #[.int S[i].2.1 t2, .int (rr : Nat) tr] } := ⟨_, rfl⟩
        rw [← hoT] at N8x
        have hends : ends.length ≤ 900 := by omega
        have oD : ∀ p ∈ (Dp, oT) :: tl, p.1 ≠ e ∧ p.1 ≠ f ∧ p.1 ≠ r := fun p hp => by
          rcases List.mem_cons.mp hp with rfl | hp
          · exact oDp
          · exact B.off p (by assumption)
        have offe : ∀ p ∈ (Dp, oT) :: (I, oI) :: (f, W.listOf vf8.toArray kf8) :: (r, W.listOf vr.toArray kr) :: tl, p.1 ≠ e := fun p hp => by
          simp only [List.mem_cons] at hp
          rcases hp with rfl | rfl | rfl | rfl | hp
          · exact oDp.1
          · exact hIe
          · exact hef'.symm
          · exact her'.symm
          · exact (B.off p hp).1
        refine Hold.mk ?_
        refine push_spec (pairItem w) (TT := (Dp, oT) :: tl) (x := (S[i].2.1, ((rr : Nat) : Int))) ?_ ?_ ?_ ⟨X', _, _, _, _, T'⟩ F8x
          (N8x.perm (news' := (e, W.listOf ve.toArray ke) :: (Dp, oT) :: (I, oI) :: (f, W.listOf vf8.toArray kf8) :: (r, W.listOf vr.toArray kr) :: tl) ?_)
          offe ?_ (B.de.mono fun p hp => .tail _ hp) ?_ ?_ ?_
        · rfl
        · show dp + 1 + 10 < recursionLimit; dsimp only at hdp; omega
        · show un + 3 + 60 < cLine; dsimp only at hu; omega
        · intro p hp; simp only [List.mem_cons] at hp ⊢; rcases hp with h | h | h | h | h | h <;> simp [h]
        · intro p hp; simp only [List.mem_cons] at hp ⊢; rcases hp with h | h <;> simp [h]
        · subst hoT; exact .tuple (.head _) (.cons (.int _ _) (.cons (.int _ _) .nil))
        · omega
        intro h9 tk9 ve9 ke9 F9 N9 de9
        k_steps
        refine Hold.mk ?_
        refine h_appendM [(e, _), (Dp, oT), (I, oI), (f, _)] F9 N9 (fun p hp => by
          simp only [List.mem_cons, List.not_mem_nil, or_false] at hp
          rcases hp with rfl | rfl | rfl | rfl
          · exact her'
          · exact oDp.2.2
          · exact hIr
          · exact hfr') (fun p hp => (B.off p hp).2.2) (by have := dat_len B.dr; rw [this, hbl.2, sizeLine_eq]; omega) ?_
        intro h10 F10 N10
        dsimp only [List.cons_append, List.nil_append] at N10
        k_steps
        refine Hold.mk ⟨_, _, _, _, rfl, F10, N10.perm (news' := (I, oI) :: (e, _) :: (f, _) :: (r, _) :: (Dp, oT) :: tl) ?_, fun q hq => ?_, _, ve9, vf8, vr ++ [.int (rr : Nat) tr], ke9, kf8, kr + 1, _, _, _, ov, S[i].1, (fm_eq _ _ (by walk_at "PINS")).symm, rfl, ⟨fun p hp => .tail _ (B.sub p hp), oD, de9, dvf8, ?_⟩, ?_, ?_, fun j hj hij => hso i j hi hj (by omega)⟩
        · intro p hp; simp only [List.mem_cons] at hp ⊢; rcases hp with h | h | h | h | h | h <;> simp [h]
        · simp only [List.mem_cons] at hq
          rcases hq with rfl | rfl | rfl | rfl | hq
          · exact hIe.symm
          · exact hIf.symm
          · exact hIr.symm
          · exact oDI
          · exact off q (.tail _ (.tail _ (.tail _ hq)))
        · rw [blAll_take hi]
          simp only [blStep, e3]
          exact dat_snoc B.dr (.int _ _)
        · rw [blOpen_take hi, e3]
          rw [if_neg (Nat.ne_of_lt e2)]
          exact hov
        · rw [blAll_take hi]
          simp only [blStep, e3, if_neg (Nat.ne_of_lt e2)]
          exact H2
  · rintro m₁ nw h tk ⟨u, ve, vf, vr, ke, kf, kr, tl, ends, free, ov, b, rfl, rfl, B, hov, H, -⟩ F4 N4
    rw [hvl, List.take_length] at B hov H
    have hbl := blAll_len S
    have hHl := H.len
    have hel : ends.length ≤ 60 := by omega
    have hfl : free.length ≤ 60 := by omega
    have hcell : (L' + 1, oc) ∈ tl := B.sub _ (.head _)
    k_steps
    refine Hold.mk ?_
    refine comp_range_as (h₀ := g) (m := fm [(Str.ofString "stretches", .ref l), (Str.ofString "free", .ref f), (Str.ofString "rooms", .ref r), (Str.ofString "opened", ov)] u) (n := ends.length) (by with_unfolding_all rfl) rfl rfl rfl rfl (fun _ => rfl) (by with_unfolding_all rfl) (by decide) rfl (by decide) (by omega) ?_
    k_steps
    refine Hold.mk ?_
    refine h_lenD N4 (.head _) B.de (by omega) ?_
    k_steps
    rename_i hR FR NR KR
    refine ⟨_, _, _, _, _, rfl, hR, FR, NR, fun i ys nw => ∃ (ve : List Value) (ke : Nat) (en dn : List (Int × Int)), nw = (e, W.listOf ve.toArray ke) :: (f, W.listOf vf.toArray kf) :: (r, W.listOf vr.toArray kr) :: tl ∧
      DatAll tl ve (en.map embP) ∧ DatAll tl ys (dn.map embP) ∧ Drain ends dn en ∧ dn.length = i, ⟨ve, ke, ends, [], rfl, B.de, .nil, Drain.nil H.h1, rfl⟩, ?_, ?_⟩
    · rintro g2 C D I i ti ys k mC nw h5 tk5 oI st2 hi hyl ⟨ve5, ke5, en, dn, rfl, de5, dy5, D5, hdn⟩ F5 N5 off
      have X2 := X'.keeps st2
      have T2 := T'.keeps st2
      have hcl : (L' + 1, oc) ∈ (I, oI) :: (D, W.listOf ys.toArray k) :: (e, W.listOf ve5.toArray ke5) :: (f, W.listOf vf.toArray kf) :: (r, W.listOf vr.toArray kr) :: tl := .tail _ (.tail _ (.tail _ (.tail _ (.tail _ hcell))))
      refine wpAny_assign_Name (st_local F5 N5 (fun h6 F6 N6 => ?_))
      have hlenp := D5.p.length_eq
      rw [List.length_append, hdn] at hlenp
      obtain ⟨qs, z, rfl⟩ : ∃ qs z, en = qs ++ [z] := by
        rcases List.eq_nil_or_concat en with rfl | ⟨qs, z, hqz⟩
        · simp at hlenp; omega
        · exact ⟨qs, z, by rw [hqz, List.concat_eq_append]⟩
      k_steps
      refine Hold.mk ?_
      have offe : ∀ p ∈ (I, oI) :: (D, W.listOf ys.toArray k) :: (f, W.listOf vf.toArray kf) :: (r, W.listOf vr.toArray kr) :: tl, p.1 ≠ e := fun p hp => by
        simp only [List.mem_cons] at hp
        rcases hp with rfl | rfl | rfl | rfl | hp
        · exact (off _ (.head _)).1.symm
        · exact (off _ (.head _)).2.symm
        · exact hef'.symm
        · exact her'.symm
        · exact (B.off p hp).1
      refine pop_spec (pairItem w) (TT := tl) rfl (by show dp + 1 + 15 < recursionLimit; dsimp only at hdp; omega) (by show un + 3 + 70 < cLine; dsimp only at hu; omega) ⟨X2, _, _, _, _, T2⟩ F6
        (N6.perm (news' := (e, W.listOf ve5.toArray ke5) :: (I, oI) :: (D, W.listOf ys.toArray k) :: (f, W.listOf vf.toArray kf) :: (r, W.listOf vr.toArray kr) :: tl) fun p hp => by simp only [List.mem_cons] at hp ⊢; rcases hp with h | h | h | h | h | h <;> simp [h])
        offe (fun p hp => .tail _ (.tail _ (.tail _ (.tail _ hp)))) de5 (by simp at hlenp; omega) ?_
      intro h8 tk8 v8 ve8 ke8 F8 N8 dv8 dve8
      refine Hold.mk ⟨_, _, _, _, rfl, F8, N8.perm (news' := (I, oI) :: (D, W.listOf ys.toArray k) :: (e, W.listOf ve8.toArray ke8) :: (f, W.listOf vf.toArray kf) :: (r, W.listOf vr.toArray kr) :: tl) (fun p hp => by simp only [List.mem_cons] at hp ⊢; rcases hp with h | h | h | h | h | h <;> simp [h]),
        fun p hp => ?_, ve8, ke8, (hpop ltP qs z).2, _, rfl, dve8, dat_snoc dy5 dv8, D5.step, by rw [List.length_append, hdn]; rfl⟩
      rcases List.mem_cons.mp hp with rfl | hp
      · exact off (e, W.listOf ve5.toArray ke5) (.head _)
      · exact off p (.tail _ hp)
    · rintro h5 tk5 ys k D nw ⟨ve5, ke5, en, dn, rfl, de5, dy5, D5, hdn⟩ F5 N5 off
      have hlenp := D5.p.length_eq
      rw [List.length_append, hdn] at hlenp
      obtain rfl : en = [] := List.length_eq_zero_iff.mp (by omega)
      have hperm := D5.p
      rw [List.append_nil] at hperm
      k_steps
      refine Hold.mk ?_
      have dD : DatAll ((D, W.listOf ys.toArray k) :: (e, W.listOf ve5.toArray ke5) :: (f, W.listOf vf.toArray kf) :: (r, W.listOf vr.toArray kr) :: tl) ys (dn.map embP) := dy5.mono fun p hp => .tail _ (.tail _ (.tail _ (.tail _ hp)))
      refine sorted_any ordP hfP (fun A s h₀ L nw x y a b C N hx hy h => key_pair N hx hy h) (by assumption) N5 (.head _) dD (by omega) ?_
      intro h6 D2 vs6 k6 xs6 F6 N6 off6 d6 pm6 so6
      obtain rfl : xs6 = dn := sort_uniq antiP pm6 so6 D5.s
      k_steps
      refine Hold.mk ?_
      have ok : ∀ d ∈ xs6.map embP, kqdOk 8 d = true := fun d hd => by obtain ⟨p, _, rfl⟩ := List.mem_map.mp hd; rfl
      refine h_ne (t := false) N6 (.tail _ (.head _)) dD (fun p hp => .tail _ hp) (.head _) d6 (fun p hp => .tail _ hp) ok ok (by show un + 3 + 64 < cLine; dsimp only at hu; omega) (by simp) ?_
      have hDm : (D, W.listOf ys.toArray k) ∈ (D2, W.listOf vs6.toArray k6) :: (D, W.listOf ys.toArray k) :: (e, W.listOf ve5.toArray ke5) :: (f, W.listOf vf.toArray kf) :: (r, W.listOf vr.toArray kr) :: tl := .tail _ (.head _)
      have hfm : (f, W.listOf vf.toArray kf) ∈ (D2, W.listOf vs6.toArray k6) :: (D, W.listOf ys.toArray k) :: (e, W.listOf ve5.toArray ke5) :: (f, W.listOf vf.toArray kf) :: (r, W.listOf vr.toArray kr) :: tl := .tail _ (.tail _ (.tail _ (.head _)))
      have hrm : (r, W.listOf vr.toArray kr) ∈ (D2, W.listOf vs6.toArray k6) :: (D, W.listOf ys.toArray k) :: (e, W.listOf ve5.toArray ke5) :: (f, W.listOf vf.toArray kf) :: (r, W.listOf vr.toArray kr) :: tl := .tail _ (.tail _ (.tail _ (.tail _ (.head _))))
      have hnm : ∀ p ∈ news, p ∈ (D2, W.listOf vs6.toArray k6) :: (D, W.listOf ys.toArray k) :: (e, W.listOf ve5.toArray ke5) :: (f, W.listOf vf.toArray kf) :: (r, W.listOf vr.toArray kr) :: tl := fun p hp => .tail _ (.tail _ (.tail _ (.tail _ (.tail _ (B.sub p (.tail _ hp))))))
      have dtl : DatAll ((D2, W.listOf vs6.toArray k6) :: (D, W.listOf ys.toArray k) :: (e, W.listOf ve5.toArray ke5) :: (f, W.listOf vf.toArray kf) :: (r, W.listOf vr.toArray kr) :: tl) ys (xs6.map embP) := dD.mono fun p hp => .tail _ hp
      generalize hNL : (D2, W.listOf vs6.toArray k6) :: (D, W.listOf ys.toArray k) :: (e, W.listOf ve5.toArray ke5) :: (f, W.listOf vf.toArray kf) :: (r, W.listOf vr.toArray kr) :: tl = NL at N6 hDm hfm hrm hnm dtl
      k_steps
      refine Hold.mk ?_
      have hyl := dat_len dtl
      refine comp_list (vs := ys) (nn := k) rfl (fun _ => rfl) (by with_unfolding_all rfl) (by decide) rfl (by decide) (by omega)
        (fun i zs nw => nw = NL ∧ DatAll [] zs ((xs6.take i).map fun p => Dat.int p.2)) (nm_local (by assumption) rfl ⟨rfl, rfl⟩) (by assumption) (by assumption) ⟨rfl, .nil⟩ (fun i zs nw h => by rw [h.1]; exact hDm) ?_ ?_
      · rintro g2 C D4 I i v zs k4 mC nw h7 tk7 oI st2 hv hzl ⟨rfl, dz⟩ F7 N7 off7
        have hi : i < xs6.length := by rw [← hyl]; exact (List.getElem?_eq_some_iff.mp hv).1
        obtain ⟨v', hv', hd⟩ := dat_get dtl hi
        obtain rfl : v' = v := by rw [hv] at hv'; exact (Option.some.inj hv').symm
        obtain ⟨a, t1, t2, na, rfl, ha⟩ := datP hd
        have ha' := List.mem_cons_of_mem (I, oI) (List.mem_cons_of_mem (D4, W.listOf zs.toArray k4) ha)
        refine assign2 rfl F7 N7 (News.isTup N7 ha') ?_
        intro h8 tk8 F8 N8
        k_steps
        refine Hold.mk ⟨_, _, _, _, rfl, F8, N8, off7, rfl, ?_⟩
        rw [List.take_add_one, List.getElem?_eq_getElem hi, List.map_append]
        exact dz.append (.one (.int _ _))
      · rintro h7 tk7 zs k7 D4 nw ⟨rfl, dz⟩ F7 N7 off7
        rw [hyl, List.take_length] at dz
        have dz' : DatAll [] zs ((xs6.map (·.2)).map Dat.int) := by rw [List.map_map]; exact dz
        have dr' : DatAll [] vr (((blAll S).2.map fun i => ((i : Nat) : Int)).map Dat.int) := by rw [List.map_map]; exact B.dr
        k_steps
        refine Hold.mk ?_
        refine kmk_add_ints F7 N7 (h_isList N7 (.tail _ hfm)) (h_isList N7 (.head _)) (ints_of B.df) (ints_of dz') ?_ (by rw [List.length_map, sizeLine_eq]; omega)
        intro D5 us h8 F8 N8 lt5 i8
        k_steps
        refine Hold.mk ?_
        refine kso_sorted (by assumption) N8 (h_isList N8 (.head _)) i8 (by rw [List.length_append, List.length_map]; omega) ?_
        intro D6 vs9 ns9 c9 h9 F9 N9 lt6 i9 len9 pm9 so9 _
        k_steps
        refine Hold.mk ?_
        have hpos := blAll_pos hne
        have hrooms := blAll_rooms S
        refine kso_max (by assumption) (by assumption) (h_isList N9 (.tail _ (.tail _ (.tail _ hrm)))) (ints_of dr') (by rw [List.length_map]; have := List.length_pos_iff.mpr hne; omega) rfl ?_
        intro h10 M tM tk10 F10 N10 hM1 hM2
        have hM : 1 + M = (((blAll S).1.length : Nat) : Int) := by
          obtain ⟨r0, hr0, rfl⟩ := List.mem_map.mp hM1
          have h1 := hrooms.1 r0 hr0
          have h2 := hM2 _ (List.mem_map.mpr ⟨_, hrooms.2 ((blAll S).1.length - 1) (by omega), rfl⟩)
          omega
        k_steps
        rename_i hR FR NR KR
        refine Hold.mk ?_
        rw [hM] at hR
        refine kll_range (n := (blAll S).1.length) rfl FR NR hR (small_one (by omega) (by omega) (by omega) (by omega)) (rangeSize_nat _ _) (by omega) ?_
        intro D7 us7 c7 h11 tk11 F11 N11 lt7 i7
        rw [show PySem.W.rangeKs 0 (blAll S).1.length = (List.range (blAll S).1.length).map fun i => ((i : Nat) : Int) by simp [PySem.W.rangeKs]] at i7
        have he : ns9 = (List.range (blAll S).1.length).map fun i => ((i : Nat) : Int) := by
          refine sort_uniq antiI (pm9.trans ?_) (sorted_le so9) (sorted_le (range_le _))
          refine .trans ?_ H.h3
          exact List.perm_append_comm.trans ((hperm.map _).append_right _)
        k_steps
        refine Hold.mk ?_
        refine h_ne (t := false) N11 (.tail _ (.head _)) (of_ints (tl := []) i9) (fun _ h => nomatch h) (.head _) (of_ints (tl := []) i7) (fun _ h => nomatch h) ok_ints ok_ints (by show un + 3 + 64 < cLine; dsimp only at hu; omega) (by rw [he]; simp) ?_
        k_steps
        rename Fr h₀ L _ _ => FF
        rename News h₀ L _ _ => NN
        refine ret _ _ _ r vr kr ov FF (fun p hp => NN p ?_) B.dr hov
        rcases List.mem_cons.mp hp with rfl | hp
        · exact .head _
        · refine .tail _ (.tail _ (.tail _ (.tail _ (.tail _ ?_))))
          rcases List.mem_cons.mp hp with rfl | hp
          · exact hrm
          · exact hnm _ hp
end

section
variable {w : World} {A : Around} {h₀ : Heap} {L l : Addr} {m : Str → Option Value} {s : Shared} {news : List (Addr × Obj)} {vs : List Value} {n : Nat} {S : List Tri}
set_option maxHeartbeats 4000000 in
theorem many_spec {Q : Value → Shared → Prop} {E : Value → Shared → Prop}
    (hA : A.handled = none) (hdp : A.depth + 50 < recursionLimit) (hu : A.units + 200 < cLine)
    (G : Gd w h₀) (F : Fr h₀ L s.heap m) (N : News h₀ L s.heap news) (hm : (l, listOf vs.toArray n) ∈ news)
    (hD : DatAll news vs (S.map embT)) (hlen : S.length ≤ 60) (hne : S ≠ []) (hS : Good S)
    (ret : ∀ h' tk t, Fr h₀ L h' m → News h₀ L h' news → Q (.int ((blAll S).1.length : Nat) t) {s with heap := h', toks := tk}) :
    wpAny (model Challenge.rw_ir0003_01.row.prog w) A (call (.ref 87) [.ref l]) Q E s := by
  obtain ⟨hn, dp, fr, gd, un⟩ := A
  obtain rfl : hn = none := hA
  obtain ⟨X, loose, mean, mg, mb, T⟩ := G
  have hh : Challenge.rw_ir0003_01.Holds → (hd.heap_39 w.params).In h₀ → True := fun _ _ => trivial
  revert hh
  k_fill
  intro hh
  refine wpAny_call ?_
  refine enter F X N T (by k_is) (by k_is) (by (try dsimp only at hdp ⊢); omega) (binds := [(Str.ofString "stretches", .ref l)]) (BindsTo.of_eq rfl) (locs rfl) ?_ rfl rfl rfl (by decide)
  intro g L' h' st F' N' X' T' hlt
  try dsimp only
  have hvl := dat_len hD
  have hbl := blAll_len S
  have hpos := blAll_pos hne
  have hrooms := blAll_rooms S
  obtain ⟨o, ho1, ho2, ho3⟩ := hS.open' hne
  k_steps
  refine Hold.mk ?_
  refine byHeaps_spec rfl (by show dp + 1 + 30 < recursionLimit; dsimp only at hdp; omega) (by show un + 3 + 120 < cLine; dsimp only at hu; omega) ⟨X', _, _, _, _, T'⟩ F' N' hm hD hlen hne hS.s ?_
  intro h1 tk1 a r vr k ov F1 N1 dr hov
  rw [ho1] at hov
  obtain ⟨tt, rfl⟩ := hov
  k_steps
  rename Fr g L' _ _ => F2
  rename News g L' _ _ => N2
  refine Hold.mk ?_
  refine byLists_spec rfl (by show dp + 1 + 5 < recursionLimit; dsimp only at hdp; omega) (by show un + 3 + 50 < cLine; dsimp only at hu; omega) ⟨X', _, _, _, _, T'⟩ F2 N2 (.tail _ (.tail _ hm)) (hD.mono fun p hp => .tail _ (.tail _ hp)) (by omega) ?_
  intro h3 tk3 r3 vr3 k3 F3 N3 off3 dr3
  k_steps
  refine Hold.mk ?_
  have dri : DatAll [] vr (((blAll S).2.map fun i => ((i : Nat) : Int)).map Dat.int) := by rw [List.map_map]; exact dr
  have dr3i : DatAll [] vr3 (((blAll S).2.map fun i => ((i : Nat) : Int)).map Dat.int) := by rw [List.map_map]; exact dr3
  refine h_ne (t := false) N3 (.tail _ (.tail _ (.head _))) dri (fun _ h => nomatch h) (.head _) dr3i (fun _ h => nomatch h) ok_ints ok_ints (by show un + 3 + 64 < cLine; dsimp only at hu; omega) (by simp) ?_
  k_steps
  refine Hold.mk ?_
  refine apart_spec rfl (by show dp + 1 + 5 < recursionLimit; dsimp only at hdp; omega) (by show un + 3 + 50 < cLine; dsimp only at hu; omega) ⟨X', _, _, _, _, T'⟩ (by assumption) N3 (.tail _ (.tail _ (.tail _ hm))) (.tail _ (.tail _ (.head _))) (hD.mono fun p hp => .tail _ (.tail _ (.tail _ hp))) dr (by omega) hbl.2 hS.apart ?_
  intro h4 tk4 F4 N4
  k_steps
  refine Hold.mk ?_
  refine kso_max (by assumption) (by assumption) (h_isList N4 (.tail _ (.tail _ (.head _)))) (ints_of dri) (by rw [List.length_map]; have := List.length_pos_iff.mpr hne; omega) rfl ?_
  intro h10 M tM tk10 F10 N10 hM1 hM2
  have hM : 1 + M = (((blAll S).1.length : Nat) : Int) := by
    obtain ⟨r0, hr0, rfl⟩ := List.mem_map.mp hM1
    have h1 := hrooms.1 r0 hr0
    have h2 := hM2 _ (List.mem_map.mpr ⟨_, hrooms.2 ((blAll S).1.length - 1) (by omega), rfl⟩)
    omega
  k_steps
  rename Fr g L' _ _ => F11
  rename News g L' _ _ => N11
  refine Hold.mk ?_
  refine atOnce_spec rfl (by show dp + 1 + 5 < recursionLimit; dsimp only at hdp; omega) (by show un + 3 + 50 < cLine; dsimp only at hu; omega) ⟨X', _, _, _, _, T'⟩ F11 N11 (.tail _ (.tail _ (.tail _ hm))) (hD.mono fun p hp => .tail _ (.tail _ (.tail _ hp))) (by omega) ?_
  intro h12 tk12 t12 F12 N12
  rw [ho3, ← hM]
  k_steps
  · rename Fr h₀ L _ _ => FF
    rename News h₀ L _ _ => NN
    rw [hM]
    exact ret _ _ _ FF fun p hp => NN p (.tail _ (.tail _ (.tail _ hp)))
  · rename_i hc1
    exact absurd rfl (by assumption)
end

/-- what a turn of a for loop with its own tuple must leave -/
def ForPostU (h₀ : Heap) (L : Addr) (J : (Str → Option Value) → List (Addr × Obj) → Prop) (its : List (Addr × Obj)) (s : Shared) (Q : Flow → Shared → Prop) (f : Flow) (s₃ : Shared) : Prop := match f with
  | .brk => Q .next s₃
  | .ret v => Q (.ret v) s₃
  | _ => Hold (∃ h' tk' m' nw', s₃ = { s with heap := h', toks := tk' } ∧ Fr h₀ L h' m' ∧ News h₀ L h' (its ++ nw') ∧ (∀ p ∈ nw', p.1 ∉ its.map (·.1)) ∧ J m' nw')

section
variable {prog : Program} {w : World} {A : Around} {s : Shared} {env : Env} {h₀ : Heap} {m : Str → Option Value} {news : List (Addr × Obj)}
theorem for_walkU {elts : List Expr} {kk : Nat} {tpos : Pos} {body : List Stmt} {Q : Flow → Shared → Prop} {I : Addr} {fp wr ads : List Addr} {n : Nat} {Pt : Nat → Array Value → Prop} {St : Nat → Heap → Prop} {Mid : Nat → Addr → Heap → Prop}
    (W : WalksU prog w A I fp wr n Pt St Mid)
    (J : Nat → (Str → Option Value) → List (Addr × Obj) → Prop)
    (hwr : ∀ a ∈ wr, a ∈ ads)
    (hI : ∀ i h, St i h → ∃ its : List (Addr × Obj), its.map (·.1) = ads ∧ ∀ p ∈ its, h.get? p.1 = some p.2)
    (hSt : ∀ i h h' m nw, St i h → (∀ a ∈ ads, ∀ o, h.get? a = some o → h'.get? a = some o) → J i m nw → News h₀ env.locals h' nw → St i h')
    (hIL : env.locals ∉ ads) (hI0 : ∀ a ∈ ads, h₀.get? a = none)
    (hst : St 0 s.heap) (F : Fr h₀ env.locals s.heap m) (N : News h₀ env.locals s.heap news) (off : ∀ p ∈ news, p.1 ∉ ads) (hJ : J 0 m news)
    (turn : ∀ i vals T m₁ nw h tk (its : List (Addr × Obj)), i < n → Pt i vals → J i m₁ nw → Fr h₀ env.locals h m₁ → News h₀ env.locals h (its ++ nw) → (∀ p ∈ nw, p.1 ∉ its.map (·.1)) → IsTup h T vals →
      wpAny (model prog w) A (assign (.Tuple elts kk tpos) env (.ref T)) (fun _ s₂ => wpAny (model prog w) A (execs body env) (ForPostU h₀ env.locals (J (i + 1)) its s Q) (fun _ _ => False) s₂) (fun _ _ => False) { s with heap := h, toks := tk })
    (done : ∀ m₁ nw h tk, J n m₁ nw → Fr h₀ env.locals h m₁ → News h₀ env.locals h nw → Q .next { s with heap := h, toks := tk }) :
    codeAny (model prog w) A (.forLoop (.Tuple elts kk tpos) (.ref I) body [] env) (fun r s' => match r with | .ok f => Q f s' | .error e => cameBackBy (model prog w) A env (fun _ _ => False) e s') s := by
  refine codeAny_forLoop_any
    (fun k s' => ∃ h tk m₁ nw i, s' = { s with heap := h, toks := tk } ∧ St i h ∧ Fr h₀ env.locals h m₁ ∧ News h₀ env.locals h nw ∧ (∀ p ∈ nw, p.1 ∉ ads) ∧ J i m₁ nw ∧ i ≤ n ∧ k = n + 1 - i) ?_ (n + 1)
    ⟨s.heap, s.toks, m, news, 0, rfl, hst, F, N, off, hJ, Nat.zero_le _, rfl⟩
  rintro k s' ⟨h, tk, m₁, nw, i, rfl, hst', F', N', off', hJ', hi, rfl⟩
  have next : ∀ h₁ h₂ : Heap, Fr h₀ env.locals h₁ m₁ → News h₀ env.locals h₁ nw → (∀ b o, b ∉ wr → h₁.get? b = some o → h₂.get? b = some o) → Fr h₀ env.locals h₂ m₁ ∧ News h₀ env.locals h₂ nw := fun h₁ h₂ F₁ N₁ hk₁ => by
    refine ⟨⟨F₁.ns.at' fun o e => hk₁ _ o (fun q => hIL (hwr _ q)) e, fun b o e => hk₁ b o (fun q => ?_) (F₁.keep b o e), F₁.above⟩, fun p hp => ⟨hk₁ _ _ (fun q => off' p hp (hwr _ q)) (N₁ p hp).1, (N₁ p hp).2⟩⟩
    rw [hI0 b (hwr _ q)] at e; cases e
  by_cases hlt : i < n
  · refine W.item i _ _ _ hlt hst' fun T vals h₁ tk₁ hP hT hM hk₁ => ?_
    obtain ⟨F₁, N₁⟩ := next _ h₁ F' N' hk₁
    dsimp only
    refine W.go _ _ _ i T _ _ _ hM fun h₂ hst₂ hk₂ => ?_
    obtain ⟨F₂, N₂⟩ := next _ h₂ F₁ N₁ hk₂
    obtain ⟨its, rfl, hits⟩ := hI _ _ hst₂
    have hT₂ : IsTup h₂ T vals := by
      obtain ⟨o, ho, r⟩ := hT
      exact ⟨o, hk₂ _ _ (W.apart i T h₁ hM) ho, r⟩
    have NI : News h₀ env.locals h₂ (its ++ nw) := fun p hp => by
      rcases List.mem_append.mp hp with hp | hp
      · exact ⟨hits p hp, fun q => hIL (q ▸ List.mem_map_of_mem hp), hI0 _ (List.mem_map_of_mem hp)⟩
      · exact N₂ p hp
    refine wpAny_mono (turn i vals T m₁ nw h₂ tk₁ its hlt hP hJ' F₂ NI off' hT₂) (fun _ s₃ h₃ => ?_) fun _ _ x => x.elim
    refine wpAny_mono h₃ (fun f s₄ h₄ => ?_) fun _ _ x => x.elim
    have fin : Hold (∃ h' tk' m' nw', s₄ = { s with heap := h', toks := tk' } ∧ Fr h₀ env.locals h' m' ∧ News h₀ env.locals h' (its ++ nw') ∧ (∀ p ∈ nw', p.1 ∉ its.map (·.1)) ∧ J (i + 1) m' nw') →
        ∃ m, m < n + 1 - i ∧ ∃ h tk m₁ nw i, s₄ = { s with heap := h, toks := tk } ∧ St i h ∧ Fr h₀ env.locals h m₁ ∧ News h₀ env.locals h nw ∧ (∀ p ∈ nw, p.1 ∉ its.map (·.1)) ∧ J i m₁ nw ∧ i ≤ n ∧ m = n + 1 - i := by
      rintro ⟨h', tk', m', nw', rfl, F₃, N₃, off₃, hJ₃⟩
      have N₄ : News h₀ env.locals h' nw' := fun p hp => N₃ p (List.mem_append.mpr (.inr hp))
      refine ⟨n + 1 - (i + 1), by omega, h', tk', m', nw', i + 1, rfl, hSt _ _ _ _ _ hst₂ (fun a ha o ho => ?_) hJ₃ N₄, F₃, N₄, off₃, hJ₃, hlt, rfl⟩
      obtain ⟨p, hp, rfl⟩ := List.mem_map.mp ha
      have e := hits p hp
      rw [e] at ho
      cases ho
      exact (N₃ p (List.mem_append.mpr (.inl hp))).1
    cases f with
    | next => exact fin h₄
    | cont => exact fin h₄
    | brk => exact h₄
    | ret v => exact h₄
  · obtain rfl : i = n := by omega
    refine W.done _ _ _ hst' fun h₁ tk₁ hk₁ => ?_
    obtain ⟨F₁, N₁⟩ := next _ h₁ F' N' hk₁
    exact wpAny_execs_nil (done _ _ _ _ hJ' F₁ N₁)

/-- for over enumerate of a list of the ledger that no turn touches -/
theorem for_enum {elts : List Expr} {kk : Nat} {tpos : Pos} {body : List Stmt} {Q : Flow → Shared → Prop} {l : Addr} {vs : List Value} {nn : Nat}
    (hA : A.handled = none)
    (J : Nat → (Str → Option Value) → List (Addr × Obj) → Prop)
    (F : Fr h₀ env.locals s.heap m) (N : News h₀ env.locals s.heap news) (hJ : J 0 m news) (hl : ∀ i m nw, J i m nw → (l, listOf vs.toArray nn) ∈ nw)
    (turn : ∀ i v t T m₁ nw h tk (its : List (Addr × Obj)), vs[i]? = some v → J i m₁ nw → Fr h₀ env.locals h m₁ → News h₀ env.locals h (its ++ nw) → (∀ p ∈ nw, p.1 ∉ its.map (·.1)) → IsTup h T #[.int (i : Nat) t, v] →
      wpAny (model prog w) A (assign (.Tuple elts kk tpos) env (.ref T)) (fun _ s₂ => wpAny (model prog w) A (execs body env) (ForPostU h₀ env.locals (J (i + 1)) its s Q) (fun _ _ => False) s₂) (fun _ _ => False) { s with heap := h, toks := tk })
    (done : ∀ m₁ nw h tk, J vs.length m₁ nw → Fr h₀ env.locals h m₁ → News h₀ env.locals h nw → Q .next { s with heap := h, toks := tk }) :
    wpAny (model prog w) A (call (.type "enumerate") [.ref l]) (fun xv s₁ => wpAny (model prog w) A (pyIter xv) (fun it s₂ => codeAny (model prog w) A (.forLoop (.Tuple elts kk tpos) it body [] env) (fun r s' => match r with | .ok f => Q f s' | .error e => cameBackBy (model prog w) A env (fun _ _ => False) e s') s₂) (fun _ _ => False) s₁) (fun _ _ => False) s := by
  have hm := hl _ _ _ hJ
  have hls := h_isList N hm
  have hlt : l < s.heap.objs.size := Heap.lt_size (N _ hm).1
  have hLs : env.locals < s.heap.objs.size := F.ns.lt
  refine call_enumerate_list hls fun h' hE hit hsz hk => ?_
  refine wpAny_pyIter_enum hE ?_
  have W := (WalksT.enumerate (prog := prog) (w := w) hA (s.heap.objs.size + 1) s.heap.objs.size l (Nat.succ_ne_self _) (Nat.ne_of_lt (Nat.lt_succ_of_lt hlt)) (Nat.ne_of_lt hlt) vs.toArray).toU
  have hlen : vs.toArray.size = vs.length := by simp
  rw [hlen] at W
  have new : ∀ k, h₀.get? (s.heap.objs.size + k) = none := fun k => by
    cases q : h₀.get? (s.heap.objs.size + k) with
    | none => rfl
    | some o => exact absurd (Heap.lt_size (F.keep _ _ q)) (Nat.not_lt.mpr (Nat.le_add_right _ _))
  refine for_walkU (s := { s with heap := h' }) (ads := [s.heap.objs.size + 1, s.heap.objs.size]) W J (fun a ha => ha) (fun i h st => ?_) (fun i h h' m nw st e hj N' => ?_) ?_ ?_ ?_ (F.keeps hk) (N.grown hk) ?_ hJ ?_ ?_
  · obtain ⟨⟨old, he⟩, ⟨oi, hoi, _⟩, _⟩ := st
    obtain ⟨oe, hoe⟩ : ∃ oe, h.get? (s.heap.objs.size + 1) = some oe := ⟨_, he⟩
    refine ⟨[(s.heap.objs.size + 1, oe), (s.heap.objs.size, oi)], rfl, fun p hp => ?_⟩
    rcases List.mem_cons.mp hp with rfl | hp
    · exact hoe
    · rw [List.mem_singleton.mp hp]; exact hoi
  · obtain ⟨⟨old, he⟩, hit', _⟩ := st
    exact ⟨⟨old, e _ (.head _) _ he⟩, hit'.at fun o x => e _ (.tail _ (.head _)) o x, h_isList N' (hl _ _ _ hj)⟩
  · intro q
    simp only [List.mem_cons, List.not_mem_nil, or_false] at q
    rcases q with q | q
    · rw [q] at hLs; exact absurd hLs (Nat.not_lt.mpr (Nat.le_succ _))
    · rw [q] at hLs; exact absurd hLs (Nat.lt_irrefl _)
  · intro a ha
    simp only [List.mem_cons, List.not_mem_nil, or_false] at ha
    rcases ha with rfl | rfl
    · exact new 1
    · exact new 0
  · exact ⟨⟨_, hE⟩, hit, hls.at fun o e => hk _ o e⟩
  · intro p hp q
    have := Heap.lt_size (N p hp).1
    simp only [List.mem_cons, List.not_mem_nil, or_false] at q
    rcases q with q | q
    · rw [q] at this; exact absurd this (Nat.not_lt.mpr (Nat.le_succ _))
    · rw [q] at this; exact absurd this (Nat.lt_irrefl _)
  · rintro i vals T m₁ nw h tk its hi ⟨t, x, hx, rfl⟩ hj F' N' off' hT
    exact turn i x t T m₁ nw h tk its (by simpa using hx) hj F' N' off' hT
  · intro m₁ nw h tk hj F' N'
    exact done m₁ nw h tk hj F' N'
end

/-- what of a zip lies apart -/
structure ZSep (z TI TO i1 i2 : Addr) (f1 f2 : List Addr) : Prop where
  TIz : TI ≠ z
  TOz : TO ≠ z
  i1z : i1 ≠ z
  i2z : i2 ≠ z
  TITO : TI ≠ TO
  TIi1 : TI ≠ i1
  TIi2 : TI ≠ i2
  TOi1 : TO ≠ i1
  TOi2 : TO ≠ i2
  i12 : i1 ≠ i2
  a1 : z ∉ f1
  a2 : TO ∉ f1
  a3 : i2 ∉ f1
  b1 : z ∉ f2
  b2 : TO ∉ f2
  b3 : i1 ∉ f2

section
variable {prog : Program} {w : World} {A : Around} {E : Value → Shared → Prop} {s : Shared} {f1 f2 : List Addr} {n1 n2 : Nat} {P1 P2 : Nat → Value → Prop} {S1 S2 : Nat → Heap → Prop} {z TI TO i1 i2 : Addr} {k : Nat}
/-- one step of zip: the next two, or the first one's end -/
theorem zip_next {a b : Value} {Q : Value → Shared → Prop} (Z : ZSep z TI TO i1 i2 f1 f2) (D1 : Draws prog w A i1 f1 n1 P1 S1) (D2 : Draws prog w A i2 f2 n2 P2 S2) (hk : k ≤ n1) (hn : n1 ≤ n2)
    (hz : IsZip s.heap z TI TO .none) (hTI : IsPair s.heap TI (.ref i1) (.ref i2)) (hTO : IsPair s.heap TO a b) (h1 : S1 k s.heap) (h2 : S2 k s.heap)
    (hQ : k < n1 → ∀ (T : Addr) x y h' tk, P1 k x → P2 k y → IsZip h' z TI TO (rawInt T) → IsPair h' TO x y → S1 (k + 1) h' → S2 (k + 1) h' → IsPair h' T x y → T = s.heap.objs.size →
      (∀ c o, c ≠ z → c ≠ TO → c ≠ i1 → c ≠ i2 → s.heap.get? c = some o → h'.get? c = some o) → Q (.ref T) { s with heap := h', toks := tk })
    (hE : k = n1 → ∀ h' e, (∀ c o, c ≠ z → c ≠ i1 → s.heap.get? c = some o → h'.get? c = some o) → (∃ o, h'.get? e = some o ∧ o.cls = .type "StopIteration") → E (.ref e) { s with heap := h' }) :
    wpAny (model prog w) A (Builtin.«zip.__next__» ⟨[.ref z], []⟩) (fun fin s' => ∃ v, fin = .done (.ret v) ∧ Q v s') E s := by
  show wpAny _ _ (field (.ref z) 2 >>= _) _ _ _
  refine wpAny_bind (wpAny_field hz rfl (x := .bool false) rfl ?_)
  show wpAny _ _ (field (.ref z) 3 >>= _) _ _ _
  refine wpAny_bind (wpAny_field hz rfl (x := .ref TI) rfl ?_)
  refine wpAny_bind (wpAny_seqItems hTI rfl ?_)
  show wpAny _ _ (Builtin.SmallTypes.ownedTupleIsFree (.ref z) >>= _) _ _ _
  refine wpAny_bind ?_
  unfold Builtin.SmallTypes.ownedTupleIsFree
  refine wpAny_bind (wpAny_field hz rfl (x := .none) rfl (wpAny_pure ?_))
  simp only [if_true]
  refine wpAny_bind (wpAny_rule ?_)
  refine wpAny_bind (wpAny_field hz rfl (x := .ref TO) rfl ?_)
  refine wpAny_bind (wpAny_setField_rec hz (by simp) fun g1 hz1 hs1 => ?_)
  replace hz1 : IsZip g1 z TI TO .ellipsis := hz1
  replace hs1 : Heap.SameBut z s.heap g1 := hs1
  refine wpAny_bind ?_
  simp only [List.zipIdx_cons, List.zipIdx_nil, List.forIn_cons, List.forIn_nil]
  have e1 : S1 k g1 := D1.frame _ _ _ h1 fun c hc o e => hs1.extBut _ _ (fun q => Z.a1 (q ▸ hc)) e
  refine wpAny_bind (wpAny_bind (wpAny_onRaise ?_))
  show wpAny _ _ (Builtin.SmallTypes.nextOf (.ref i1) >>= _) _ _ _
  rcases Nat.lt_or_eq_of_le hk with hlt | hend
  · refine wpAny_bind (D1.item _ _ _ _ hlt e1 fun x g2 tk2 hx e2 hs2 => wpAny_pure ?_)
    replace hs2 : Heap.SameBut i1 g1 g2 := hs2
    have hTO2 : IsPair g2 TO a b := hs2.extBut _ _ Z.TOi1 (hs1.extBut _ _ Z.TOz hTO)
    refine wpAny_bind (wpAny_seqItems hTO2 rfl ?_)
    refine wpAny_bind (wpAny_updateSeq_pair hTO2 fun g3 hTO3 hs3 => ?_)
    replace hTO3 : IsPair g3 TO x b := hTO3
    replace hs3 : Heap.SameBut TO g2 g3 := hs3
    refine wpAny_bind (wpAny_letGo (wpAny_pure ?_))
    have e3 : S2 k g3 := D2.frame _ _ _ h2 fun c hc o e => hs3.extBut _ _ (fun q => Z.b2 (q ▸ hc)) (hs2.extBut _ _ (fun q => Z.b3 (q ▸ hc)) (hs1.extBut _ _ (fun q => Z.b1 (q ▸ hc)) e))
    refine wpAny_bind (wpAny_bind (wpAny_onRaise ?_))
    show wpAny _ _ (Builtin.SmallTypes.nextOf (.ref i2) >>= _) _ _ _
    refine wpAny_bind (D2.item _ _ _ _ (Nat.lt_of_lt_of_le hlt hn) e3 fun y g4 tk4 hy e4 hs4 => wpAny_pure ?_)
    replace hs4 : Heap.SameBut i2 g3 g4 := hs4
    have hTO4 : IsPair g4 TO x b := hs4.extBut _ _ Z.TOi2 hTO3
    refine wpAny_bind (wpAny_seqItems hTO4 rfl ?_)
    refine wpAny_bind (wpAny_updateSeq_pair hTO4 fun g5 hTO5 hs5 => ?_)
    replace hTO5 : IsPair g5 TO x y := hTO5
    replace hs5 : Heap.SameBut TO g4 g5 := hs5
    refine wpAny_bind (wpAny_letGo (wpAny_pure (wpAny_pure ?_)))
    refine wpAny_bind (wpAny_seqItems hTO5 rfl ?_)
    refine wpAny_bind (wpAny_newTuple ?_)
    have hsz : g5.objs.size = s.heap.objs.size := by rw [hs5.1, hs4.1, hs3.1, hs2.1, hs1.1]
    have hz5 : IsZip g5 z TI TO .ellipsis := hs5.extBut _ _ Z.TOz.symm (hs4.extBut _ _ Z.i2z.symm (hs3.extBut _ _ Z.TOz.symm (hs2.extBut _ _ Z.i1z.symm hz1)))
    have keep : ∀ c o, c ≠ z → c ≠ TO → c ≠ i1 → c ≠ i2 → s.heap.get? c = some o → g5.get? c = some o := fun c o c1 c2 c3 c4 e =>
      hs5.extBut _ _ c2 (hs4.extBut _ _ c4 (hs3.extBut _ _ c2 (hs2.extBut _ _ c3 (hs1.extBut _ _ c1 e))))
    have e5 : S1 (k + 1) g5 := D1.frame _ _ _ e2 fun c hc o e => hs5.extBut _ _ (fun q => Z.a2 (q ▸ hc)) (hs4.extBut _ _ (fun q => Z.a3 (q ▸ hc)) (hs3.extBut _ _ (fun q => Z.a2 (q ▸ hc)) e))
    have e6 : S2 (k + 1) g5 := D2.frame _ _ _ e4 fun c hc o e => hs5.extBut _ _ (fun q => Z.b2 (q ▸ hc)) e
    have hzlt : z < g5.objs.size := Heap.lt_size hz5
    show wpAny _ _ (Builtin.SmallTypes.ownedTupleHandOut (.ref z) (.ref g5.objs.size) >>= _) _ _ _
    refine wpAny_bind ?_
    unfold Builtin.SmallTypes.ownedTupleHandOut
    have hz6 : IsZip (g5.push { cls := .type "tuple", data := .seq #[x, y] }) z TI TO .ellipsis := Heap.get?_push_of_some _ hz5
    refine wpAny_bind (wpAny_setField_rec hz6 (by simp) fun g7 hz7 hs7 => ?_)
    replace hz7 : IsZip g7 z TI TO (rawInt g5.objs.size) := hz7
    replace hs7 : Heap.SameBut z (g5.push { cls := .type "tuple", data := .seq #[x, y] }) g7 := hs7
    refine wpAny_setField_rec hz7 (by simp) fun g8 hz8 hs8 => ?_
    replace hz8 : IsZip g8 z TI TO (rawInt g5.objs.size) := hz8
    replace hs8 : Heap.SameBut z g7 g8 := hs8
    have up : ∀ c o, c ≠ z → g5.get? c = some o → g8.get? c = some o := fun c o c1 e => hs8.extBut _ _ c1 (hs7.extBut _ _ c1 (Heap.get?_push_of_some _ e))
    have hT8 : IsPair g8 g5.objs.size x y := hs8.extBut _ _ (Nat.ne_of_gt hzlt) (hs7.extBut _ _ (Nat.ne_of_gt hzlt) (Heap.get?_push_size _ rfl))
    refine wpAny_pure ⟨_, rfl, ?_⟩
    exact hQ hlt g5.objs.size x y g8 _ hx hy hz8 (up _ _ Z.TOz hTO5) (D1.frame _ _ _ e5 fun c hc o e => up c o (fun q => Z.a1 (q ▸ hc)) e) (D2.frame _ _ _ e6 fun c hc o e => up c o (fun q => Z.b1 (q ▸ hc)) e) hT8 hsz
      fun c o c1 c2 c3 c4 e => up c o c1 (keep c o c1 c2 c3 c4 e)
  · subst hend
    refine wpAny_bind (D1.done _ _ _ e1 fun g2 e hs2 he => ?_)
    obtain ⟨oe, hoe, hce⟩ := he
    have hz2 : IsZip g2 z TI TO .ellipsis := hs2 _ _ Z.i1z.symm hz1
    have hez : e ≠ z := fun q => by subst q; rw [hz2] at hoe; cases hoe; simp at hce
    refine wpAny_setField_rec hz2 (by simp) fun g3 _ hs3 => ?_
    exact hE rfl g3 e (fun c o c1 c3 q => hs3.extBut _ _ c1 (hs2 _ _ c3 (hs1.extBut _ _ c1 q))) ⟨oe, hs3.extBut _ _ hez hoe, hce⟩

theorem zip_walks (hn : n1 ≤ n2) (Z : ZSep z TI TO i1 i2 f1 f2) (D1 : Draws prog w A.in1 i1 f1 n1 P1 S1) (D2 : Draws prog w A.in1 i2 f2 n2 P2 S2) (m1 : i1 ∈ f1) (m2 : i2 ∈ f2) :
    WalksT prog w A z (z :: TI :: TO :: (f1 ++ f2)) [z, TO, i1, i2] n1
      (fun i vals => ∃ x y, P1 i x ∧ P2 i y ∧ vals = #[x, y])
      (fun i h => IsZip h z TI TO .none ∧ IsPair h TI (.ref i1) (.ref i2) ∧ (∃ a b, IsPair h TO a b) ∧ S1 i h ∧ S2 i h)
      (fun i T h => IsZip h z TI TO (rawInt T) ∧ IsPair h TI (.ref i1) (.ref i2) ∧ (∃ a b, IsPair h TO a b) ∧ S1 (i + 1) h ∧ S2 (i + 1) h ∧ T ≠ z ∧ T ≠ TO ∧ T ≠ i1 ∧ T ≠ i2) where
  sub := fun c hc => by
    simp only [List.mem_cons, List.not_mem_nil, or_false] at hc
    rcases hc with rfl | rfl | rfl | rfl
    · exact .head _
    · exact .tail _ (.tail _ (.head _))
    · exact .tail _ (.tail _ (.tail _ (List.mem_append.mpr (.inl m1))))
    · exact .tail _ (.tail _ (.tail _ (List.mem_append.mpr (.inr m2))))
  frame := fun i h h' hst hk => by
    obtain ⟨hz, hTI, ⟨a, b, hTO⟩, h1, h2⟩ := hst
    exact ⟨hk _ (.head _) _ hz, hk _ (.tail _ (.head _)) _ hTI, ⟨a, b, hk _ (.tail _ (.tail _ (.head _))) _ hTO⟩,
      D1.frame _ _ _ h1 fun c hc o e => hk _ (.tail _ (.tail _ (.tail _ (List.mem_append.mpr (.inl hc))))) o e, D2.frame _ _ _ h2 fun c hc o e => hk _ (.tail _ (.tail _ (.tail _ (List.mem_append.mpr (.inr hc))))) o e⟩
  item := fun i s Q E hi hst hQ => by
    obtain ⟨hz, hTI, ⟨a, b, hTO⟩, h1, h2⟩ := hst
    have lt : ∀ {c o}, s.heap.get? c = some o → s.heap.objs.size ≠ c := fun e => Nat.ne_of_gt (Heap.lt_size e)
    have hT : s.TypeIs (.ref z) "zip" := ⟨_, hz, rfl⟩
    unfold pyNext
    refine wpAny_bind (wpAny_attempt (wpAny_callSpecial?_slot (name := Str.ofString "__next__") hT F.slot_zip_next (wpAny_call_entry F.slot_zip_next hT F.entry_zip_next
      (zip_next Z D1 D2 (Nat.le_of_lt hi) hn hz hTI hTO h1 h2 (fun _ T x y h' tk hx hy a1 a2 a3 a4 a5 a6 a7 => wpAny_pure ?_) fun e => absurd e (Nat.ne_of_lt hi)) (F.args_zip_next_1 _))))
    subst a6
    exact hQ _ #[x, y] h' tk ⟨x, y, hx, hy, rfl⟩ (Nat.le_refl _) ⟨_, a5, rfl, _, rfl⟩
      ⟨a1, a7 _ _ Z.TIz Z.TITO Z.TIi1 Z.TIi2 hTI, ⟨_, _, a2⟩, a3, a4, lt hz, lt hTO, (by obtain ⟨o, e⟩ := D1.live _ _ h1; exact lt e), (by obtain ⟨o, e⟩ := D2.live _ _ h2; exact lt e)⟩
      fun c o hc e => a7 c o (fun x => hc (by simp [x])) (fun x => hc (by simp [x])) (fun x => hc (by simp [x])) (fun x => hc (by simp [x])) e
  go := fun elts k pos i T s Q E hm hQ => by
    obtain ⟨hz, hTI, ⟨a, b, hTO⟩, h1, h2, _⟩ := hm
    refine wpAny_letOwnedTupleGo_zip hz fun h' hz' hs' => hQ h' ⟨hz', hs'.extBut _ _ Z.TIz hTI, ⟨a, b, hs'.extBut _ _ Z.TOz hTO⟩,
      D1.frame _ _ _ h1 fun c hc o e => hs'.extBut _ _ (fun q => Z.a1 (q ▸ hc)) e, D2.frame _ _ _ h2 fun c hc o e => hs'.extBut _ _ (fun q => Z.b1 (q ▸ hc)) e⟩ fun c o hc e => hs'.extBut _ _ (fun x => hc (by simp [x])) e
  apart := fun i T h hm hT => by
    obtain ⟨_, _, _, _, _, t1, t2, t3, t4⟩ := hm
    simp only [List.mem_cons, List.not_mem_nil, or_false] at hT
    rcases hT with rfl | rfl | rfl | rfl
    · exact t1 rfl
    · exact t2 rfl
    · exact t3 rfl
    · exact t4 rfl
  done := fun s Q E hst hQ => by
    obtain ⟨hz, hTI, ⟨a, b, hTO⟩, h1, h2⟩ := hst
    have hT : s.TypeIs (.ref z) "zip" := ⟨_, hz, rfl⟩
    unfold pyNext
    refine wpAny_bind (wpAny_attempt (wpAny_callSpecial?_slot (name := Str.ofString "__next__") hT F.slot_zip_next
      (wpAny_call_entry F.slot_zip_next hT F.entry_zip_next (zip_next Z D1 D2 (Nat.le_refl _) hn hz hTI hTO h1 h2 (fun h => absurd h (Nat.lt_irrefl _)) fun _ h' e hk he => ?_) (F.args_zip_next_1 _))))
    obtain ⟨o, ho, hc⟩ := he
    refine wpAny_bind (wpAny_isInstance (T := "StopIteration") (b := true) ⟨o, ho, hc⟩ isSubtype_stop ?_)
    exact wpAny_pure (hQ _ s.toks fun c o hc e => hk c o (fun x => hc (by simp [x])) (fun x => hc (by simp [x])) e)
  self := fun i s Q E hst hQ => wpAny_pyIter_zip hst.1 hQ
end

abbrev zs1 (h : Heap) (x : Str) (t : Tok) : Heap := h.push { cls := .type (strIterType x), data := .fields #[.str x t, .int 0 0] }
abbrev zs2 (h : Heap) (x : Str) (t : Tok) (l : Addr) : Heap := (zs1 h x t).push { cls := .type "list_iterator", data := .fields #[.ref l, .int 0 0] }
abbrev zs3 (h : Heap) (x : Str) (t : Tok) (l : Addr) : Heap := (zs2 h x t l).push { cls := .type "tuple", data := .seq #[.ref h.objs.size, .ref (zs1 h x t).objs.size] }
abbrev zs4 (h : Heap) (x : Str) (t : Tok) (l : Addr) : Heap := (zs3 h x t l).push { cls := .type "tuple", data := .seq #[.none, .none] }
abbrev zs5 (h : Heap) (x : Str) (t : Tok) (l : Addr) : Heap := (zs4 h x t l).push { cls := .type "zip", data := .fields #[.none, .bool false, .bool false, .ref (zs2 h x t l).objs.size, .ref (zs3 h x t l).objs.size] }
set_option maxHeartbeats 1000000 in
theorem meets_zip_newS (x : Str) (t : Tok) (l : Addr) (ys : Array Value) :
    Meets (Builtin.«zip.__new__» ⟨[.type "zip", .str x t, .ref l], []⟩) (fun _ R s => s.heap.IsList l ys ∧
      R (.ok (.ret (.ref (zs4 s.heap x t l).objs.size))) { s with heap := zs5 s.heap x t l }) :=
  .of_wp fun prog w A R s h => by
    obtain ⟨hp, g, d, tk, os⟩ := s; obtain ⟨hl2, h⟩ := h
    have hsub := sub_zip
    have hL2 : Heap.IsList (Shared.heap ⟨hp.push { cls := .type (strIterType x), data := .fields #[.str x t, .int 0 0] }, g, d, tk, os⟩) l ys := Heap.IsList.push hl2 _
    wp_walk using wpAny_pyIter_strU, wpAny_pyIter_list hL2
    exact ⟨_, rfl, h⟩

section
variable {prog : Program} {w : World} {A : Around} {E : Value → Shared → Prop} {s : Shared}
theorem call_zip_S {x : Str} {t : Tok} {l : Addr} {ys : Array Value} {Q : Value → Shared → Prop} (hl : s.heap.IsList l ys)
    (h : ∀ h', IsZip h' (s.heap.objs.size + 4) (s.heap.objs.size + 2) (s.heap.objs.size + 3) .none → IsPair h' (s.heap.objs.size + 2) (.ref s.heap.objs.size) (.ref (s.heap.objs.size + 1)) →
      IsPair h' (s.heap.objs.size + 3) .none .none → h'.IsStrIter s.heap.objs.size (strIterType x) x t 0 → h'.IsListIter (s.heap.objs.size + 1) l 0 →
      (∀ c o, s.heap.get? c = some o → h'.get? c = some o) → Q (.ref (s.heap.objs.size + 4)) { s with heap := h' }) :
    wpAny (model prog w) A (call (.type "zip") [.str x t, .ref l]) Q E s := by
  refine callType_new F.called_zip (by decide) (F.typeCall_zip_2 _ _) (F.newCall_zip_2 _ _) (fun obj => F.args_object_init_3 obj _ _) F.entry_zip_new (meets_zip_newS x t l ys) ⟨hl, ?_⟩
  have z1 : (zs1 s.heap x t).objs.size = s.heap.objs.size + 1 := Heap.size_push ..
  have z2 : (zs2 s.heap x t l).objs.size = s.heap.objs.size + 2 := by rw [Heap.size_push, z1]
  have z3 : (zs3 s.heap x t l).objs.size = s.heap.objs.size + 3 := by rw [Heap.size_push, z2]
  have z4 : (zs4 s.heap x t l).objs.size = s.heap.objs.size + 4 := by rw [Heap.size_push, z3]
  have g5 : (zs5 s.heap x t l).get? (zs4 s.heap x t l).objs.size = some _ := Heap.get?_push_size _ rfl
  have g4 : (zs5 s.heap x t l).get? (zs3 s.heap x t l).objs.size = some _ := Heap.get?_push_of_some _ (Heap.get?_push_size _ rfl)
  have g3 : (zs5 s.heap x t l).get? (zs2 s.heap x t l).objs.size = some _ := Heap.get?_push_of_some _ (Heap.get?_push_of_some _ (Heap.get?_push_size _ rfl))
  have g2 : (zs5 s.heap x t l).get? (zs1 s.heap x t).objs.size = some _ := Heap.get?_push_of_some _ (Heap.get?_push_of_some _ (Heap.get?_push_of_some _ (Heap.get?_push_size _ rfl)))
  have g1 : (zs5 s.heap x t l).get? s.heap.objs.size = some _ := Heap.get?_push_of_some _ (Heap.get?_push_of_some _ (Heap.get?_push_of_some _ (Heap.get?_push_of_some _ (Heap.get?_push_size _ rfl))))
  show _ ∧ _
  rw [z2, z3, z4] at g5
  rw [z1, z2] at g3
  rw [z3] at g4
  rw [z1] at g2
  rw [z4]
  exact ⟨⟨_, g5, rfl⟩, h _ g5 g3 g4 ⟨_, g1, rfl, rfl⟩ ⟨_, g2, rfl, rfl⟩ fun c o x =>
    Heap.get?_push_of_some _ (Heap.get?_push_of_some _ (Heap.get?_push_of_some _ (Heap.get?_push_of_some _ (Heap.get?_push_of_some _ x))))⟩
end

section
variable {prog : Program} {w : World} {A : Around} {s : Shared} {env : Env} {h₀ : Heap} {m : Str → Option Value} {news : List (Addr × Obj)}
/-- for over zip of an ASCII text and a list of the ledger that no turn touches -/
theorem for_zip {elts : List Expr} {kk : Nat} {tpos : Pos} {body : List Stmt} {Q : Flow → Shared → Prop} {x : Str} {t : Tok} {l : Addr} {vs : List Value} {nn : Nat}
    (hA : A.handled = none) (hx : strIterType x = "str_ascii_iterator") (hn : x.cps.size ≤ vs.length)
    (J : Nat → (Str → Option Value) → List (Addr × Obj) → Prop)
    (F : Fr h₀ env.locals s.heap m) (N : News h₀ env.locals s.heap news) (hJ : J 0 m news) (hl : ∀ i m nw, J i m nw → (l, listOf vs.toArray nn) ∈ nw)
    (turn : ∀ i c v t T m₁ nw h tk (its : List (Addr × Obj)), x.cps[i]? = some c → vs[i]? = some v → J i m₁ nw → Fr h₀ env.locals h m₁ → News h₀ env.locals h (its ++ nw) → (∀ p ∈ nw, p.1 ∉ its.map (·.1)) → IsTup h T #[.str ⟨#[c]⟩ t, v] →
      wpAny (model prog w) A (assign (.Tuple elts kk tpos) env (.ref T)) (fun _ s₂ => wpAny (model prog w) A (execs body env) (ForPostU h₀ env.locals (J (i + 1)) its s Q) (fun _ _ => False) s₂) (fun _ _ => False) { s with heap := h, toks := tk })
    (done : ∀ m₁ nw h tk, J x.cps.size m₁ nw → Fr h₀ env.locals h m₁ → News h₀ env.locals h nw → Q .next { s with heap := h, toks := tk }) :
    wpAny (model prog w) A (call (.type "zip") [.str x t, .ref l]) (fun xv s₁ => wpAny (model prog w) A (pyIter xv) (fun it s₂ => codeAny (model prog w) A (.forLoop (.Tuple elts kk tpos) it body [] env) (fun r s' => match r with | .ok f => Q f s' | .error e => cameBackBy (model prog w) A env (fun _ _ => False) e s') s₂) (fun _ _ => False) s₁) (fun _ _ => False) s := by
  have hm := hl _ _ _ hJ
  have hls := h_isList N hm
  have hlt : l < s.heap.objs.size := Heap.lt_size (N _ hm).1
  have hLs : env.locals < s.heap.objs.size := F.ns.lt
  refine call_zip_S hls fun h' hZ hTI hTO h1 h2 hk => ?_
  refine wpAny_pyIter_zip hZ ?_
  rw [hx] at h1
  obtain ⟨B, hB⟩ : ∃ B : Nat, s.heap.objs.size = B := ⟨_, rfl⟩
  have hlB : (l : Nat) < B := hB ▸ hlt
  have hLB : (env.locals : Nat) < B := hB ▸ hLs
  rw [hB] at hZ hTI hTO h1 h2 ⊢
  have new : ∀ a : Nat, B ≤ a → h₀.get? a = none := fun a ha => by
    cases q : h₀.get? a with
    | none => rfl
    | some o => exact absurd (Heap.lt_size (F.keep _ _ q)) (Nat.not_lt.mpr (hB ▸ ha))
  have lt1 : ∀ k : Nat, (l : Nat) ≠ B + k := fun k => Nat.ne_of_lt (Nat.lt_of_lt_of_le hlB (Nat.le_add_right _ _))
  have ltL : ∀ k : Nat, (env.locals : Nat) ≠ B + k := fun k => Nat.ne_of_lt (Nat.lt_of_lt_of_le hLB (Nat.le_add_right _ _))
  have D1 := Draws.strAscii (prog := prog) (w := w) (A := A.in1) hA B x t
  have D2 := Draws.list (prog := prog) (w := w) (A := A.in1) hA (B + 1) l (lt1 1) vs.toArray
  have nk : ∀ j k : Nat, j ≠ k → B + j ≠ B + k := fun j k h q => h (Nat.add_left_cancel q)
  have Z : ZSep (B + 4) (B + 2) (B + 3) B (B + 1) [B] [B + 1, l] :=
    ⟨nk 2 4 (by decide), nk 3 4 (by decide), nk 0 4 (by decide), nk 1 4 (by decide), nk 2 3 (by decide), nk 2 0 (by decide), nk 2 1 (by decide), nk 3 0 (by decide), nk 3 1 (by decide), nk 0 1 (by decide),
      (fun q => nk 4 0 (by decide) (List.mem_singleton.mp q)), (fun q => nk 3 0 (by decide) (List.mem_singleton.mp q)), (fun q => nk 1 0 (by decide) (List.mem_singleton.mp q)),
      (fun q => (List.mem_cons.mp q).elim (nk 4 1 (by decide)) fun q => lt1 4 (List.mem_singleton.mp q).symm), (fun q => (List.mem_cons.mp q).elim (nk 3 1 (by decide)) fun q => lt1 3 (List.mem_singleton.mp q).symm),
      (fun q => (List.mem_cons.mp q).elim (nk 0 1 (by decide)) fun q => lt1 0 (List.mem_singleton.mp q).symm)⟩
  have W := (zip_walks (by rw [List.size_toArray]; exact hn) Z D1 D2 (.head _) (.head _)).toU
  refine for_walkU (s := { s with heap := h' }) (ads := [B + 4, B + 2, B + 3, B, B + 1]) W J (fun a ha => ?_) (fun i h st => ?_) (fun i h h' m nw st e hj N' => ?_) ?_ ?_ ?_ (F.keeps hk) (N.grown hk) ?_ hJ ?_ ?_
  · simp only [List.mem_cons, List.not_mem_nil, or_false] at ha ⊢
    rcases ha with h | h | h | h <;> simp [h]
  · obtain ⟨hz, hTI, ⟨a, b, hTO⟩, ⟨o1, h1, _⟩, ⟨o2, h2, _⟩, _⟩ := st
    obtain ⟨oz, hoz⟩ : ∃ o, h.get? (B + 4) = some o := ⟨_, hz⟩
    obtain ⟨oI, hoI⟩ : ∃ o, h.get? (B + 2) = some o := ⟨_, hTI⟩
    obtain ⟨oO, hoO⟩ : ∃ o, h.get? (B + 3) = some o := ⟨_, hTO⟩
    refine ⟨[(B + 4, oz), (B + 2, oI), (B + 3, oO), (B, o1), (B + 1, o2)], rfl, fun p hp => ?_⟩
    simp only [List.mem_cons, List.not_mem_nil, or_false] at hp
    rcases hp with rfl | rfl | rfl | rfl | rfl
    · exact hoz
    · exact hoI
    · exact hoO
    · exact h1
    · exact h2
  · obtain ⟨hz, hTI, ⟨a, b, hTO⟩, h1, h2, _⟩ := st
    exact ⟨e _ (.head _) _ hz, e _ (.tail _ (.head _)) _ hTI, ⟨a, b, e _ (.tail _ (.tail _ (.head _))) _ hTO⟩, (by obtain ⟨o, ho, r⟩ := h1; exact ⟨o, e _ (.tail _ (.tail _ (.tail _ (.head _)))) _ ho, r⟩),
      h2.at fun o x => e _ (.tail _ (.tail _ (.tail _ (.tail _ (.head _))))) o x, h_isList N' (hl _ _ _ hj)⟩
  · intro q
    simp only [List.mem_cons, List.not_mem_nil, or_false] at q
    rcases q with q | q | q | q | q
    · exact ltL 4 q
    · exact ltL 2 q
    · exact ltL 3 q
    · exact ltL 0 q
    · exact ltL 1 q
  · intro a ha
    simp only [List.mem_cons, List.not_mem_nil, or_false] at ha
    rcases ha with rfl | rfl | rfl | rfl | rfl <;> exact new _ (by omega)
  · exact ⟨hZ, hTI, ⟨_, _, hTO⟩, h1, h2, hls.at fun o e => hk _ o e⟩
  · intro p hp q
    have h0 : (p.1 : Nat) < B := hB ▸ Heap.lt_size (N p hp).1
    simp only [List.mem_cons, List.not_mem_nil, or_false] at q
    have h1 : ∀ k : Nat, (p.1 : Nat) ≠ B + k := fun k => Nat.ne_of_lt (Nat.lt_of_lt_of_le h0 (Nat.le_add_right _ _))
    rcases q with q | q | q | q | q
    · exact h1 4 q
    · exact h1 2 q
    · exact h1 3 q
    · exact h1 0 q
    · exact h1 1 q
  · rintro i vals T m₁ nw h tk its hi ⟨a, b, ⟨c, u, hc, rfl⟩, hy, rfl⟩ hj F' N' off' hT
    exact turn i c b u T m₁ nw h tk its hc (by simpa using hy) hj F' N' off' hT
  · intro m₁ nw h tk hj F' N'
    exact done m₁ nw h tk hj F' N'
end

section
variable {w : World} {A : Around} {h₀ : Heap} {L : Addr} {m : Str → Option Value} {s : Shared} {news : List (Addr × Obj)}
theorem own_spec {Q : Value → Shared → Prop} {E : Value → Shared → Prop}
    (hA : A.handled = none) (hdp : A.depth + 5 < recursionLimit)
    (G : Gd w h₀) (F : Fr h₀ L s.heap m) (N : News h₀ L s.heap news)
    (ret : ∀ h' tk D (vr : List Value) k, Fr h₀ L h' m → News h₀ L h' ((D, listOf vr.toArray k) :: news) → (∀ p ∈ news, p.1 ≠ D) → DatAll [] vr (([24, 48, 96, 99, 17, 31, 8, 47] : List Int).map Dat.int) → Q (.ref D) {s with heap := h', toks := tk}) :
    wpAny (model Challenge.rw_ir0003_01.row.prog w) A (call (.ref 49) []) Q E s := by
  obtain ⟨hn, dp, fr, gd, un⟩ := A
  obtain rfl : hn = none := hA
  obtain ⟨X, loose, mean, mg, mb, T⟩ := G
  have hh : Challenge.rw_ir0003_01.Holds → (hd.heap_39 w.params).In h₀ → True := fun _ _ => trivial
  revert hh
  k_fill
  intro hh
  refine wpAny_call ?_
  refine enter F X N T (by k_is) (by k_is) (by (try dsimp only at hdp ⊢); omega) (binds := []) (BindsTo.of_eq rfl) (locs rfl) ?_ rfl rfl rfl (by decide)
  intro g L' h' st F' N' X' T' hlt
  try dsimp only
  k_steps
  rename Fr h₀ L _ _ => FF
  rename News h₀ L _ _ => NN
  exact ret _ _ _ _ _ FF NN (fun p hp => Nat.ne_of_lt (by revert p; assumption)) (.cons (.int _ _) (.cons (.int _ _) (.cons (.int _ _) (.cons (.int _ _) (.cons (.int _ _) (.cons (.int _ _) (.cons (.int _ _) (.cons (.int _ _) .nil))))))))
end
section
variable {w : World} {A : Around} {h₀ : Heap} {L l : Addr} {m : Str → Option Value} {s : Shared} {news : List (Addr × Obj)} {vs : List Value} {ns : List Int}
set_option maxHeartbeats 4000000 in
theorem stretches_spec {Q : Value → Shared → Prop} {E : Value → Shared → Prop}
    (hA : A.handled = none) (hdp : A.depth + 50 < recursionLimit) (hu : A.units + 200 < cLine)
    (G : Gd w h₀) (F : Fr h₀ L s.heap m) (N : News h₀ L s.heap news) (hL : h₀.IsList l vs.toArray) (hI : IntsAre vs ns) (hlen : ns.length ≤ 63)
    (ret : ∀ h' tk D (vr : List Value) k (news' : List (Addr × Obj)) (S : List Tri), Fr h₀ L h' m → News h₀ L h' news' → (D, listOf vr.toArray k) ∈ news' → (∀ p ∈ news, p ∈ news') → DatAll news' vr (S.map embT) →
      S.length = 8 → (∀ p ∈ S, 0 ≤ p.1 ∧ p.1 ≤ 11 ∧ p.1 < p.2.1) → S.Pairwise (fun a b => ltT b a = false) → Q (.ref D) {s with heap := h', toks := tk}) :
    wpAny (model Challenge.rw_ir0003_01.row.prog w) A (call (.ref 56) [.ref l]) Q E s := by
  obtain ⟨hn, dp, fr, gd, un⟩ := A
  obtain rfl : hn = none := hA
  obtain ⟨X, loose, mean, mg, mb, T⟩ := G
  have hh : Challenge.rw_ir0003_01.Holds → (hd.heap_39 w.params).In h₀ → True := fun _ _ => trivial
  revert hh
  k_fill
  intro hh
  refine wpAny_call ?_
  refine enter F X N T (by k_is) (by k_is) (by (try dsimp only at hdp ⊢); omega) (binds := [(Str.ofString "script", .ref l)]) (BindsTo.of_eq rfl) (locs rfl) ?_ rfl rfl rfl (by decide)
  intro g L' h' st F' N' X' T' hlt
  try dsimp only
  have hL' := hL.at fun o e => st _ _ e
  k_steps
  refine own_spec rfl (by show dp + 1 + 5 < recursionLimit; dsimp only at hdp; omega) ⟨X', _, _, _, _, T'⟩ F' N' ?_
  intro h1 tk1 O vo ko F1 N1 off1 do1
  k_steps
  refine Hold.mk ?_
  have hov := dat_len do1
  refine kup_listOf (by assumption) N1 (.head _) (List.toList_toArray ..) ?_ (by rw [List.toList_toArray, hov, sizeLine_eq]; decide)
  intro C kc h2 F2 N2 lt2
  k_steps
  refine Hold.mk (wpAny_For ?_ (fun _ => rfl))
  k_steps
  rename Fr g L' _ _ => F3
  rename News g L' _ _ => N3
  have hvl := IntsAre.length hI
  refine Hold.mk ?_
  refine kmk_slice_ints (c := (ns.take 40).length) F3 N3 (hL'.at fun o e => F3.keep _ _ e) .none (.int 40 _) hI (kmk_upto hI (by decide)) rfl ?_ (by with_unfolding_all rfl) (fun _ => rfl) (by rw [List.size_toArray, sizeLine_eq]; omega)
  intro D ws h5 F5 N5 lt5 hi5 _ hle5
  have hwl := IntsAre.length hi5
  k_steps
  refine Hold.mk ?_
  have hDC : D ≠ C := Nat.ne_of_gt (lt5 _ (.head _))
  have hnC : ∀ p ∈ news, p.1 ≠ C := fun p hp => Nat.ne_of_lt (lt2 p (.tail _ hp))
  have dws := of_ints (tl := []) hi5
  refine for_enum (vs := ws) (nn := 0) rfl
    (fun i m nw => ∃ (u : Str → Option Value) (vc : List Value) (kc : Nat) (cs : List Int), m = fm [(Str.ofString "cells", .ref C)] u ∧ nw = (C, W.listOf vc.toArray kc) :: (D, W.listOf ws.toArray 0) :: news ∧ DatAll [] vc (cs.map Dat.int) ∧ cs.length = 8)
    F5 (N5.perm (news' := (C, W.listOf vo.toArray kc) :: (D, W.listOf ws.toArray 0) :: news) fun p hp => ?_) ⟨_, vo, kc, _, (fm_eq _ _ (by walk_at "PINS")).symm, rfl, do1, rfl⟩ ?_ ?_ ?_
  · simp only [List.mem_cons] at hp ⊢
    rcases hp with h | h | h <;> simp [h]
  · rintro i m nw ⟨u, vc, kc, cs, rfl, rfl, _, _⟩
    exact .tail _ (.head _)
  · rintro i v t T m₁ nw h tk its hv ⟨u, vc, kc, cs, rfl, rfl, dc, hc⟩ F6 N6 off hT
    have hi : i < (ns.take (Int.toNat 40)).length := by rw [← hwl]; exact (List.getElem?_eq_some_iff.mp hv).1
    have hi63 : i < 63 := by rw [List.length_take] at hi; omega
    obtain ⟨v', hv', hd⟩ := dat_get dws hi
    obtain rfl : v' = v := by rw [hv] at hv'; exact (Option.some.inj hv').symm
    generalize (ns.take (Int.toNat 40))[i] = nm at hd
    cases hd
    have hvc := dat_len dc
    refine assign2 rfl F6 N6 hT ?_
    intro h7 tk7 F7 N7
    obtain ⟨j, hj, hj8⟩ : ∃ j : Nat, (i : Int).fmod 8 = j ∧ j < 8 := ⟨i % 8, by rw [Int.fmod_eq_emod_of_nonneg _ (by decide)]; rfl, Nat.mod_lt _ (by decide)⟩
    have hjc : j < cs.length := by omega
    obtain ⟨w1, hw1, hd1⟩ := dat_get dc hjc
    generalize cs[j] = cj at hd1
    cases hd1
    have hCi : ∀ p ∈ its, p.1 ≠ C := fun p hp e => by
      have h := List.mem_map_of_mem (f := fun q : Addr × Obj => q.1) hp
      rw [e] at h
      exact off (C, W.listOf vc.toArray kc) (.head _) h
    have hCt : ∀ p ∈ (D, W.listOf ws.toArray 0) :: news, p.1 ≠ C := fun p hp => by
      rcases List.mem_cons.mp hp with rfl | hp
      · exact hDC
      · exact hnC p hp
    k_steps
    rw [hj]
    refine wpAny_getItem_list (h_isList N7 (List.mem_append.mpr (.inr (.head _)))) (Int.natCast_nonneg _) (by omega) (by rw [Int.toNat_natCast]; simpa using hw1) ?_
    k_steps
    refine Hold.mk ?_
    refine h_setM its F7 N7 hCi hCt (Int.natCast_nonneg _) (by omega) (by omega) ?_
    intro h8 F8 N8
    k_steps
    refine Hold.mk ⟨_, _, _, _, rfl, F8, N8, fun p hp => ?_, _, _, _, _, (fm_eq _ _ (by walk_at "PINS")).symm, rfl, dat_set dc (.int _ _) _, by rw [List.length_set]; exact hc⟩
    rcases List.mem_cons.mp hp with rfl | hp
    · exact off (C, W.listOf vc.toArray kc) (.head _)
    · exact off p (.tail _ hp)
  · rintro m₁ nw h tk ⟨u, vc, kc, cs, rfl, rfl, dc, hc⟩ F6 N6
    k_steps
    refine Hold.mk (wpAny_For ?_ (fun _ => rfl))
    k_steps
    have hvc := dat_len dc
    rename_i Fd _ _ _ lt7 h7 F7 N7
    have hFC : ∀ p ∈ (C, W.listOf vc.toArray kc) :: (D, W.listOf ws.toArray 0) :: news, p.1 ≠ Fd := fun p hp => by
      obtain ⟨l1, l2, l3⟩ := lt7
      rcases List.mem_cons.mp hp with rfl | hp
      · exact Nat.ne_of_lt l1
      · rcases List.mem_cons.mp hp with rfl | hp
        · exact Nat.ne_of_lt l2
        · exact Nat.ne_of_lt (of_allLt l3 p hp)
    refine for_zip (vs := vc) (nn := kc) rfl (by decide +kernel) (by rw [hvc, hc]; decide)
      (fun i m nw => ∃ (u : Str → Option Value) (vf : List Value) (kf : Nat) (tl : List (Addr × Obj)) (ys : List Tri), m = fm [(Str.ofString "cells", .ref C), (Str.ofString "found", .ref Fd)] u ∧ nw = (Fd, W.listOf vf.toArray kf) :: tl ∧
        (∀ p ∈ (C, W.listOf vc.toArray kc) :: (D, W.listOf ws.toArray 0) :: news, p ∈ tl) ∧ (∀ p ∈ tl, p.1 ≠ Fd) ∧ DatAll tl vf (ys.map embT) ∧ ys.length = i ∧ ∀ p ∈ ys, 0 ≤ p.1 ∧ p.1 ≤ 11 ∧ p.1 < p.2.1)
      F7 N7 ⟨_, [], 0, _, [], (fm_eq _ _ (by walk_at "PINS")).symm, rfl, fun _ h => h, hFC, .nil, rfl, fun _ h => nomatch h⟩ ?_ ?_ ?_
    · rintro i m nw ⟨u, vf, kf, tl, ys, rfl, rfl, hs, _⟩
      exact .tail _ (hs _ (.head _))
    · rintro i ch v t8 T m₁ nw h8 tk8 its hch hv ⟨u8, vf, kf, tl, ys, rfl, rfl, hs, ho, df, hyl, hyp⟩ F8 N8 off hT
      have hi : i < cs.length := by rw [← hvc]; exact (List.getElem?_eq_some_iff.mp hv).1
      obtain ⟨v', hv', hd⟩ := dat_get dc hi
      obtain rfl : v' = v := by rw [hv] at hv'; exact (Option.some.inj hv').symm
      generalize cs[i] = cj at hd
      cases hd
      refine assign2 rfl F8 N8 hT ?_
      intro h9 tk9 F9 N9
      k_steps
      rename_i Dp h10 F10 N10 lt10
      obtain ⟨oT, N10', hdT⟩ : ∃ oT, News g L' h10 (((Dp, oT) :: its) ++ (Fd, W.listOf vf.toArray kf) :: tl) ∧ DatIn ((Dp, oT) :: tl) (.ref Dp) (embT (cj.fmod 12, cj.fmod 12 + 1 + (cj.fdiv 12).fmod 9, ⟨#[ch]⟩)) :=
        ⟨_, N10, .tuple (.head _) (.cons (.int _ _) (.cons (.int _ _) (.cons (.str _ _) .nil)))⟩
      have hDF : Dp ≠ Fd := Nat.ne_of_gt (lt10 _ (List.mem_append.mpr (.inr (.head _))))
      have hvfl := dat_len df
      refine Hold.mk ?_
      refine h_appendM ((Dp, oT) :: its) F10 N10' (fun p hp => ?_) ho (by rw [sizeLine_eq]; omega) ?_
      · rcases List.mem_cons.mp hp with rfl | hp
        · exact hDF
        · intro e
          have h := List.mem_map_of_mem (f := fun q : Addr × Obj => q.1) hp
          rw [e] at h
          exact off (Fd, W.listOf vf.toArray kf) (.head _) h
      intro h11 F11 N11
      k_steps
      refine Hold.mk ⟨_, _, _, _, rfl, F11, N11.perm (news' := its ++ (Fd, W.listOf (vf ++ [Value.ref Dp]).toArray (kf + 1)) :: (Dp, oT) :: tl) (fun p hp => ?_), fun p hp => ?_, _, _, _, _, _, (fm_eq _ _ (by walk_at "PINS")).symm, rfl, fun p hp => .tail _ (hs p hp), fun p hp => ?_, dat_snoc (df.mono fun p hp => .tail _ hp) hdT, by rw [List.length_append, hyl]; rfl, fun p hp => ?_⟩
      · simp only [List.mem_cons, List.mem_append, List.cons_append] at hp ⊢
        rcases hp with h | h | h | h <;> simp [h]
      · rcases List.mem_cons.mp hp with rfl | hp
        · exact off (Fd, W.listOf vf.toArray kf) (.head _)
        · rcases List.mem_cons.mp hp with rfl | hp
          · intro h
            obtain ⟨q, hq, e⟩ := List.mem_map.mp h
            exact absurd (lt10 q (List.mem_append.mpr (.inl hq))) (by rw [e]; exact Nat.lt_irrefl _)
          · exact off p (.tail _ hp)
      · rcases List.mem_cons.mp hp with rfl | hp
        · exact hDF
        · exact ho p hp
      · rcases List.mem_append.mp hp with hp | hp
        · exact hyp p hp
        · rw [List.mem_singleton.mp hp]
          have h1 := Int.fmod_nonneg_of_pos cj (show (0 : Int) < 12 by decide)
          have h2 := Int.fmod_lt_of_pos cj (show (0 : Int) < 12 by decide)
          have h3 := Int.fmod_nonneg_of_pos (cj.fdiv 12) (show (0 : Int) < 9 by decide)
          dsimp only
          omega
    · rintro m₁ nw h8 tk8 ⟨u8, vf, kf, tl, ys, rfl, rfl, hs, ho, df, hyl, hyp⟩ F8 N8
      k_steps
      have hy8 : ys.length = 8 := hyl
      refine Hold.mk ?_
      refine sorted_any ordT hfT (fun A s h₀ L nw x y a b C N hx hy h => key_tri N hx hy h) (by assumption) N8 (.head _) (df.mono fun p hp => .tail _ hp) (by omega) ?_
      intro h12 D12 vs12 k12 xs12 F12 N12 off12 d12 pm12 so12
      k_steps
      rename Fr h₀ L _ _ => FF
      rename News h₀ L _ _ => NN
      exact ret _ _ _ _ _ _ _ FF NN (.head _) (fun p hp => .tail _ (.tail _ (hs p (.tail _ (.tail _ hp))))) (d12.mono fun p hp => .tail _ hp) (by rw [pm12.length_eq, hy8]) (fun p hp => hyp p (pm12.subset hp)) so12
end

theorem datT_filter {h₀ h : Heap} {L c : Addr} {news : List (Addr × Obj)} {w : Obj} {v₀ : Option Value} (N : News h₀ L h news) (hc : (c, w) ∈ news) (hd : w.data = .cell v₀) :
    ∀ {vs : List Value} {S : List Tri}, DatAll news vs (S.map embT) → DatAll (news.filter fun p => decide (p.1 ≠ c)) vs (S.map embT)
  | vs, [], h => by cases h; exact .nil
  | vs, x :: xs, h => by
    cases h with
    | cons h r =>
      obtain ⟨a, t1, t2, t3, n, rfl, ha⟩ := datT h
      refine .cons (.tuple (List.mem_filter.mpr ⟨ha, ?_⟩) (.cons (.int _ _) (.cons (.int _ _) (.cons (.str _ _) .nil)))) (datT_filter N hc hd r)
      have h1 := N.get ha
      have h2 := N.get hc
      simp only [decide_eq_true_eq]
      intro e
      rw [e, h2] at h1
      have e2 := Option.some.inj h1
      rw [e2] at hd
      cases hd
theorem mem_filter_cell {h₀ h : Heap} {L c l : Addr} {news : List (Addr × Obj)} {w : Obj} {v₀ : Option Value} {vs : List Value} {n : Nat} (N : News h₀ L h news) (hc : (c, w) ∈ news) (hd : w.data = .cell v₀) (hl : (l, listOf vs.toArray n) ∈ news) :
    (l, listOf vs.toArray n) ∈ news.filter fun p => decide (p.1 ≠ c) := by
  refine List.mem_filter.mpr ⟨hl, ?_⟩
  have h1 := N.get hl
  have h2 := N.get hc
  simp only [decide_eq_true_eq]
  intro e
  rw [e, h2] at h1
  have e2 := Option.some.inj h1
  rw [e2] at hd
  cases hd
theorem good_of {S : List Tri} (h : S.Pairwise fun a b => ltT b a = false) (hp : ∀ p ∈ S, p.1 < p.2.1) : Good S :=
  ⟨h.imp fun {a b} h => by
    simp only [ltT, Bool.or_eq_false_iff, decide_eq_false_iff_not] at h
    omega, hp⟩
theorem max_many {S : List Tri} {M : Int} (G : Good S) (hne : S ≠ []) (hb : ∀ p ∈ S, 0 ≤ p.1 ∧ p.1 ≤ 11 ∧ p.1 < p.2.1)
    (h1 : M ∈ (List.range 21).map fun t => (((atOnce S ((t : Nat) : Int)).length : Nat) : Int)) (h2 : ∀ a ∈ (List.range 21).map fun t => (((atOnce S ((t : Nat) : Int)).length : Nat) : Int), a ≤ M) : M = (((blAll S).1.length : Nat) : Int) := by
  obtain ⟨t, _, rfl⟩ := List.mem_map.mp h1
  obtain ⟨o, _, ⟨x, hx, rfl⟩, h3⟩ := G.open' hne
  have b := hb x hx
  have h4 := h2 _ (List.mem_map.mpr ⟨x.1.toNat, List.mem_range.mpr (by omega), rfl⟩)
  rw [Int.toNat_of_nonneg b.1, h3] at h4
  have := G.most ((t : Nat) : Int)
  omega
theorem mirr_sorted {S S' : List Tri} (G : Good S) (hp : S'.Perm (S.map mirr)) (hs : S'.Pairwise fun a b => ltT b a = false) : Good S' :=
  good_of hs fun p h => by
    obtain ⟨x, hx, rfl⟩ := List.mem_map.mp (hp.subset h)
    have := G.p x hx
    show -x.2.1 < -x.1
    omega
theorem cell_split {h₀ h : Heap} {L c l : Addr} {news : List (Addr × Obj)} {w : Obj} {v₀ : Option Value} {vs : List Value} {n : Nat} {S : List Tri} (N : News h₀ L h news) (hc : (c, w) ∈ news) (hd : w.data = .cell v₀) (hl : (l, listOf vs.toArray n) ∈ news) (hD : DatAll news vs (S.map embT)) :
    ∃ tl, News h₀ L h ((c, w) :: tl) ∧ (∀ p ∈ tl, p.1 ≠ c) ∧ (l, listOf vs.toArray n) ∈ tl ∧ DatAll tl vs (S.map embT) := by
  refine ⟨news.filter fun p => decide (p.1 ≠ c), fun p hp => ?_, fun p hp => ?_, mem_filter_cell N hc hd hl, datT_filter N hc hd hD⟩
  · rcases List.mem_cons.mp hp with rfl | hp
    · exact N _ hc
    · exact N _ (List.mem_filter.mp hp).1
  · simpa using (List.mem_filter.mp hp).2

end Mine
open PySem PySem.W PySem.Calls PySem.Spec PyProof.Rows Mine
local macro_rules | `(tactic| walk_at "CELLIN") => `(tactic| first | assumption | exact List.Mem.head _ | (refine List.Mem.tail _ ?_; walk_at "CELLIN"))
local macro_rules | `(tactic| walk_at "exec While Compare cons nil") => `(tactic| refine hold ?_)
local macro_rules | `(tactic| walk_at "subscriptTail Name Name ref int") => `(tactic| refine hold ?_)
local macro_rules | `(tactic| walk_at "compareOp Lt") => `(tactic| refine hold ?_)
local macro_rules | `(tactic| walk_at "setItem ref int") => `(tactic| refine hold ?_)
local macro_rules | `(tactic| walk_at "PINS") => `(tactic| repeat (first | exact List.forall_mem_nil _ | refine List.forall_mem_cons.mpr ⟨by first | rfl | assumption, ?_⟩))
local macro_rules | `(tactic| walk_at "call builtin:len cons nil") => `(tactic| refine hold ?_)
local macro_rules | `(tactic| walk_at "call builtin:list.append cons nil") => `(tactic| refine hold ?_)
local macro_rules | `(tactic| walk_at "call builtin:list.pop cons nil") => `(tactic| refine hold ?_)
local macro_rules | `(tactic| walk_at "call ref cons nil") => `(tactic| refine hold ?_)
local macro_rules | `(tactic| walk_at "truthy ref") => `(tactic| refine hold ?_)
local macro_rules | `(tactic| walk_at "subscriptTail Name Constant ref int") => `(tactic| refine hold ?_)
local macro_rules | `(tactic| walk_at "eval ListComp") => `(tactic| refine hold ?_)
local macro_rules | `(tactic| walk_at "eval Name") => `(tactic| (k_dflt (refine' nm_cell ?k1 ?k2 ?k3 ?k4 ?_; (case k4 => exact rfl); (case k1 => k_asm); (case k2 => walk_at "CELLIN"); (case k3 => assumption))))
local macro_rules | `(tactic| walk_at "eval Name") => `(tactic| (k_dflt (refine' nm_local ?k1 ?k2 ?_; (case k1 => k_asm); (case k2 => exact rfl))))
local macro_rules | `(tactic| walk_at "exec While BoolOp cons nil") => `(tactic| refine hold ?_)
local macro_rules | `(tactic| walk_at "exec For Tuple Name cons nil") => `(tactic| refine hold ?_)
local macro_rules | `(tactic| walk_at "exec For Name Call cons nil") => `(tactic| refine hold ?_)
local macro_rules | `(tactic| walk_at "pyIter ref") => `(tactic| refine hold ?_)
local macro_rules | `(tactic| walk_at "compareOp NotEq ref ref") => `(tactic| refine hold ?_)
local macro_rules | `(tactic| walk_at "compareOp Eq ref ref") => `(tactic| refine hold ?_)
local macro_rules | `(tactic| walk_at "subscriptTail") => `(tactic| refine hold ?_)
local macro_rules | `(tactic| walk_at "exec Assign cons ListComp") => `(tactic| refine hold ?_)
local macro_rules | `(tactic| walk_at "call builtin:sorted cons nil") => `(tactic| refine hold ?_)
local macro_rules | `(tactic| walk_at "call builtin:max cons nil") => `(tactic| refine hold ?_)
local macro_rules | `(tactic| walk_at "binaryOp Add ref ref") => `(tactic| refine hold ?_)
local macro_rules | `(tactic| walk_at "call type:list cons nil") => `(tactic| refine hold ?_)
local macro_rules | `(tactic| walk_at "exec For Tuple Call cons nil") => `(tactic| refine hold ?_)
local macro_rules | `(tactic| walk_at "subscriptTail Name Slice ref ref") => `(tactic| refine hold ?_)
local macro_rules | `(tactic| walk_at "call type:enumerate cons nil") => `(tactic| refine hold ?_)
local macro_rules | `(tactic| walk_at "call type:zip cons cons nil") => `(tactic| refine hold ?_)
set_option maxRecDepth 100000 in
set_option maxHeartbeats 8000000 in
theorem PySem.Challenge.cw_ir0003_01_holds : PySem.Challenge.rw_ir0003_01.Holds := by
  apply Mine.hd
  k_go0
  all_goals try k_fold
  refine wpAny_mono (E := fun _ _ => False) ?_ (fun _ _ h => h) (fun _ _ x => x.elim)
  k_steps
  rename IntsAre _ _ => hI
  rename Heap.IsList _ _ _ => hL
  rename Top _ _ _ _ _ _ => T
  rename Frag.In _ _ => KX
  rename Fr _ _ _ _ => F
  rename News _ _ _ _ => N
  rename ¬ ((63 : Int) < _) => hlen
  refine Hold.mk ?_
  rename CellsAre _ _ _ => Y
  obtain ⟨o', eo, d1⟩ := CellsAre.one Y
  simp only [List.cons.injEq, Prod.mk.injEq, true_and, and_true] at eo
  subst eo
  have dpt : callerA.depth + 1 + 50 < recursionLimit := by decide
  have unt : callerA.units + 3 + 200 < cLine := by decide
  refine stretches_spec rfl (by exact dpt) (by exact unt) ⟨KX, _, _, _, _, T⟩ F N hL hI (by omega) ?_
  intro h2 tk2 D vr k nws S F2 N2 hm2 sub2 d2 hl8 hb8 so8
  k_steps
  have hcm := sub2 _ (.head _)
  obtain ⟨tl, N2', off2, hmt, dt⟩ := cell_split N2 hcm d1 hm2 d2
  clear N2
  refine st_cell [] F2 N2' (fun _ h => nomatch h) off2 rfl d1 ?_
  intro h3 oc F3 N3 dc
  dsimp only [List.nil_append] at N3
  have hne : S ≠ [] := fun e => by rw [e] at hl8; cases hl8
  have GS : Good S := good_of so8 fun p hp => (hb8 p hp).2.2
  k_steps
  refine Hold.mk ?_
  refine many_spec rfl (by exact dpt) (by exact unt) ⟨KX, _, _, _, _, T⟩ F3 N3 (.tail _ hmt) (dt.mono fun p hp => .tail _ hp) (by omega) hne GS ?_
  intro h4 tk4 t4 F4 N4
  k_steps
  rename Fr _ _ _ _ => F5
  rename News _ _ _ _ => N5
  rename Shared => s1
  obtain ⟨u5, F5'⟩ : ∃ u5, Fr s1.heap _ _ (fm [(Str.ofString "many", .int ((blAll S).1.length : Nat) t4)] u5) := ⟨_, fr_pin F5 _ (by walk_at "PINS")⟩
  clear F5
  refine Hold.mk ?_
  refine comp_range (h₀ := s1.heap) (L := s1.heap.objs.size) (m := fm [(Str.ofString "many", .int ((blAll S).1.length : Nat) t4)] u5) (n := 21) rfl (fun _ => rfl) (by with_unfolding_all rfl) (by decide) rfl (by decide) (by omega) ?_
  k_steps
  rename_i hR FR NR KR
  obtain ⟨NL, eNL⟩ : ∃ NL, NL = (s1.heap.objs.size + 1, oc) :: tl := ⟨_, rfl⟩
  rw [← eNL] at NR
  have hcm2 : (s1.heap.objs.size + 1, oc) ∈ NL := eNL ▸ .head _
  have hmN : (D, PySem.W.listOf vr.toArray k) ∈ NL := eNL ▸ .tail _ hmt
  have dN : DatAll NL vr (S.map embT) := dt.mono fun p hp => eNL ▸ .tail _ hp
  refine ⟨_, _, _, _, _, rfl, hR, FR, NR, fun i ys nw => nw = NL ∧ DatAll [] ys (((List.range i).map fun t => (((atOnce S ((t : Nat) : Int)).length : Nat) : Int)).map Dat.int), ⟨rfl, .nil⟩, ?_, ?_⟩
  · rintro g2 C D6 I i ti ys k6 mC nw h6 tk6 oI st2 hi hyl ⟨rfl, dy⟩ F6 N6 off6
    have X6 := KX.keeps st2
    have T6 := T.keeps st2
    refine wpAny_assign_Name (st_local F6 N6 (fun h7 F7 N7 => ?_))
    k_steps
    refine Hold.mk ?_
    refine atOnce_spec rfl (by exact Nat.lt_of_le_of_lt (Nat.add_le_add_left (by decide) _) dpt) (by exact Nat.lt_of_le_of_lt (Nat.add_le_add_left (by decide) _) unt) ⟨X6, _, _, _, _, T6⟩ F7 N7 (.tail _ (.tail _ hmN)) (dN.mono fun p hp => .tail _ (.tail _ hp)) (by omega) ?_
    intro h8 tk8 t8 F8 N8
    refine Hold.mk ⟨_, _, _, _, rfl, F8, N8, off6, rfl, ?_⟩
    rw [List.range_succ, List.map_append, List.map_append]
    exact dy.append (.one (.int _ _))
  · rintro h6 tk6 ys k6 D6 nw ⟨rfl, dy⟩ F6 N6 off6
    k_steps
    refine Hold.mk ?_
    refine kso_max (by assumption) (by assumption) (h_isList N6 (.head _)) (ints_of dy) (by rw [List.length_map, List.length_range]; decide) rfl ?_
    intro h7 M tM tk7 F7 N7 hM1 hM2
    obtain rfl := max_many GS hne hb8 hM1 hM2
    k_steps
    rename Fr _ _ _ _ => F8
    rename News _ _ _ _ => N8
    refine Hold.mk ?_
    have hvl := dat_len dN
    refine comp_list (vs := vr) (nn := k) rfl (fun _ => rfl) (by with_unfolding_all rfl) (by decide) rfl (by decide) (by omega)
      (fun i ys nn => (D, PySem.W.listOf vr.toArray k) ∈ nn ∧ DatAll nn vr (S.map embT) ∧ DatAll nn ys (((S.take i).map mirr).map embT))
      (nm_cell N8 (.tail _ hcm2) dc rfl ⟨rfl, rfl⟩) F8 N8 ⟨.tail _ hmN, dN.mono fun p hp => .tail _ hp, .nil⟩ (fun i ys nn h => h.1) ?_ ?_
    · rintro g2 C D7 I i v ys k7 mC nn h8 tk8 oI st2 hv hyl ⟨j1, j2, j3⟩ F9 N9 off9
      have hi : i < S.length := by rw [← hvl]; exact (List.getElem?_eq_some_iff.mp hv).1
      obtain ⟨v', hv', hd⟩ := dat_get j2 hi
      obtain rfl : v' = v := by rw [hv] at hv'; exact (Option.some.inj hv').symm
      obtain ⟨a, t1, t2, t3, na, rfl, ha⟩ := datT hd
      refine assign3 rfl F9 N9 (News.isTup N9 (.tail _ (.tail _ ha))) ?_
      intro h10 tk10 F10 N10
      k_steps
      rename_i Dp h11 F11 N11 l2
      obtain ⟨q1, q2, -⟩ := l2
      obtain ⟨oT, N11', hdT⟩ : ∃ oT, News g2 C h11 ((Dp, oT) :: (I, oI) :: (D7, PySem.W.listOf ys.toArray k7) :: nn) ∧ DatIn ((Dp, oT) :: nn) (.ref Dp) (embT (mirr S[i])) := ⟨_, N11, .tuple (.head _) (.cons (.int _ _) (.cons (.int _ _) (.cons (.str _ _) .nil)))⟩
      refine Hold.mk ⟨_, _, _, (Dp, oT) :: nn, rfl, F11, N11'.perm (fun p hp => ?_), fun p hp => ?_, .tail _ j1, j2.mono fun p hp => .tail _ hp, ?_⟩
      · simp only [List.mem_cons] at hp ⊢
        rcases hp with h | h | h | h <;> simp [h]
      · rcases List.mem_cons.mp hp with rfl | hp
        · exact ⟨Nat.ne_of_gt q1, Nat.ne_of_gt q2⟩
        · exact off9 p hp
      · rw [List.take_add_one, List.getElem?_eq_getElem hi, List.map_append, List.map_append]
        exact (j3.mono fun p hp => .tail _ hp).append (.one hdT)
    · rintro h8 tk8 ys k7 D7 nn ⟨j1, j2, j3⟩ F9 N9 off9
      rw [hvl, List.take_length] at j3
      k_steps
      refine Hold.mk ?_
      refine sorted_any ordT hfT (fun A s h₀ L nw x y a b C N hx hy h => key_tri N hx hy h) F9 N9 (.head _) (j3.mono fun p hp => .tail _ hp) (by rw [List.length_map]; omega) ?_
      intro h12 D12 vs12 k12 S' F12 N12 off12 d12 pm12 so12
      have GS' := mirr_sorted GS pm12 so12
      have hl' : S'.length = 8 := by rw [pm12.length_eq, List.length_map, hl8]
      k_steps
      refine Hold.mk ?_
      refine many_spec rfl (by exact dpt) (by exact unt) ⟨KX, _, _, _, _, T⟩ (by assumption) N12 (.head _) (d12.mono fun p hp => .tail _ hp) (by omega) (fun e => by rw [e] at hl'; cases hl') GS' ?_
      intro h13 tk13 t13 F13 N13
      rw [same_many GS GS' hne pm12]
      k_steps

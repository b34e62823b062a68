import PyProof.Rows.All
import Wide.All
import OpenK.AllK
import Wide.FinOn
import Lean
import PySem.Challenge.RW_mg0041_01
set_option Elab.async false

/-! part Top -/
section
open PySem PySem.W PyProof.Rows
namespace Mine
set_option maxRecDepth 100000 in
set_option maxHeartbeats 8000000 in
open_top hd for PySem.Challenge.rw_mg0041_01
end Mine
end

/-! part H1 -/
section
open PySem PySem.W PyProof.Rows PySem.Calls
set_option maxRecDepth 100000
namespace Mine

/-- what stands below every call of ours -/
structure Base (w : World) (mg mb : Str → Option Value) (h : Heap) : Prop where
  K : (hd.heap_39 w.params).In h
  T : TopRead hd.view_39 (looseW hd.view_39 [Str.ofString "EXACT_TOKEN_TYPES"]) mg mb h

/-- a call of a def without cells that raises nothing; D: the objects it may change -/
theorem call_own {w : World} {A : Around} {s : Shared} {base : Heap} {mg mb : Str → Option Value} {news : List (Addr × Obj)}
    {R : Result → Shared → Prop} {name qual : Str} {params : Arguments} {body : List Stmt} {scope : Scope} {dV kV doc pm cdv ct oc : Value} {an od : Option Addr} {osl : Array (Option Value)} {f : Addr} {args : Args} {binds : List (Str × Value)}
    (G : Base w mg mb base) (st : ∀ b o, base.get? b = some o → s.heap.get? b = some o)
    (hn : ∀ p ∈ news, s.heap.get? p.1 = some p.2 ∧ base.get? p.1 = none)
    (ho : (hd.heap_39 w.params).lookup f = some ⟨oc, od, .func (fnOf name qual params body scope dV kV doc pm an cdv ct), osl⟩) (hcd : codeIn (hd.heap_39 w.params) cdv qual = true) (hroom : A.depth < recursionLimit)
    (hbind : BindsTo s (fnOf name qual params body scope dV kV doc pm an cdv ct) args binds) (hloc : ∀ y ∈ binds, scope.names.lookup y.1 = some .local)
    (h : ∀ g L' h₁, Base w mg mb g → (∀ b o, base.get? b = some o → g.get? b = some o) → (∀ b o, s.heap.get? b = some o → b ∉ news.map (·.1) → g.get? b = some o) → (∀ p ∈ news, g.get? p.1 = none) →
      Fr g L' h₁ (fun y => binds.reverse.lookup y) → News g L' h₁ news →
      wpAny (model PySem.Challenge.rw_mg0041_01.row.prog w) (A.deeper (envOf qual scope L' f cdv)) (execs body (envOf qual scope L' f cdv))
        (fun fl s' => R (.ok (.ret (match fl with | .ret v => v | _ => .none))) s') (fun _ _ => False)
        { s with heap := h₁, toks := s.toks + binds.length })
    (hco : scope.isCoroutine = false := by rfl) (hgen : scope.isGenerator = false := by rfl) (hk : scope.kind = .function := by rfl)
    (hcell : ∀ x ∈ scope.names, x.2 ≠ .cell := by decide) : codeAny (model PySem.Challenge.rw_mg0041_01.row.prog w) A (.call (.ref f) args) R s := by
  have X : (hd.heap_39 w.params).In s.heap := G.K.keeps st
  refine codeAny_call_def (fd := fnOf name qual params body scope dV kV doc pm an cdv ct) (body := body) (binds := binds) hroom (X _ _ ho) rfl (G.T.nolimit.keeps st) (codeRec_of X hcd) rfl hbind hcell hloc (fun h₁ hns hk₁ => ?_) hco hgen hk
  have nm : ∀ b o, base.get? b = some o → b ∉ news.map (·.1) := fun b o e q => by
    obtain ⟨p, hp, rfl⟩ := List.mem_map.mp q
    rw [(hn p hp).2] at e; cases e
  have st' : ∀ b o, base.get? b = some o → (hideAll s.heap (news.map (·.1))).get? b = some o := fun b o e => hideAll_get _ (st b o e) (nm b o e)
  refine wpAny_mono (h (hideAll s.heap (news.map (·.1))) s.heap.objs.size h₁ ⟨G.K.keeps st', G.T.keeps st'⟩ st' (fun b o e hb => hideAll_get _ e hb)
    (fun p hp => hideAll_none _ (List.mem_map_of_mem hp))
    ⟨hns, fun b o e => hk₁ b o (of_hideAll _ e), Nat.le_of_eq (hideAll_size _ _)⟩
    (fun p hp => ⟨hk₁ _ _ (hn p hp).1, Nat.ne_of_lt (Heap.lt_size (hn p hp).1), hideAll_none _ (List.mem_map_of_mem hp)⟩)) (fun fl s' hl => hl) fun _ _ y => y.elim

end Mine
end

/-! part Ops1 -/
section
open PySem PySem.W PyProof.Rows PySem.Calls
set_option maxRecDepth 100000
namespace Mine

theorem frag_on : hd.heap_39 = hd.heap_39 ∧ PySem.Challenge.rw_mg0041_01 = PySem.Challenge.rw_mg0041_01 := by
  k_fill
  exact ⟨rfl, rfl⟩

abbrev pairOf (x y : Int) (t1 t2 : Tok) (n : Nat) : Obj := { cls := .type "tuple", data := .seq #[.int x t1, .int y t2] n }
/-- v is a tuple of the two ints k -/
noncomputable def Key (h : Heap) (v : Value) (k : Int × Int) : Prop := ∃ a t1 t2 n, v = .ref a ∧ h.get? a = some (pairOf k.1 k.2 t1 t2 n)
theorem Key.keeps {h h' : Heap} {v : Value} {k : Int × Int} (x : Key h v k) (st : ∀ b o, h.get? b = some o → h'.get? b = some o) : Key h' v k := by
  obtain ⟨a, t1, t2, n, e, ho⟩ := x
  exact ⟨a, t1, t2, n, e, st _ _ ho⟩

theorem list_not_pair {its : Array Value} {n : Nat} {x y : Int} {t1 t2 : Tok} {k : Nat} (h : some (listOf its n) = some (pairOf x y t1 t2 k)) : False := by
  have := congrArg (fun o => o.map Obj.cls) h
  simp at this

noncomputable def klt (a b : Int × Int) : Bool := if a.1 = b.1 then decide (a.2 < b.2) else decide (a.1 < b.1)

section
variable {prog : Program} {w : World} {A : Around} {E : Value → Shared → Prop} {s : Shared} {h₀ h h' : Heap} {L D : Addr} {m : Str → Option Value} {news news' : List (Addr × Obj)}

theorem item_atN {value slice : PySem.Expr} {l : List Value} {k : Nat} {u : Tok} {v : Value} {Q : Value → Shared → Prop}
    (hl : s.heap.IsList D l.toArray) (hhi : k < 2 ^ 62) (hx : l[k]? = some v) (h : Q v s)
    (hs : subscripted slice false (.ref D) (.int k u) = operate [.ref D, .int k u] (getItem (.ref D) (.int k u)) := by with_unfolding_all rfl) :
    wpAny (model prog w) A (subscriptTail value slice (.ref D) (.int k u)) Q E s :=
  item_litK hl (by omega) (by omega) (by rw [Int.toNat_natCast]; exact hx) h hs
theorem set_at {l : List Value} {n : Nat} {k : Int} {t : Tok} {v : Value} {Q : Unit → Shared → Prop} (F : Fr h₀ L s.heap m) (N : News h₀ L s.heap news)
    (U : Upd D (listOf l.toArray n) (listOf (l.set k.toNat v).toArray n) news news') (h0 : 0 ≤ k) (h1 : k < l.length) (hfit : k < 2 ^ 63)
    (h : ∀ h', Fr h₀ L h' m → News h₀ L h' news' → Q () { s with heap := h' }) :
    wpAny (model prog w) A (setItem (.ref D) (.int k t) v) Q E s := by
  obtain ⟨pre, post, rfl, rfl, a, b⟩ := U.split
  have z := N (D, listOf l.toArray n) (List.mem_append.mpr (.inr (.head _)))
  refine ki_setAt z.1 h0 hfit (by simpa using h1) (h _ (F.change (Heap.SameBut.update ..) z.2.1 z.2.2) (ki_turn _ N a b ?_ ?_))
  · show l.toArray.setIfInBounds k.toNat v = (l.set k.toNat v).toArray
    apply Array.toList_inj.mp
    simp
  · simp

theorem set_atN {l : List Value} {n : Nat} {k : Nat} {t : Tok} {v : Value} {Q : Unit → Shared → Prop} (F : Fr h₀ L s.heap m) (N : News h₀ L s.heap news)
    (U : Upd D (listOf l.toArray n) (listOf (l.set k v).toArray n) news news') (h1 : k < l.length) (hfit : k < 2 ^ 62)
    (h : ∀ h', Fr h₀ L h' m → News h₀ L h' news' → Q () { s with heap := h' }) :
    wpAny (model prog w) A (setItem (.ref D) (.int k t) v) Q E s :=
  set_at F N U (by omega) (by omega) (by omega) h

theorem lt_pair {a b : Addr} {x1 x2 y1 y2 : Int} {t1 t2 u1 u2 : Tok} {n k : Nat} {Q : Value → Shared → Prop}
    (ha : s.heap.get? a = some (pairOf x1 x2 t1 t2 n)) (hb : s.heap.get? b = some (pairOf y1 y2 u1 u2 k)) (hu : A.units < cLine)
    (h : Q (.bool (klt (x1, x2) (y1, y2))) s) : wpAny (model prog w) A (compareOp .Lt (.ref a) (.ref b)) Q E s := by
  have ta : s.TypeIs (.ref a) "tuple" := IsTup.typeIs ⟨_, ha, rfl, _, rfl⟩
  have tb : s.TypeIs (.ref b) "tuple" := IsTup.typeIs ⟨_, hb, rfl, _, rfl⟩
  show wpAny _ _ (richCompare .Lt (.ref a) (.ref b)) Q E s
  refine wpAny_richCompare_same_room (op := .Lt) (T := "tuple") ta tb F.slot_tuple_lt
    (wpAny_call_entry F.slot_tuple_lt ta F.entry_tuple_lt ?_ (F.args_tuple_lt_2 _ _)) hu
  show wpAny _ _ (isInstance (.ref b) (.type "tuple") >>= _) _ _ s
  refine wpAny_bind (wpAny_isInstance tb isSubtype_tuple_tuple ?_)
  simp only [Bool.not_true, Bool.false_eq_true, if_false]
  refine wpAny_bind (wpAny_tupleItemsOf ha rfl ?_)
  refine wpAny_bind (wpAny_tupleItemsOf hb rfl ?_)
  refine wpAny_bind ?_
  show wpAny _ _ (forIn [(Value.int x1 t1, Value.int y1 u1), (Value.int x2 t2, Value.int y2 u2)] _ _) _ _ s
  rw [List.forIn_cons]
  refine wpAny_bind (wpAny_bind (PySem.SeqAt.EqAt.int_int x1 t1 y1 u1 prog w _ _ ?_))
  unfold klt at h
  by_cases e1 : x1 = y1
  · rw [beq_iff_eq.mpr e1]
    rw [if_pos e1] at h
    simp only [Bool.not_true, Bool.false_eq_true, if_false]
    refine wpAny_pure ?_
    dsimp only
    rw [List.forIn_cons]
    refine wpAny_bind (wpAny_bind (PySem.SeqAt.EqAt.int_int x2 t2 y2 u2 prog w _ _ ?_))
    by_cases e2 : x2 = y2
    · rw [beq_iff_eq.mpr e2]
      simp only [Bool.not_true, Bool.false_eq_true, if_false]
      refine wpAny_pure ?_
      dsimp only
      rw [List.forIn_nil]
      refine wpAny_pure (wpAny_pure ⟨_, rfl, (fun x => nomatch x), ?_⟩)
      have : decide (x2 < y2) = false := by simp [e2]
      rw [this] at h
      exact h
    · have q : (x2 == y2) = false := by simp [e2]
      rw [q]
      simp only [Bool.not_false, if_true]
      refine wpAny_bind (wpAny_rule (wpAny_bind (lt_int (a := x2) (b := y2) (t := t2) (u := u2) ?_)))
      refine wpAny_bind (wpAny_pure (wpAny_pure ?_))
      exact wpAny_pure (wpAny_pure ⟨_, rfl, (fun x => nomatch x), h⟩)
  · have q : (x1 == y1) = false := by simp [e1]
    rw [q]
    rw [if_neg e1] at h
    simp only [Bool.not_false, if_true]
    refine wpAny_bind (wpAny_rule (wpAny_bind (lt_int (a := x1) (b := y1) (t := t1) (u := u1) ?_)))
    refine wpAny_bind (wpAny_pure (wpAny_pure ?_))
    exact wpAny_pure (wpAny_pure ⟨_, rfl, (fun x => nomatch x), h⟩)
theorem lt_key {x y : Value} {k1 k2 : Int × Int} {Q : Value → Shared → Prop} (hx : Key s.heap x k1) (hy : Key s.heap y k2) (hu : A.units < cLine)
    (h : Q (.bool (klt k1 k2)) s) : wpAny (model prog w) A (compareOp .Lt x y) Q E s := by
  obtain ⟨a, t1, t2, n, rfl, ha⟩ := hx
  obtain ⟨b, u1, u2, k, rfl, hb⟩ := hy
  exact lt_pair ha hb hu h
theorem len_at {l : List Value} {Q : Value → Shared → Prop} (hl : s.heap.IsList D l.toArray) (hfit : l.length < 2 ^ 62)
    (h : Q (.int (l.length : Nat) (s.toks + 1)) { s with toks := s.toks + 1 + 1 }) : wpAny (model prog w) A (call (.builtin "len") [.ref D]) Q E s := by
  have e : l.toArray.size = l.length := by simp
  refine Calls.call_len_list hl (by omega) ?_
  rw [e]
  exact h
end
end Mine
end

/-! part H2 -/
section
open PySem PySem.W PyProof.Rows PySem.Calls
set_option maxRecDepth 100000
namespace Mine

/-- what _siftdown makes of the list -/
noncomputable def sd (kf : Value → Int × Int) (x : Value) (sp : Nat) (l : List Value) (ps : Nat) : List Value :=
  if _h : sp < ps then
    if klt (kf x) (kf (l.getD ((ps - 1) / 2) .none)) = true then sd kf x sp (l.set ps (l.getD ((ps - 1) / 2) .none)) ((ps - 1) / 2) else l.set ps x
  else l.set ps x
termination_by ps
decreasing_by omega

local macro_rules | `(tactic| walk_at "eval Name") => `(tactic| (k_here; k_dflt (refine' ld ?k1 ?k2 ?_; (case k1 => k_asm); (case k2 => assumption); k_whole)))

set_option maxHeartbeats 4000000 in
theorem siftdown_call {w : World} {A : Around} {s : Shared} {base : Heap} {mg mb : Str → Option Value} {R : Result → Shared → Prop} {D : Addr} {l : List Value} {n : Nat} {kf : Value → Int × Int} {sp ps : Nat} {ts tp : Tok} {x : Value}
    (G : Base w mg mb base) (st : ∀ b o, base.get? b = some o → s.heap.get? b = some o) (hD : base.get? D = none) (hd : s.heap.get? D = some (listOf l.toArray n))
    (hk : ∀ v ∈ l, Key s.heap v (kf v)) (hdep : A.depth + 10 < recursionLimit) (hu : A.units + 20 < cLine) 
    (h2 : l[ps]? = some x) (h3 : l.length < 1000)
    (h : ∀ h' tk, (∀ b o, s.heap.get? b = some o → b ≠ D → h'.get? b = some o) → h'.get? D = some (listOf (sd kf x sp l ps).toArray n) → R (.ok (.ret .none)) { s with heap := h', toks := tk }) :
    codeAny (model PySem.Challenge.rw_mg0041_01.row.prog w) A (.call (.ref 35) ⟨[.ref D, .int sp ts, .int ps tp], []⟩) R s := by
  refine' call_own (news := [(D, listOf l.toArray n)]) G st ?hn ?ho ?hcd ?hroom ?hbind ?hloc ?_ ?c2 ?c3 ?c4 ?c5
  case ho => k_is
  case hcd => k_is
  case hroom => omega
  case hbind => exact BindsTo.of_eq rfl
  case hloc => exact locs rfl
  case c2 => rfl
  case c3 => rfl
  case c4 => rfl
  case c5 => decide
  case hn => intro p hp; cases List.mem_singleton.mp hp; exact ⟨hd, hD⟩
  intro g L h₁ G' hb' hs' hd' F N
  have KX := G'.K
  have T := G'.T
  have hlt : ps < l.length := (List.getElem?_eq_some_iff.mp h2).1
  have hkg : ∀ v ∈ l, Key g v (kf v) := by
    intro v hv
    obtain ⟨a, t1, t2, n', e, ho⟩ := hk v hv
    refine ⟨a, t1, t2, n', e, hs' a _ ho ?_⟩
    intro q
    rw [List.map_cons, List.map_nil] at q
    have := List.mem_singleton.mp q
    subst this
    rw [hd] at ho; exact (list_not_pair ho).elim
  try dsimp only
  walk1
  walk1
  walk1
  walk1
  walk1
  refine item_litK (News.isList N (by k_mem)) (by omega) (by omega) (by simpa using h2) ?_
  walk1
  walk1
  rename_i h₂ F₂ N₂
  refine wpAny_mono (Q := fun f s₂ => f = .next ∧ ∃ (l' : List Value) (ps' : Nat) (tp' : Tok) (h' : Heap) (tk : Nat) (m' : Str → Option Value), s₂ = { s with heap := h', toks := tk } ∧
      Fr g L h' m' ∧ News g L h' [(D, listOf l'.toArray n)] ∧ m' (Str.ofString "heap") = some (.ref D) ∧ m' (Str.ofString "newitem") = some x ∧ m' (Str.ofString "pos") = some (.int ps' tp') ∧
      ps' < l'.length ∧ l'.length = l.length ∧ l'.set ps' x = sd kf x sp l ps) (E := fun _ _ => False) ?_ ?_ (fun _ _ x => x)
  · refine While_inv2 (fun k m' nw => ∃ (l' : List Value) (tp' : Tok), nw = [(D, listOf l'.toArray n)] ∧ m' (Str.ofString "heap") = some (.ref D) ∧ m' (Str.ofString "startpos") = some (.int sp ts) ∧ m' (Str.ofString "newitem") = some x ∧ m' (Str.ofString "pos") = some (.int (k : Nat) tp') ∧
        sd kf x sp l' k = sd kf x sp l ps ∧ l'.length = l.length ∧ k < l.length ∧ ∀ v ∈ l', v ∈ l) (n₀ := ps) F₂ N₂ ⟨l, tp, rfl, rfl, rfl, rfl, rfl, rfl, rfl, hlt, fun _ h => h⟩ ?_ ?_
    · rintro ps' m' nw h' tk F' N' ⟨l', tp', rfl, a1, a2, a3, a4, i1, i2, i3, i4⟩
      clear F₂ N₂
      walk1
      walk1
      walk1
      walk1
      walk1
      walk1
      rotate_left
      · rename_i hc
        refine ⟨rfl, l', ps', tp', h', tk, _, rfl, F', N', a1, a3, a4, by omega, i2, ?_⟩
        rw [← i1, sd, dif_neg (by omega)]
      · rename_i hc
        have e0 : ((ps' : Int) - 1).fdiv (2 ^ Int.toNat 1) = (((ps' - 1) / 2 : Nat) : Int) := by
          show ((ps' : Int) - 1).fdiv 2 = _
          rw [Int.fdiv_eq_ediv_of_nonneg _ (by omega)]
          omega
        have hp' : (ps' - 1) / 2 < l'.length := by omega
        obtain ⟨y, e1⟩ : ∃ y, l'[(ps' - 1) / 2]? = some y := ⟨_, List.getElem?_eq_getElem hp'⟩
        have ey : l'.getD ((ps' - 1) / 2) .none = y := by rw [List.getD_eq_getElem?_getD, e1]; rfl
        have hy : y ∈ l := i4 _ (List.mem_of_getElem? e1)
        iterate 9 walk1
        rw [e0]
        iterate 6 walk1
        refine item_atN (News.isList (by assumption) (by k_mem)) (by omega) e1 ?_
        iterate 6 walk1
        rename_i F₅ N₅
        refine lt_key ((hkg x (List.mem_of_getElem? h2)).keeps F₅.keep) ((hkg y hy).keeps F₅.keep) (by show A.units + 3 < cLine; omega) ?_
        iterate 2 walk1
        · rename_i hlt'
          iterate 6 walk1
          refine set_atN F₅ N₅ (by k_upd) (by omega) (by omega) ?_
          intro h₆ F₆ N₆
          iterate 6 walk1
          rename_i h₇ F₇ N₇
          refine ⟨_, _, _, _, (ps' - 1) / 2, rfl, F₇, N₇, by omega, l'.set ps' y, _, rfl, a1, a2, a3, rfl, ?_, ?_, ?_, ?_⟩
          · rw [← i1]
            conv => rhs; rw [sd]
            rw [dif_pos (by omega), ey, if_pos hlt']
          · simpa using i2
          · omega
          · intro v hv
            rcases List.mem_or_eq_of_mem_set hv with hv | rfl
            · exact i4 v hv
            · exact hy
        · rename_i hlt'
          iterate 4 walk1
          refine ⟨rfl, l', ps', tp', _, _, _, rfl, F₅, N₅, a1, a3, a4, by omega, i2, ?_⟩
          rw [← i1, sd, dif_pos (by omega), ey, if_neg (by rw [hlt']; exact Bool.false_ne_true)]
    · exact fun _ _ x => x.elim
  · rintro f s₂ ⟨rfl, l', ps', tp', h', tk, m', rfl, F', N', e1, e2, e3, i1, i2, i3⟩
    dsimp only
    walk1
    walk1
    walk1
    walk1
    walk1
    refine set_atN F' N' (by k_upd) (by omega) (by omega) ?_
    intro h₃ F₃ N₃
    dsimp only
    walk1
    refine h h₃ tk (fun b o e hb => F₃.keep b o (hs' b o e (by simpa using hb))) ?_
    have := N₃.get (a := D) (by k_mem)
    rw [this, ← i3]
end Mine
end

/-! part H3 -/
section
open PySem PySem.W PyProof.Rows PySem.Calls
set_option maxRecDepth 100000
namespace Mine

theorem fr_ext {g h h' : Heap} {L D : Addr} {m : Str → Option Value} (F : Fr g L h m) (hD : g.get? D = none) (hL : D ≠ L)
    (hk : ∀ b o, h.get? b = some o → b ≠ D → h'.get? b = some o) : Fr g L h' m := by
  obtain ⟨oL, es, ep, hoL, r⟩ := F.ns
  refine ⟨⟨oL, es, ep, hk _ _ hoL (Ne.symm hL), r⟩, fun b o e => hk b o (F.keep b o e) fun q => ?_, F.above⟩
  rw [q, hD] at e; cases e
theorem news_ext {g h h' : Heap} {L D : Addr} {o o' : Obj} {rest : List (Addr × Obj)} (N : News g L h ((D, o) :: rest)) (hr : ∀ p ∈ rest, p.1 ≠ D)
    (hk : ∀ b o, h.get? b = some o → b ≠ D → h'.get? b = some o) (ho : h'.get? D = some o') : News g L h' ((D, o') :: rest) := by
  intro p hp
  rcases List.mem_cons.mp hp with rfl | hp
  · exact ⟨ho, (N _ (.head _)).2⟩
  · exact ⟨hk _ _ (N _ (.tail _ hp)).1 (hr p hp), (N _ (.tail _ hp)).2⟩

/-- the child that goes up -/
noncomputable def child (kf : Value → Int × Int) (l : List Value) (ps : Nat) : Nat :=
  if 2 * ps + 1 + 1 < l.length ∧ klt (kf (l.getD (2 * ps + 1) .none)) (kf (l.getD (2 * ps + 1 + 1) .none)) = false then 2 * ps + 1 + 1 else 2 * ps + 1
theorem child_gt (kf : Value → Int × Int) (l : List Value) (ps : Nat) : ps < child kf l ps := by
  unfold child; split <;> omega
theorem child_lt {kf : Value → Int × Int} {l : List Value} {ps : Nat} (h : 2 * ps + 1 < l.length) : child kf l ps < l.length := by
  unfold child; split <;> omega
/-- _siftup's way down -/
noncomputable def su1 (kf : Value → Int × Int) (l : List Value) (ps : Nat) : List Value × Nat :=
  if _h : 2 * ps + 1 < l.length then su1 kf (l.set ps (l.getD (child kf l ps) .none)) (child kf l ps) else (l, ps)
termination_by l.length - ps
decreasing_by
  have := child_gt kf l ps
  rw [List.length_set]; omega
noncomputable def su (kf : Value → Int × Int) (l : List Value) (ps : Nat) : List Value :=
  sd kf (l.getD ps .none) ps ((su1 kf l ps).1.set (su1 kf l ps).2 (l.getD ps .none)) (su1 kf l ps).2

local macro_rules | `(tactic| walk_at "eval Name") => `(tactic| (k_here; k_dflt (refine' ld ?k1 ?k2 ?_; (case k1 => k_asm); (case k2 => assumption); k_whole)))

theorem getD_of {l : List Value} {k : Nat} {v : Value} (h : l[k]? = some v) : l.getD k .none = v := by rw [List.getD_eq_getElem?_getD, h]; rfl
theorem some_of {l : List Value} {k : Nat} (h : k < l.length) : l[k]? = some (l.getD k .none) := by
  rw [List.getD_eq_getElem?_getD, List.getElem?_eq_getElem h]; rfl

set_option maxHeartbeats 4000000 in
theorem siftup_call {w : World} {A : Around} {s : Shared} {base : Heap} {mg mb : Str → Option Value} {R : Result → Shared → Prop} {D : Addr} {l : List Value} {n : Nat} {kf : Value → Int × Int} {ps : Nat} {tp : Tok}
    (G : Base w mg mb base) (st : ∀ b o, base.get? b = some o → s.heap.get? b = some o) (hD : base.get? D = none) (hd : s.heap.get? D = some (listOf l.toArray n))
    (hk : ∀ v ∈ l, Key s.heap v (kf v)) (hdep : A.depth + 20 < recursionLimit) (hu : A.units + 40 < cLine) 
    (hlt : ps < l.length) (h3 : l.length < 1000)
    (h : ∀ h' tk, (∀ b o, s.heap.get? b = some o → b ≠ D → h'.get? b = some o) → h'.get? D = some (listOf (su kf l ps).toArray n) → R (.ok (.ret .none)) { s with heap := h', toks := tk }) :
    codeAny (model PySem.Challenge.rw_mg0041_01.row.prog w) A (.call (.ref 42) ⟨[.ref D, .int ps tp], []⟩) R s := by
  refine' call_own (news := [(D, listOf l.toArray n)]) G st ?hn ?ho ?hcd ?hroom ?hbind ?hloc ?_ ?c2 ?c3 ?c4 ?c5
  case ho => k_is
  case hcd => k_is
  case hroom => omega
  case hbind => exact BindsTo.of_eq rfl
  case hloc => exact locs rfl
  case c2 => rfl
  case c3 => rfl
  case c4 => rfl
  case c5 => decide
  case hn => intro p hp; cases List.mem_singleton.mp hp; exact ⟨hd, hD⟩
  intro g L h₁ G' hb' hs' hd' F N
  have KX := G'.K
  have T := G'.T
  have hkg : ∀ v ∈ l, Key g v (kf v) := by
    intro v hv
    obtain ⟨a, t1, t2, n', e, ho⟩ := hk v hv
    refine ⟨a, t1, t2, n', e, hs' a _ ho ?_⟩
    intro q
    rw [List.map_cons, List.map_nil] at q
    have := List.mem_singleton.mp q
    subst this
    rw [hd] at ho; exact (list_not_pair ho).elim
  have hDg : g.get? D = none := hd' (D, listOf l.toArray n) (List.Mem.head _)
  obtain ⟨x, h2⟩ : ∃ x, l[ps]? = some x := ⟨_, List.getElem?_eq_getElem hlt⟩
  have ex := getD_of h2
  try dsimp only
  iterate 8 walk1
  refine len_at (News.isList N (by k_mem)) (by omega) ?_
  iterate 11 walk1
  refine item_atN (News.isList (by assumption) (by k_mem)) (by omega) h2 ?_
  iterate 10 walk1
  rw [show (2 * (ps : Int) + 1) = ((2 * ps + 1 : Nat) : Int) by omega]
  iterate 2 walk1
  rename_i h₂ F₂ N₂
  refine While_inv2 (fun μ m' nw => ∃ (l' : List Value) (k : Nat), nw = [(D, listOf l'.toArray n)] ∧ m' (Str.ofString "heap") = some (.ref D) ∧ (∃ t3 : Tok, m' (Str.ofString "endpos") = some (.int l.length t3)) ∧ m' (Str.ofString "startpos") = some (.int ps tp) ∧ m' (Str.ofString "newitem") = some x ∧ (∃ t1 : Tok, m' (Str.ofString "pos") = some (.int (k : Nat) t1)) ∧ (∃ t2 : Tok, m' (Str.ofString "childpos") = some (.int (2 * k + 1 : Nat) t2)) ∧
        μ = l.length - k ∧ su1 kf l' k = su1 kf l ps ∧ l'.length = l.length ∧ k < l.length ∧ ∀ v ∈ l', v ∈ l) (n₀ := l.length - ps) F₂ N₂ ⟨l, ps, rfl, rfl, ⟨_, rfl⟩, rfl, rfl, ⟨_, rfl⟩, ⟨_, rfl⟩, rfl, rfl, rfl, hlt, fun _ h => h⟩ ?_ (fun _ _ x => x.elim)
  rintro μ m' nw h' tk F' N' ⟨l', k, rfl, a1, ⟨t3, a2⟩, a3, a4, ⟨t1, a5⟩, ⟨t2, a6⟩, rfl, i1, i2, i3, i4⟩
  clear F₂ N₂
  iterate 6 walk1
  · rename_i hc
    have hc' : 2 * k + 1 < l.length := by omega
    iterate 6 walk1
    rw [show (((2 * k + 1 : Nat) : Int) + 1) = ((2 * k + 1 + 1 : Nat) : Int) by omega]
    iterate 2 walk1
    rename_i h₃ F₃ N₃
    refine wpAny_mono (Q := fun f s₂ => f = .next ∧ ∃ (h' : Heap) (tk : Nat) (m' : Str → Option Value), s₂ = { s with heap := h', toks := tk } ∧
      Fr g L h' m' ∧ News g L h' [(D, listOf l'.toArray n)] ∧ m' (Str.ofString "heap") = some (.ref D) ∧ m' (Str.ofString "endpos") = some (.int l.length t3) ∧ m' (Str.ofString "startpos") = some (.int ps tp) ∧ m' (Str.ofString "newitem") = some x ∧ m' (Str.ofString "pos") = some (.int (k : Nat) t1) ∧ ∃ t2 : Tok, m' (Str.ofString "childpos") = some (.int (child kf l' k : Nat) t2)) (E := fun _ _ => False) ?_ ?_ (fun _ _ x => x)
    · iterate 8 walk1
      · rename_i hr
        iterate 6 walk1
        refine item_atN (News.isList (by assumption) (by k_mem)) (by omega) (some_of (by omega)) ?_
        iterate 3 walk1
        refine item_atN (News.isList (by assumption) (by k_mem)) (by omega) (some_of (by omega)) ?_
        refine lt_key ((hkg _ (i4 _ (List.mem_of_getElem? (some_of (by omega))))).keeps F₃.keep) ((hkg _ (i4 _ (List.mem_of_getElem? (some_of (by omega))))).keeps F₃.keep) (by show A.units + 3 < cLine; omega) ?_
        iterate 3 walk1
        · rename_i hv
          iterate 3 walk1
          refine ⟨rfl, _, _, _, rfl, F₃, N₃, a1, a2, a3, a4, a5, ?_⟩
          have e : child kf l' k = 2 * k + 1 := by unfold child; rw [if_neg (by rw [hv]; simp)]
          rw [e]; exact ⟨t2, a6⟩
        · rename_i hv
          iterate 8 walk1
          rename_i h₄ F₄ N₄
          refine ⟨rfl, _, _, _, rfl, F₄, N₄, a1, a2, a3, a4, a5, ?_⟩
          have e : child kf l' k = 2 * k + 1 + 1 := by unfold child; rw [if_pos ⟨by omega, hv⟩]
          rw [e]; exact ⟨_, rfl⟩
      · rename_i hr
        iterate 3 walk1
        refine ⟨rfl, _, _, _, rfl, F₃, N₃, a1, a2, a3, a4, a5, ?_⟩
        have e : child kf l' k = 2 * k + 1 := by unfold child; rw [if_neg (by omega)]
        rw [e]; exact ⟨t2, a6⟩
    · rintro f s₂ ⟨rfl, h₄, tk₄, m₄, rfl, F₄, N₄, b1, b2, b3, b4, b5, t4, b6⟩
      clear F₃ N₃
      dsimp only
      iterate 5 walk1
      refine item_atN (News.isList (by assumption) (by k_mem)) (by have := child_lt (kf := kf) (l := l') (ps := k) (by omega); omega) (some_of (child_lt (by omega))) ?_
      iterate 2 walk1
      refine set_atN F₄ N₄ (by k_upd) (by omega) (by omega) ?_
      intro h₅ F₅ N₅
      iterate 13 walk1
      rw [show (2 * (child kf l' k : Int) + 1) = ((2 * child kf l' k + 1 : Nat) : Int) by omega]
      iterate 2 walk1
      rename_i h₆ F₆ N₆
      have c1 := child_gt kf l' k
      have c2 := child_lt (kf := kf) (l := l') (ps := k) (by omega)
      refine ⟨_, _, _, _, l.length - child kf l' k, rfl, F₆, N₆, by omega, l'.set k (l'.getD (child kf l' k) .none), child kf l' k, rfl, b1, ⟨_, b2⟩, b3, b4, ⟨_, rfl⟩, ⟨_, rfl⟩, rfl, ?_, ?_, ?_, ?_⟩
      · rw [← i1]
        conv => rhs; rw [su1]
        rw [dif_pos (by omega)]
      · simpa using i2
      · omega
      · intro v hv
        rcases List.mem_or_eq_of_mem_set hv with hv | rfl
        · exact i4 v hv
        · exact i4 _ (List.mem_of_getElem? (some_of c2))
  · rename_i hc
    iterate 5 walk1
    refine set_atN F' N' (by k_upd) (by omega) (by omega) ?_
    intro h₅ F₅ N₅
    iterate 12 walk1
    refine ⟨KX.keeps F₅.keep, wpAny_call (siftdown_call (l := l'.set k x) (n := n) (kf := kf) (x := x) G' F₅.keep hDg (N₅.get (by k_mem)) ?_ (by show A.depth + 1 + 10 < recursionLimit; omega) (by show A.units + 3 + 20 < cLine; omega) (List.getElem?_set_self (by omega)) (by rw [List.length_set]; omega) ?_)⟩
    · intro v hv
      refine (hkg v ?_).keeps F₅.keep
      rcases List.mem_or_eq_of_mem_set hv with hv | rfl
      · exact i4 v hv
      · exact List.mem_of_getElem? h2
    · intro h₆ tk₆ k1 k2
      dsimp only
      have F₆ := fr_ext F₅ hDg (N₅ (D, listOf (l'.set k x).toArray n) (List.Mem.head _)).2.1 k1
      iterate 1 walk1
      refine h h₆ tk₆ (fun b o e hb => F₆.keep b o (hs' b o e (by simpa using hb))) ?_
      rw [k2]
      unfold su
      have e : su1 kf l' k = (l', k) := by rw [su1, dif_neg (by omega)]
      rw [← i1, e, ex]
end Mine
end

/-! part Loop -/
section
open PySem PySem.W PyProof.Rows PySem.Calls
set_option maxRecDepth 100000
namespace Mine

abbrev rIter (x left step : Int) : Obj := { cls := .type "range_iterator", dict := none, data := .fields #[rawInt x, rawInt left, rawInt step], slots := #[] }
noncomputable def NoIter (others : List Addr) (news : List (Addr × Obj)) : Prop := ∀ p ∈ news, p.2.cls ≠ .type "range_iterator" ∨ p.1 ∈ others

section
variable {prog : Program} {w : World} {A : Around} {s : Shared} {h₀ : Heap} {L : Addr} {m : Str → Option Value} {news : List (Addr × Obj)} {env : Env} {R : Result → Shared → Prop}

/-- a for over a range's iterator, by an invariant over the frame's map and the ledger -/
theorem for_range {x : Str} {px : Pos} {body : List Stmt} {I : Addr} {a c : Int} {n : Nat} (v : Nat → Int) (v0 : v 0 = a) (vs : ∀ i, v (i + 1) = v i + c)
    (J : Nat → (Str → Option Value) → List (Addr × Obj) → Prop) (others : List Addr) (hI : I ∉ others) (hJ : ∀ i m nw, J i m nw → NoIter others nw)
    (hh : A.handled = none) (hx : env.kindOf x = some .local) (hL : env.locals = L)
    (hp : (env.scope.kind == .class || (env.scope.kind == .module && env.locals != env.globals)) = false)
    (F : Fr h₀ L s.heap m) (N : News h₀ L s.heap (news ++ [(I, rIter a n c)])) (h0 : J 0 m news)
    (turn : ∀ i m₁ news₁ h₁ tk₁ t, i < n → Fr h₀ L h₁ (fun y => if y = x then some (.int (v i) t) else m₁ y) → News h₀ L h₁ (news₁ ++ [(I, rIter (v (i + 1)) ((n : Int) - i - 1) c)]) → J i m₁ news₁ →
      wpAny (model prog w) A (execs body env) (fun f s₃ => f = .next ∧ ∃ h' tk m₂ news₂, s₃ = { s with heap := h', toks := tk } ∧ Fr h₀ L h' m₂ ∧ News h₀ L h' (news₂ ++ [(I, rIter (v (i + 1)) ((n : Int) - i - 1) c)]) ∧ J (i + 1) m₂ news₂) (fun _ _ => False) { s with heap := h₁, toks := tk₁ })
    (done : ∀ m₁ news₁ h₁ tk₁, Fr h₀ L h₁ m₁ → News h₀ L h₁ news₁ → J n m₁ news₁ → R (.ok .next) { s with heap := h₁, toks := tk₁ }) :
    codeAny (model prog w) A (.forLoop (.Name x px) (.ref I) body [] env) R s := by
  subst hL
  refine codeAny_forLoop (fun k s' => ∃ i m₁ news₁ h₁ tk₁, k = n - i ∧ i ≤ n ∧ s' = { s with heap := h₁, toks := tk₁ } ∧ Fr h₀ env.locals h₁ m₁ ∧ News h₀ env.locals h₁ (news₁ ++ [(I, rIter (v i) ((n : Int) - i) c)]) ∧ J i m₁ news₁) ?_ n
    ⟨0, m, news, s.heap, s.toks, rfl, Nat.zero_le _, rfl, F, by simpa [v0] using N, h0⟩
  rintro k s' ⟨i, m₁, news₁, h₁, tk₁, rfl, hi, rfl, F₁, N₁, J₁⟩
  have zI := N₁ (I, rIter (v i) ((n : Int) - i) c) (List.mem_append.mpr (.inr (.head _)))
  have ne : ∀ p ∈ news₁, p.1 ≠ I := fun p hp q => by
    have e1 := (N₁ p (List.mem_append.mpr (.inl hp))).1
    rw [q, zI.1] at e1
    rcases hJ _ _ _ J₁ p hp with c | c
    · exact c (by rw [← Option.some.inj e1])
    · exact hI (q ▸ c)
  by_cases hlt : i < n
  · refine wpAny_pyNext_range_item (s := { s with heap := h₁, toks := tk₁ }) zI.1 (by omega) fun h₂ it₂ sb₂ => ?_
    have F₂ : Fr h₀ env.locals h₂ m₁ := F₁.change sb₂ zI.2.1 zI.2.2
    have N₂ : News h₀ env.locals h₂ (news₁ ++ [(I, rIter (v (i + 1)) ((n : Int) - i - 1) c)]) := by
      rw [vs]
      intro p hp
      rcases List.mem_append.mp hp with hp | hp
      · have z := N₁ p (List.mem_append.mpr (.inl hp))
        exact ⟨(sb₂.2 _ (ne p hp)).trans z.1, z.2⟩
      · cases List.mem_singleton.mp hp
        exact ⟨it₂, zI.2⟩
    dsimp only
    refine wpAny_assign_Name (wpAny_storeName_local hx F₂.ns (fun h₃ hn₃ sb₃ => ?_) hp)
    refine wpAny_mono (turn i m₁ news₁ h₃ (tk₁ + 1 + 1) tk₁ hlt (F₂.set hn₃ sb₃) (N₂.set sb₃) J₁) (fun f s₃ p => ?_) fun _ _ e => e.elim
    obtain ⟨rfl, h', tk, m₂, news₂, rfl, F', N', J'⟩ := p
    refine ⟨n - (i + 1), by omega, i + 1, m₂, news₂, h', tk, rfl, hlt, rfl, F', ?_, J'⟩
    have e2 : ((n : Int) - i - 1) = (n : Int) - ((i + 1 : Nat) : Int) := by omega
    rw [e2] at N'
    exact N'
  · have e : i = n := by omega
    subst e
    refine wpAny_pyNext_range_end (s := { s with heap := h₁, toks := tk₁ }) hh zI.1 (by omega) fun h₂ eb₂ => ?_
    dsimp only
    refine wpAny_execs_nil (done m₁ news₁ h₂ tk₁ (fr_ext F₁ zI.2.2 zI.2.1 (fun b o e q => eb₂ b o q e)) (fun p hp => ?_) J₁)
    have z := N₁ p (List.mem_append.mpr (.inl hp))
    exact ⟨eb₂ _ _ (ne p hp) z.1, z.2⟩
end
end Mine
end

/-! part Rev -/
section
open PySem PySem.W PyProof.Rows PySem.Calls
set_option maxRecDepth 100000
namespace Mine
section
variable {prog : Program} {w : World} {A : Around} {E : Value → Shared → Prop} {s : Shared}

theorem meets_range_reversed (r : Addr) (k : Int) (t u v : Tok) (h0 : 0 ≤ k) (h1 : k < 2 ^ 40) :
    Meets (Builtin.«range.__reversed__» ⟨[.ref r], []⟩) (fun _ R s => s.heap.get? r = some { cls := .type "range", dict := none, data := .fields #[.int 0 t, .int k u, .int 1 v], slots := #[] } ∧
      R (.ok (.ret (Value.ref s.heap.objs.size))) { s with heap := s.heap.push (rIter (k - 1) k (-1)) }) :=
  .of_wp fun prog w A R s h => by
    obtain ⟨hp, g, d, tk, os⟩ := s; obtain ⟨hl, h⟩ := h
    have e : Builtin.Range.rangeSize 0 k 1 = k := by rw [rangeSize_one]; split <;> omega
    have hs : (Builtin.Range.rangeFitsLong 0 && Builtin.Range.rangeFitsLong k && Builtin.Range.rangeFitsLong 1 && Builtin.Range.rangeFitsLong (-1) && Builtin.Range.rangeFitsLong (0 - 1) && Builtin.Range.rangeFitsLong k) = true := by
      unfold Builtin.Range.rangeFitsLong
      simp
      omega
    unfold Builtin.«range.__reversed__»
    wp_walk
    simp only [e, hs]
    wp_walk
    refine ⟨_, rfl, ?_⟩
    rw [show 0 + (k - 1) * 1 = k - 1 by omega]
    simp only [if_true]
    exact h

theorem call_range_reversed {r : Addr} {k : Int} {t u v : Tok} {Q : Value → Shared → Prop} (hr : IsRange s.heap r 0 k 1 t u v) (h0 : 0 ≤ k) (h1 : k < 2 ^ 40)
    (h : Q (.ref s.heap.objs.size) { s with heap := s.heap.push (rIter (k - 1) k (-1)) }) : wpAny (model prog w) A (call (.builtin "range.__reversed__") [.ref r]) Q E s :=
  call_meets F.slot_range_reversed ⟨_, hr, rfl⟩ F.entry_range_reversed (F.args_range_reversed_1 _) (meets_range_reversed r k t u v h0 h1) ⟨hr, h⟩

theorem sub_rit_reversed : isSubtype (.type "range_iterator") (.type "reversed") = pure false := by rw [isSubtype_type]; kernel_rfl

theorem reversed_new_range {r : Addr} {k : Int} {t u v : Tok} {Q₁ : Value → Shared → Prop} (hr : IsRange s.heap r 0 k 1 t u v) (h0 : 0 ≤ k) (h1 : k < 2 ^ 40)
    (h : Q₁ (.ref s.heap.objs.size) { s with heap := s.heap.push (rIter (k - 1) k (-1)) }) :
    codeAny (model prog w) A (.call (.builtin "reversed.__new__") ⟨[.type "reversed", .ref r], []⟩) (wants Q₁ E) s := by
  have hT : s.TypeIs (.ref r) "range" := ⟨_, hr, rfl⟩
  refine codeAny_of_tree ?_
  show wpAny _ A.in1 (do checkBuiltinCall "reversed.__new__" ⟨[.type "reversed", .ref r], []⟩; again (.builtin "reversed.__new__" ⟨[.type "reversed", .ref r], []⟩)) _ _ s
  refine wpAny_bind (wpAny_of_eq (F.newCall_reversed_1 _) (wpAny_pure ⟨plainId_quiet F.plain_reversed_new _, codeAny_builtin F.entry_reversed_new ?_⟩))
  rw [Around.under_plainId F.plain_reversed_new _]
  unfold Builtin.«reversed.__new__»
  refine wpAny_bind (wpAny_of_eq (newClass_reversed _) ?_)
  try dsimp only
  refine wpAny_bind (wpAny_of_eq (a := ()) (by first | rfl | kernel_rfl) ?_)
  refine wpAny_bind (wpAny_of_eq (a := ()) (by first | rfl | kernel_rfl) ?_)
  try dsimp only
  refine wpAny_bind (wpAny_specialOf hT F.slot_range_reversed.lookup ?_)
  try dsimp only
  refine wpAny_bind (wpAny_of_eq (F.slot_range_reversed.bind _) ?_)
  try dsimp only
  rw [if_neg (show ¬ ((Value.builtin "range.__reversed__" == Value.none) = true) from Bool.false_ne_true)]
  refine wpAny_bind (wpAny_rule ?_)
  refine wpAny_bind (m := runValue (.call (.builtin "range.__reversed__") ⟨[.ref r], []⟩)) (show wpAny _ _ (call (.builtin "range.__reversed__") [.ref r]) _ _ _ from call_range_reversed hr h0 h1 ?_)
  exact wpAny_pure h

theorem call_reversed_range {r : Addr} {k : Int} {t u v : Tok} {Q : Value → Shared → Prop} (hr : IsRange s.heap r 0 k 1 t u v) (h0 : 0 ≤ k) (h1 : k < 2 ^ 40)
    (h : Q (.ref s.heap.objs.size) { s with heap := s.heap.push (rIter (k - 1) k (-1)) }) : wpAny (model prog w) A (call (.type "reversed") [.ref r]) Q E s := by
  refine callType_other (U := "range_iterator") (Q₁ := fun obj s₁ => obj = .ref s.heap.objs.size ∧ s₁ = { s with heap := s.heap.push (rIter (k - 1) k (-1)) }) (by decide +kernel) F.create_reversed ⟨_, _, F.mro_reversed⟩ F.made_reversed sub_rit_reversed (F.typeCall_reversed_1 _) (reversed_new_range hr h0 h1 ⟨rfl, rfl⟩) ?_
  rintro obj s₁ ⟨rfl, rfl⟩
  exact ⟨⟨_, Heap.get?_push_size _ rfl, rfl⟩, h⟩

/-- a range made, onto the ledger -/
theorem range1_K {h₀ : Heap} {L : Addr} {m : Str → Option Value} {news : List (Addr × Obj)} {k : Int} {t : Tok} {Q : Value → Shared → Prop} (F : Fr h₀ L s.heap m) (N : News h₀ L s.heap news)
    (h : ∀ r u v h' tk, Fr h₀ L h' m → News h₀ L h' news → IsRange h' r 0 k 1 u t v → Q (.ref r) { s with heap := h', toks := tk }) : wpAny (model prog w) A (call (.type "range") [.int k t]) Q E s := by
  refine call_range_1 ?_
  exact h _ _ _ _ _ (F.push _) (fun p hp => ⟨Heap.get?_push_of_some _ (N p hp).1, (N p hp).2⟩) (IsRange.new ..)
theorem range2_K {h₀ : Heap} {L : Addr} {m : Str → Option Value} {news : List (Addr × Obj)} {a k : Int} {t u : Tok} {Q : Value → Shared → Prop} (F : Fr h₀ L s.heap m) (N : News h₀ L s.heap news)
    (h : ∀ r v h' tk, Fr h₀ L h' m → News h₀ L h' news → IsRange h' r a k 1 t u v → Q (.ref r) { s with heap := h', toks := tk }) : wpAny (model prog w) A (call (.type "range") [.int a t, .int k u]) Q E s := by
  refine call_range_2 ?_
  exact h _ _ _ _ (F.push _) (fun p hp => ⟨Heap.get?_push_of_some _ (N p hp).1, (N p hp).2⟩) (IsRange.new ..)

/-- reversed(range(k)), its iterator onto the ledger's end -/
theorem reversed_K {h₀ : Heap} {L : Addr} {m : Str → Option Value} {news : List (Addr × Obj)} {r : Addr} {k : Int} {t u v : Tok} {Q : Value → Shared → Prop} (F : Fr h₀ L s.heap m) (N : News h₀ L s.heap news)
    (hr : IsRange s.heap r 0 k 1 t u v) (h0 : 0 ≤ k) (h1 : k < 2 ^ 40)
    (h : ∀ I h', Fr h₀ L h' m → News h₀ L h' (news ++ [(I, rIter (k - 1) k (-1))]) → Q (.ref I) { s with heap := h' }) : wpAny (model prog w) A (call (.type "reversed") [.ref r]) Q E s := by
  refine call_reversed_range hr h0 h1 (h _ _ (F.push _) ?_)
  intro p hp
  refine N.push F (rIter (k - 1) k (-1)) rfl p ?_
  rcases List.mem_append.mp hp with q | q
  · exact .tail _ q
  · cases List.mem_singleton.mp q; exact .head _
/-- iter(range(a, b)), its iterator onto the ledger's end -/
theorem iter_K {h₀ : Heap} {L : Addr} {m : Str → Option Value} {news : List (Addr × Obj)} {r : Addr} {a b : Int} {n : Nat} {t u v : Tok} {Q : Value → Shared → Prop} (F : Fr h₀ L s.heap m) (N : News h₀ L s.heap news)
    (hr : IsRange s.heap r a b 1 t u v) (h0 : -(2 ^ 40) ≤ a) (h1 : a < 2 ^ 40) (h2 : -(2 ^ 40) ≤ b) (h3 : b < 2 ^ 40) (hn : n = (b - a).toNat)
    (h : ∀ I h', Fr h₀ L h' m → News h₀ L h' (news ++ [(I, rIter a n 1)]) → (∀ p ∈ news, p.1 ≠ I) → Q (.ref I) { s with heap := h' }) : wpAny (model prog w) A (pyIter (.ref r)) Q E s := by
  have e : Builtin.Range.rangeSize a b 1 = (n : Int) := by rw [rangeSize_one]; split <;> omega
  refine wpAny_pyIter_range hr (small_one (by omega) (by omega) (by omega) (by omega)) (h _ _ (F.push _) ?_ fun p hp => Nat.ne_of_lt (Heap.lt_size (N p hp).1))
  rw [e]
  intro p hp
  refine N.push F (rIter a n 1) rfl p ?_
  rcases List.mem_append.mp hp with q | q
  · exact .tail _ q
  · cases List.mem_singleton.mp q; exact .head _
end
end Mine
end

/-! part Plain1 -/
section
open PySem PySem.W PyProof.Rows PySem.Calls
namespace Mine

theorem getD_mem {l : List Value} {k : Nat} (h : k < l.length) : l.getD k .none ∈ l := List.mem_of_getElem? (some_of h)

theorem sd_length (kf : Value → Int × Int) (x : Value) (sp : Nat) (l : List Value) (ps : Nat) : (sd kf x sp l ps).length = l.length := by
  fun_induction sd kf x sp l ps with
  | case1 l ps h hc ih => rw [ih, List.length_set]
  | case2 l ps h hc => rw [List.length_set]
  | case3 l ps h => rw [List.length_set]
theorem sd_mem (kf : Value → Int × Int) (x : Value) (sp : Nat) (l : List Value) (ps : Nat) : ps < l.length → ∀ v ∈ sd kf x sp l ps, v ∈ l ∨ v = x := by
  fun_induction sd kf x sp l ps with
  | case1 l ps h hc ih =>
    intro hp v hv
    rcases ih (by rw [List.length_set]; omega) v hv with q | q
    · rcases List.mem_or_eq_of_mem_set q with q | q
      · exact .inl q
      · rw [q]; exact .inl (getD_mem (by omega))
    · exact .inr q
  | case2 l ps h hc => intro hp v hv; exact List.mem_or_eq_of_mem_set hv
  | case3 l ps h => intro hp v hv; exact List.mem_or_eq_of_mem_set hv
theorem su1_length (kf : Value → Int × Int) (l : List Value) (ps : Nat) : (su1 kf l ps).1.length = l.length := by
  fun_induction su1 kf l ps with
  | case1 l ps h ih => rw [ih, List.length_set]
  | case2 l ps h => rfl
theorem su1_lt (kf : Value → Int × Int) (l : List Value) (ps : Nat) : ps < l.length → (su1 kf l ps).2 < l.length := by
  fun_induction su1 kf l ps with
  | case1 l ps h ih =>
    intro hp
    have := ih (by rw [List.length_set]; exact child_lt h)
    rwa [List.length_set] at this
  | case2 l ps h => intro hp; exact hp
theorem su1_mem (kf : Value → Int × Int) (l : List Value) (ps : Nat) : ∀ v ∈ (su1 kf l ps).1, v ∈ l := by
  fun_induction su1 kf l ps with
  | case1 l ps h ih =>
    intro v hv
    rcases List.mem_or_eq_of_mem_set (ih v hv) with q | q
    · exact q
    · rw [q]; exact getD_mem (child_lt h)
  | case2 l ps h => intro v hv; exact hv
theorem su_length (kf : Value → Int × Int) (l : List Value) (ps : Nat) : (su kf l ps).length = l.length := by
  unfold su; rw [sd_length, List.length_set, su1_length]
theorem su_mem (kf : Value → Int × Int) (l : List Value) (ps : Nat) (h : ps < l.length) : ∀ v ∈ su kf l ps, v ∈ l := by
  intro v hv
  unfold su at hv
  have h2 := su1_lt kf l ps h
  rcases sd_mem _ _ _ _ _ (by rw [List.length_set, su1_length]; exact h2) v hv with q | q
  · rcases List.mem_or_eq_of_mem_set q with q | q
    · exact su1_mem _ _ _ v q
    · rw [q]; exact getD_mem h
  · rw [q]; exact getD_mem h

/-- heapify's turns: i of them -/
noncomputable def hfGo (kf : Value → Int × Int) (l : List Value) (k : Nat) : Nat → List Value
  | 0 => l
  | i + 1 => su kf (hfGo kf l k i) (k - 1 - i)
noncomputable def hf (kf : Value → Int × Int) (l : List Value) : List Value := hfGo kf l (l.length / 2) (l.length / 2)
theorem hfGo_length (kf : Value → Int × Int) (l : List Value) (k : Nat) : ∀ i, (hfGo kf l k i).length = l.length
  | 0 => rfl
  | i + 1 => by rw [hfGo, su_length, hfGo_length]
theorem hfGo_mem (kf : Value → Int × Int) (l : List Value) (k : Nat) (h : k ≤ l.length) (h0 : 0 < k): ∀ i, ∀ v ∈ hfGo kf l k i, v ∈ l
  | 0 => fun _ hv => hv
  | i + 1 => fun v hv => by
    rw [hfGo] at hv
    exact hfGo_mem kf l k h h0 i v (su_mem _ _ _ (by rw [hfGo_length]; omega) v hv)
end Mine
end

/-! part H4 -/
section
open PySem PySem.W PyProof.Rows PySem.Calls
set_option maxRecDepth 100000
namespace Mine

local macro_rules | `(tactic| walk_at "eval Name") => `(tactic| (k_here; k_dflt (refine' ld ?k1 ?k2 ?_; (case k1 => k_asm); (case k2 => assumption); k_whole)))

set_option maxHeartbeats 4000000 in
theorem heapify_call {w : World} {A : Around} {s : Shared} {base : Heap} {mg mb : Str → Option Value} {R : Result → Shared → Prop} {D : Addr} {l : List Value} {n : Nat} {kf : Value → Int × Int}
    (G : Base w mg mb base) (st : ∀ b o, base.get? b = some o → s.heap.get? b = some o) (hD : base.get? D = none) (hd : s.heap.get? D = some (listOf l.toArray n))
    (hk : ∀ v ∈ l, Key s.heap v (kf v)) (hh : A.handled = none) (hdep : A.depth + 30 < recursionLimit) (hu : A.units + 60 < cLine) 
    (h3 : l.length < 1000)
    (h : ∀ h' tk, (∀ b o, s.heap.get? b = some o → b ≠ D → h'.get? b = some o) → h'.get? D = some (listOf (hf kf l).toArray n) → R (.ok (.ret .none)) { s with heap := h', toks := tk }) :
    codeAny (model PySem.Challenge.rw_mg0041_01.row.prog w) A (.call (.ref 28) ⟨[.ref D], []⟩) R s := by
  refine' call_own (news := [(D, listOf l.toArray n)]) G st ?hn ?ho ?hcd ?hroom ?hbind ?hloc ?_ ?c2 ?c3 ?c4 ?c5
  case ho => k_is
  case hcd => k_is
  case hroom => omega
  case hbind => exact BindsTo.of_eq rfl
  case hloc => exact locs rfl
  case c2 => rfl
  case c3 => rfl
  case c4 => rfl
  case c5 => decide
  case hn => intro p hp; cases List.mem_singleton.mp hp; exact ⟨hd, hD⟩
  intro g L h₁ G' hb' hs' hd' F N
  have KX := G'.K
  have T := G'.T
  have hkg : ∀ v ∈ l, Key g v (kf v) := by
    intro v hv
    obtain ⟨a, t1, t2, n', e, ho⟩ := hk v hv
    refine ⟨a, t1, t2, n', e, hs' a _ ho ?_⟩
    intro q
    rw [List.map_cons, List.map_nil] at q
    have := List.mem_singleton.mp q
    subst this
    rw [hd] at ho; exact (list_not_pair ho).elim
  have hDg : g.get? D = none := hd' (D, listOf l.toArray n) (List.Mem.head _)
  try dsimp only
  iterate 8 walk1
  refine len_at (News.isList N (by k_mem)) (by omega) ?_
  iterate 3 walk1
  refine wpAny_For ?_
  iterate 12 walk1
  rw [show ((l.length : Int).fdiv 2) = ((l.length / 2 : Nat) : Int) by rw [Int.fdiv_eq_ediv_of_nonneg _ (by omega)]; omega]
  iterate 1 walk1
  rename_i F₂ N₂
  refine range1_K F₂ N₂ ?_
  intro r u1 v1 h₃ tk₃ F₃ N₃ hr
  iterate 1 walk1
  refine reversed_K F₃ N₃ hr (by omega) (by omega) ?_
  intro I h₄ F₄ N₄
  refine wpAny_pyIter_rangeiter (N₄.get (List.mem_append.mpr (.inr (.head _)))) ?_
  clear F₂ N₂ F₃ N₃
  refine for_range (L := L) (fun i => ((l.length / 2 : Nat) : Int) - 1 - i) (by simp) (by intro i; omega) (fun i m' nw => nw = [(D, listOf (hfGo kf l (l.length / 2) i).toArray n)] ∧ m' (Str.ofString "x") = some (.ref D)) [] (by simp) ?_ (by exact hh) rfl rfl rfl F₄ N₄ ⟨rfl, rfl⟩ ?_ ?_
  · rintro i m' nw ⟨rfl, -⟩ p hp
    cases List.mem_singleton.mp hp
    left; simp
  · rintro i m' nw h₅ tk₅ t₅ hi F₅ N₅ ⟨rfl, a1⟩
    have hne : D ≠ I := by
      intro q
      have e1 := N₅.get (a := D) (List.mem_append.mpr (.inl (.head _)))
      have e2 := N₅.get (a := I) (List.mem_append.mpr (.inr (.head _)))
      rw [q, e2] at e1
      have := congrArg (fun o => o.map Obj.cls) e1
      simp at this
    rw [show ((l.length / 2 : Nat) : Int) - 1 - (i : Int) = ((l.length / 2 - 1 - i : Nat) : Int) by omega] at F₅
    have hm := hfGo_mem kf l (l.length / 2) (by omega) (by omega) i
    have hl := hfGo_length kf l (l.length / 2) i
    iterate 10 walk1
    refine ⟨KX.keeps F₅.keep, wpAny_call (siftup_call (l := hfGo kf l (l.length / 2) i) (n := n) (kf := kf) G' F₅.keep hDg (N₅.get (.head _)) (fun v hv => (hkg v (hm v hv)).keeps F₅.keep) (by show A.depth + 1 + 20 < recursionLimit; omega) (by show A.units + 3 + 40 < cLine; omega) (by omega) (by omega) ?_)⟩
    intro h₆ tk₆ k1 k2
    dsimp only
    iterate 1 walk1
    have zD := N₅ (D, listOf (hfGo kf l (l.length / 2) i).toArray n) (.head _)
    refine ⟨rfl, h₆, tk₆, _, [(D, listOf (hfGo kf l (l.length / 2) (i + 1)).toArray n)], rfl, fr_ext F₅ hDg zD.2.1 k1, ?_, rfl, a1⟩
    refine news_ext N₅ ?_ k1 (by rw [k2]; rfl)
    intro p hp
    cases List.mem_singleton.mp hp
    exact Ne.symm hne
  · rintro m' nw h₅ tk₅ F₅ N₅ ⟨rfl, a1⟩
    dsimp only
    iterate 1 walk1
    refine h h₅ tk₅ (fun b o e hb => F₅.keep b o (hs' b o e (by simpa using hb))) ?_
    exact N₅.get (a := D) (.head _)
end Mine
end

/-! part H5 -/
section
open PySem PySem.W PyProof.Rows PySem.Calls
set_option maxRecDepth 100000
namespace Mine

theorem truthy_at {prog : Program} {w : World} {A : Around} {E : Value → Shared → Prop} {s : Shared} {D : Addr} {l : List Value} {Q : Bool → Shared → Prop} (hl : s.heap.IsList D l.toArray) (hfit : l.length < 2 ^ 62)
    (h : Q (decide (0 < l.length)) { s with toks := s.toks + 1 + 1 }) : wpAny (model prog w) A (truthy (.ref D)) Q E s :=
  wpAny_truthy_list hl (by simp only [List.size_toArray]; omega) (by
    have e : (!l.toArray.isEmpty) = decide (0 < l.length) := by
      cases l with
      | nil => rfl
      | cons _ _ => simp
    rw [e]; exact h)

/-- what heappop leaves of p ++ [y] -/
noncomputable def popL (kf : Value → Int × Int) (p : List Value) (y : Value) : List Value := if p.length = 0 then [] else su kf (p.set 0 y) 0

local macro_rules | `(tactic| walk_at "eval Name") => `(tactic| (k_here; k_dflt (refine' ld ?k1 ?k2 ?_; (case k1 => k_asm); (case k2 => assumption); k_whole)))

set_option maxHeartbeats 4000000 in
theorem heappop_call {w : World} {A : Around} {s : Shared} {base : Heap} {mg mb : Str → Option Value} {R : Result → Shared → Prop} {D : Addr} {p : List Value} {y : Value} {n : Nat} {kf : Value → Int × Int}
    (G : Base w mg mb base) (st : ∀ b o, base.get? b = some o → s.heap.get? b = some o) (hD : base.get? D = none) (hd : s.heap.get? D = some (listOf (p ++ [y]).toArray n))
    (hk : ∀ v ∈ p ++ [y], Key s.heap v (kf v)) (hdep : A.depth + 30 < recursionLimit) (hu : A.units + 60 < cLine) 
    (h3 : p.length < 900)
    (h : ∀ h' tk n', (∀ b o, s.heap.get? b = some o → b ≠ D → h'.get? b = some o) → h'.get? D = some (listOf (popL kf p y).toArray n') → R (.ok (.ret ((p ++ [y]).getD 0 .none))) { s with heap := h', toks := tk }) :
    codeAny (model PySem.Challenge.rw_mg0041_01.row.prog w) A (.call (.ref 21) ⟨[.ref D], []⟩) R s := by
  refine' call_own (news := [(D, listOf (p ++ [y]).toArray n)]) G st ?hn ?ho ?hcd ?hroom ?hbind ?hloc ?_ ?c2 ?c3 ?c4 ?c5
  case ho => k_is
  case hcd => k_is
  case hroom => omega
  case hbind => exact BindsTo.of_eq rfl
  case hloc => exact locs rfl
  case c2 => rfl
  case c3 => rfl
  case c4 => rfl
  case c5 => decide
  case hn => intro p hp; cases List.mem_singleton.mp hp; exact ⟨hd, hD⟩
  intro g L h₁ G' hb' hs' hd' F N
  have KX := G'.K
  have T := G'.T
  have hkg : ∀ v ∈ p ++ [y], Key g v (kf v) := by
    intro v hv
    obtain ⟨a, t1, t2, n', e, ho⟩ := hk v hv
    refine ⟨a, t1, t2, n', e, hs' a _ ho ?_⟩
    intro q
    rw [List.map_cons, List.map_nil] at q
    have := List.mem_singleton.mp q
    subst this
    rw [hd] at ho; exact (list_not_pair ho).elim
  have hDg : g.get? D = none := hd' (D, listOf (p ++ [y]).toArray n) (List.Mem.head _)
  try dsimp only
  iterate 6 walk1
  refine kl_pop F N (p := p) (y := y) (kpa_last y p) (by k_upd) (by show (p ++ [y]).length ≤ _; rw [sizeLine_eq, List.length_append]; simp; omega) ?_
  intro h₂ F₂ N₂
  clear F N
  iterate 8 walk1
  · rename_i h₃ F₃ N₃ he
    have e : p = [] := by simpa using he
    subst e
    iterate 4 walk1
    refine h h₃ _ (n + 1) (fun b o e hb => F₃.keep b o (hs' b o e (by simpa using hb))) ?_
    exact N₃.get (a := D) (.head _)
  · rename_i h₃ F₃ N₃ he
    have e : 0 < p.length := by
      rcases p with _ | ⟨a, p⟩
      · simp at he
      · simp
    iterate 5 walk1
    refine item_litK (News.isList (by assumption) (by k_mem)) (by omega) (by omega) (by exact some_of e) ?_
    iterate 6 walk1
    rename_i h₄ F₄ N₄
    refine set_at F₄ N₄ (by k_upd) (by omega) (by omega) (by omega) ?_
    intro h₅ F₅ N₅
    iterate 10 walk1
    refine ⟨KX.keeps F₅.keep, wpAny_call (siftup_call (l := p.set 0 y) (n := n + 1) (kf := kf) (ps := 0) G' F₅.keep hDg (N₅.get (.head _)) ?_ (by show A.depth + 1 + 20 < recursionLimit; omega) (by show A.units + 3 + 40 < cLine; omega) (by rw [List.length_set]; exact e) (by rw [List.length_set]; omega) ?_)⟩
    · intro v hv
      refine (hkg v ?_).keeps F₅.keep
      rcases List.mem_or_eq_of_mem_set hv with hv | rfl
      · exact List.mem_append_left _ hv
      · simp
    · intro h₆ tk₆ k1 k2
      dsimp only
      have F₆ := fr_ext F₅ hDg (N₅ (D, listOf (p.set 0 y).toArray (n + 1)) (.head _)).2.1 k1
      iterate 3 walk1
      have e1 : (p ++ [y]).getD 0 .none = p.getD 0 .none := by
        rw [List.getD_eq_getElem?_getD, List.getD_eq_getElem?_getD, List.getElem?_append_left e]
      rw [e1] at h
      refine h h₆ tk₆ (n + 1) (fun b o e hb => F₆.keep b o (hs' b o e (by simpa using hb))) ?_
      rw [k2, popL, if_neg (by omega)]
end Mine
end

/-! part Tok -/
section
open PySem PySem.W PyProof.Rows PySem.Calls
set_option maxRecDepth 100000
namespace Mine

/-- the entries of EXACT_TOKEN_TYPES, as the top leaves them -/
noncomputable def esAt (P : Params) : Array DictEntry := match (hd.heap_39 P).lookup 43 with
  | some ⟨_, _, .dict es _, _⟩ => es
  | _ => #[]
noncomputable def nAt (P : Params) : Nat := match (hd.heap_39 P).lookup 43 with
  | some ⟨_, _, .dict _ n, _⟩ => n
  | _ => 0
noncomputable def kvOf : List DictEntry → List (Str × Int × Tok)
  | [] => []
  | ⟨_, .str x _, .int i t⟩ :: r => (x, i, t) :: kvOf r
  | _ :: r => kvOf r
noncomputable def Plain : List DictEntry → Bool
  | [] => true
  | ⟨_, .str _ _, .int _ _⟩ :: r => Plain r
  | _ :: _ => false
theorem find_kv (x : Str) : ∀ es : List DictEntry, Plain es = true → (es.find? (fun e => Value.isStrOf x e.key)).map (·.val) = ((kvOf es).find? (fun p => decide (x = p.1))).map fun p => Value.int p.2.1 p.2.2
  | [], _ => rfl
  | ⟨hs, k, v⟩ :: r, h => by
    cases k with
    | str y t =>
      cases v with
      | int i u =>
        have ih := find_kv x r h
        rw [List.find?_cons, kvOf, List.find?_cons]
        by_cases q : x = y
        · subst q
          have e1 : Value.isStrOf x (Value.str x t) = true := by simp [Value.isStrOf]
          simp only [e1, decide_true]
          rfl
        · have e1 : Value.isStrOf x (Value.str y t) = false := by
            simp only [Value.isStrOf]
            simp
            exact fun e => q e.symm
          have e2 : decide (x = y) = false := by simp [q]
          simp only [e1, e2]
          exact ih
      | _ => cases h
    | _ => cases h
noncomputable def P0 : Params := { strHash := fun _ => 0, shareClass := fun _ => 0, mergeTok := fun t => t, idOf := fun _ => 0, idOfShared := fun _ _ => 0, followText := fun _ => false, idOfImm := fun _ => 0 }
/-- its keys and values -/
noncomputable def tab : List (Str × Int × Tok) := kvOf (esAt P0).toList
noncomputable def tokFind (x : Str) : Option (Str × Int × Tok) := tab.find? (fun p => decide (x = p.1))
noncomputable def isTok (x : Str) : Bool := (tokFind x).isSome
noncomputable def tokVal (x : Str) : Int := ((tokFind x).map (·.2.1)).getD 0

theorem plain_es (P : Params) : Plain (esAt P).toList = true := by rfl
theorem kv_es (P : Params) : kvOf (esAt P).toList = tab := by rfl
theorem look_es (P : Params) : (hd.heap_39 P).lookup 43 = some ⟨.type "dict", none, .dict (esAt P) (nAt P), #[]⟩ := by rfl
theorem findBy_es (P : Params) (x : Str) : findBy Value.isStrOf (esAt P) x = (tokFind x).map fun p => Value.int p.2.1 p.2.2 := by
  unfold findBy
  rw [← Array.find?_toList, find_kv x _ (plain_es P), kv_es]
  rfl
theorem keys_es (P : Params) : KeysLit P (esAt P).toList := by
  show KeysLit P _
  repeat' (first | exact trivial | (refine ⟨⟨_, _, rfl, rfl⟩, ?_⟩))
section
variable {prog : Program} {w : World} {A : Around} {E : Value → Shared → Prop} {s : Shared} {h₀ : Heap} {L : Addr} {m : Str → Option Value} {x : Str} {t : Tok}
theorem in_tok {Q : Value → Shared → Prop} (F : Fr h₀ L s.heap m) (X₀ : (hd.heap_39 w.params).In h₀) (h : Q (.bool (isTok x)) { s with toks := s.toks + 1 }) :
    wpAny (model prog w) A (compareOp .In (.str x t) (.ref 43)) Q E s := by
  refine wpAny_in_of (strKind_is prog w x t) (by decide) (mapOf_K (prog := prog) (X₀.keeps F.keep) (look_es w.params) (keys_es w.params)) ?_
  rw [findBy_es, Option.isSome_map]
  exact h
theorem get_tok {value slice : Expr} {Q : Value → Shared → Prop} (F : Fr h₀ L s.heap m) (X₀ : (hd.heap_39 w.params).In h₀) (ht : isTok x = true)
    (h : ∀ u, Q (.int (tokVal x) u) { s with toks := s.toks + 1 })
    (hs : subscripted slice false (.ref 43) (.str x t) = operate [.ref 43, .str x t] (getItem (.ref 43) (.str x t)) := by with_unfolding_all rfl) :
    wpAny (model prog w) A (subscriptTail value slice (.ref 43) (.str x t)) Q E s := by
  have hm := mapOf_K (prog := prog) (w := w) (X₀.keeps F.keep) (look_es w.params) (keys_es w.params)
  obtain ⟨p, hp⟩ := Option.isSome_iff_exists.mp (show (tokFind x).isSome = true from ht)
  refine tail_any hm.typeIs slot_dict_getitem.lookup (wpAny_getItem_of (strKind_is prog w x t) hm (v := .int (tokVal x) p.2.2) ?_ (h _)) hs
  rw [findBy_es, hp, tokVal, hp]
  rfl
end
end Mine
end

/-! part S1 -/
section
open PySem PySem.W PyProof.Rows PySem.Calls
set_option maxRecDepth 100000
namespace Mine

/-- the pairs of ks lie as tuples in the ledger, in l's order -/
noncomputable def TupsFor (tups : List (Addr × Obj)) : List Value → List (Int × Int) → Prop
  | [], [] => True
  | v :: l, k :: ks => (∃ a t1 t2 n, v = .ref a ∧ (a, pairOf k.1 k.2 t1 t2 n) ∈ tups) ∧ TupsFor tups l ks
  | _, _ => False

/-- the values of l are tuples of the pairs ks -/
noncomputable def KeysOf (h : Heap) : List Value → List (Int × Int) → Prop
  | [], [] => True
  | v :: l, k :: ks => Key h v k ∧ KeysOf h l ks
  | _, _ => False
theorem TupsFor.keys {g h : Heap} {L : Addr} {tups nw : List (Addr × Obj)} (N : News g L h nw) (hs : ∀ p ∈ tups, p ∈ nw) : ∀ {l : List Value} {ks : List (Int × Int)}, TupsFor tups l ks → KeysOf h l ks
  | [], [], _ => trivial
  | _ :: _, _ :: _, ⟨⟨a, t1, t2, n, e, hm⟩, r⟩ => ⟨⟨a, t1, t2, n, e, N.get (hs _ hm)⟩, r.keys N hs⟩
  | [], _ :: _, h => h.elim
  | _ :: _, [], h => h.elim
theorem TupsFor.mono {tups tups' : List (Addr × Obj)} (hs : ∀ p ∈ tups, p ∈ tups') : ∀ {l : List Value} {ks : List (Int × Int)}, TupsFor tups l ks → TupsFor tups' l ks
  | [], [], _ => trivial
  | _ :: _, _ :: _, ⟨⟨a, t1, t2, n, e, hm⟩, r⟩ => ⟨⟨a, t1, t2, n, e, hs _ hm⟩, r.mono hs⟩
  | [], _ :: _, h => h.elim
  | _ :: _, [], h => h.elim
theorem TupsFor.snoc {tups : List (Addr × Obj)} {v : Value} {k : Int × Int} (hv : ∃ a t1 t2 n, v = .ref a ∧ (a, pairOf k.1 k.2 t1 t2 n) ∈ tups) : ∀ {l : List Value} {ks : List (Int × Int)}, TupsFor tups l ks → TupsFor tups (l ++ [v]) (ks ++ [k])
  | [], [], _ => ⟨hv, trivial⟩
  | _ :: _, _ :: _, ⟨h, r⟩ => ⟨h, r.snoc hv⟩
  | [], _ :: _, h => h.elim
  | _ :: _, [], h => h.elim
theorem TupsFor.length {tups : List (Addr × Obj)} : ∀ {l : List Value} {ks : List (Int × Int)}, TupsFor tups l ks → l.length = ks.length
  | [], [], _ => rfl
  | _ :: _, _ :: _, ⟨_, r⟩ => congrArg (· + 1) r.length
  | [], _ :: _, h => h.elim
  | _ :: _, [], h => h.elim
theorem app_ledger {g h h' : Heap} {L S T : Addr} {o o' oS : Obj} {tups r1 r2 : List (Addr × Obj)} (N : News g L h ((T, o) :: ((S, oS) :: tups ++ r1 ++ r2))) (hS : oS.cls = .type "list")
    (ho : o.cls = .type "tuple") (ht : ∀ p ∈ tups, p.2.cls = .type "tuple") (h1 : ∀ p ∈ r1, p.2.cls ≠ .type "list") (h2 : ∀ p ∈ r2, p.2.cls ≠ .type "list")
    (M : ∀ p ∈ (T, o) :: ((S, oS) :: tups ++ r1 ++ r2), p.1 ≠ S → h'.get? p.1 = some p.2 ∧ p.1 ≠ L ∧ g.get? p.1 = none) (hS' : h'.get? S = some o' ∧ S ≠ L ∧ g.get? S = none) :
    News g L h' ((S, o') :: ((T, o) :: tups) ++ r1 ++ r2) := by
  have hSm : (S, oS) ∈ (T, o) :: ((S, oS) :: tups ++ r1 ++ r2) := by simp
  have key : ∀ p, p ∈ (T, o) :: ((S, oS) :: tups ++ r1 ++ r2) → p.2.cls ≠ .type "list" → h'.get? p.1 = some p.2 ∧ p.1 ≠ L ∧ g.get? p.1 = none :=
    fun p hp hc => M p hp (News.ne_of_cls N hp hSm (by rw [hS]; exact hc))
  intro p hp
  simp only [List.cons_append, List.append_assoc, List.mem_cons, List.mem_append] at hp
  rcases hp with rfl | rfl | hp | hp | hp
  · exact hS'
  · exact key _ (.head _) (by rw [ho]; simp)
  · exact key p (by simp [hp]) (by rw [ht p hp]; simp)
  · exact key p (by simp [hp]) (h1 p hp)
  · exact key p (by simp [hp]) (h2 p hp)
section
variable {prog : Program} {w : World} {A : Around} {E : Value → Shared → Prop} {s : Shared} {h₀ : Heap} {L D : Addr} {m : Str → Option Value} {nw : List (Addr × Obj)}
theorem append_in {l : List Value} {n : Nat} {v : Value} {Q : Value → Shared → Prop} (F : Fr h₀ L s.heap m) (N : News h₀ L s.heap nw) (hm : (D, listOf l.toArray n) ∈ nw) (hsz : l.length < 1000)
    (h : ∀ h', Fr h₀ L h' m → (∀ p ∈ nw, p.1 ≠ D → h'.get? p.1 = some p.2 ∧ p.1 ≠ L ∧ h₀.get? p.1 = none) → (h'.get? D = some (listOf (l ++ [v]).toArray (n + 1)) ∧ D ≠ L ∧ h₀.get? D = none) → Q .none { s with heap := h' }) :
    wpAny (model prog w) A (call (.builtin "list.append") [.ref D, v]) Q E s := by
  have z := N _ hm
  refine append_at (hsz := by rw [sizeLine_eq]; simp; omega) z.1 fun h' hs ho' => h h' (F.change hs z.2.1 z.2.2) (fun p hp hne => ⟨(hs.2 _ hne).trans (N p hp).1, (N p hp).2⟩) ⟨?_, z.2⟩
  rw [ho']
  simp
end

noncomputable def piece (x : Str) (at' size : Nat) : Str := Txt.slice x (some (at' : Int)) (some ((at' : Int) + (size : Nat)))
noncomputable def slAt (x : Str) (at' k : Nat) : List (Int × Int) := (List.range k).flatMap fun j => if isTok (piece x at' (j + 1)) then [(-((j + 1 : Nat) : Int), (at' : Int))] else []
noncomputable def slUp (x : Str) (i : Nat) : List (Int × Int) := (List.range i).flatMap fun at' => slAt x at' (min 3 (x.length - at'))
theorem slAt_succ (x : Str) (i j : Nat) : slAt x i (j + 1) = slAt x i j ++ if isTok (piece x i (j + 1)) then [(-((j + 1 : Nat) : Int), (i : Int))] else [] := by
  unfold slAt
  rw [List.range_succ, List.flatMap_append]
  simp
theorem slUp_succ (x : Str) (i : Nat) : slUp x (i + 1) = slUp x i ++ slAt x i (min 3 (x.length - i)) := by
  unfold slUp
  rw [List.range_succ, List.flatMap_append]
  simp
theorem slAt_len (x : Str) (i : Nat) : ∀ j, (slAt x i j).length ≤ j
  | 0 => by simp [slAt]
  | j + 1 => by
    rw [slAt_succ, List.length_append]
    have := slAt_len x i j
    split <;> simp <;> omega
theorem slUp_len (x : Str) : ∀ i, (slUp x i).length ≤ 3 * i
  | 0 => by simp [slUp]
  | i + 1 => by
    rw [slUp_succ, List.length_append]
    have := slUp_len x i
    have := slAt_len x i (min 3 (x.length - i))
    omega

local macro_rules | `(tactic| walk_at "eval Name") => `(tactic| (k_here; k_dflt (refine' ld ?k1 ?k2 ?_; (case k1 => k_asm); (case k2 => assumption); k_whole)))

set_option maxHeartbeats 4000000 in
theorem slices_call {w : World} {A : Around} {s : Shared} {base : Heap} {mg mb : Str → Option Value} {R : Result → Shared → Prop} {x : Str} {t : Tok}
    (G : Base w mg mb base) (st : ∀ b o, base.get? b = some o → s.heap.get? b = some o) (hh : A.handled = none) (hdep : A.depth + 30 < recursionLimit) (hu : A.units + 60 < cLine) 
    (h3 : x.length < 100)
    (h : ∀ h' tk S l n' tups, (∀ b o, s.heap.get? b = some o → h'.get? b = some o) → h'.get? S = some (listOf l.toArray n') → s.heap.get? S = none → (∀ p ∈ tups, h'.get? p.1 = some p.2 ∧ s.heap.get? p.1 = none) → (∀ p ∈ tups, p.2.cls = .type "tuple") → TupsFor tups l (slUp x x.length) → R (.ok (.ret (.ref S))) { s with heap := h', toks := tk }) :
    codeAny (model PySem.Challenge.rw_mg0041_01.row.prog w) A (.call (.ref 59) ⟨[.str x t], []⟩) R s := by
  refine' call_own (news := []) G st ?hn ?ho ?hcd ?hroom ?hbind ?hloc ?_ ?c2 ?c3 ?c4 ?c5
  case ho => k_is
  case hcd => k_is
  case hroom => omega
  case hbind => exact BindsTo.of_eq rfl
  case hloc => exact locs rfl
  case c2 => rfl
  case c3 => rfl
  case c4 => rfl
  case c5 => decide
  case hn => intro p hp; cases hp
  intro g L h₁ G' hb' hs' hd' F N
  have KX := G'.K
  have T := G'.T
  try dsimp only
  iterate 6 walk1
  rename_i S _ _ h₂ F₂ N₂
  iterate 2 walk1
  refine wpAny_For ?_
  iterate 12 walk1
  refine range1_K F₂ N₂ ?_
  intro r u1 v1 h₄ tk₄ F₄ N₄ hr
  refine iter_K (n := x.length) F₄ N₄ hr (by omega) (by omega) (by omega) (by omega) (by omega) ?_
  intro I h₅ F₅ N₅ nI
  refine for_range (L := L) (fun i => (i : Int)) (by simp) (by intro i; omega) (fun i m' nw => ∃ l n' tups, nw = (S, listOf l.toArray n') :: tups ∧ TupsFor tups l (slUp x i) ∧ (∀ p ∈ tups, p.2.cls = .type "tuple") ∧ m' (Str.ofString "text") = some (.str x t) ∧ m' (Str.ofString "slices") = some (.ref S)) [] (by simp) ?_ (by exact hh) rfl rfl rfl F₅ N₅ ⟨[], 0, [], rfl, trivial, by simp, rfl, rfl⟩ ?_ ?_
  · rintro i m' nw ⟨l, n', tups, rfl, -, e1, -, -⟩ p hp
    left
    rcases List.mem_cons.mp hp with rfl | hp
    · simp
    · rw [e1 p hp]; simp
  · rintro i m' nw h₆ tk₆ t₆ hi F₆ N₆ ⟨l, n', tups, rfl, a1, a2, a3, a4⟩
    clear F₂ N₂ F₄ N₄ F₅ N₅
    iterate 1 walk1
    refine wpAny_For ?_
    iterate 24 walk1
    refine min_two_N (by exact hh) F₆ N₆ ?_
    intro h₇ tk₇ F₇ N₇
    rw [show (if (x.length : Int) - (i : Int) < 3 then (x.length : Int) - (i : Int) else 3) = ((min 3 (x.length - i) : Nat) : Int) by split <;> omega]
    iterate 3 walk1
    refine range2_K F₇ N₇ ?_
    intro r2 v2 h₈ tk₈ F₈ N₈ hr2
    refine iter_K (n := min 3 (x.length - i)) F₈ N₈ hr2 (by omega) (by omega) (by omega) (by omega) (by omega) ?_
    intro I2 h₉ F₉ N₉ nI2
    refine for_range (L := L) (fun j => ((j + 1 : Nat) : Int)) (by simp) (by intro i; omega) (fun j m' nw => ∃ l n' tups, nw = (S, listOf l.toArray n') :: tups ++ [(I, rIter ((i + 1 : Nat) : Int) (x.length - i - 1) 1)] ∧ TupsFor tups l (slUp x i ++ slAt x i j) ∧ (∀ p ∈ tups, p.2.cls = .type "tuple") ∧ m' (Str.ofString "text") = some (.str x t) ∧ m' (Str.ofString "slices") = some (.ref S) ∧ ∃ t', m' (Str.ofString "at") = some (.int i t')) [I] ?_ ?_ (by exact hh) rfl rfl rfl F₉ N₉ ⟨l, n', tups, rfl, ?_, a2, a3, a4, _, rfl⟩ ?_ ?_
    · have := nI2 (I, rIter ((i + 1 : Nat) : Int) (x.length - i - 1) 1) (by simp)
      simpa using Ne.symm this
    · rintro i m' nw ⟨l, n', tups, rfl, -, e1, -, -⟩ p hp
      rcases List.mem_append.mp hp with hp | hp
      · left
        rcases List.mem_cons.mp hp with rfl | hp
        · simp
        · rw [e1 p hp]; simp
      · right
        cases List.mem_singleton.mp hp
        simp
    · simpa [slAt] using a1
    · rintro j m₂ nw h₁₀ tk₁₀ t₁₀ hj F₁₀ N₁₀ ⟨l, n', tups, rfl, a1, a2, a3, a4, t', a5⟩
      clear F₆ N₆ F₇ N₇ F₈ N₈ F₉ N₉
      iterate 16 walk1
      rename_i h₁₁ _ _ F₁₁ N₁₁ _
      refine in_tok F₁₁ KX ?_
      iterate 2 walk1
      · rename_i hc
        iterate 18 walk1
        rename_i T₁ h₁₂ F₁₂ N₁₂ l1
        have hS : (S, listOf l.toArray n') ∈ (S, listOf l.toArray n') :: tups ++ [(I, rIter ((i + 1 : Nat) : Int) (x.length - i - 1) 1)] ++ [(I2, rIter ((j + 1 + 1 : Nat) : Int) ((min 3 (x.length - i) : Nat) - j - 1) 1)] := by simp
        refine append_in F₁₂ N₁₂ (.tail _ hS) (by have := a1.length; have := slUp_len x i; have := slAt_len x i j; rw [List.length_append] at *; omega) ?_
        intro h₁₃ F₁₃ M₁₃ S₁₃
        iterate 3 walk1
        refine ⟨rfl, h₁₃, _, _, _, rfl, F₁₃, app_ledger N₁₂ rfl rfl a2 (by intro p hp; cases List.mem_singleton.mp hp; simp) (by intro p hp; cases List.mem_singleton.mp hp; simp) M₁₃ S₁₃, l ++ [.ref T₁], n' + 1, (T₁, pairOf (-((j + 1 : Nat) : Int)) i _ _ _) :: tups, rfl, ?_, ?_, a3, a4, t', a5⟩
        · rw [slAt_succ, if_pos (show isTok (piece x i (j + 1)) = true from hc), ← List.append_assoc]
          exact TupsFor.snoc (k := (-((j + 1 : Nat) : Int), (i : Int))) ⟨_, _, _, _, rfl, .head _⟩ (a1.mono fun p hp => .tail _ hp)
        · intro p hp
          rcases List.mem_cons.mp hp with rfl | hp
          · rfl
          · exact a2 p hp
      · rename_i hc
        iterate 3 walk1
        refine ⟨rfl, h₁₁, _, _, _, rfl, F₁₁, N₁₁, l, n', tups, rfl, ?_, a2, a3, a4, t', a5⟩
        rw [slAt_succ, if_neg (by intro q; exact absurd (q.symm.trans hc) (by simp)), List.append_nil]
        exact a1
    · rintro m₂ nw h₁₀ tk₁₀ F₁₀ N₁₀ ⟨l, n', tups, rfl, a1, a2, a3, a4, t', a5⟩
      dsimp only
      iterate 1 walk1
      refine ⟨rfl, h₁₀, tk₁₀, m₂, _, rfl, F₁₀, N₁₀, l, n', tups, rfl, ?_, a2, a3, a4⟩
      rw [slUp_succ]
      exact a1
  · rintro m₂ nw h₆ tk₆ F₆ N₆ ⟨l, n', tups, rfl, a1, a2, a3, a4⟩
    dsimp only
    iterate 3 walk1
    have fresh : ∀ p ∈ (S, listOf l.toArray n') :: tups, s.heap.get? p.1 = none := by
      intro p hp
      cases q : s.heap.get? p.1 with
      | none => rfl
      | some o =>
        have e := (N₆ p hp).2.2
        rw [hs' p.1 o q (by simp)] at e
        cases e
    exact h h₆ tk₆ S l n' tups (fun b o e => F₆.keep b o (hs' b o e (by simp))) (N₆.get (.head _)) (fresh _ (.head _)) (fun p hp => ⟨(N₆ p (.tail _ hp)).1, fresh p (.tail _ hp)⟩) a2 a1
end Mine
end

/-! part W1 -/
section
open PySem PySem.W PyProof.Rows PySem.Calls
set_option maxRecDepth 100000
namespace Mine

/-- the operators in the order of their numbers, from 7 on -/
noncomputable def rowL : List Str := (List.range 48).map fun (i : Nat) => ((tab.find? (fun p => p.2.1 == 7 + (i : Int))).map (·.1)).getD (Str.mk #[])
theorem tab_row : (tab.all fun p => rowL.contains p.1 && ((7 : Int) + (rowL.idxOf p.1 : Nat) == p.2.1)) = true := by decide +kernel
theorem row_tab : (rowL.all fun x => isTok x) = true := by decide +kernel
theorem isTok_iff (x : Str) : isTok x = true ↔ x ∈ rowL := by
  constructor
  · intro h
    obtain ⟨p, hp⟩ := Option.isSome_iff_exists.mp (show (tokFind x).isSome = true from h)
    have e : x = p.1 := by simpa using List.find?_some (p := fun q : Str × Int × Tok => decide (x = q.1)) hp
    have := List.all_eq_true.mp tab_row p (List.mem_of_find?_eq_some hp)
    simp only [Bool.and_eq_true] at this
    rw [e]
    simpa using this.1
  · intro h
    exact List.all_eq_true.mp row_tab x h
theorem tokVal_eq (x : Str) (h : isTok x = true) : tokVal x = 7 + (rowL.idxOf x : Nat) := by
  obtain ⟨p, hp⟩ := Option.isSome_iff_exists.mp (show (tokFind x).isSome = true from h)
  have e : x = p.1 := by simpa using List.find?_some (p := fun q : Str × Int × Tok => decide (x = q.1)) hp
  have := List.all_eq_true.mp tab_row p (List.mem_of_find?_eq_some hp)
  simp only [Bool.and_eq_true, beq_iff_eq] at this
  rw [tokVal, hp, e]
  exact this.2.symm

set_option maxHeartbeats 4000000 in
theorem row_call {w : World} {A : Around} {s : Shared} {base : Heap} {mg mb : Str → Option Value} {R : Result → Shared → Prop}
    (G : Base w mg mb base) (st : ∀ b o, base.get? b = some o → s.heap.get? b = some o) (hdep : A.depth + 30 < recursionLimit) (hu : A.units + 60 < cLine)
    (h : ∀ h' tk D l, (∀ b o, s.heap.get? b = some o → h'.get? b = some o) → h'.get? D = some (listOf (strValues l).toArray 0) → l.map (·.1) = rowL → s.heap.get? D = none → R (.ok (.ret (.ref D))) { s with heap := h', toks := tk }) :
    codeAny (model PySem.Challenge.rw_mg0041_01.row.prog w) A (.call (.ref 52) ⟨[], []⟩) R s := by
  refine' call_own (news := []) G st ?hn ?ho ?hcd ?hroom ?hbind ?hloc ?_ ?c2 ?c3 ?c4 ?c5
  case ho => k_is
  case hcd => k_is
  case hroom => omega
  case hbind => exact BindsTo.of_eq rfl
  case hloc => exact locs rfl
  case c2 => rfl
  case c3 => rfl
  case c4 => rfl
  case c5 => decide
  case hn => intro p hp; cases hp
  intro g L h₁ G' hb' hs' hd' F N
  have KX := G'.K
  have T := G'.T
  try dsimp only
  iterate 21 walk1
  rename_i D l h₂ k₂ e₂ a₂ F₂ N₂ l1
  refine h h₂ k₂ D l (fun b o e => F₂.keep b o (hs' b o e (by simp))) (N₂.get (.head _)) (e₂.trans (by decide +kernel)) ?_
  cases q : s.heap.get? D with
  | none => rfl
  | some o =>
    have e := (N₂ (D, listOf (strValues l).toArray 0) (.head _)).2.2
    rw [hs' D o q (by simp)] at e
    cases e
end Mine
end

/-! part Ops2 -/
section
open PySem PySem.W PyProof.Rows PySem.Calls PySem.SeqAt
set_option maxRecDepth 100000
namespace Mine

theorem any_strs (x : Str) : ∀ lr : List (Str × Tok), (strValues lr).any (isStrOf x) = decide (x ∈ lr.map (·.1))
  | [] => rfl
  | p :: r => by
    show ((p.1 == x) || (strValues r).any (isStrOf x)) = _
    rw [any_strs x r]
    by_cases e : p.1 = x
    · simp [e]
    · have e' : x ≠ p.1 := fun q => e q.symm
      have : (p.1 == x) = false := by simpa using e
      rw [this]
      simp [e']
theorem any_bools (b : Bool) : ∀ fs : List Bool, (fs.map Value.bool).any (isBoolOf b) = fs.contains b
  | [] => rfl
  | c :: r => by
    show ((c == b) || (r.map Value.bool).any (isBoolOf b)) = _
    rw [any_bools b r, List.contains_cons]
    cases b <;> cases c <;> rfl
theorem flat_fold {v : Value} : ∀ (k : Nat) (acc : Array Value), List.foldl (fun x1 x2 => x1 ++ x2) acc (List.replicate k #[v]) = acc ++ (List.replicate k v).toArray
  | 0, acc => by simp
  | k + 1, acc => by
    rw [List.replicate_succ, List.foldl_cons, flat_fold k, List.replicate_succ]
    apply Array.toList_inj.mp
    simp

section
variable {prog : Program} {w : World} {A : Around} {E : Value → Shared → Prop} {s : Shared} {h₀ : Heap} {L D : Addr} {m : Str → Option Value} {nw : List (Addr × Obj)}

theorem in_strs {lr : List (Str × Tok)} {x : Str} {t : Tok} {Q : Value → Shared → Prop} (hl : s.heap.IsList D (strValues lr).toArray) (h : Q (.bool (decide (x ∈ lr.map (·.1)))) s) :
    wpAny (model prog w) A (compareOp .In (.str x t) (.ref D)) Q E s := by
  refine in_listAt (isStrOf x) hl ?_ ?_
  · intro y hy
    obtain ⟨p, hp, rfl⟩ := List.mem_map.mp (show y ∈ strValues lr by simpa using hy)
    exact EqAt.str_str p.1 p.2 x t
  · rw [List.any_toArray, any_strs]; exact h
theorem notIn_bools {fs : List Bool} {b : Bool} {Q : Value → Shared → Prop} (hl : s.heap.IsList D (fs.map Value.bool).toArray) (h : Q (.bool (!fs.contains b)) s) :
    wpAny (model prog w) A (compareOp .NotIn (.bool b) (.ref D)) Q E s := by
  refine notIn_listAt (isBoolOf b) hl ?_ ?_
  · intro y hy
    obtain ⟨p, hp, rfl⟩ := List.mem_map.mp (show y ∈ fs.map Value.bool by simpa using hy)
    exact EqAt.bool_bool p b
  · rw [List.any_toArray, any_bools]; exact h
theorem index_strs {lr : List (Str × Tok)} {x : Str} {t : Tok} {Q : Value → Shared → Prop} (hl : s.heap.IsList D (strValues lr).toArray) (hx : x ∈ lr.map (·.1)) (hn : lr.length < 1000)
    (h : Q (.int ((lr.map (·.1)).idxOf x : Nat) s.toks) { s with toks := s.toks + 1 }) :
    wpAny (model prog w) A (call (.builtin "list.index") [.ref D, .str x t]) Q E s := by
  obtain ⟨⟨cls, dd, data, sl⟩, ho, hc, n, hd⟩ := id hl
  simp only at hc hd
  subst hc hd
  have hj : (lr.map (·.1)).idxOf x < (lr.map (·.1)).length := List.idxOf_lt_length_iff.mpr hx
  have hj' : (lr.map (·.1)).idxOf x < lr.length := by simpa using hj
  have hv : ∀ j (hj : j < (strValues lr).toArray.size), isStrOf x (strValues lr).toArray[j] = (((lr.map (·.1))[j]'(by simpa [strValues] using hj)) == x) := by
    intro j hj
    simp [strValues, isStrOf]
  refine call_meets PySem.F.slot_list_index ⟨_, ho, rfl⟩ PySem.F.entry_list_index (PySem.F.args_list_index_2 _ _)
    (list_indexAt D (strValues lr).toArray n dd sl (.str x t) (isStrOf x) ((lr.map (·.1)).idxOf x) (by simpa [strValues] using hj') (by omega) ?_ ?_) ⟨ho, fun y hy => ?_, h⟩
  · rw [hv]
    simp
  · intro j hjs hlt
    rw [hv]
    have := List.not_of_lt_findIdx (p := (· == x)) (xs := lr.map (·.1)) (i := j) (by simpa [List.idxOf] using hlt)
    simpa using this
  · obtain ⟨p, hp, rfl⟩ := List.mem_map.mp (show y ∈ strValues lr by simpa using hy)
    exact EqAt.str_str p.1 p.2 x t

theorem mul_one {l : Addr} {v : Value} {k : Nat} {n : Nat} {u : Tok} {Q : Value → Shared → Prop} (F : Fr h₀ L s.heap m) (N : News h₀ L s.heap nw) (hl : s.heap.get? l = some (listOf #[v] n)) (hk : k < 1000)
    (h : ∀ D h', Fr h₀ L h' m → News h₀ L h' ((D, listOf (List.replicate k v).toArray 0) :: nw) → (∀ p ∈ nw, p.1 < D) → Q (.ref D) { s with heap := h' }) :
    wpAny (model prog w) A (binaryOp .Mult (.ref l) (.int k u)) Q E s := by
  refine mul_list F N hl (by omega) (by omega) (by simp; omega) fun h' F' N' => ?_
  have e : List.foldl (fun x1 x2 => x1 ++ x2) #[] (List.replicate (if (#[v] : Array Value).isEmpty = true then 0 else (k : Int).toNat) #[v]) = (List.replicate k v).toArray := by
    simp only [Int.toNat_natCast]
    rw [if_neg (by simp), flat_fold]
    simp
  rw [e] at N'
  exact h _ h' F' N' fun p hp => Heap.lt_size (N p hp).1

theorem set_slice {sl V : Addr} {its vs : List Value} {n k a b : Nat} {ta tb : Tok} {Q : Unit → Shared → Prop} (ho : s.heap.get? D = some (listOf its.toArray n)) (hv : s.heap.get? V = some (listOf vs.toArray k))
    (hs : s.heap.IsSliceOf sl (.int a ta) (.int b tb) .none) (hab : a ≤ b) (hb : b ≤ its.length) (h1 : its.length < 1000) (h2 : vs.length = b - a) (hne : D ≠ V)
    (hQ : ∀ h', Heap.SameBut D s.heap h' → h'.get? D = some (listOf (its.take a ++ vs ++ its.drop b).toArray n) → Q () { s with heap := h' }) :
    wpAny (model prog w) A (setItem (.ref D) (.ref sl) (.ref V)) Q E s := by
  have hl : s.heap.IsList D its.toArray := PySem.IsL.isList (n := n) ho
  obtain ⟨os, hos, hcs, hds⟩ := id hs
  have hTs : s.TypeIs (.ref sl) "slice" := ⟨os, hos, hcs⟩
  have hTv : s.TypeIs (.ref V) "list" := ⟨_, hv, rfl⟩
  unfold setItem
  try with_reducible refine wpAny_holding ?_
  refine wpAny_bind (wpAny_sequenceKey hl.typeIs (by decide) ?_)
  refine wpAny_bind (wpAny_callSpecial?_slot (name := Str.ofString "__setitem__") hl.typeIs slot_list_setitem
    (wpAny_call_entry slot_list_setitem hl.typeIs entry_list_setitem ?_ (args_list_setitem _ _ _)))
  show wpAny _ _ (Builtin.List.listSubscript? (.ref sl) >>= _) _ _ s
  refine wpAny_bind ?_
  unfold Builtin.List.listSubscript?
  refine wpAny_bind (wpAny_specialOf hTs slice_no_index ?_)
  simp only [Option.isNone_none, if_true]
  refine wpAny_pure ?_
  show wpAny _ _ (typeOf (.ref sl) >>= _) _ _ s
  refine wpAny_bind (wpAny_typeOf hTs ?_)
  rw [if_neg (by decide)]
  rw [listSliceParts_eq]
  refine wpAny_bind (wpAny_bind (wpAny_field hos hds (x := .none) rfl (wpAny_bind (wpAny_listPart .none ?_))))
  rw [if_neg (by exact Bool.false_ne_true)]
  refine wpAny_bind (wpAny_field hos hds (x := .int a ta) rfl (wpAny_bind (wpAny_listPart (.int _ _) ?_)))
  refine wpAny_bind (wpAny_field hos hds (x := .int b tb) rfl (wpAny_bind (wpAny_listPart (.int _ _) (wpAny_pure ?_))))
  dsimp only
  rw [if_neg (by simp only [Builtin.List.listSameRef]; simpa using hne)]
  refine wpAny_bind (m := Builtin.List.listAllItems _ _) ?_
  unfold Builtin.List.listAllItems
  refine wpAny_bind (wpAny_typeOf hTv ?_)
  rw [if_pos (by rfl)]
  refine wpAny_listItems hv rfl ?_
  refine wpAny_bind (m := Builtin.List.listItems _) (wpAny_listItems ho rfl ?_)
  have e : sliceBounds (some (a : Int)) (some (b : Int)) none its.toArray.size = ((a : Int), (b : Int), 1) := by
    rw [sliceBounds_plain]
    simp only [Option.elim, clipAt_nat, List.size_toArray]
    rw [Nat.min_eq_left (by omega), Nat.min_eq_left (by omega)]
  refine wpAny_bind (wpAny_of_eq (sliceIndices_raw (some (a : Int)) (some (b : Int)) none its.toArray.size (by simp)) ?_)
  rw [e]
  dsimp only
  rw [if_pos (by rfl)]
  refine wpAny_bind (wpAny_rule ?_)
  rw [if_neg (by simp [Builtin.List.listTooLong]; rw [sizeLine_eq]; omega)]
  have em : (max (a : Int) (b : Int)).toNat = b := by omega
  rw [em]
  have ex : (its.toArray.extract 0 (a : Int).toNat ++ vs.toArray ++ its.toArray.extract b its.toArray.size) = (its.take a ++ vs ++ its.drop b).toArray := by
    apply Array.toList_inj.mp
    simp
    exact List.take_of_length_le (by simp)
  have es : (its.take a ++ vs ++ its.drop b).length = its.length := by
    simp; omega
  refine wpAny_bind (m := Builtin.List.listUpdate _ _) (show wpAny _ _ (updateSeq D _) _ _ _ from wpAny_updateSeq ho rfl ?_ ?_ ?_)
  · refine wpAny_bind (wpAny_letGo ?_)
    refine wpAny_pure ⟨.none, rfl, wpAny_pure (hQ _ (Heap.SameBut.update ..) ?_)⟩
    have q := PySem.IsL.update ho (fun xs => xs.extract 0 (a : Int).toNat ++ vs.toArray ++ xs.extract b xs.size)
    rw [ex] at q
    rw [q]
    simp
    omega
  · rw [sizeLine_eq]; simp; omega
  · rw [sizeLine_eq]
    have : (its.toArray.extract 0 (a : Int).toNat ++ vs.toArray ++ its.toArray.extract b its.toArray.size).size = its.length := by rw [ex, List.size_toArray, es]
    omega
end
end Mine
end

/-! part Loop2 -/
section
open PySem PySem.W PyProof.Rows PySem.Calls
set_option maxRecDepth 100000
namespace Mine

/-- neither an iterator over a tuple nor one over a range that is not among the known -/
noncomputable def NoTI (news : List (Addr × Obj)) : Prop := ∀ p ∈ news, p.2.cls ≠ .type "tuple_iterator"

section
variable {prog : Program} {w : World} {A : Around} {s : Shared} {h₀ : Heap} {L : Addr} {m : Str → Option Value} {news : List (Addr × Obj)} {env : Env} {R : Result → Shared → Prop}

/-- a for over a tuple: the tuple and its iterator lie on the ledger's end -/
theorem for_tuple {x : Str} {px : Pos} {body : List Stmt} {I TT : Addr} {vs : List Value} {n : Nat} {o0 : Obj} (hc0 : o0.cls = .type "tuple_iterator") (hd0 : o0.data = .fields #[.ref TT, .int 0 0])
    (J : Nat → (Str → Option Value) → List (Addr × Obj) → Prop) (hJ : ∀ i m nw, J i m nw → NoTI nw)
    (hh : A.handled = none) (hx : env.kindOf x = some .local) (hL : env.locals = L)
    (hp : (env.scope.kind == .class || (env.scope.kind == .module && env.locals != env.globals)) = false)
    (F : Fr h₀ L s.heap m) (N : News h₀ L s.heap (news ++ [(TT, { cls := .type "tuple", data := .seq vs.toArray n }), (I, o0)])) (h0 : J 0 m news)
    (turn : ∀ i v m₁ news₁ h₁ tk₁ oI, vs[i]? = some v → oI.cls = .type "tuple_iterator" → Fr h₀ L h₁ (fun y => if y = x then some v else m₁ y) → News h₀ L h₁ (news₁ ++ [(TT, { cls := .type "tuple", data := .seq vs.toArray n }), (I, oI)]) → J i m₁ news₁ →
      wpAny (model prog w) A (execs body env) (fun f s₃ => f = .next ∧ ∃ h' tk m₂ news₂, s₃ = { s with heap := h', toks := tk } ∧ Fr h₀ L h' m₂ ∧ News h₀ L h' (news₂ ++ [(TT, { cls := .type "tuple", data := .seq vs.toArray n }), (I, oI)]) ∧ J (i + 1) m₂ news₂) (fun _ _ => False) { s with heap := h₁, toks := tk₁ })
    (done : ∀ m₁ news₁ h₁ tk₁, Fr h₀ L h₁ m₁ → News h₀ L h₁ news₁ → J vs.length m₁ news₁ → R (.ok .next) { s with heap := h₁, toks := tk₁ }) :
    codeAny (model prog w) A (.forLoop (.Name x px) (.ref I) body [] env) R s := by
  subst hL
  refine codeAny_forLoop (fun k s' => ∃ i m₁ news₁ h₁ tk₁, k = vs.length - i ∧ i ≤ vs.length ∧ s' = { s with heap := h₁, toks := tk₁ } ∧ Fr h₀ env.locals h₁ m₁ ∧ (∃ oI : Obj, oI.cls = .type "tuple_iterator" ∧ oI.data = .fields #[.ref TT, .int i 0] ∧ News h₀ env.locals h₁ (news₁ ++ [(TT, { cls := .type "tuple", data := .seq vs.toArray n }), (I, oI)])) ∧ J i m₁ news₁) ?_ vs.length
    ⟨0, m, news, s.heap, s.toks, rfl, Nat.zero_le _, rfl, F, ⟨o0, hc0, hd0, N⟩, h0⟩
  rintro k s' ⟨i, m₁, news₁, h₁, tk₁, rfl, hi, rfl, F₁, ⟨oI, hcI, hdI, N₁⟩, J₁⟩
  have zT := N₁ (TT, { cls := .type "tuple", data := .seq vs.toArray n }) (List.mem_append.mpr (.inr (.head _)))
  have zI := N₁ (I, oI) (List.mem_append.mpr (.inr (.tail _ (.head _))))
  have hTT : h₁.IsTuple TT vs.toArray := ⟨_, zT.1, rfl, n, rfl⟩
  have ne : ∀ p ∈ news₁, p.1 ≠ I := fun p hp q => by
    have e1 := (N₁ p (List.mem_append.mpr (.inl hp))).1
    rw [q, zI.1] at e1
    exact hJ _ _ _ J₁ p hp (by rw [← Option.some.inj e1]; exact hcI)
  have neT : TT ≠ I := fun q => by
    have e1 := zT.1
    dsimp only at e1
    rw [q, zI.1] at e1
    have := hcI
    have e2 := Option.some.inj e1
    dsimp only at e2
    rw [e2] at this
    simp at this
  cases hv : vs[i]? with
  | some v =>
    have hlt : i < vs.length := (List.getElem?_eq_some_iff.mp hv).1
    refine wpAny_pyNext_tuple_item (s := { s with heap := h₁, toks := tk₁ }) ⟨oI, zI.1, hcI, hdI⟩ hTT (by simpa using hv) fun h₂ it₂ sb₂ => ?_
    obtain ⟨oJ, hJ1, hJ2, hJ3⟩ := it₂
    have F₂ : Fr h₀ env.locals h₂ m₁ := F₁.change sb₂ zI.2.1 zI.2.2
    have N₂ : News h₀ env.locals h₂ (news₁ ++ [(TT, { cls := .type "tuple", data := .seq vs.toArray n }), (I, oJ)]) := by
      intro p hp
      rcases List.mem_append.mp hp with hp | hp
      · have z := N₁ p (List.mem_append.mpr (.inl hp))
        exact ⟨(sb₂.2 _ (ne p hp)).trans z.1, z.2⟩
      · rcases List.mem_cons.mp hp with rfl | hp
        · exact ⟨(sb₂.2 _ neT).trans zT.1, zT.2⟩
        · cases List.mem_singleton.mp hp
          exact ⟨hJ1, zI.2⟩
    dsimp only
    refine wpAny_assign_Name (wpAny_storeName_local hx F₂.ns (fun h₃ hn₃ sb₃ => ?_) hp)
    refine wpAny_mono (turn i v m₁ news₁ h₃ (tk₁ + 1) oJ hv hJ2 (F₂.set hn₃ sb₃) (N₂.set sb₃) J₁) (fun f s₃ p => ?_) fun _ _ e => e.elim
    obtain ⟨rfl, h', tk, m₂, news₂, rfl, F', N', J'⟩ := p
    exact ⟨vs.length - (i + 1), by omega, i + 1, m₂, news₂, h', tk, rfl, hlt, rfl, F', ⟨oJ, hJ2, hJ3, N'⟩, J'⟩
  | none =>
    have e : i = vs.length := by have := List.getElem?_eq_none_iff.mp hv; omega
    subst e
    refine wpAny_pyNext_tuple_end (s := { s with heap := h₁, toks := tk₁ }) hh ⟨oI, zI.1, hcI, hdI⟩ hTT (by simpa using hv) fun h₂ eb₂ => ?_
    dsimp only
    refine wpAny_execs_nil (done m₁ news₁ h₂ tk₁ (fr_ext F₁ zI.2.2 zI.2.1 (fun b o e q => eb₂ b o q e)) (fun p hp => ?_) J₁)
    have z := N₁ p (List.mem_append.mpr (.inl hp))
    exact ⟨eb₂ _ _ (ne p hp) z.1, z.2⟩
end
end Mine
end

/-! part W2 -/
section
open PySem PySem.W PyProof.Rows PySem.Calls
set_option maxRecDepth 100000
namespace Mine

abbrev tripOf (x y z : Int) (t1 t2 t3 : Tok) (n : Nat) : Obj := { cls := .type "tuple", data := .seq #[.int x t1, .int y t2, .int z t3] n }
/-- the triples of ts lie as tuples in the ledger, in l's order -/
noncomputable def TripsFor (tups : List (Addr × Obj)) : List Value → List (Int × Int × Int) → Prop
  | [], [] => True
  | v :: l, k :: ks => (∃ a t1 t2 t3 n, v = .ref a ∧ (a, tripOf k.1 k.2.1 k.2.2 t1 t2 t3 n) ∈ tups) ∧ TripsFor tups l ks
  | _, _ => False
noncomputable def TripsOf (h : Heap) : List Value → List (Int × Int × Int) → Prop
  | [], [] => True
  | v :: l, k :: ks => (∃ a t1 t2 t3 n, v = .ref a ∧ h.get? a = some (tripOf k.1 k.2.1 k.2.2 t1 t2 t3 n)) ∧ TripsOf h l ks
  | _, _ => False
theorem TripsFor.of {g h : Heap} {L : Addr} {tups nw : List (Addr × Obj)} (N : News g L h nw) (hs : ∀ p ∈ tups, p ∈ nw) : ∀ {l : List Value} {ks : List (Int × Int × Int)}, TripsFor tups l ks → TripsOf h l ks
  | [], [], _ => trivial
  | _ :: _, _ :: _, ⟨⟨a, t1, t2, t3, n, e, hm⟩, r⟩ => ⟨⟨a, t1, t2, t3, n, e, N.get (hs _ hm)⟩, r.of N hs⟩
  | [], _ :: _, h => h.elim
  | _ :: _, [], h => h.elim
theorem TripsFor.mono {tups tups' : List (Addr × Obj)} (hs : ∀ p ∈ tups, p ∈ tups') : ∀ {l : List Value} {ks : List (Int × Int × Int)}, TripsFor tups l ks → TripsFor tups' l ks
  | [], [], _ => trivial
  | _ :: _, _ :: _, ⟨⟨a, t1, t2, t3, n, e, hm⟩, r⟩ => ⟨⟨a, t1, t2, t3, n, e, hs _ hm⟩, r.mono hs⟩
  | [], _ :: _, h => h.elim
  | _ :: _, [], h => h.elim
theorem TripsFor.snoc {tups : List (Addr × Obj)} {v : Value} {k : Int × Int × Int} (hv : ∃ a t1 t2 t3 n, v = .ref a ∧ (a, tripOf k.1 k.2.1 k.2.2 t1 t2 t3 n) ∈ tups) : ∀ {l : List Value} {ks : List (Int × Int × Int)}, TripsFor tups l ks → TripsFor tups (l ++ [v]) (ks ++ [k])
  | [], [], _ => ⟨hv, trivial⟩
  | _ :: _, _ :: _, ⟨h, r⟩ => ⟨h, r.snoc hv⟩
  | [], _ :: _, h => h.elim
  | _ :: _, [], h => h.elim
theorem TripsFor.length {tups : List (Addr × Obj)} : ∀ {l : List Value} {ks : List (Int × Int × Int)}, TripsFor tups l ks → l.length = ks.length
  | [], [], _ => rfl
  | _ :: _, _ :: _, ⟨_, r⟩ => congrArg (· + 1) r.length
  | [], _ :: _, h => h.elim
  | _ :: _, [], h => h.elim

/-- one turn of the walks: size, place -/
noncomputable def wStep (x : Str) (st : List Bool × List (Int × Int × Int)) (k : Nat × Nat) : List Bool × List (Int × Int × Int) :=
  if isTok (piece x k.2 k.1) = true ∧ ((st.1.drop k.2).take k.1).contains false = false then
    (st.1.take k.2 ++ List.replicate k.1 false ++ st.1.drop (k.2 + k.1), st.2 ++ [((k.2 : Int), (k.1 : Int), (7 : Int) + (rowL.idxOf (piece x k.2 k.1) : Nat))])
  else st
noncomputable def wSizes (n size : Nat) : List (Nat × Nat) := (List.range (n - size + 1)).map fun a => (size, a)
noncomputable def wOrder (n : Nat) : Nat → List (Nat × Nat)
  | 0 => []
  | i + 1 => wOrder n i ++ wSizes n (3 - i)
noncomputable def wAt (x : Str) (i : Nat) : List Bool × List (Int × Int × Int) := (wOrder x.length i).foldl (wStep x) (List.replicate x.length true, [])

noncomputable def wIn (x : Str) (i size j : Nat) : List Bool × List (Int × Int × Int) := ((List.range j).map fun a => (size, a)).foldl (wStep x) (wAt x i)
theorem wIn_succ (x : Str) (i size j : Nat) : wIn x i size (j + 1) = wStep x (wIn x i size j) (size, j) := by
  unfold wIn
  rw [List.range_succ, List.map_append, List.foldl_append]
  rfl
theorem wAt_succ (x : Str) (i : Nat) : wAt x (i + 1) = wIn x i (3 - i) (x.length - (3 - i) + 1) := by
  unfold wAt wIn
  rw [wOrder, List.foldl_append]
  rfl
theorem wStep_len (x : Str) (st : List Bool × List (Int × Int × Int)) (k : Nat × Nat) (h : k.2 + k.1 ≤ st.1.length) : (wStep x st k).1.length = st.1.length := by
  unfold wStep
  split
  · simp; omega
  · rfl
theorem wStep_told (x : Str) (st : List Bool × List (Int × Int × Int)) (k : Nat × Nat) : (wStep x st k).2.length ≤ st.2.length + 1 := by
  unfold wStep
  split <;> simp
theorem wIn_len {x : Str} {i size : Nat} (h : (wAt x i).1.length = x.length) (hs : size ≤ x.length) : ∀ j, j ≤ x.length - size + 1 → (wIn x i size j).1.length = x.length
  | 0, _ => h
  | j + 1, hj => by
    have ih := wIn_len h hs j (by omega)
    rw [wIn_succ, wStep_len _ _ _ (by rw [ih]; dsimp only; omega), ih]
theorem wIn_told (x : Str) (i size : Nat) : ∀ j, (wIn x i size j).2.length ≤ (wAt x i).2.length + j
  | 0 => Nat.le_refl _
  | j + 1 => by
    rw [wIn_succ]
    have := wStep_told x (wIn x i size j) (size, j)
    have := wIn_told x i size j
    omega
theorem wAt_len {x : Str} (h : 3 ≤ x.length) : ∀ i, (wAt x i).1.length = x.length
  | 0 => by simp [wAt, wOrder]
  | i + 1 => by rw [wAt_succ]; exact wIn_len (wAt_len h i) (by omega) _ (Nat.le_refl _)
theorem wAt_told (x : Str) : ∀ i, (wAt x i).2.length ≤ (x.length + 1) * i
  | 0 => by simp [wAt, wOrder]
  | i + 1 => by
    rw [wAt_succ]
    have := wIn_told x i (3 - i) (x.length - (3 - i) + 1)
    have := wAt_told x i
    rw [Nat.mul_add]
    omega

theorem iterTuple_K {prog : Program} {w : World} {A : Around} {E : Value → Shared → Prop} {s : Shared} {h₀ : Heap} {L TT : Addr} {m : Str → Option Value} {news : List (Addr × Obj)} {vs : List Value} {n : Nat} {Q : Value → Shared → Prop} (F : Fr h₀ L s.heap m)
    (N : News h₀ L s.heap ((TT, { cls := .type "tuple", data := .seq vs.toArray n }) :: news))
    (h : ∀ I h', Fr h₀ L h' m → News h₀ L h' (news ++ [(TT, { cls := .type "tuple", data := .seq vs.toArray n }), (I, { cls := .type "tuple_iterator", data := .fields #[.ref TT, .int 0 0] })]) → Q (.ref I) { s with heap := h' }) :
    wpAny (model prog w) A (pyIter (.ref TT)) Q E s := by
  refine wpAny_pyIter_tuple (items := vs.toArray) ⟨_, (N _ (.head _)).1, rfl, n, rfl⟩ (h _ _ (F.push _) ?_)
  intro p hp
  refine N.push F _ rfl p ?_
  rcases List.mem_append.mp hp with q | q
  · exact .tail _ (.tail _ q)
  · rcases List.mem_cons.mp q with rfl | q
    · exact .tail _ (.head _)
    · cases List.mem_singleton.mp q; exact .head _

theorem set_slice_K {prog : Program} {w : World} {A : Around} {E : Value → Shared → Prop} {s : Shared} {h₀ : Heap} {L D V : Addr} {m : Str → Option Value} {nw : List (Addr × Obj)} {its vs : List Value} {n k a b : Nat} {ta tb : Tok} {Q : Unit → Shared → Prop}
    (F : Fr h₀ L s.heap m) (N : News h₀ L s.heap nw) (hD : (D, listOf its.toArray n) ∈ nw) (hV : (V, listOf vs.toArray k) ∈ nw) (hab : a ≤ b) (hb : b ≤ its.length) (h1 : its.length < 1000) (h2 : vs.length = b - a) (hne : D ≠ V)
    (h : ∀ h', Fr h₀ L h' m → (∀ p ∈ nw, p.1 ≠ D → h'.get? p.1 = some p.2 ∧ p.1 ≠ L ∧ h₀.get? p.1 = none) → (h'.get? D = some (listOf (its.take a ++ vs ++ its.drop b).toArray n) ∧ D ≠ L ∧ h₀.get? D = none) → Q () { s with heap := h' }) :
    wpAny (model prog w) A (setItem (.ref D) (.ref s.heap.objs.size) (.ref V)) Q E { s with heap := s.heap.push { cls := .type "slice", data := .fields #[.int a ta, .int b tb, .none] } } := by
  have z := N _ hD
  refine set_slice (Heap.get?_push_of_some _ z.1) (Heap.get?_push_of_some _ (N _ hV).1) (Heap.IsSliceOf.new ..) hab hb h1 h2 hne fun h' sb ho => ?_
  refine h h' ((F.push _).change sb z.2.1 z.2.2) (fun p hp ne => ⟨(sb.2 _ ne).trans (Heap.get?_push_of_some _ (N p hp).1), (N p hp).2⟩) ⟨ho, z.2⟩
theorem slice_ledger {g h h' : Heap} {L Td Fa D : Addr} {v1 v2 : Addr × Obj} {oT oF oF' oD : Obj} {tups r1 r2 : List (Addr × Obj)} (N : News g L h (v1 :: v2 :: ((Td, oT) :: (Fa, oF) :: (D, oD) :: tups ++ r1 ++ r2))) (hF : oF.cls = .type "list")
    (n1 : Td ≠ Fa) (n2 : Fa ≠ D) (ht : ∀ p ∈ tups, p.2.cls = .type "tuple") (h1 : ∀ p ∈ r1, p.2.cls ≠ .type "list") (h2 : ∀ p ∈ r2, p.2.cls ≠ .type "list")
    (M : ∀ p ∈ v1 :: v2 :: ((Td, oT) :: (Fa, oF) :: (D, oD) :: tups ++ r1 ++ r2), p.1 ≠ Fa → h'.get? p.1 = some p.2 ∧ p.1 ≠ L ∧ g.get? p.1 = none) (hS' : h'.get? Fa = some oF' ∧ Fa ≠ L ∧ g.get? Fa = none) :
    News g L h' ((Td, oT) :: (Fa, oF') :: (D, oD) :: tups ++ r1 ++ r2) := by
  have hSm : (Fa, oF) ∈ v1 :: v2 :: ((Td, oT) :: (Fa, oF) :: (D, oD) :: tups ++ r1 ++ r2) := by simp
  have key : ∀ p, p ∈ v1 :: v2 :: ((Td, oT) :: (Fa, oF) :: (D, oD) :: tups ++ r1 ++ r2) → p.2.cls ≠ .type "list" → h'.get? p.1 = some p.2 ∧ p.1 ≠ L ∧ g.get? p.1 = none :=
    fun p hp hc => M p hp (News.ne_of_cls N hp hSm (by rw [hF]; exact hc))
  intro p hp
  simp only [List.cons_append, List.append_assoc, List.mem_cons, List.mem_append] at hp
  rcases hp with rfl | rfl | rfl | hp | hp | hp
  · exact M _ (by simp) n1
  · exact hS'
  · exact M _ (by simp) (Ne.symm n2)
  · exact key p (by simp [hp]) (by rw [ht p hp]; simp)
  · exact key p (by simp [hp]) (h1 p hp)
  · exact key p (by simp [hp]) (h2 p hp)
theorem told_ledger {g h h' : Heap} {L Td Fa D T : Addr} {o oT oT' oF oD : Obj} {tups r1 r2 : List (Addr × Obj)} (N : News g L h ((T, o) :: ((Td, oT) :: (Fa, oF) :: (D, oD) :: tups ++ r1 ++ r2))) (hT : oT.cls = .type "list") (ho : o.cls = .type "tuple")
    (n1 : Td ≠ Fa) (n2 : Td ≠ D) (ht : ∀ p ∈ tups, p.2.cls = .type "tuple") (h1 : ∀ p ∈ r1, p.2.cls ≠ .type "list") (h2 : ∀ p ∈ r2, p.2.cls ≠ .type "list")
    (M : ∀ p ∈ (T, o) :: ((Td, oT) :: (Fa, oF) :: (D, oD) :: tups ++ r1 ++ r2), p.1 ≠ Td → h'.get? p.1 = some p.2 ∧ p.1 ≠ L ∧ g.get? p.1 = none) (hS' : h'.get? Td = some oT' ∧ Td ≠ L ∧ g.get? Td = none) :
    News g L h' ((Td, oT') :: (Fa, oF) :: (D, oD) :: ((T, o) :: tups) ++ r1 ++ r2) := by
  have hSm : (Td, oT) ∈ (T, o) :: ((Td, oT) :: (Fa, oF) :: (D, oD) :: tups ++ r1 ++ r2) := by simp
  have key : ∀ p, p ∈ (T, o) :: ((Td, oT) :: (Fa, oF) :: (D, oD) :: tups ++ r1 ++ r2) → p.2.cls ≠ .type "list" → h'.get? p.1 = some p.2 ∧ p.1 ≠ L ∧ g.get? p.1 = none :=
    fun p hp hc => M p hp (News.ne_of_cls N hp hSm (by rw [hT]; exact hc))
  intro p hp
  simp only [List.cons_append, List.append_assoc, List.mem_cons, List.mem_append] at hp
  rcases hp with rfl | rfl | rfl | rfl | hp | hp | hp
  · exact hS'
  · exact M _ (by simp) (Ne.symm n1)
  · exact M _ (by simp) (Ne.symm n2)
  · exact key _ (.head _) (by rw [ho]; simp)
  · exact key p (by simp [hp]) (by rw [ht p hp]; simp)
  · exact key p (by simp [hp]) (h1 p hp)
  · exact key p (by simp [hp]) (h2 p hp)
theorem news_but {g h h' : Heap} {L D : Addr} {o' : Obj} {nw nw' : List (Addr × Obj)} (N : News g L h nw) (hs : ∀ b, b ≠ D → h'.get? b = h.get? b) (hD : D ≠ L ∧ g.get? D = none) (ho : h'.get? D = some o')
    (hm : ∀ p ∈ nw', p = (D, o') ∨ (p ∈ nw ∧ p.1 ≠ D)) : News g L h' nw' := by
  intro p hp
  rcases hm p hp with rfl | ⟨q, ne⟩
  · exact ⟨ho, hD⟩
  · exact ⟨(hs _ ne).trans (N p q).1, (N p q).2⟩

local macro_rules | `(tactic| walk_at "eval Name") => `(tactic| (k_here; k_dflt (refine' ld ?k1 ?k2 ?_; (case k1 => k_asm); (case k2 => assumption); k_whole)))

set_option maxHeartbeats 4000000 in
theorem walks_call {w : World} {A : Around} {s : Shared} {base : Heap} {mg mb : Str → Option Value} {R : Result → Shared → Prop} {x : Str} {t : Tok}
    (G : Base w mg mb base) (st : ∀ b o, base.get? b = some o → s.heap.get? b = some o) (hh : A.handled = none) (hdep : A.depth + 60 < recursionLimit) (hu : A.units + 120 < cLine) 
    (h3 : x.length < 100) (h4 : 3 ≤ x.length)
    (h : ∀ h' tk Td l n, (∀ b o, s.heap.get? b = some o → h'.get? b = some o) → h'.get? Td = some (listOf l.toArray n) → TripsOf h' l (wAt x 3).2 → R (.ok (.ret (.ref Td))) { s with heap := h', toks := tk }) :
    codeAny (model PySem.Challenge.rw_mg0041_01.row.prog w) A (.call (.ref 71) ⟨[.str x t], []⟩) R s := by
  refine' call_own (news := []) G st ?hn ?ho ?hcd ?hroom ?hbind ?hloc ?_ ?c2 ?c3 ?c4 ?c5
  case ho => k_is
  case hcd => k_is
  case hroom => omega
  case hbind => exact BindsTo.of_eq rfl
  case hloc => exact locs rfl
  case c2 => rfl
  case c3 => rfl
  case c4 => rfl
  case c5 => decide
  case hn => intro p hp; cases hp
  intro g L h₁ G' hb' hs' hd' F N
  have KX := G'.K
  have T := G'.T
  try dsimp only
  iterate 5 walk1
  refine wpAny_call (row_call G' F.keep (by show A.depth + 1 + 30 < recursionLimit; omega) (by show A.units + 3 + 60 < cLine; omega) ?_)
  intro h₂ tk₂ D lr k1 k2 k3 k4
  dsimp only
  have F₂ : Fr g L h₂ _ := F.grownK k1
  have N₂ : News g L h₂ [(D, listOf (strValues lr).toArray 0)] := by
    intro p hp
    cases List.mem_singleton.mp hp
    obtain ⟨oL, _, _, hL, _⟩ := F.ns
    refine ⟨k2, fun q => ?_, ?_⟩
    · dsimp only at q; rw [q, hL] at k4; cases k4
    · cases q : g.get? D with
      | none => rfl
      | some o => rw [F.keep D o q] at k4; cases k4
  clear F N
  iterate 17 walk1
  rename_i O h₄ F₄ N₄ l4
  refine mul_one F₄ N₄ (N₄.get (.head _)) (by omega) ?_
  intro Fa h₅ F₅ N₅ l5
  have ne1 : Fa ≠ D := Nat.ne_of_gt (l5 (D, listOf (strValues lr).toArray 0) (.tail _ (.head _)))
  have N₅' : News g L h₅ [(Fa, listOf (List.replicate x.length (Value.bool true)).toArray 0), (D, listOf (strValues lr).toArray 0)] := fun p hp => N₅ p (by
    rcases List.mem_cons.mp hp with rfl | hp
    · exact .head _
    · exact .tail _ (.tail _ hp))
  clear N₅ F₄ N₄
  iterate 8 walk1
  rename_i Td _ l6 h₆ F₆ N₆
  have ne2 : Td ≠ Fa := Nat.ne_of_gt l6.1
  have ne3 : Td ≠ D := Nat.ne_of_gt l6.2
  iterate 1 walk1
  refine wpAny_For ?_
  iterate 8 walk1
  refine kup_newTuple F₆ N₆ ?_ (by size_fits)
  intro TT h₇ F₇ N₇ l7
  refine iterTuple_K F₇ N₇ ?_
  intro I h₈ F₈ N₈
  refine for_tuple (L := L) rfl rfl (fun i m' nw => ∃ l n nf tups, nw = (Td, listOf l.toArray n) :: (Fa, listOf ((wAt x i).1.map Value.bool).toArray nf) :: (D, listOf (strValues lr).toArray 0) :: tups ∧ TripsFor tups l (wAt x i).2 ∧ (∀ p ∈ tups, p.2.cls = .type "tuple") ∧
      m' (Str.ofString "text") = some (.str x t) ∧ m' (Str.ofString "row") = some (.ref D) ∧ m' (Str.ofString "free") = some (.ref Fa) ∧ m' (Str.ofString "told") = some (.ref Td)) ?_ (by exact hh) rfl rfl rfl F₈ N₈ ⟨[], 0, 0, [], ?_, trivial, by simp, rfl, rfl, rfl, rfl⟩ ?_ ?_
  · rintro i m' nw ⟨l, n, nf, tups, rfl, -, e1, -, -⟩ p hp
    rcases List.mem_cons.mp hp with rfl | hp
    · simp
    · rcases List.mem_cons.mp hp with rfl | hp
      · simp
      · rcases List.mem_cons.mp hp with rfl | hp
        · simp
        · rw [e1 p hp]; simp
  · simp [wAt, wOrder]
  · rintro i v m' nw h₉ tk₉ oI hv hoI F₉ N₉ ⟨l, n, nf, tups, rfl, a1, a2, a3, a4, a5, a6⟩
    clear F₆ N₆ F₇ N₇ F₈ N₈
    obtain ⟨hi, tv, rfl⟩ : i < 3 ∧ ∃ tv, v = .int ((3 - i : Nat) : Int) tv := by
      rcases i with _ | _ | _ | i
      · exact ⟨by omega, _, (Option.some.inj hv).symm⟩
      · exact ⟨by omega, _, (Option.some.inj hv).symm⟩
      · exact ⟨by omega, _, (Option.some.inj hv).symm⟩
      · simp at hv
    generalize hsz : 3 - i = size at *
    iterate 1 walk1
    refine wpAny_For ?_
    iterate 17 walk1
    rw [show ((x.length : Int) - (size : Int) + 1) = ((x.length - size + 1 : Nat) : Int) by omega]
    iterate 1 walk1
    refine range1_K F₉ N₉ ?_
    intro r u1 v1 h₁₀ tk₁₀ F₁₀ N₁₀ hr
    refine iter_K (n := x.length - size + 1) F₁₀ N₁₀ hr (by omega) (by omega) (by omega) (by omega) (by omega) ?_
    intro I2 h₁₁ F₁₁ N₁₁ nI2
    refine for_range (L := L) (fun j => (j : Int)) (by simp) (by intro i; omega) (fun j m' nw => ∃ l n nf tups, nw = (Td, listOf l.toArray n) :: (Fa, listOf ((wIn x i size j).1.map Value.bool).toArray nf) :: (D, listOf (strValues lr).toArray 0) :: tups ++ [(TT, _), (I, oI)] ∧ TripsFor tups l (wIn x i size j).2 ∧ (∀ p ∈ tups, p.2.cls = .type "tuple") ∧
      m' (Str.ofString "text") = some (.str x t) ∧ m' (Str.ofString "row") = some (.ref D) ∧ m' (Str.ofString "free") = some (.ref Fa) ∧ m' (Str.ofString "told") = some (.ref Td) ∧ m' (Str.ofString "size") = some (.int size tv)) [] (by simp) ?_ (by exact hh) rfl rfl rfl F₁₁ N₁₁ ⟨l, n, nf, tups, rfl, a1, a2, a3, a4, a5, a6, rfl⟩ ?_ ?_
    · rintro j m₂ nw ⟨l, n, nf, tups, rfl, -, e1, -, -⟩ p hp
      left
      simp only [List.cons_append, List.mem_cons, List.mem_append, List.not_mem_nil, or_false] at hp
      rcases hp with rfl | rfl | rfl | hp | rfl | rfl
      · simp
      · simp
      · simp
      · rw [e1 p hp]; simp
      · simp
      · rw [hoI]; simp
    · rintro j m₂ nw h₁₂ tk₁₂ t₁₂ hj F₁₂ N₁₂ ⟨l, n, nf, tups, rfl, a1, a2, a3, a4, a5, a6, a7⟩
      clear F₉ N₉ F₁₀ N₁₀ F₁₁ N₁₁
      iterate 21 walk1
      rename_i h₁₄ F₁₄ N₁₄
      refine in_strs (News.isList N₁₄ (List.mem_append_left _ (List.mem_append_left _ (.tail _ (.tail _ (.head _)))))) ?_
      rw [k3]
      iterate 2 walk1
      · rename_i hc
        iterate 14 walk1
        have hlen := wIn_len (size := size) (wAt_len h4 i) (by omega) j (by omega)
        refine slice_list (s := { s with heap := h₁₄, toks := _ }) F₁₄ N₁₄ (News.isList N₁₄ (List.mem_append_left _ (List.mem_append_left _ (.tail _ (.head _))))) (.int _ _) (.int _ _) ?_
        intro h₁₅ F₁₅ N₁₅
        have e₁₅ : slicePick ((wIn x i size j).1.map Value.bool).toArray (some (j : Int)) (some ((j : Int) + (size : Int))) none = ((((wIn x i size j).1.drop j).take size).map Value.bool).toArray := by
          rw [show (j : Int) + (size : Int) = ((j + size : Nat) : Int) by omega, slicePick_run _ _ _ (by simp; omega) (by omega)]
          simp [List.map_drop, List.map_take]
        rw [e₁₅] at N₁₅
        refine notIn_bools (News.isList N₁₅ (.head _)) ?_
        have N₁₆ := News.tail' N₁₅
        clear N₁₅ F₁₄ N₁₄
        iterate 3 walk1
        · rename_i hf
          iterate 4 walk1
          refine ⟨rfl, h₁₅, _, _, _, rfl, F₁₅, N₁₆, l, n, nf, tups, ?_, ?_, a2, a3, a4, a5, a6, a7⟩
          · rw [wIn_succ, wStep, if_neg (by dsimp only; rw [hf]; simp)]
          · rw [wIn_succ, wStep, if_neg (by dsimp only; rw [hf]; simp)]; exact a1
        · rename_i hf
          iterate 12 walk1
          rename_i O₁ h₁₇ F₁₇ N₁₇ l₁₇
          refine mul_one F₁₇ N₁₇ (N₁₇.get (.head _)) (by omega) ?_
          intro V h₁₈ F₁₈ N₁₈ l₁₈
          have hVF : Fa ≠ V := Nat.ne_of_lt (l₁₈ (Fa, _) (.tail _ (List.mem_append_left _ (List.mem_append_left _ (.tail _ (.head _))))))
          clear F₁₇ N₁₇
          iterate 9 walk1
          rw [show (j : Int) + (size : Int) = ((j + size : Nat) : Int) by omega]
          iterate 1 walk1
          refine set_slice_K (its := (wIn x i size j).1.map Value.bool) (vs := List.replicate size (Value.bool false)) (a := j) (b := j + size) F₁₈ N₁₈ (.tail _ (.tail _ (List.mem_append_left _ (List.mem_append_left _ (.tail _ (.head _)))))) (.head _) (by omega) (by simp; omega) (by simp; omega) (by simp) hVF ?_
          intro h₂₀ F₂₀ M₂₀ S₂₀
          have q1 : ∀ oT : Obj, oT.cls = .type "tuple" → ∀ p ∈ [(TT, oT), (I, oI)], p.2.cls ≠ .type "list" := by
            intro oT hoT p hp
            rcases List.mem_cons.mp hp with rfl | hp
            · rw [hoT]; simp
            · cases List.mem_singleton.mp hp; rw [hoI]; simp
          have q2 : ∀ p ∈ [(I2, rIter ((j + 1 : Nat) : Int) ((x.length - size + 1 : Nat) - j - 1) 1)], p.2.cls ≠ .type "list" := by
            intro p hp; cases List.mem_singleton.mp hp; simp
          have N₂₀ := slice_ledger N₁₈ rfl ne2 ne1 a2 (q1 _ rfl) q2 M₂₀ S₂₀
          have e₂₀ : ((wIn x i size j).1.map Value.bool).take j ++ List.replicate size (Value.bool false) ++ ((wIn x i size j).1.map Value.bool).drop (j + size) = ((wIn x i size j).1.take j ++ List.replicate size false ++ (wIn x i size j).1.drop (j + size)).map Value.bool := by
            simp [List.map_take, List.map_drop]
          rw [e₂₀] at N₂₀
          clear F₁₈ N₁₈ M₂₀ S₂₀
          iterate 22 walk1
          have hlr : lr.length = rowL.length := by rw [← k3]; simp
          have hrl : rowL.length = 48 := by simp [rowL]
          refine index_strs (News.isList N₂₀ (List.mem_append_left _ (List.mem_append_left _ (.tail _ (.tail _ (.head _)))))) (by rw [k3]; exact hc) (by omega) ?_
          rw [k3]
          iterate 2 walk1
          refine kup_newTuple F₂₀ N₂₀ ?_ (by size_fits)
          intro T₁ h₂₁ F₂₁ N₂₁ l₂₁
          iterate 1 walk1
          refine append_in F₂₁ N₂₁ (.tail _ (List.mem_append_left _ (List.mem_append_left _ (.head _)))) (by have := a1.length; have := wIn_told x i size j; have := wAt_told x i; have : (x.length + 1) * i ≤ 101 * 2 := Nat.mul_le_mul (by omega) (by omega); omega) ?_
          intro h₂₂ F₂₂ M₂₂ S₂₂
          iterate 3 walk1
          have hw : wIn x i size (j + 1) = ((wIn x i size j).1.take j ++ List.replicate size false ++ (wIn x i size j).1.drop (j + size), (wIn x i size j).2 ++ [((j : Int), (size : Int), (7 : Int) + (rowL.idxOf (piece x j size) : Nat))]) := by
            rw [wIn_succ, wStep, if_pos ⟨(isTok_iff _).mpr hc, by simpa using hf⟩]
          rw [hw]
          refine ⟨rfl, h₂₂, _, _, _, rfl, F₂₂, told_ledger N₂₁ rfl rfl ne2 ne3 a2 (q1 _ rfl) q2 M₂₂ S₂₂, l ++ [.ref T₁], n + 1, nf, (T₁, _) :: tups, rfl, ?_, ?_, a3, a4, a5, a6, a7⟩
          · exact TripsFor.snoc (k := ((j : Int), (size : Int), (7 : Int) + (rowL.idxOf (piece x j size) : Nat))) ⟨_, _, _, _, _, rfl, .head _⟩ (a1.mono fun p hp => .tail _ hp)
          · intro p hp
            rcases List.mem_cons.mp hp with rfl | hp
            · rfl
            · exact a2 p hp
      · rename_i hc
        iterate 4 walk1
        refine ⟨rfl, h₁₄, _, _, _, rfl, F₁₄, N₁₄, l, n, nf, tups, ?_, ?_, a2, a3, a4, a5, a6, a7⟩
        · rw [wIn_succ, wStep, if_neg (by rw [isTok_iff]; exact fun q => hc q.1)]
        · rw [wIn_succ, wStep, if_neg (by rw [isTok_iff]; exact fun q => hc q.1)]; exact a1
    · rintro m₂ nw h₁₂ tk₁₂ F₁₂ N₁₂ ⟨l, n, nf, tups, rfl, a1, a2, a3, a4, a5, a6, a7⟩
      dsimp only
      iterate 1 walk1
      refine ⟨rfl, h₁₂, tk₁₂, m₂, _, rfl, F₁₂, N₁₂, l, n, nf, tups, ?_, ?_, a2, a3, a4, a5, a6⟩
      · rw [wAt_succ, hsz]
      · rw [wAt_succ, hsz]; exact a1
  · rintro m' nw h₉ tk₉ F₉ N₉ ⟨l, n, nf, tups, rfl, a1, a2, a3, a4, a5, a6⟩
    dsimp only
    iterate 3 walk1
    exact h h₉ tk₉ Td l n (fun b o e => F₉.keep b o (hs' b o e (by simp))) (N₉.get (.head _)) (a1.of N₉ fun p hp => .tail _ (.tail _ (.tail _ hp)))
end Mine
end

/-! part Ops3 -/
section
open PySem PySem.W PyProof.Rows PySem.Calls PySem.SeqAt
set_option maxRecDepth 100000
namespace Mine

noncomputable def pairD (k : Int × Int) : PyData := .tuple [.int k.1, .int k.2]
noncomputable def tripD (k : Int × Int × Int) : PyData := .tuple [.int k.1, .int k.2.1, .int k.2.2]
theorem reads_pair {h : Heap} {a : Addr} {k : Int × Int} {t1 t2 : Tok} {n : Nat} (ho : h.get? a = some (pairOf k.1 k.2 t1 t2 n)) : Reads h (.ref a) (pairD k) [] :=
  reads_tuple_at ho rfl rfl (readsAll_cons_val (.int _ _) (readsAll_cons_val (.int _ _) .nil))
theorem Key.reads {h : Heap} {v : Value} {k : Int × Int} (x : Key h v k) : Reads h v (pairD k) [] := by
  obtain ⟨a, t1, t2, n, rfl, ho⟩ := x
  exact reads_pair ho
theorem reads_pairs {h : Heap} {kf : Value → Int × Int} : ∀ {l : List Value}, (∀ v ∈ l, Key h v (kf v)) → ReadsAll h l (l.map fun v => pairD (kf v)) []
  | [], _ => .nil
  | _ :: _, h => readsAll_cons_val (h _ (.head _)).reads (reads_pairs fun v hv => h v (.tail _ hv))
theorem reads_trips {h : Heap} : ∀ {l : List Value} {ts : List (Int × Int × Int)}, TripsOf h l ts → ReadsAll h l (ts.map tripD) []
  | [], [], _ => .nil
  | _ :: _, _ :: _, ⟨⟨a, t1, t2, t3, n, e, ho⟩, r⟩ => by
    subst e
    exact readsAll_cons_val (reads_tuple_at ho rfl rfl (readsAll_cons_val (.int _ _) (readsAll_cons_val (.int _ _) (readsAll_cons_val (.int _ _) .nil)))) (reads_trips r)
  | [], _ :: _, h => h.elim
  | _ :: _, [], h => h.elim
theorem lay_pairs (kf : Value → Int × Int) : ∀ l : List Value, PyData.canLayAll0 (l.map fun v => pairD (kf v)) = true ∧ PyData.depthAll (l.map fun v => pairD (kf v)) ≤ 1
  | [] => ⟨rfl, by simp [PyData.depthAll]⟩
  | v :: l => by
    have ih := lay_pairs kf l
    have e1 : (pairD (kf v)).canLay0 = true := by simp [PyData.canLay0, PyData.canLayAll0, pairD]
    have e2 : (pairD (kf v)).depth = 1 := by simp [PyData.depth, PyData.depthAll, pairD]
    refine ⟨?_, ?_⟩
    · rw [List.map_cons, PyData.canLayAll0, e1, ih.1]; rfl
    · rw [List.map_cons, PyData.depthAll, e2]
      exact Nat.max_le.mpr ⟨Nat.le_refl _, ih.2⟩
theorem lay_trips : ∀ ts : List (Int × Int × Int), PyData.canLayAll0 (ts.map tripD) = true ∧ PyData.depthAll (ts.map tripD) ≤ 1
  | [] => ⟨rfl, by simp [PyData.depthAll]⟩
  | v :: l => by
    have ih := lay_trips l
    have e1 : (tripD v).canLay0 = true := by simp [PyData.canLay0, PyData.canLayAll0, tripD]
    have e2 : (tripD v).depth = 1 := by simp [PyData.depth, PyData.depthAll, tripD]
    refine ⟨?_, ?_⟩
    · rw [List.map_cons, PyData.canLayAll0, e1, ih.1]; rfl
    · rw [List.map_cons, PyData.depthAll, e2]
      exact Nat.max_le.mpr ⟨Nat.le_refl _, ih.2⟩
theorem shaped_list {ds : List PyData} (h : PyData.canLayAll0 ds = true ∧ PyData.depthAll ds ≤ 1) : shaped (.list ds) = true := by
  have e : (PyData.list ds).depth ≤ 64 := by rw [PyData.depth]; omega
  have e1 : (PyData.list ds).canLay0 = true := by rw [PyData.canLay0]; exact h.1
  unfold shaped
  rw [e1, decide_eq_true e]; rfl
theorem eqv_trips : ∀ ts : List (Int × Int × Int), PyData.eqvAll (ts.map tripD) (ts.map tripD) = true
  | [] => by simp [PyData.eqvAll]
  | v :: l => by simp [PyData.eqvAll, PyData.eqv, tripD, eqv_trips l]

section
variable {prog : Program} {w : World} {A : Around} {E : Value → Shared → Prop} {s : Shared} {h₀ : Heap} {L D S : Addr} {m : Str → Option Value} {nw : List (Addr × Obj)}

theorem ne_empty {l : List Value} {n k : Nat} {kf : Value → Int × Int} {Q : Value → Shared → Prop} (hS : s.heap.get? S = some (listOf l.toArray n)) (hD : s.heap.get? D = some (listOf #[] k)) (hk : ∀ v ∈ l, Key s.heap v (kf v)) (hu : A.units + 64 < cLine)
    (h : Q (.bool (!l.isEmpty)) s) : wpAny (model prog w) A (compareOp .NotEq (.ref S) (.ref D)) Q E s := by
  refine ne_dataH (reads_list_at hS rfl rfl (reads_pairs (l := l) hk)) (reads_list_at hD rfl rfl .nil) (shaped_list (lay_pairs kf l)) (by decide) hu ?_
  have e : PyData.eqv (.list (l.map fun v => pairD (kf v))) (.list []) = l.isEmpty := by
    cases l with
    | nil => simp [PyData.eqv, PyData.eqvAll]
    | cons v l => simp [PyData.eqv, PyData.eqvAll]
  rw [e]; exact h
theorem ne_self {v : Value} {k : Int × Int} {Q : Value → Shared → Prop} (hk : Key s.heap v k) (hu : A.units + 64 < cLine) (h : Q (.bool false) s) : wpAny (model prog w) A (compareOp .NotEq v v) Q E s := by
  refine ne_dataH hk.reads hk.reads (by simp [shaped, pairD, PyData.canLay0, PyData.canLayAll0, PyData.depth, PyData.depthAll]) (by simp [shaped, pairD, PyData.canLay0, PyData.canLayAll0, PyData.depth, PyData.depthAll]) hu ?_
  have e : PyData.eqv (pairD k) (pairD k) = true := by simp [PyData.eqv, PyData.eqvAll, pairD]
  rw [e]; exact h
theorem eq_trips {l1 l2 : List Value} {n1 n2 : Nat} {ts : List (Int × Int × Int)} {Q : Value → Shared → Prop} (hS : s.heap.get? S = some (listOf l1.toArray n1)) (hD : s.heap.get? D = some (listOf l2.toArray n2)) (h1 : TripsOf s.heap l1 ts) (h2 : TripsOf s.heap l2 ts)
    (hu : A.units + 64 < cLine) (h : Q (.bool true) s) : wpAny (model prog w) A (compareOp .Eq (.ref S) (.ref D)) Q E s := by
  refine eq_dataH (reads_list_at hS rfl rfl (reads_trips (l := l1) h1)) (reads_list_at hD rfl rfl (reads_trips (l := l2) h2)) (shaped_list (lay_trips ts)) (shaped_list (lay_trips ts)) hu ?_
  have e : PyData.eqv (.list (ts.map tripD)) (.list (ts.map tripD)) = true := by simp only [PyData.eqv, eqv_trips]
  rw [e]; exact h

theorem item_pair {value slice : PySem.Expr} {v : Value} {k : Int × Int} {i : Int} {u : Tok} {j : Nat} {Q : Value → Shared → Prop} (hk : Key s.heap v k) (hj : i = j) (hj2 : j < 2)
    (h : ∀ t, Q (.int (if j = 0 then k.1 else k.2) t) s)
    (hs : ∀ a, subscripted slice false (.ref a) (.int i u) = operate [.ref a, .int i u] (getItem (.ref a) (.int i u)) := by intro _; with_unfolding_all rfl) :
    wpAny (model prog w) A (subscriptTail value slice v (.int i u)) Q E s := by
  obtain ⟨a, t1, t2, n, rfl, ho⟩ := hk
  subst hj
  rcases j with _ | _ | j
  · exact item_tupleT (l := [.int k.1 t1, .int k.2 t2]) ⟨_, ho, rfl, _, rfl⟩ (by decide) (by decide) (j := 0) rfl rfl (h t1) (hs a)
  · exact item_tupleT (l := [.int k.1 t1, .int k.2 t2]) ⟨_, ho, rfl, _, rfl⟩ (by decide) (by decide) (j := 1) rfl rfl (h t2) (hs a)
  · omega
theorem item_fst {value slice : PySem.Expr} {v : Value} {k : Int × Int} {u : Tok} {Q : Value → Shared → Prop} (hk : Key s.heap v k) (h : ∀ t, Q (.int k.1 t) s)
    (hs : ∀ a, subscripted slice false (.ref a) (.int 0 u) = operate [.ref a, .int 0 u] (getItem (.ref a) (.int 0 u)) := by intro _; with_unfolding_all rfl) :
    wpAny (model prog w) A (subscriptTail value slice v (.int 0 u)) Q E s := item_pair hk (j := 0) rfl (by omega) h hs
theorem item_snd {value slice : PySem.Expr} {v : Value} {k : Int × Int} {u : Tok} {Q : Value → Shared → Prop} (hk : Key s.heap v k) (h : ∀ t, Q (.int k.2 t) s)
    (hs : ∀ a, subscripted slice false (.ref a) (.int 1 u) = operate [.ref a, .int 1 u] (getItem (.ref a) (.int 1 u)) := by intro _; with_unfolding_all rfl) :
    wpAny (model prog w) A (subscriptTail value slice v (.int 1 u)) Q E s := item_pair hk (j := 1) rfl (by omega) h hs
theorem list_range {r : Addr} {a b : Int} {t u v : Tok} {n : Nat} {Q : Value → Shared → Prop} (hh : A.handled = none) (F : Fr h₀ L s.heap m) (N : News h₀ L s.heap nw) (hr : IsRange s.heap r a b 1 t u v)
    (h0 : -(2 ^ 40) ≤ a) (h1 : a < 2 ^ 40) (h2 : -(2 ^ 40) ≤ b) (h3 : b < 2 ^ 40) (hn : n = (b - a).toNat) (hlen : n ≤ 1000)
    (h : ∀ D h' tk vs k, Fr h₀ L h' m → News h₀ L h' ((D, listOf vs.toArray k) :: nw) → IntsAre vs (rangeInts a 1 n) → Q (.ref D) { s with heap := h', toks := tk }) :
    wpAny (model prog w) A (call (.type "list") [.ref r]) Q E s := by
  have e : Builtin.Range.rangeSize a b 1 = (n : Int) := by rw [rangeSize_one]; split <;> omega
  refine list_rangeD hh F N hr (small_one (by omega) (by omega) (by omega) (by omega)) e (by omega) fun h' tk ys F' N' _ hn' _ P C => ?_
  obtain ⟨k, NX⟩ := made_enters P F' N' hn'
  refine h _ h' tk ys k F' NX ?_
  have := CarriedAll.intsOf (f := fun i : Int => i) C
  simpa using this
end
end Mine
end

/-! part Ops4 -/
section
open PySem PySem.W PyProof.Rows PySem.Calls PySem.SeqAt PyProof.Rows.LCg PyProof.Rows.LCt
set_option maxRecDepth 100000
namespace Mine

section
variable {prog : Program} {w : World} {A : Around} {E : Value → Shared → Prop} {s : Shared} {h₀ : Heap} {L D ax : Addr} {m : Str → Option Value} {nw : List (Addr × Obj)} {env : Env}
theorem in_ints {vs : List Value} {ns : List Int} {x : Int} {t : Tok} {Q : Value → Shared → Prop} (hl : s.heap.IsList D vs.toArray) (hi : IntsAre vs ns) (h : Q (.bool (ns.contains x)) s) :
    wpAny (model prog w) A (compareOp .In (.int x t) (.ref D)) Q E s := by
  have e : ns.any (· == x) = ns.contains x := by
    rw [List.contains_eq_any_beq]
    exact congrArg ns.any (funext fun y => Bool.beq_comm)
  exact in_list_ints hl hi (by rw [e]; exact h)

/-- a comprehension over a list of ints that keeps what a test keeps -/
theorem comp_filter {ct elt : PySem.Expr} {x : Str} {scope : Scope} {cl : List (Str × Addr)} {vp : List Value} {ns : List Int} {Fin : List Value → List (Addr × Obj) → Prop} (pr : Int → Bool) (hI : IntsAre vp ns) (hS : SrcAt h₀ ax vp.toArray nw)
    (test : ∀ n t I oI C oC D m₂ h tk ys (E' : Value → Shared → Prop) (Q' : Bool → Shared → Prop), NsObj oC m₂ → m₂ x = some (.int n t) → Fr h₀ L h m → News h₀ L h ((I, oI) :: (C, oC) :: (D, lst ys) :: nw) → Q' (pr n) { s with heap := h, toks := tk } →
      wpAny (model prog w) A (isTrue ct (compEnvC scope cl C env) (eval ct (compEnvC scope cl C env))) Q' E' { s with heap := h, toks := tk })
    (elem : ∀ n t I oI C oC D m₂ h tk ys (E' : Value → Shared → Prop) (Q' : Value → Shared → Prop), NsObj oC m₂ → m₂ x = some (.int n t) → Fr h₀ L h m → News h₀ L h ((I, oI) :: (C, oC) :: (D, lst ys) :: nw) → Q' (.int n t) { s with heap := h, toks := tk } →
      wpAny (model prog w) A (eval elt (compEnvC scope cl C env)) Q' E' { s with heap := h, toks := tk })
    (fin : ∀ ys, IntsAre ys (ns.filter pr) → Fin ys nw) :
    ∀ k i ys, i + k = vp.length → IntsAre ys ((ns.take i).filter pr) → CompRestT prog w A h₀ L m env ct elt x scope cl s (SrcAt h₀ ax vp.toArray) (fun i v => vp.toArray[i]? = some v) Fin k i ys nw
  | 0, i, ys, hi, hy => by
    refine CompRestT.zero (fin ys ?_)
    rw [List.take_of_length_le (by rw [← hI.length]; omega)] at hy
    exact hy
  | k + 1, i, ys, hi, hy => by
    have hlt : i < ns.length := by rw [← hI.length]; omega
    refine CompRestT.succ ?_
    intro v I oI C oC D m₂ h tk E' hP hC hm hF hN hOff hne
    obtain ⟨t, ht⟩ := hI.get i ns[i] (List.getElem?_eq_getElem hlt)
    have hv : v = .int ns[i] t := by
      have hP' : vp[i]? = some v := by simpa using hP
      rw [ht] at hP'; exact (Option.some.inj hP').symm
    subst hv
    have hf : (ns.take (i + 1)).filter pr = (ns.take i).filter pr ++ if pr ns[i] then [ns[i]] else [] := by
      rw [List.take_add_one, List.getElem?_eq_getElem hlt, List.filter_append]
      simp [List.filter_cons]
    refine test ns[i] t I oI C oC D m₂ h tk ys E' _ hC hm hF hN ?_
    cases hp : pr ns[i] with
    | true =>
      simp only [if_true]
      refine elem ns[i] t I oI C oC D m₂ h tk ys E' _ hC hm hF hN ?_
      refine CompEnd.intro hF hN nw (fun p hp => hp) hOff hS (comp_filter pr hI hS test elem fin k (i + 1) _ (by omega) ?_)
      rw [hf, hp]
      exact IntsAre.append hy (.cons _ _ .nil)
    | false =>
      simp only [Bool.false_eq_true, if_false]
      refine CompEnd.intro hF hN nw (fun p hp => hp) hOff hS (comp_filter pr hI hS test elem fin k (i + 1) _ (by omega) ?_)
      rw [hf, hp]
      simpa using hy
theorem add_K {l b : Addr} {vs ws : List Value} {ns ms : List Int} {Q : Value → Shared → Prop} (F : Fr h₀ L s.heap m) (N : News h₀ L s.heap nw) (hl : s.heap.IsList l vs.toArray) (hb : s.heap.IsList b ws.toArray) (hi : IntsAre vs ns) (hj : IntsAre ws ms) (hz : ns.length + ms.length < 10000)
    (h : ∀ D h', Fr h₀ L h' m → News h₀ L h' ((D, listOf (vs ++ ws).toArray 0) :: nw) → IntsAre (vs ++ ws) (ns ++ ms) → (∀ p ∈ nw, p.1 < D) → Q (.ref D) { s with heap := h' }) :
    wpAny (model prog w) A (binaryOp .Add (.ref l) (.ref b)) Q E s :=
  add_lists_ints (hsz := by rw [sizeLine_eq]; omega) F N hl hb hi hj fun h' F' N' hk => h _ h' F' N' hk fun p hp => Heap.lt_size (N p hp).1
end
end Mine
end

/-! part Pop0 -/
section
open PySem PySem.W PyProof.Rows PySem.Calls
set_option maxRecDepth 100000
namespace Mine

theorem pop_empty_meets (l : Addr) (n : Nat) :
    Meets (Builtin.«list.pop» ⟨[.ref l], []⟩)
      (fun A R s => s.heap.get? l = some { cls := .type "list", dict := none, data := .seq #[] n, slots := #[] } ∧ raisesNew "IndexError" A R s) :=
  .of_wp fun prog w A R s h => by
    obtain ⟨hp, g, d, tk, os⟩ := s; obtain ⟨hl, h⟩ := h
    have hne : (#[] : Array Value).isEmpty = true := rfl
    wp_walk using wpAny_loadPart' hl
    exact_raiseError plainExc_IndexError h.1 h.2

theorem pop_empty {prog : Program} {w : World} {A : Around} {E : Value → Shared → Prop} {s : Shared} {D : Addr} {n : Nat} {Q : Value → Shared → Prop} (hh : A.handled = none) (hl : s.heap.get? D = some (listOf #[] n))
    (h : ∀ h' tk e, Heap.NewExc s.heap h' e "IndexError" → E (.ref e) { s with heap := h', toks := tk }) : wpAny (model prog w) A (call (.builtin "list.pop") [.ref D]) Q E s :=
  call_meets PySem.F.slot_list_pop ⟨_, hl, rfl⟩ PySem.F.entry_list_pop (PySem.F.args_list_pop_1 _) (pop_empty_meets D n) ⟨hl, hh, h⟩

/-- a call of a def without cells, raising kept -/
theorem call_ownE {w : World} {A : Around} {s : Shared} {base : Heap} {mg mb : Str → Option Value}
    {R : Result → Shared → Prop} {name qual : Str} {params : Arguments} {body : List Stmt} {scope : Scope} {dV kV doc pm cdv ct oc : Value} {an od : Option Addr} {osl : Array (Option Value)} {f : Addr} {args : Args} {binds : List (Str × Value)}
    (G : Base w mg mb base) (st : ∀ b o, base.get? b = some o → s.heap.get? b = some o)
    (ho : (hd.heap_39 w.params).lookup f = some ⟨oc, od, .func (fnOf name qual params body scope dV kV doc pm an cdv ct), osl⟩) (hcd : codeIn (hd.heap_39 w.params) cdv qual = true) (hroom : A.depth < recursionLimit)
    (hbind : BindsTo s (fnOf name qual params body scope dV kV doc pm an cdv ct) args binds) (hloc : ∀ y ∈ binds, scope.names.lookup y.1 = some .local)
    (h : ∀ L' h₁, L' = s.heap.objs.size → Fr s.heap L' h₁ (fun y => binds.reverse.lookup y) → 
      wpAny (model PySem.Challenge.rw_mg0041_01.row.prog w) (A.deeper (envOf qual scope L' f cdv)) (execs body (envOf qual scope L' f cdv))
        (fun fl s' => R (.ok (.ret (match fl with | .ret v => v | _ => .none))) s')
        (fun e s' => wpAny (model PySem.Challenge.rw_mg0041_01.row.prog w) (A.deeper (envOf qual scope L' f cdv)) (leaving (envOf qual scope L' f cdv) e) (fun _ s'' => R (.error e) s'') (fun e' s'' => R (.error e') s'') s')
        { s with heap := h₁, toks := s.toks + binds.length })
    (hco : scope.isCoroutine = false := by rfl) (hgen : scope.isGenerator = false := by rfl) (hk : scope.kind = .function := by rfl)
    (hcell : ∀ x ∈ scope.names, x.2 ≠ .cell := by decide) : codeAny (model PySem.Challenge.rw_mg0041_01.row.prog w) A (.call (.ref f) args) R s := by
  have X : (hd.heap_39 w.params).In s.heap := G.K.keeps st
  exact codeAny_call_def (fd := fnOf name qual params body scope dV kV doc pm an cdv ct) (body := body) (binds := binds) hroom (X _ _ ho) rfl (G.T.nolimit.keeps st) (codeRec_of X hcd) rfl hbind hcell hloc (fun h₁ hns hk₁ => h _ h₁ rfl ⟨hns, hk₁, Nat.le_refl _⟩) hco hgen hk

local macro_rules | `(tactic| walk_at "eval Name") => `(tactic| (k_here; k_dflt (refine' ld ?k1 ?k2 ?_; (case k1 => k_asm); (case k2 => assumption); k_whole)))

set_option maxHeartbeats 4000000 in
/-- heappop of an empty heap -/
theorem heappop_empty {w : World} {A : Around} {s : Shared} {base B : Heap} {mg mb : Str → Option Value} {R : Result → Shared → Prop} {D : Addr} {n : Nat} {l : List Env}
    (G : Base w mg mb base) (st : ∀ b o, base.get? b = some o → s.heap.get? b = some o) (hh : A.handled = none) (hdD : s.heap.get? D = some (listOf #[] n)) (hDb : base.get? D = none) (hdep : A.depth + 30 < recursionLimit) (hu : A.units + 60 < cLine)
    (hfr : A.frames = some l) (hl : s.heap.FunFrames B l) (hB : B.StaysIn s.heap)
    (h : ∀ h' tk e a0, Heap.FlyingW B l e (.type "IndexError") a0 h' → s.heap.UpToSlots h' → R (.error (.ref e)) { s with heap := h', toks := tk }) :
    codeAny (model PySem.Challenge.rw_mg0041_01.row.prog w) A (.call (.ref 21) ⟨[.ref D], []⟩) R s := by
  have X : (hd.heap_39 w.params).In s.heap := G.K.keeps st
  refine' call_ownE G st ?ho ?hcd ?hroom ?hbind ?hloc ?_ ?c2 ?c3 ?c4 ?c5
  case ho => k_is
  case hcd => k_is
  case hroom => omega
  case hbind => exact BindsTo.of_eq rfl
  case hloc => exact locs rfl
  case c2 => rfl
  case c3 => rfl
  case c4 => rfl
  case c5 => decide
  intro L h₁ hL F
  try dsimp only
  have st' : ∀ b o, base.get? b = some o → (hideAll s.heap [D]).get? b = some o := fun b o e => hideAll_get _ (st b o e) (by
    intro q; cases List.mem_singleton.mp q; rw [hDb] at e; cases e)
  have KX : (hd.heap_39 w.params).In (hideAll s.heap [D]) := G.K.keeps st'
  have T := G.T.keeps st'
  have F' : Fr (hideAll s.heap [D]) L h₁ _ := ⟨F.ns, fun b o e => F.keep b o (of_hideAll _ e), by rw [hideAll_size]; exact F.above⟩
  have N : News (hideAll s.heap [D]) L h₁ [(D, listOf #[] n)] := fun p hp => by
    cases List.mem_singleton.mp hp
    exact ⟨F.keep _ _ hdD, by rw [hL]; exact Nat.ne_of_lt (Heap.lt_size hdD), hideAll_none _ (.head _)⟩
  iterate 6 walk1
  refine pop_empty (by exact hh) (F.keep _ _ hdD) ?_
  intro h₂ tk₂ e hx
  have hen : B.get? e = none := by
    cases q : B.get? e with
    | none => rfl
    | some o => have := hx.new; rw [F.keep _ _ (hB _ _ q)] at this; cases this
  obtain ⟨ob, tp, he, hcls, hdt⟩ := hx.there
  refine' wpAny_leaving_firstW (base := B) (a0 := tp) (outer := l) (Around.frames_deeper hfr) ?hl rfl he (fun b o hb => hx.keeps b o (F.keep b o (hB b o hb))) hen hdt rfl rfl fun h' hLf => ?_
  case hl => exact (Heap.FunFrames.cons (by intro q; cases q) rfl F.ns (by rw [hL]; exact hB.fresh) (hl.of_keeps fun b o ho _ => ⟨o, F.keep b o ho, rfl⟩)).of_keeps fun b o hb _ => ⟨o, hx.keeps b o hb, rfl⟩
  obtain ⟨k1, ⟨_, _, k2⟩, k3, k4⟩ := hLf
  exact h h' tk₂ e tp ⟨k1, hen, k2, by rw [← hcls]; exact k3⟩ (((Heap.UpToSlots.of_keeps F.keep).trans (Heap.UpToSlots.of_keeps hx.keeps)).trans k4)
end Mine
end

/-! part B1 -/
section
open PySem PySem.W PyProof.Rows PySem.Calls PyProof.Rows.LCg PyProof.Rows.LCt
set_option maxRecDepth 100000
namespace Mine

/-- a call of a def with cells that raises nothing -/
theorem call_ownC {w : World} {A : Around} {s : Shared} {base : Heap} {mg mb : Str → Option Value} {news : List (Addr × Obj)}
    {R : Result → Shared → Prop} {name qual : Str} {params : Arguments} {body : List Stmt} {scope : Scope} {dV kV doc pm cdv ct oc : Value} {an od : Option Addr} {osl : Array (Option Value)} {f : Addr} {args : Args} {binds : List (Str × Value)}
    (G : Base w mg mb base) (st : ∀ b o, base.get? b = some o → s.heap.get? b = some o)
    (hn : ∀ p ∈ news, s.heap.get? p.1 = some p.2 ∧ base.get? p.1 = none)
    (ho : (hd.heap_39 w.params).lookup f = some ⟨oc, od, .func (fnOf name qual params body scope dV kV doc pm an cdv ct), osl⟩) (hcd : codeIn (hd.heap_39 w.params) cdv qual = true) (hroom : A.depth < recursionLimit)
    (hbind : BindsTo s (fnOf name qual params body scope dV kV doc pm an cdv ct) args binds)
    (hkind : (binds.all fun y => scope.names.lookup y.1 == some .local || scope.names.lookup y.1 == some .cell) = true)
    (hnd : ((cellsFrom 0 scope.names []).map (·.1)).Nodup)
    (h : ∀ g L' h₁ tk cells, Base w mg mb g → (∀ b o, base.get? b = some o → g.get? b = some o) → (∀ b o, s.heap.get? b = some o → b ∉ news.map (·.1) → g.get? b = some o) → (∀ p ∈ news, g.get? p.1 = none) →
      Fr g L' h₁ (bindL (envOfC qual scope L' f cdv).kindOf binds fun _ => none) → News g L' h₁ (cells ++ news) →
      CellsAre (bindC (envOfC qual scope L' f cdv).kindOf binds fun _ => none) (cellsFrom (L' + 1) scope.names []) cells → (∀ p ∈ news, p.1 < L') →
      wpAny (model PySem.Challenge.rw_mg0041_01.row.prog w) (A.deeper (envOfC qual scope L' f cdv)) (execs body (envOfC qual scope L' f cdv))
        (fun fl s' => R (.ok (.ret (match fl with | .ret v => v | _ => .none))) s') (fun _ _ => False)
        { s with heap := h₁, toks := tk })
    (hco : scope.isCoroutine = false := by rfl) (hgen : scope.isGenerator = false := by rfl) (hk : scope.kind = .function := by rfl) : codeAny (model PySem.Challenge.rw_mg0041_01.row.prog w) A (.call (.ref f) args) R s := by
  have X : (hd.heap_39 w.params).In s.heap := G.K.keeps st
  have nm : ∀ b o, base.get? b = some o → b ∉ news.map (·.1) := fun b o e q => by
    obtain ⟨p, hp, rfl⟩ := List.mem_map.mp q
    rw [(hn p hp).2] at e; cases e
  have st' : ∀ b o, base.get? b = some o → (hideAll s.heap (news.map (·.1))).get? b = some o := fun b o e => hideAll_get _ (st b o e) (nm b o e)
  refine codeAny_call_function hroom (X _ _ ho) rfl hco hgen rfl (codeRec_of X hcd) (hbind _ _ _ _ ?_)
  refine wpAny_newFunctionEnv_cells hk (kindsX hkind _) fun env' he s' x => ?_
  subst he
  refine ⟨(G.T.nolimit.keeps st).keeps x.toInCall.keep, codeAny_func ?_⟩
  obtain ⟨h₁, tk, rfl, _⟩ := x.done
  have hk₁ := x.toInCall.keep
  obtain ⟨cells, NC, Y⟩ := Cl.news (h₀ := s.heap) (Nat.le_refl _) fun n c hm => ⟨x.cell n c (lookup_of_mem_nodup (cellsFrom_names scope.names 0 (s.heap.objs.size + 1) [] [] rfl ▸ hnd) hm), x.above n c hm⟩
  refine wpAny_mono (h (hideAll s.heap (news.map (·.1))) s.heap.objs.size h₁ tk cells ⟨G.K.keeps st', G.T.keeps st'⟩ st' (fun b o e hb => hideAll_get _ e hb) (fun p hp => hideAll_none _ (List.mem_map_of_mem hp))
    ⟨x.toInCall.ns, fun b o e => hk₁ b o (of_hideAll _ e), Nat.le_of_eq (hideAll_size _ _)⟩ (fun p hp => ?_) Y (fun p hp => Heap.lt_size (hn p hp).1)) (fun fl s' hl => hl) fun _ _ y => y.elim
  rcases List.mem_append.mp hp with hp | hp
  · refine ⟨(NC p hp).1, (NC p hp).2.1, ?_⟩
    cases q : (hideAll s.heap (news.map (·.1))).get? p.1 with
    | none => rfl
    | some o => have := of_hideAll _ q; rw [(NC p hp).2.2] at this; cases this
  · exact ⟨hk₁ _ _ (hn p hp).1, Nat.ne_of_lt (Heap.lt_size (hn p hp).1), hideAll_none _ (List.mem_map_of_mem hp)⟩

/-- v is a pair of the ledger -/
noncomputable def KeyIn (tups : List (Addr × Obj)) (v : Value) (k : Int × Int) : Prop := ∃ a t1 t2 n, v = .ref a ∧ (a, pairOf k.1 k.2 t1 t2 n) ∈ tups
theorem KeyIn.key {g h : Heap} {L : Addr} {tups nw : List (Addr × Obj)} {v : Value} {k : Int × Int} (x : KeyIn tups v k) (N : News g L h nw) (hs : ∀ p ∈ tups, p ∈ nw) : Key h v k := by
  obtain ⟨a, t1, t2, n, e, hm⟩ := x
  exact ⟨a, t1, t2, n, e, N.get (hs _ hm)⟩
/-- the key of a value, as heap h tells it -/
noncomputable def kfAt (h : Heap) : Value → Int × Int
  | .ref a => match h.get? a with
    | some ⟨_, _, .seq xs _, _⟩ => match xs.toList with
      | .int x _ :: .int y _ :: _ => (x, y)
      | _ => (0, 0)
    | _ => (0, 0)
  | _ => (0, 0)
theorem kfAt_pair {h : Heap} {a : Addr} {k : Int × Int} {t1 t2 : Tok} {n : Nat} (e : h.get? a = some (pairOf k.1 k.2 t1 t2 n)) : kfAt h (.ref a) = k := by
  simp only [kfAt, e]
theorem kf_exists {h : Heap} {tups : List (Addr × Obj)} (hs : ∀ p ∈ tups, h.get? p.1 = some p.2) : ∀ {l : List Value} {ks : List (Int × Int)}, TupsFor tups l ks → l.map (kfAt h) = ks ∧ ∀ v ∈ l, KeyIn tups v (kfAt h v)
  | [], [], _ => ⟨rfl, fun _ h => nomatch h⟩
  | _ :: _, k :: _, ⟨⟨a, t1, t2, n, e, hm⟩, r⟩ => by
    subst e
    have ih := kf_exists hs r
    have e := kfAt_pair (k := k) (hs _ hm)
    refine ⟨by rw [List.map_cons, e, ih.1], fun v hv => ?_⟩
    rcases List.mem_cons.mp hv with rfl | hv
    · rw [e]; exact ⟨a, t1, t2, n, rfl, hm⟩
    · exact ih.2 v hv
  | [], _ :: _, h => h.elim
  | _ :: _, [], h => h.elim

theorem news_chg {g h h' : Heap} {L D : Addr} {o' : Obj} {nw nw' : List (Addr × Obj)} (N : News g L h nw) (hk : ∀ b o, h.get? b = some o → b ≠ D → h'.get? b = some o) (hD : h'.get? D = some o' ∧ D ≠ L ∧ g.get? D = none)
    (hm : ∀ p ∈ nw', p = (D, o') ∨ (p ∈ nw ∧ p.1 ≠ D)) : News g L h' nw' := by
  intro p hp
  rcases hm p hp with rfl | ⟨q, ne⟩
  · exact hD
  · exact ⟨hk _ _ (N p q).1 ne, (N p q).2⟩
theorem news_ms {g h' : Heap} {L D : Addr} {o' : Obj} {nw nw' : List (Addr × Obj)} (M : ∀ p ∈ nw, p.1 ≠ D → h'.get? p.1 = some p.2 ∧ p.1 ≠ L ∧ g.get? p.1 = none) (hD : h'.get? D = some o' ∧ D ≠ L ∧ g.get? D = none)
    (hm : ∀ p ∈ nw', p = (D, o') ∨ (p ∈ nw ∧ p.1 ≠ D)) : News g L h' nw' := by
  intro p hp
  rcases hm p hp with rfl | ⟨q, ne⟩
  · exact hD
  · exact M p q ne
theorem news_dne {g h : Heap} {L : Addr} {nw : List (Addr × Obj)} (N : News g L h nw) {p q : Addr × Obj} (hp : p ∈ nw) (hq : q ∈ nw) (hc : p.2.data ≠ q.2.data) : p.1 ≠ q.1 := fun e => by
  have e1 := (N p hp).1
  rw [e, (N q hq).1] at e1
  exact hc (by rw [Option.some.inj e1])

/-- the keys in the order in which the heap hands them out -/
noncomputable def popAll (kf : Value → Int × Int) : Nat → List Value → List (Int × Int)
  | 0, _ => []
  | n + 1, l => kf (l.getD 0 .none) :: popAll kf n (popL kf l.dropLast (l.getLastD .none))
/-- one turn of the taking: a key -/
noncomputable def gStep (x : Str) (st : List Int × List (Int × Int × Int)) (k : Int × Int) : List Int × List (Int × Int × Int) :=
  if (rangeInts k.2 1 (-k.1).toNat).filter (fun p => st.1.contains p) = [] then
    (st.1 ++ rangeInts k.2 1 (-k.1).toNat, st.2 ++ [(k.2, -k.1, tokVal (Txt.slice x (some k.2) (some (k.2 - k.1))))])
  else st
theorem popL_length (kf : Value → Int × Int) (p : List Value) (y : Value) : (popL kf p y).length = p.length := by
  unfold popL
  split
  · simp; omega
  · rw [su_length, List.length_set]
theorem popL_mem (kf : Value → Int × Int) (p : List Value) (y : Value) : ∀ v ∈ popL kf p y, v ∈ p ++ [y] := by
  intro v hv
  unfold popL at hv
  split at hv
  · cases hv
  · rcases List.mem_or_eq_of_mem_set (su_mem _ _ _ (by rw [List.length_set]; omega) v hv) with q | q
    · exact List.mem_append_left _ q
    · rw [q]; simp
theorem hf_length (kf : Value → Int × Int) (l : List Value) : (hf kf l).length = l.length := hfGo_length ..
theorem hf_mem (kf : Value → Int × Int) (l : List Value) : ∀ v ∈ hf kf l, v ∈ l := by
  intro v hv
  unfold hf at hv
  by_cases h : 0 < l.length / 2
  · exact hfGo_mem kf l _ (by omega) h _ v hv
  · have e : l.length / 2 = 0 := by omega
    rw [e] at hv
    exact hv
theorem gStep_len (x : Str) (st : List Int × List (Int × Int × Int)) (k : Int × Int) (h : -k.1 ≤ 3) : (gStep x st k).1.length ≤ st.1.length + 3 ∧ (gStep x st k).2.length ≤ st.2.length + 1 := by
  unfold gStep
  split
  · have : (-k.1).toNat ≤ 3 := by omega
    simp [rangeInts_length]; omega
  · simp
theorem popAll_step (kf : Value → Int × Int) (p : List Value) (y : Value) : popAll kf (p ++ [y]).length (p ++ [y]) = kf ((p ++ [y]).getD 0 .none) :: popAll kf (popL kf p y).length (popL kf p y) := by
  rw [popL_length, List.length_append, List.length_singleton, popAll]
  simp
theorem neg_toNat (j : Nat) : (-(-((j + 1 : Nat) : Int))).toNat = j + 1 := by omega
theorem gStep_no {x : Str} {st : List Int × List (Int × Int × Int)} {i j : Nat} (h : ¬ (rangeInts (i : Int) 1 (j + 1)).filter (fun p => st.1.contains p) = []) : gStep x st (-((j + 1 : Nat) : Int), (i : Int)) = st := by
  unfold gStep
  dsimp only
  rw [neg_toNat, if_neg h]
theorem gStep_yes {x : Str} {st : List Int × List (Int × Int × Int)} {i j : Nat} (h : (rangeInts (i : Int) 1 (j + 1)).filter (fun p => st.1.contains p) = []) :
    gStep x st (-((j + 1 : Nat) : Int), (i : Int)) = (st.1 ++ rangeInts (i : Int) 1 (j + 1), st.2 ++ [((i : Int), -(-((j + 1 : Nat) : Int)), tokVal (Txt.slice x (some (i : Int)) (some ((i : Int) - -((j + 1 : Nat) : Int)))))]) := by
  unfold gStep
  dsimp only
  rw [neg_toNat, if_pos h]
/-- what a slice's key says -/
noncomputable def Good (x : Str) (k : Int × Int) : Prop := ∃ i j : Nat, k = (-((j + 1 : Nat) : Int), (i : Int)) ∧ j < 3 ∧ i + j + 1 ≤ x.length ∧ isTok (piece x i (j + 1)) = true
theorem slAt_good {x : Str} {i : Nat} : ∀ {n : Nat}, n ≤ min 3 (x.length - i) → ∀ k ∈ slAt x i n, Good x k
  | 0, _, k, hk => by simp [slAt] at hk
  | n + 1, h, k, hk => by
    rw [slAt_succ] at hk
    rcases List.mem_append.mp hk with hk | hk
    · exact slAt_good (by omega) k hk
    · split at hk
      · rename_i ht
        cases List.mem_singleton.mp hk
        exact ⟨i, n, rfl, by omega, by omega, ht⟩
      · cases hk
theorem slUp_good {x : Str} : ∀ {n : Nat}, ∀ k ∈ slUp x n, Good x k
  | 0, k, hk => by simp [slUp] at hk
  | n + 1, k, hk => by
    rw [slUp_succ] at hk
    rcases List.mem_append.mp hk with hk | hk
    · exact slUp_good k hk
    · exact slAt_good (Nat.le_refl _) k hk

/-! the line stands twice: the walk keeps its lines by their number, and the parts before this one have one line of another kind -/
local macro_rules | `(tactic| walk_at "eval Name") => `(tactic| (k_here; k_dflt (refine' nameX_L ?k1 ?k2 ?_; (case k1 => k_asm); (case k2 => assumption); k_whole)))
local macro_rules | `(tactic| walk_at "eval Name") => `(tactic| (k_here; k_dflt (refine' nameX_L ?k1 ?k2 ?_; (case k1 => k_asm); (case k2 => assumption); k_whole)))

set_option maxHeartbeats 4000000 in
theorem byheap_call {w : World} {A : Around} {s : Shared} {base : Heap} {mg mb : Str → Option Value} {R : Result → Shared → Prop} {x : Str} {t : Tok} {lenv : Env} {L0 : Addr} {o0 : Obj} {es0 : Array DictEntry} {n0 : Nat}
    (G : Base w mg mb base) (st : ∀ b o, base.get? b = some o → s.heap.get? b = some o) (hh : A.handled = none) (hdep : A.depth + 60 < recursionLimit) (hu : A.units + 120 < cLine) 
    (hfr : A.frames = some [lenv]) (hlf : lenv.frame = some L0) (hlk : lenv.scope.kind = .function) (hL0 : s.heap.get? L0 = some o0) (hd0 : o0.data = .dict es0 n0) (hb0 : base.get? L0 = none)
    (h3 : x.length < 100)
    (h : ∀ h' tk Td l n l₀ kf, (∀ b o, s.heap.get? b = some o → b ≠ L0 → h'.get? b = some o) → (∃ sl, h'.get? L0 = some { o0 with slots := sl }) → h'.get? Td = some (listOf l.toArray n) → l₀.map kf = slUp x x.length →
      TripsOf h' l ((popAll kf l₀.length (hf kf l₀)).foldl (gStep x) ([], [])).2 → R (.ok (.ret (.ref Td))) { s with heap := h', toks := tk }) :
    codeAny (model PySem.Challenge.rw_mg0041_01.row.prog w) A (.call (.ref 64) ⟨[.str x t], []⟩) R s := by
  refine' call_ownC (news := [(L0, o0)]) G st ?hn ?ho ?hcd ?hroom ?hbind ?hkind ?hnd ?_ ?c2 ?c3 ?c4
  case ho => k_is
  case hcd => k_is
  case hroom => omega
  case hbind => exact BindsTo.of_eq rfl
  case hkind => exact rfl
  case hnd => decide +kernel
  case c2 => rfl
  case c3 => rfl
  case c4 => rfl
  case hn => intro p hp; cases List.mem_singleton.mp hp; exact ⟨hL0, hb0⟩
  intro g L h₁ tk₁ cells G' hb' hs' hd' F N Y l1
  have KX := G'.K
  have T := G'.T
  have hY := CellsAre.one Y
  obtain ⟨oC, hE, dC⟩ := hY
  subst hE
  try dsimp only
  iterate 8 walk1
  refine ⟨KX.keeps F.keep, wpAny_call (slices_call G' F.keep (by exact hh) (by show A.depth + 1 + 30 < recursionLimit; omega) (by show A.units + 3 + 60 < cLine; omega) h3 ?_)⟩
  intro h₂ tk₂ S l₀ n₂ ptups k1 k2 k3 k4 k5 k6
  dsimp only
  have zC := N (L + 1, oC) (.head _)
  have z0 := N (L0, o0) (.tail _ (.head _))
  have nS : ∀ b o, h₁.get? b = some o → S ≠ b := fun b o e q => by
    have q1 : h₁.get? S = none := k3
    rw [q, e] at q1; cases q1
  have freshg : ∀ b, h₁.get? b = none → g.get? b = none := fun b e => by
    cases q : g.get? b with
    | none => rfl
    | some o => rw [F.keep b o q] at e; cases e
  obtain ⟨oL, _, _, hoL, _⟩ := F.ns
  have F₂ : Fr g L h₂ _ := F.grownK k1
  have N₂ : News g L h₂ ([(L + 1, oC), (L0, o0), (S, listOf l₀.toArray n₂)] ++ ptups) := by
    intro p hp
    simp only [List.cons_append, List.nil_append, List.mem_cons] at hp
    rcases hp with rfl | rfl | rfl | hp
    · exact ⟨k1 _ _ zC.1, zC.2⟩
    · exact ⟨k1 _ _ z0.1, z0.2⟩
    · exact ⟨k2, nS _ _ hoL, freshg _ k3⟩
    · refine ⟨(k4 p hp).1, fun q => ?_, freshg _ (k4 p hp).2⟩
      have := (k4 p hp).2
      dsimp only at this
      rw [q, hoL] at this; cases this
  obtain ⟨kf, hkf, hkin⟩ : ∃ kf : Value → Int × Int, l₀.map kf = slUp x x.length ∧ ∀ v ∈ l₀, KeyIn ptups v (kf v) := ⟨_, kf_exists (fun p hp => (k4 p hp).1) k6⟩
  have hlen : l₀.length ≤ 3 * x.length := by have := k6.length; have := slUp_len x x.length; omega
  have nT : ∀ p ∈ ptups, ∀ b o, h₁.get? b = some o → p.1 ≠ b := fun p hp b o e q => by
    have q1 : h₁.get? p.1 = none := (k4 p hp).2
    rw [q, e] at q1; cases q1
  clear F N k1 k2 k4
  iterate 11 walk1
  rename_i h₃ F₃ N₃
  have neSt : ∀ p ∈ ptups, p.1 ≠ S := fun p hp => News.ne_of_cls N₃ (p := (S, listOf l₀.toArray n₂)) (List.mem_append_right _ hp) (List.mem_append_left _ (.tail _ (.tail _ (.head _)))) (by rw [k5 p hp]; simp)
  refine ⟨KX.keeps F₃.keep, wpAny_call (heapify_call (l := l₀) (n := n₂) (kf := kf) G' F₃.keep (N₃ (S, listOf l₀.toArray n₂) (List.mem_append_left _ (.tail _ (.tail _ (.head _))))).2.2 (N₃.get (List.mem_append_left _ (.tail _ (.tail _ (.head _))))) (fun v hv => (hkin v hv).key N₃ fun p hp => List.mem_append_right _ hp) (by exact hh) (by show A.depth + 1 + 30 < recursionLimit; omega) (by show A.units + 3 + 60 < cLine; omega) (by omega) ?_)⟩
  intro h₄ tk₄ k7 k8
  dsimp only
  have zS := (N₃ (S, listOf l₀.toArray n₂) (List.mem_append_left _ (.tail _ (.tail _ (.head _))))).2
  have F₄ := fr_ext F₃ zS.2 zS.1 k7
  have N₄ : News g L h₄ ([(L + 1, oC), (L0, o0), (S, listOf (hf kf l₀).toArray n₂)] ++ ptups) := news_chg N₃ k7 ⟨k8, zS⟩ (by
    intro p hp
    simp only [List.cons_append, List.nil_append, List.mem_cons] at hp
    rcases hp with rfl | rfl | rfl | hp
    · exact .inr ⟨.head _, Ne.symm (nS _ _ zC.1)⟩
    · exact .inr ⟨.tail _ (.head _), Ne.symm (nS _ _ z0.1)⟩
    · exact .inl rfl
    · exact .inr ⟨List.mem_append_right _ hp, neSt p hp⟩)
  clear F₃ N₃ k7 k8
  have neC : ∀ p ∈ [(L0, o0), (S, listOf (hf kf l₀).toArray n₂)] ++ ptups, p.1 ≠ L + 1 := by
    intro p hp
    simp only [List.cons_append, List.nil_append, List.mem_cons] at hp
    rcases hp with rfl | rfl | hp
    · exact news_dne N₄ (q := (L + 1, oC)) (.tail _ (.head _)) (.head _) (by dsimp only; rw [hd0, dC]; simp)
    · exact nS _ _ zC.1
    · exact nT p hp _ _ zC.1
  iterate 10 walk1
  rename_i Tk₀ h₅ F₅ N₅ l5
  refine storeX_C F₅ N₅ (c := L + 1) rfl (.tail (Nat.ne_of_gt (l5 (L + 1, oC) (.head _))) (.head neC)) dC ?_
  intro h₆ oC₁ F₆ N₆ dC₁
  iterate 7 walk1
  rename_i Td _ l7 h₇ F₇ N₇
  have neTkTd : Tk₀ ≠ Td := Nat.ne_of_lt l7.1
  have neTdS : Td ≠ S := Nat.ne_of_gt (show S < Td from l7.2.2.2.1)
  have neTkS : Tk₀ ≠ S := Nat.ne_of_gt (l5 (S, listOf (hf kf l₀).toArray n₂) (.tail _ (.tail _ (.head _))))
  have N₈ : News g L h₇ ([(L + 1, oC₁), (L0, o0), (S, listOf (hf kf l₀).toArray n₂), (Td, listOf ([] : List Value).toArray 0), (Tk₀, listOf ([] : List Value).toArray 0)] ++ (ptups ++ [])) := by
    intro p hp
    simp only [List.cons_append, List.nil_append, List.append_nil, List.mem_cons] at hp
    refine N₇ p ?_
    rcases hp with rfl | rfl | rfl | rfl | rfl | hp
    · exact .tail _ (.tail _ (.head _))
    · exact .tail _ (.tail _ (.tail _ (.head _)))
    · exact .tail _ (.tail _ (.tail _ (.tail _ (.head _))))
    · exact .head _
    · exact .tail _ (.head _)
    · exact .tail _ (.tail _ (.tail _ (.tail _ (.tail _ hp))))
  iterate 1 walk1
  have hl0 : (hf kf l₀).length = l₀.length := hf_length kf l₀
  refine While_inv2 (fun μ m' nw => ∃ oC l n lt nt Tk vt nk ttups tk tr ks, nw = [(L + 1, oC), (L0, o0), (S, listOf l.toArray n), (Td, listOf lt.toArray nt), (Tk, listOf vt.toArray nk)] ++ (ptups ++ ttups) ∧
      (oC.data = .cell (some (.ref Tk)) ∧ Tk ≠ S ∧ Tk ≠ Td) ∧ IntsAre vt tk ∧ TripsFor ttups lt tr ∧ (∀ p ∈ ttups, p.2.cls = .type "tuple" ∧ p.1 ≠ L + 1 ∧ p.1 ≠ L0) ∧
      (m' (Str.ofString "text") = some (.str x t) ∧ m' (Str.ofString "heap") = some (.ref S) ∧ m' (Str.ofString "told") = some (.ref Td)) ∧
      μ = l.length ∧ (∀ v ∈ l, v ∈ l₀) ∧ (tk, tr) = ks.foldl (gStep x) ([], []) ∧ ks ++ popAll kf l.length l = popAll kf l₀.length (hf kf l₀) ∧ ks.length + l.length = l₀.length ∧ tk.length ≤ 3 * ks.length ∧ tr.length ≤ ks.length)
    (n₀ := l₀.length) F₇ N₈ ⟨oC₁, hf kf l₀, n₂, [], 0, Tk₀, [], 0, [], [], [], [], rfl, ⟨dC₁, neTkS, neTkTd⟩, .nil, trivial, by simp, ⟨rfl, rfl, rfl⟩, hl0.symm, hf_mem kf l₀, rfl, by rw [hl0]; rfl, by simpa using hl0, by simp, by simp⟩ ?_ (fun _ _ x => x.elim)
  clear F₇ N₇ N₈
  rintro μ m' nw h₉ tk₉ F₉ N₉ ⟨oC, l, n, lt, nt, Tk, vt, nk, ttups, tki, tr, ks, rfl, ⟨dC, neTkS, neTkTd⟩, a1, a2, a3, ⟨a4, a5, a6⟩, rfl, i1, i2, i3, i4, i5, i6⟩
  iterate 5 walk1
  rename_i E₁ h₁₀ F₁₀ N₁₀ l10
  refine ne_empty (l := l) (kf := kf) (N₁₀.get (.tail _ (List.mem_append_left _ (.tail _ (.tail _ (.head _)))))) (N₁₀.get (.head _)) (fun v hv => (hkin v (i1 v hv)).key N₁₀ fun p hp => .tail _ (List.mem_append_right _ (List.mem_append_left _ hp))) (by show A.units + 3 + 64 < cLine; omega) ?_
  have N₁₁ := News.tail' N₁₀
  clear N₁₀
  iterate 3 walk1
  · rename_i he
    have el : l = [] := by simpa using he
    subst el
    have eks : ks = popAll kf l₀.length (hf kf l₀) := by simpa [popAll] using i3
    iterate 1 walk1
    refine wpAny_Try_except ?_
    iterate 8 walk1
    obtain ⟨oL₁, esL, epL, hoL₁, hdL₁, _⟩ := F₁₀.ns
    have z0' := N₁₁ (L0, o0) (.tail _ (.head _))
    have gB : ∀ b o, h₁₀.get? b = some o → b ≠ L → b ≠ L0 → (hideAll h₁₀ [L, L0]).get? b = some o := fun b o e n1 n2 => hideAll_get _ e (by
      intro q
      rcases List.mem_cons.mp q with q | q
      · exact n1 q
      · exact n2 (List.mem_singleton.mp q))
    have gL : g.get? L = none := by
      cases q : g.get? L with
      | none => rfl
      | some o => exact absurd (Heap.lt_size q) (Nat.not_lt.mpr F₁₀.above)
    have sgB : g.StaysIn (hideAll h₁₀ [L, L0]) := fun b o e => gB b o (F₁₀.keep b o e) (fun q => by rw [q, gL] at e; cases e) (fun q => by rw [q, z0'.2.2] at e; cases e)
    refine ⟨KX.keeps F₁₀.keep, wpAny_call (heappop_empty (B := hideAll h₁₀ [L, L0]) (n := n) G' F₁₀.keep (by exact hh) (N₁₁.get (List.mem_append_left _ (.tail _ (.tail _ (.head _))))) (N₁₁ (S, _) (List.mem_append_left _ (.tail _ (.tail _ (.head _))))).2.2 (by show A.depth + 1 + 30 < recursionLimit; omega) (by show A.units + 3 + 60 < cLine; omega) (Around.frames_deeper hfr) ?hfun (fun b o e => of_hideAll _ e) ?_)⟩
    case hfun => exact ⟨(by intro q; cases q), ⟨L, oL₁, rfl, hideAll_none _ (.head _), hoL₁, fun vs q => by rw [hdL₁] at q; cases q⟩, ⟨(by rw [hlk]; intro q; cases q), ⟨L0, o0, hlf, hideAll_none _ (.tail _ (.head _)), z0'.1, fun vs q => by rw [hd0] at q; cases q⟩, trivial⟩⟩
    intro h₁₂ tk₁₂ e a0 hfl hsm
    dsimp only
    refine wpAny_looks_onW (Around.frames_deeper hfr) rfl hfl fun h₁₃ hheld₁ hsm₁ => ?_
    refine wpAny_landsW hheld₁ fun h₁₄ hheld₂ hsm₂ => ?_
    have hsm₃ := (hsm.trans hsm₁).trans hsm₂
    have F₁₄ := F₁₀.of_stays (fun b o e => hheld₂.1 b o (sgB b o e)) hsm₃
    obtain ⟨ob, hob, hobc⟩ := hheld₂.there
    refine wpAny_handleBy_builtin (X := "IndexError") (T := "IndexError") (b := true) PySem.F.isExc_IndexError PySem.F.notTuple_IndexError ?hsub ?_
    case hsub => kts_sub
    iterate 1 walk1
    refine ⟨rfl, ⟨ob, hob, hobc⟩, ?_⟩
    rw [if_pos rfl]
    refine lands_againW hheld₂ fun h₁₅ hfl₅ hsm₅ => ?_
    have hsm₆ := hsm₃.trans hsm₅
    have F₁₅ := F₁₀.of_stays (fun b o e => hfl₅.1 b o (sgB b o e)) hsm₆
    obtain ⟨sl, hsl⟩ := hsm₆ L0 o0 z0'.1 (fun vs q => by rw [hd0] at q; cases q)
    have neL0 : ∀ q ∈ [(L + 1, oC), (S, listOf ([] : List Value).toArray n), (Td, listOf lt.toArray nt), (Tk, listOf vt.toArray nk)] ++ (ptups ++ ttups), q.1 ≠ L0 := by
      intro q hq
      have h0m : (L0, o0) ∈ [(L + 1, oC), (L0, o0), (S, listOf ([] : List Value).toArray n), (Td, listOf lt.toArray nt), (Tk, listOf vt.toArray nk)] ++ (ptups ++ ttups) := .tail _ (.head _)
      simp only [List.cons_append, List.nil_append, List.mem_cons, List.mem_append] at hq
      rcases hq with rfl | rfl | rfl | rfl | hq | hq
      · exact news_dne N₁₁ (q := (L0, o0)) (by simp) h0m (by dsimp only; rw [dC, hd0]; simp)
      · exact news_dne N₁₁ (q := (L0, o0)) (by simp) h0m (by dsimp only; rw [hd0]; simp)
      · exact news_dne N₁₁ (q := (L0, o0)) (by simp) h0m (by dsimp only; rw [hd0]; simp)
      · exact news_dne N₁₁ (q := (L0, o0)) (by simp) h0m (by dsimp only; rw [hd0]; simp)
      · exact nT q hq _ _ z0.1
      · exact (a3 q hq).2.2
    have N₁₅ : News g L h₁₅ ([(L + 1, oC), (L0, { o0 with slots := sl }), (S, listOf ([] : List Value).toArray n), (Td, listOf lt.toArray nt), (Tk, listOf vt.toArray nk)] ++ (ptups ++ ttups)) := by
      intro q hq
      have hc : q = (L0, { o0 with slots := sl }) ∨ (q ∈ [(L + 1, oC), (S, listOf ([] : List Value).toArray n), (Td, listOf lt.toArray nt), (Tk, listOf vt.toArray nk)] ++ (ptups ++ ttups)) := by
        simp only [List.cons_append, List.nil_append, List.mem_cons, List.mem_append] at hq ⊢
        rcases hq with rfl | rfl | rfl | rfl | rfl | hq | hq
        · exact .inr (.inl rfl)
        · exact .inl rfl
        · exact .inr (.inr (.inl rfl))
        · exact .inr (.inr (.inr (.inl rfl)))
        · exact .inr (.inr (.inr (.inr (.inl rfl))))
        · exact .inr (.inr (.inr (.inr (.inr (.inl hq)))))
        · exact .inr (.inr (.inr (.inr (.inr (.inr hq)))))
      rcases hc with rfl | hq'
      · exact ⟨hsl, z0'.2⟩
      · have hz := N₁₁ q (by
          simp only [List.cons_append, List.nil_append, List.mem_cons, List.mem_append] at hq' ⊢
          rcases hq' with rfl | rfl | rfl | rfl | hq | hq
          · exact .inl rfl
          · exact .inr (.inr (.inl rfl))
          · exact .inr (.inr (.inr (.inl rfl)))
          · exact .inr (.inr (.inr (.inr (.inl rfl))))
          · exact .inr (.inr (.inr (.inr (.inr (.inl hq)))))
          · exact .inr (.inr (.inr (.inr (.inr (.inr hq))))))
        exact ⟨hfl₅.1 _ _ (gB _ _ hz.1 hz.2.1 (neL0 q hq')), hz.2⟩
    clear F₁₀ N₁₁ F₁₄
    iterate 8 walk1
    rename_i E₂ h₁₆ F₁₆ N₁₆ l16
    refine ke_eq_ints (xs := []) (ys := []) (ns := []) (ms := []) (News.isList N₁₆ (.tail _ (List.mem_append_left _ (.tail _ (.tail _ (.head _)))))) (News.isList N₁₆ (.head _)) .nil .nil (by show A.units + 3 + 64 < cLine; omega) ?_
    have N₁₇ := News.tail' N₁₆
    clear N₁₆
    iterate 3 walk1
    refine h _ _ Td lt nt l₀ kf (fun b o e hb => F₁₆.keep b o (hs' b o e (by simpa using hb))) ⟨sl, N₁₇.get (.tail _ (.head _))⟩ (N₁₇.get (List.mem_append_left _ (.tail _ (.tail _ (.tail _ (.head _)))))) hkf ?_
    rw [← eks, ← i2]
    exact a2.of N₁₇ fun q hq => List.mem_append_right _ (List.mem_append_right _ hq)
  · rename_i he
    obtain ⟨p, y, rfl⟩ : ∃ p y, l = p ++ [y] := by
      rcases List.eq_nil_or_concat l with rfl | ⟨p, y, rfl⟩
      · simp at he
      · exact ⟨p, y, by simp⟩
    obtain ⟨v₀, hv₀⟩ : ∃ v₀, (p ++ [y])[0]? = some v₀ := ⟨_, List.getElem?_eq_getElem (by simp)⟩
    have hvm : v₀ ∈ l₀ := i1 _ (List.mem_of_getElem? hv₀)
    iterate 5 walk1
    refine item_litK (News.isList N₁₁ (List.mem_append_left _ (.tail _ (.tail _ (.head _))))) (by omega) (by omega) (by exact hv₀) ?_
    iterate 10 walk1
    rename_i h₁₂ F₁₂ N₁₂
    have zS := (N₁₂ (S, listOf (p ++ [y]).toArray n) (List.mem_append_left _ (.tail _ (.tail _ (.head _))))).2
    have neS2 : ∀ q ∈ [(L + 1, oC), (L0, o0), (Td, listOf lt.toArray nt), (Tk, listOf vt.toArray nk)] ++ (ptups ++ ttups), q.1 ≠ S := by
      intro q hq
      simp only [List.cons_append, List.nil_append, List.mem_cons, List.mem_append] at hq
      have hSm : (S, listOf (p ++ [y]).toArray n) ∈ [(L + 1, oC), (L0, o0), (S, listOf (p ++ [y]).toArray n), (Td, listOf lt.toArray nt), (Tk, listOf vt.toArray nk)] ++ (ptups ++ ttups) := by simp
      rcases hq with rfl | rfl | rfl | rfl | hq | hq
      · exact news_dne N₁₂ (q := (S, listOf (p ++ [y]).toArray n)) (.head _) hSm (by dsimp only; rw [dC]; simp)
      · exact news_dne N₁₂ (q := (S, listOf (p ++ [y]).toArray n)) (.tail _ (.head _)) hSm (by dsimp only; rw [hd0]; simp)
      · exact neTdS
      · exact neTkS
      · exact News.ne_of_cls N₁₂ (p := (S, listOf (p ++ [y]).toArray n)) (by simp [hq]) hSm (by rw [k5 q hq]; simp)
      · exact News.ne_of_cls N₁₂ (p := (S, listOf (p ++ [y]).toArray n)) (by simp [hq]) hSm (by rw [(a3 q hq).1]; simp)
    refine ⟨KX.keeps F₁₂.keep, wpAny_call (heappop_call (p := p) (y := y) (n := n) (kf := kf) G' F₁₂.keep zS.2 (N₁₂.get (List.mem_append_left _ (.tail _ (.tail _ (.head _))))) (fun v hv => (hkin v (i1 v hv)).key N₁₂ fun q hq => List.mem_append_right _ (List.mem_append_left _ hq)) (by show A.depth + 1 + 30 < recursionLimit; omega) (by show A.units + 3 + 60 < cLine; omega) (by simp at i4; omega) ?_)⟩
    intro h₁₃ tk₁₃ n₁₃ k7 k8
    dsimp only
    have F₁₃ := fr_ext F₁₂ zS.2 zS.1 k7
    have N₁₃ : News g L h₁₃ ([(L + 1, oC), (L0, o0), (S, listOf (popL kf p y).toArray n₁₃), (Td, listOf lt.toArray nt), (Tk, listOf vt.toArray nk)] ++ (ptups ++ ttups)) := news_chg N₁₂ k7 ⟨k8, zS⟩ (by
      intro q hq
      simp only [List.cons_append, List.nil_append, List.mem_cons, List.mem_append] at hq
      rcases hq with rfl | rfl | rfl | rfl | rfl | hq | hq
      · exact .inr ⟨by simp, neS2 _ (by simp)⟩
      · exact .inr ⟨by simp, neS2 _ (by simp)⟩
      · exact .inl rfl
      · exact .inr ⟨by simp, neS2 _ (by simp)⟩
      · exact .inr ⟨by simp, neS2 _ (by simp)⟩
      · exact .inr ⟨by simp [hq], neS2 _ (by simp [hq])⟩
      · exact .inr ⟨by simp [hq], neS2 _ (by simp [hq])⟩)
    have ev : (p ++ [y]).getD 0 .none = v₀ := getD_of hv₀
    rw [ev]
    clear F₁₂ N₁₂ k7 k8
    iterate 1 walk1
    refine ne_self ((hkin v₀ hvm).key N₁₃ fun q hq => List.mem_append_right _ (List.mem_append_left _ hq)) (by show A.units + 3 + 64 < cLine; omega) ?_
    have hkey : ∀ h', ∀ nw', News g L h' nw' → (∀ q ∈ ptups, q ∈ nw') → Key h' v₀ (kf v₀) := fun h' nw' N' hs => (hkin v₀ hvm).key N' hs
    obtain ⟨i₀, j₀, hk₀, hj₀, hij, htok⟩ := slUp_good (kf v₀) (hkf ▸ List.mem_map_of_mem hvm)
    rw [hk₀] at hkey
    iterate 16 walk1
    refine item_snd (hkey _ _ N₁₃ fun q hq => List.mem_append_right _ (List.mem_append_left _ hq)) ?_
    intro t₁
    dsimp only
    iterate 5 walk1
    refine item_snd (hkey _ _ N₁₃ fun q hq => List.mem_append_right _ (List.mem_append_left _ hq)) ?_
    intro t₂
    dsimp only
    iterate 3 walk1
    refine item_fst (hkey _ _ N₁₃ fun q hq => List.mem_append_right _ (List.mem_append_left _ hq)) ?_
    intro t₃
    dsimp only
    iterate 2 walk1
    refine range2_K F₁₃ N₁₃ ?_
    intro r v1 h₁₄ tk₁₄ F₁₄ N₁₄ hr
    iterate 1 walk1
    refine list_range (n := j₀ + 1) (by exact hh) F₁₄ N₁₄ hr (by omega) (by omega) (by omega) (by omega) (by omega) (by omega) ?_
    intro Pl h₁₅ tk₁₅ vp kp F₁₅ N₁₅ hIp
    clear F₁₃ N₁₃ F₁₄ N₁₄
    iterate 5 walk1
    rename_i h₁₆ F₁₆ N₁₆
    have hPl : (Pl, listOf vp.toArray kp) ∈ (Pl, listOf vp.toArray kp) :: ([(L + 1, oC), (L0, o0), (S, listOf (popL kf p y).toArray n₁₃), (Td, listOf lt.toArray nt), (Tk, listOf vt.toArray nk)] ++ (ptups ++ ttups)) := .head _
    have hvl : vp.length = j₀ + 1 := by rw [hIp.length, rangeInts_length]
    refine LCt.ListComp_T (F₀ := F₁₆) (cl := [(Str.ofString "taken", L + 1)]) (by with_unfolding_all rfl) (by decide) (by rfl) (by decide) (by rfl) ?_
    refine nameX_L F₁₆ rfl ?_
    refine CompSrcT.ledger (by exact hh) F₁₆ N₁₆ hPl (by rw [sizeLine_eq]; simp; omega) fun g₂ => ?_
    refine comp_filter (fun z => tki.contains z) hIp (.inr ⟨_, hPl, rfl, _, rfl⟩) ?_ ?_ ?_ _ 0 [] (by simp) (by simpa using IntsAre.nil)
    · intro n' t' I oI C oC' D m₂ h tk' ys E' Q' hC hm hF hN hq
      iterate 3 walk1
      refine in_ints (News.isList hN (.tail _ (.tail _ (.tail _ (.tail _ (List.mem_append_left _ (.tail _ (.tail _ (.tail _ (.tail _ (.head _)))))))))))  a1 ?_
      iterate 1 walk1
      exact hq
    · intro n' t' I oI C oC' D m₂ h tk' ys E' Q' hC hm hF hN hq
      iterate 1 walk1
      exact hq
    · intro ys hys D h₁₇ tk₁₇ F₁₇ N₁₇ hO
      clear F₁₆ N₁₆
      iterate 3 walk1
      rename_i E₂ h₁₈ F₁₈ N₁₈ l18
      refine ke_eq_ints (xs := ys) (ys := []) (ns := (rangeInts (i₀ : Int) 1 (j₀ + 1)).filter fun z => tki.contains z) (ms := []) (News.isList N₁₈ (.tail _ (.head _))) (News.isList N₁₈ (.head _)) hys .nil (by show A.units + 3 + 64 < cLine; omega) ?_
      have N₁₉ := News.tail' (News.tail' N₁₈)
      clear N₁₈
      have j1 : (popL kf p y).length < (p ++ [y]).length := by rw [popL_length]; simp
      have j2 : ∀ v ∈ popL kf p y, v ∈ l₀ := fun v hv => i1 v (popL_mem kf p y v hv)
      have j3 : (ks ++ [kf v₀]) ++ popAll kf (popL kf p y).length (popL kf p y) = popAll kf l₀.length (hf kf l₀) := by
        rw [← i3, popAll_step, ev]; simp
      have j4 : (ks ++ [kf v₀]).length + (popL kf p y).length = l₀.length := by
        rw [popL_length]; simp at i4 ⊢; omega
      have j5 : (ks ++ [kf v₀]).foldl (gStep x) ([], []) = gStep x (tki, tr) (kf v₀) := by rw [List.foldl_append, ← i2]; rfl
      have j6 := gStep_len x (tki, tr) (kf v₀) (by rw [hk₀]; dsimp only; omega)
      iterate 2 walk1
      · rename_i hfl
        have j7 := gStep_yes (x := x) (st := (tki, tr)) (i := i₀) (j := j₀) (of_decide_eq_true hfl)
        iterate 5 walk1
        refine add_K F₁₈ N₁₉ (News.isList N₁₉ (.tail _ (List.mem_append_left _ (.tail _ (.tail _ (.tail _ (.tail _ (.head _)))))))) (News.isList N₁₉ (.head _)) a1 hIp (by rw [rangeInts_length]; omega) ?_
        intro Tk' h₂₀ F₂₀ N₂₀ hI₂₀ l20
        have neC2 : ∀ q ∈ [(L0, o0), (S, listOf (popL kf p y).toArray n₁₃), (Td, listOf lt.toArray nt), (Tk, listOf vt.toArray nk)] ++ (ptups ++ ttups), q.1 ≠ L + 1 := by
          intro q hq
          have hCm : (L + 1, oC) ∈ (Pl, listOf vp.toArray kp) :: ([(L + 1, oC), (L0, o0), (S, listOf (popL kf p y).toArray n₁₃), (Td, listOf lt.toArray nt), (Tk, listOf vt.toArray nk)] ++ (ptups ++ ttups)) := by simp
          simp only [List.cons_append, List.nil_append, List.mem_cons, List.mem_append] at hq
          rcases hq with rfl | rfl | rfl | rfl | hq | hq
          · exact news_dne N₁₉ (q := (L + 1, oC)) (by simp) hCm (by dsimp only; rw [dC, hd0]; simp)
          · exact news_dne N₁₉ (q := (L + 1, oC)) (by simp) hCm (by dsimp only; rw [dC]; simp)
          · exact news_dne N₁₉ (q := (L + 1, oC)) (by simp) hCm (by dsimp only; rw [dC]; simp)
          · exact news_dne N₁₉ (q := (L + 1, oC)) (by simp) hCm (by dsimp only; rw [dC]; simp)
          · exact nT q hq _ _ zC.1
          · exact (a3 q hq).2.1
        have N₂₁ : News g L h₂₀ ((Tk', listOf (vt ++ vp).toArray 0) :: (L + 1, oC) :: ([(L0, o0), (S, listOf (popL kf p y).toArray n₁₃), (Td, listOf lt.toArray nt), (Tk, listOf vt.toArray nk)] ++ (ptups ++ ttups))) := fun q hq => N₂₀ q (by
          rcases List.mem_cons.mp hq with rfl | hq
          · exact .head _
          · exact .tail _ (.tail _ hq))
        have neK1 : Tk' ≠ S := Nat.ne_of_gt (l20 (S, listOf (popL kf p y).toArray n₁₃) (by simp))
        have neK2 : Tk' ≠ Td := Nat.ne_of_gt (l20 (Td, listOf lt.toArray nt) (by simp))
        have neK3 : Tk' ≠ L + 1 := Nat.ne_of_gt (l20 (L + 1, oC) (by simp))
        clear F₁₈ N₁₉ N₂₀ l20
        refine storeX_C F₂₀ N₂₁ (c := L + 1) rfl (.tail neK3 (.head neC2)) dC ?_
        intro h₂₂ oC₂ F₂₂ N₂₂ dC₂
        have hky : Key h₂₂ v₀ (-((j₀ + 1 : Nat) : Int), (i₀ : Int)) := hkey _ _ N₂₂ fun q hq => .tail _ (.tail _ (List.mem_append_right _ (List.mem_append_left _ hq)))
        clear F₂₀ N₂₁
        iterate 12 walk1
        refine item_snd hky ?_
        intro t₄
        dsimp only
        iterate 5 walk1
        refine item_fst hky ?_
        intro t₅
        dsimp only
        iterate 11 walk1
        refine item_snd hky ?_
        intro t₆
        dsimp only
        iterate 5 walk1
        refine item_snd hky ?_
        intro t₇
        dsimp only
        iterate 3 walk1
        refine item_fst hky ?_
        intro t₈
        dsimp only
        iterate 3 walk1
        rename_i h₂₃ _ _ F₂₃ N₂₃ _
        refine get_tok F₂₃ KX (by rw [show (i₀ : Int) - -((j₀ + 1 : Nat) : Int) = (i₀ : Int) + ((j₀ + 1 : Nat) : Int) by omega]; exact htok) ?_
        intro t₉
        iterate 1 walk1
        refine kup_newTuple F₂₃ N₂₃ ?_ (by size_fits)
        intro T₁ h₂₄ F₂₄ N₂₄' l24
        obtain ⟨oT, hoT, N₂₄⟩ : ∃ oT, (∃ t', oT = tripOf (i₀ : Int) (-(-((j₀ + 1 : Nat) : Int))) (tokVal (Txt.slice x (some (i₀ : Int)) (some ((i₀ : Int) - -((j₀ + 1 : Nat) : Int))))) t₄ t' t₉ 0) ∧ News g L h₂₄ ((T₁, oT) :: (Tk', listOf (vt ++ vp).toArray 0) :: (L + 1, oC₂) :: ([(L0, o0), (S, listOf (popL kf p y).toArray n₁₃), (Td, listOf lt.toArray nt), (Tk, listOf vt.toArray nk)] ++ (ptups ++ ttups))) := ⟨_, ⟨_, rfl⟩, N₂₄'⟩
        clear N₂₄'
        iterate 1 walk1
        refine append_in (l := lt) (n := nt) (D := Td) F₂₄ N₂₄ (by simp) (by have := a2.length; omega) ?_
        intro h₂₅ F₂₅ M₂₅ S₂₅
        iterate 3 walk1
        have zTd := N₂₄ (Td, listOf lt.toArray nt) (by simp)
        have neT : T₁ ≠ L + 1 := Nat.ne_of_gt (l24 (L + 1, oC₂) (by simp))
        have neT0 : T₁ ≠ L0 := Nat.ne_of_gt (l24 (L0, o0) (by simp))
        have neT2 : T₁ ≠ Td := Nat.ne_of_gt (l24 (Td, listOf lt.toArray nt) (by simp))
        refine ⟨_, _, _, _, (popL kf p y).length, rfl, F₂₅, news_ms (nw' := [(L + 1, oC₂), (L0, o0), (S, listOf (popL kf p y).toArray n₁₃), (Td, listOf (lt ++ [Value.ref T₁]).toArray (nt + 1)), (Tk', listOf (vt ++ vp).toArray 0)] ++ (ptups ++ ((T₁, oT) :: ttups))) M₂₅ S₂₅ ?_, j1, oC₂, popL kf p y, n₁₃, lt ++ [.ref T₁], nt + 1, Tk', vt ++ vp, 0, (T₁, oT) :: ttups, tki ++ rangeInts i₀ 1 (j₀ + 1), tr ++ [((i₀ : Int), -(-((j₀ + 1 : Nat) : Int)), tokVal (Txt.slice x (some (i₀ : Int)) (some ((i₀ : Int) - -((j₀ + 1 : Nat) : Int)))))], ks ++ [kf v₀], rfl, ⟨dC₂, neK1, neK2⟩, hI₂₀, ?_, ?_, ⟨a4, a5, a6⟩, rfl, j2, ?_, j3, j4, ?_, ?_⟩
        · intro q hq
          simp only [List.cons_append, List.nil_append, List.mem_cons, List.mem_append] at hq
          rcases hq with rfl | rfl | rfl | rfl | rfl | hq | rfl | hq
          · exact .inr ⟨by simp, news_dne N₂₄ (q := (Td, listOf lt.toArray nt)) (by simp) (by simp) (by dsimp only; rw [dC₂]; simp)⟩
          · exact .inr ⟨by simp, news_dne N₂₄ (q := (Td, listOf lt.toArray nt)) (by simp) (by simp) (by dsimp only; rw [hd0]; simp)⟩
          · exact .inr ⟨by simp, Ne.symm neTdS⟩
          · exact .inl rfl
          · exact .inr ⟨by simp, neK2⟩
          · exact .inr ⟨by simp [hq], News.ne_of_cls N₂₄ (p := (Td, listOf lt.toArray nt)) (by simp [hq]) (by simp) (by rw [k5 q hq]; simp)⟩
          · exact .inr ⟨.head _, neT2⟩
          · exact .inr ⟨by simp [hq], News.ne_of_cls N₂₄ (p := (Td, listOf lt.toArray nt)) (by simp [hq]) (by simp) (by rw [(a3 q hq).1]; simp)⟩
        · exact TripsFor.snoc (k := ((i₀ : Int), -(-((j₀ + 1 : Nat) : Int)), tokVal (Txt.slice x (some (i₀ : Int)) (some ((i₀ : Int) - -((j₀ + 1 : Nat) : Int)))))) ⟨T₁, t₄, hoT.choose, t₉, 0, rfl, by rw [← hoT.choose_spec]; exact .head _⟩ (a2.mono fun p hp => .tail _ hp)
        · intro q hq
          rcases List.mem_cons.mp hq with rfl | hq
          · exact ⟨by rw [hoT.choose_spec], neT, neT0⟩
          · exact a3 q hq
        · rw [j5, hk₀, j7]
        · have := j6.1; rw [hk₀, j7] at this; simp at this ⊢; omega
        · have := j6.2; rw [hk₀, j7] at this; simp at this ⊢; omega
      · rename_i hfl
        iterate 3 walk1
        have j7 := gStep_no (x := x) (st := (tki, tr)) (i := i₀) (j := j₀) (of_decide_eq_false hfl)
        refine ⟨_, _, _, _, (popL kf p y).length, rfl, F₁₈, News.tail' N₁₉, j1, oC, popL kf p y, n₁₃, lt, nt, Tk, vt, nk, ttups, tki, tr, ks ++ [kf v₀], rfl, ⟨dC, neTkS, neTkTd⟩, a1, a2, a3, ⟨a4, a5, a6⟩, rfl, j2, ?_, j3, j4, ?_, ?_⟩
        · rw [j5, hk₀, j7]
        · simp; omega
        · simp; omega
end Mine
end

/-! part Ops5 -/
section
open PySem PySem.W PyProof.Rows PySem.Calls PySem.SeqAt PyProof.Rows.LCg PyProof.Rows.LCt
set_option maxRecDepth 100000
namespace Mine

section
variable {prog : Program} {w : World} {A : Around} {E : Value → Shared → Prop} {s : Shared} {h₀ : Heap} {L D ax : Addr} {m : Str → Option Value} {nw : List (Addr × Obj)} {env : Env}

/-- a comprehension over a list of ints whose elements are texts of one sign -/
theorem comp_strs {elt : PySem.Expr} {x : Str} {scope : Scope} {cl : List (Str × Addr)} {vp : List Value} {ns : List Int} {Fin : List Value → List (Addr × Obj) → Prop} (hI : IntsAre vp ns) (hS : SrcAt h₀ ax vp.toArray nw)
    (elem : ∀ n t I oI C oC D m₂ h tk ys (E' : Value → Shared → Prop) (Q' : Value → Shared → Prop), NsObj oC m₂ → m₂ x = some (.int n t) → Fr h₀ L h m → News h₀ L h ((I, oI) :: (C, oC) :: (D, lst ys) :: nw) → (∀ c u tk', c.length = 1 → Q' (.str c u) { s with heap := h, toks := tk' }) →
      wpAny (model prog w) A (eval elt (compEnvC scope cl C env)) Q' E' { s with heap := h, toks := tk })
    (fin : ∀ l : List (Str × Tok), (∀ p ∈ l, p.1.length = 1) → l.length = ns.length → Fin (strValues l) nw) :
    ∀ k i (l : List (Str × Tok)), i + k = vp.length → (∀ p ∈ l, p.1.length = 1) → l.length = i → CompRest prog w A h₀ L m env elt x scope cl s (SrcAt h₀ ax vp.toArray) (fun i v => vp.toArray[i]? = some v) Fin k i (strValues l) nw
  | 0, i, l, hi, hy, hli => CompRest.zero (fin l hy (by rw [← hI.length]; omega))
  | k + 1, i, l, hi, hy, hli => by
    have hlt : i < ns.length := by rw [← hI.length]; omega
    refine CompRest.succ ?_
    intro v I oI C oC D m₂ h tk E' hP hC hm hF hN hOff hne
    obtain ⟨t, ht⟩ := hI.get i ns[i] (List.getElem?_eq_getElem hlt)
    have hv : v = .int ns[i] t := by
      have hP' : vp[i]? = some v := by simpa using hP
      rw [ht] at hP'; exact (Option.some.inj hP').symm
    subst hv
    refine elem ns[i] t I oI C oC D m₂ h tk (strValues l) E' _ hC hm hF hN ?_
    intro c u tk' hc
    refine CompEnd.intro hF hN nw (fun p hp => hp) hOff hS ?_
    have e : strValues l ++ [Value.str c u] = strValues (l ++ [(c, u)]) := by simp [strValues]
    rw [e]
    refine comp_strs hI hS elem fin k (i + 1) _ (by omega) ?_ (by simp [hli])
    intro p hp
    rcases List.mem_append.mp hp with hp | hp
    · exact hy p hp
    · cases List.mem_singleton.mp hp; exact hc

theorem sum_ones : ∀ (l : List (Str × Tok)), (∀ p ∈ l, p.1.length = 1) → ((l.map (·.1)).map (·.length)).sum = l.length
  | [], _ => rfl
  | p :: l, h => by
    have := sum_ones l fun q hq => h q (.tail _ hq)
    simp only [List.map_cons, List.sum_cons, List.length_cons, this, h p (.head _)]
    omega
theorem fold_ones : ∀ (l : List Str) (n : Nat), l.foldl (fun (a : Nat) (b : Str) => a + b.length + (Str.ofString "").length) n = n + (l.map (·.length)).sum
  | [], n => by simp
  | x :: l, n => by
    rw [List.foldl_cons, fold_ones l]
    simp only [List.map_cons, List.sum_cons]
    have : (Str.ofString "").length = 0 := rfl
    omega
theorem join_ones {t : Tok} {l : List (Str × Tok)} {Q : Value → Shared → Prop} (hl : s.heap.IsList D (strValues l).toArray) (h1 : ∀ p ∈ l, p.1.length = 1) (h9 : l.length < 100)
    (h : ∀ z u tk, z.length = l.length → Q (.str z u) { s with toks := tk }) : wpAny (model prog w) A (call (.builtin "str.join") [.str (Str.ofString "") t, .ref D]) Q E s := by
  have hs := sum_ones l h1
  refine call_meets PySem.F.slot_str_join (typeIs_str s _ t) PySem.F.entry_str_join (PySem.F.args_str_join_2 _ _) (meets_str_join_list (Str.ofString "") t D l ?_) ⟨hl, ?_⟩
  · have e : ((l.map (·.1)).toArray.foldl (fun (a : Nat) (b : Str) => a + b.length + (Str.ofString "").length) 0) = l.length := by
      rw [List.foldl_toArray, fold_ones, hs]; omega
    rw [e]
    show decide (l.length > sizeLine) = false
    rw [sizeLine_eq]
    exact decide_eq_false (by omega)
  · have hg : (Builtin.Str.glued (Str.ofString "") (l.map (·.1))).length = l.length := by
      rw [size_glued, hs]
      have : (Str.ofString "").length = 0 := rfl
      rw [this]; omega
    have hsz : (Builtin.Str.glued (Str.ofString "") (l.map (·.1))).length ≤ sizeLine := by rw [hg, sizeLine_eq]; omega
    rcases l with _ | ⟨p, _ | ⟨q, r⟩⟩
    · exact ⟨hsz, h _ _ _ hg⟩
    · exact h p.1 p.2 s.toks (h1 p (.head _))
    · exact ⟨hsz, h _ _ _ hg⟩
end
end Mine
end

/-! part Plain2 -/
section
open PySem PySem.W PyProof.Rows PySem.Calls
namespace Mine

/-- the order of the keys -/
noncomputable def kle (a b : Int × Int) : Prop := klt b a = false
theorem kle_iff (a b : Int × Int) : kle a b ↔ (a.1 < b.1 ∨ (a.1 = b.1 ∧ a.2 ≤ b.2)) := by
  unfold kle klt
  split
  · rw [decide_eq_false_iff_not]; omega
  · rw [decide_eq_false_iff_not]; omega
theorem kle_refl (a : Int × Int) : kle a a := (kle_iff a a).mpr (.inr ⟨rfl, Int.le_refl _⟩)
theorem kle_trans {a b c : Int × Int} (h1 : kle a b) (h2 : kle b c) : kle a c := by
  rw [kle_iff] at *; omega
theorem kle_of_klt {a b : Int × Int} (h : klt a b = true) : kle a b := by
  rw [kle_iff]
  unfold klt at h
  split at h
  · have := of_decide_eq_true h; omega
  · have := of_decide_eq_true h; omega
theorem kle_antisymm {a b : Int × Int} (h1 : kle a b) (h2 : kle b a) : a = b := by
  rw [kle_iff] at *
  exact Prod.ext (by omega) (by omega)

theorem getD_set_ne {l : List Value} {i j : Nat} {v : Value} (h : i ≠ j) : (l.set i v).getD j .none = l.getD j .none := by
  rw [List.getD_eq_getElem?_getD, List.getD_eq_getElem?_getD, List.getElem?_set_ne h]
theorem getD_set_self {l : List Value} {i : Nat} {v : Value} (h : i < l.length) : (l.set i v).getD i .none = v := by
  rw [List.getD_eq_getElem?_getD, List.getElem?_set_self h]; rfl

/-- parents from s on are not above their children -/
noncomputable def HeapFrom (kf : Value → Int × Int) (l : List Value) (s : Nat) : Prop :=
  ∀ c, 0 < c → c < l.length → s ≤ (c - 1) / 2 → kle (kf (l.getD ((c - 1) / 2) .none)) (kf (l.getD c .none))

inductive Desc (s : Nat) : Nat → Prop
  | refl : Desc s s
  | step {p c : Nat} : Desc s p → (c = 2 * p + 1 ∨ c = 2 * p + 1 + 1) → Desc s c
theorem Desc.le {s p : Nat} (h : Desc s p) : s ≤ p := by
  induction h with
  | refl => exact Nat.le_refl _
  | step _ e ih => omega
theorem Desc.up {s p : Nat} (h : Desc s p) (hlt : s < p) : Desc s ((p - 1) / 2) := by
  cases h with
  | refl => omega
  | @step q c hq e =>
    have : (p - 1) / 2 = q := by omega
    rw [this]; exact hq

theorem child_cases (kf : Value → Int × Int) (l : List Value) (ps : Nat) : child kf l ps = 2 * ps + 1 ∨ child kf l ps = 2 * ps + 1 + 1 := by
  unfold child; split <;> simp
theorem child_min (kf : Value → Int × Int) (l : List Value) (ps : Nat) (c : Nat) (h : c = 2 * ps + 1 ∨ c = 2 * ps + 1 + 1) (hc : c < l.length) : kle (kf (l.getD (child kf l ps) .none)) (kf (l.getD c .none)) := by
  unfold child
  split
  · rename_i h1
    rcases h with rfl | rfl
    · exact h1.2
    · exact kle_refl _
  · rename_i h1
    rcases h with rfl | rfl
    · exact kle_refl _
    · have : ¬ klt (kf (l.getD (2 * ps + 1) .none)) (kf (l.getD (2 * ps + 1 + 1) .none)) = false := fun q => h1 ⟨hc, q⟩
      exact kle_of_klt (by simpa using this)

theorem su1_heap (kf : Value → Int × Int) (s : Nat) (l : List Value) (p : Nat) : p < l.length → Desc s p → HeapFrom kf l (s + 1) → (s < p → HeapFrom kf l s) →
    HeapFrom kf (su1 kf l p).1 s ∧ Desc s (su1 kf l p).2 ∧ ¬ 2 * (su1 kf l p).2 + 1 < (su1 kf l p).1.length := by
  fun_induction su1 kf l p with
  | case1 l p h ih =>
    intro hp hd h1 h2
    have hc := child_cases kf l p
    have hcl := child_lt (kf := kf) h
    have key : HeapFrom kf (l.set p (l.getD (child kf l p) .none)) s := by
      intro c c0 cl cs
      rw [List.length_set] at cl
      by_cases e1 : (c - 1) / 2 = p
      · rw [e1, getD_set_self hp, getD_set_ne (by omega)]
        exact child_min kf l p c (by omega) cl
      · rw [getD_set_ne (Ne.symm e1)]
        by_cases e2 : c = p
        · subst e2
          rw [getD_set_self hp]
          have hsp : s < c := by omega
          refine kle_trans (h2 hsp c c0 cl cs) ?_
          have := h2 hsp (child kf l c) (by omega) hcl (by omega)
          rwa [show (child kf l c - 1) / 2 = c by omega] at this
        · rw [getD_set_ne (Ne.symm e2)]
          by_cases hsp : s < p
          · exact h2 hsp c c0 cl cs
          · have := hd.le
            exact h1 c c0 cl (by omega)
    refine ih (by rw [List.length_set]; exact hcl) (.step hd hc) (fun c a b d => key c a b (by omega)) fun _ => key
  | case2 l p h =>
    intro hp hd h1 h2
    refine ⟨?_, hd, h⟩
    intro c c0 cl cs
    replace cl : c < l.length := cl
    have := hd.le
    by_cases hsp : s < p
    · exact h2 hsp c c0 cl cs
    · refine h1 c c0 cl (by omega)

theorem sd_heap (kf : Value → Int × Int) (x : Value) (s : Nat) (l : List Value) (p : Nat) : p < l.length → Desc s p →
    (∀ c, 0 < c → c < l.length → s ≤ (c - 1) / 2 → c ≠ p → (c - 1) / 2 ≠ p → kle (kf (l.getD ((c - 1) / 2) .none)) (kf (l.getD c .none))) →
    (∀ c, 0 < c → c < l.length → (c - 1) / 2 = p → kle (kf x) (kf (l.getD c .none))) →
    (∀ c, 0 < c → c < l.length → (c - 1) / 2 = p → 0 < p → s ≤ (p - 1) / 2 → kle (kf (l.getD ((p - 1) / 2) .none)) (kf (l.getD c .none))) →
    HeapFrom kf (sd kf x s l p) s := by
  fun_induction sd kf x s l p with
  | case1 l p h hlt ih =>
    intro hp hd i1 i2 i3
    have hq := (hd.up h).le
    have hqp : (p - 1) / 2 < p := by omega
    refine ih (by rw [List.length_set]; omega) (hd.up h) ?_ ?_ ?_
    · intro c c0 cl cs n1 n2
      rw [List.length_set] at cl
      have n3 : c ≠ p := fun e => n2 (by rw [e])
      rw [getD_set_ne (Ne.symm n3)]
      by_cases e : (c - 1) / 2 = p
      · rw [e, getD_set_self hp]
        exact i3 c c0 cl e (by omega) hq
      · rw [getD_set_ne (Ne.symm e)]
        exact i1 c c0 cl cs n3 e
    · intro c c0 cl e
      rw [List.length_set] at cl
      by_cases e2 : c = p
      · subst e2
        rw [getD_set_self hp]
        exact kle_of_klt hlt
      · rw [getD_set_ne (Ne.symm e2)]
        have := i1 c c0 cl (by omega) e2 (by omega)
        rw [e] at this
        exact kle_trans (kle_of_klt hlt) this
    · intro c c0 cl e q0 hs
      rw [List.length_set] at cl
      have hqq : kle (kf (l.getD (((p - 1) / 2 - 1) / 2) .none)) (kf (l.getD ((p - 1) / 2) .none)) := i1 ((p - 1) / 2) q0 (by omega) hs (by omega) (by omega)
      rw [getD_set_ne (i := p) (j := ((p - 1) / 2 - 1) / 2) (by omega)]
      by_cases e2 : c = p
      · subst e2
        rw [getD_set_self hp]
        exact hqq
      · rw [getD_set_ne (Ne.symm e2)]
        have := i1 c c0 cl (by omega) e2 (by omega)
        rw [e] at this
        exact kle_trans hqq this
  | case2 l p h hlt =>
    intro hp hd i1 i2 i3 c c0 cl cs
    rw [List.length_set] at cl
    by_cases e1 : (c - 1) / 2 = p
    · rw [e1, getD_set_self hp, getD_set_ne (by omega)]
      exact i2 c c0 cl e1
    · rw [getD_set_ne (Ne.symm e1)]
      by_cases e2 : c = p
      · subst e2
        rw [getD_set_self hp]
        exact Bool.eq_false_iff.mpr hlt
      · rw [getD_set_ne (Ne.symm e2)]
        exact i1 c c0 cl cs e2 e1
  | case3 l p h =>
    intro hp hd i1 i2 i3 c c0 cl cs
    rw [List.length_set] at cl
    have := hd.le
    by_cases e1 : (c - 1) / 2 = p
    · rw [e1, getD_set_self hp, getD_set_ne (by omega)]
      exact i2 c c0 cl e1
    · rw [getD_set_ne (Ne.symm e1)]
      by_cases e2 : c = p
      · omega
      · rw [getD_set_ne (Ne.symm e2)]
        exact i1 c c0 cl cs e2 e1

theorem su_heap (kf : Value → Int × Int) (l : List Value) (s : Nat) (hs : s < l.length) (h : HeapFrom kf l (s + 1)) : HeapFrom kf (su kf l s) s := by
  obtain ⟨h1, h2, h3⟩ := su1_heap kf s l s hs .refl h (fun q => absurd q (Nat.lt_irrefl _))
  have h4 := su1_lt kf l s hs
  have h5 := su1_length kf l s
  unfold su
  refine sd_heap kf _ s _ _ (by rw [List.length_set, h5]; exact h4) h2 ?_ ?_ ?_
  · intro c c0 cl cs n1 n2
    rw [List.length_set] at cl
    rw [getD_set_ne (Ne.symm n1), getD_set_ne (Ne.symm n2)]
    exact h1 c c0 cl cs
  · intro c c0 cl e
    rw [List.length_set] at cl
    omega
  · intro c c0 cl e
    rw [List.length_set] at cl
    omega

/-! the same things -/
theorem set_perm {α : Type} (a : α) : ∀ (l : List α) (i : Nat) (h : i < l.length), (l[i] :: l.set i a).Perm (a :: l)
  | x :: l, 0, _ => List.Perm.swap ..
  | x :: l, i + 1, h => by
    have ih := set_perm a l i (by simpa using h)
    simp only [List.getElem_cons_succ, List.set_cons_succ]
    exact (List.Perm.swap ..).trans ((ih.cons x).trans (List.Perm.swap ..))
theorem swap_perm {l : List Value} {p q : Nat} (x : Value) (hp : p < l.length) (hq : q < l.length) (hne : p ≠ q) : ((l.set p (l.getD q .none)).set q x).Perm (l.set p x) := by
  have e : l.getD q .none = l[q] := by rw [List.getD_eq_getElem?_getD, List.getElem?_eq_getElem hq]; rfl
  rw [e]
  have a1 := set_perm x (l.set p l[q]) q (by rw [List.length_set]; exact hq)
  rw [List.getElem_set_ne hne] at a1
  have a2 := set_perm l[q] l p hp
  have a3 := set_perm x l p hp
  have a4 : (l[p] :: l[q] :: (l.set p l[q]).set q x).Perm (l[p] :: l[q] :: l.set p x) :=
    (a1.cons l[p]).trans ((List.Perm.swap ..).trans ((a2.cons x).trans ((List.Perm.swap ..).trans ((a3.symm.cons l[q]).trans (List.Perm.swap ..)))))
  exact a4.cons_inv.cons_inv

theorem sd_perm (kf : Value → Int × Int) (x : Value) (s : Nat) (l : List Value) (p : Nat) : p < l.length → (sd kf x s l p).Perm (l.set p x) := by
  fun_induction sd kf x s l p with
  | case1 l p h hlt ih =>
    intro hp
    exact (ih (by rw [List.length_set]; omega)).trans (swap_perm x hp (by omega) (by omega))
  | case2 l p h hlt => intro hp; exact .refl _
  | case3 l p h => intro hp; exact .refl _
theorem su1_perm (kf : Value → Int × Int) (l : List Value) (p : Nat) : p < l.length → ∀ y, ((su1 kf l p).1.set (su1 kf l p).2 y).Perm (l.set p y) := by
  fun_induction su1 kf l p with
  | case1 l p h ih =>
    intro hp y
    have hcl := child_lt (kf := kf) h
    have := child_gt kf l p
    exact (ih (by rw [List.length_set]; exact hcl) y).trans (swap_perm y hp hcl (by omega))
  | case2 l p h => intro hp y; exact .refl _
theorem su_perm (kf : Value → Int × Int) (l : List Value) (s : Nat) (hs : s < l.length) : (su kf l s).Perm l := by
  have h4 := su1_lt kf l s hs
  have h5 := su1_length kf l s
  unfold su
  refine (sd_perm kf _ s _ _ (by rw [List.length_set, h5]; exact h4)).trans ?_
  rw [List.set_set]
  refine (su1_perm kf l s hs _).trans ?_
  have e : l.getD s .none = l[s] := by rw [List.getD_eq_getElem?_getD, List.getElem?_eq_getElem hs]; rfl
  rw [e, List.set_getElem_self]

theorem hfGo_heap (kf : Value → Int × Int) (l : List Value) : ∀ i, i ≤ l.length / 2 → HeapFrom kf (hfGo kf l (l.length / 2) i) (l.length / 2 - i) ∧ (hfGo kf l (l.length / 2) i).Perm l
  | 0, _ => ⟨fun c c0 cl cs => by simp only [hfGo] at cl; omega, .refl _⟩
  | i + 1, h => by
    obtain ⟨ih1, ih2⟩ := hfGo_heap kf l i (by omega)
    have hl := hfGo_length kf l (l.length / 2) i
    have hlt : l.length / 2 - 1 - i < (hfGo kf l (l.length / 2) i).length := by rw [hl]; omega
    rw [hfGo]
    refine ⟨?_, (su_perm kf _ _ hlt).trans ih2⟩
    have := su_heap kf (hfGo kf l (l.length / 2) i) (l.length / 2 - 1 - i) hlt (by rw [show l.length / 2 - 1 - i + 1 = l.length / 2 - i by omega]; exact ih1)
    rw [show l.length / 2 - (i + 1) = l.length / 2 - 1 - i by omega]; exact this
theorem hf_heap (kf : Value → Int × Int) (l : List Value) : HeapFrom kf (hf kf l) 0 ∧ (hf kf l).Perm l := by
  have := hfGo_heap kf l (l.length / 2) (Nat.le_refl _)
  rw [Nat.sub_self] at this
  exact this

theorem heap_min {kf : Value → Int × Int} {l : List Value} (h : HeapFrom kf l 0) : ∀ i, i < l.length → kle (kf (l.getD 0 .none)) (kf (l.getD i .none)) := by
  intro i
  induction i using Nat.strongRecOn with
  | ind i ih =>
    intro hi
    by_cases e : i = 0
    · rw [e]; exact kle_refl _
    · exact kle_trans (ih ((i - 1) / 2) (by omega) (by omega)) (h i (by omega) hi (by omega))
theorem popL_heap {kf : Value → Int × Int} {p : List Value} {y : Value} (h : HeapFrom kf (p ++ [y]) 0) : HeapFrom kf (popL kf p y) 0 := by
  unfold popL
  split
  · intro c c0 cl; simp at cl
  · rename_i hp
    refine su_heap kf _ 0 (by rw [List.length_set]; omega) ?_
    intro c c0 cl cs
    rw [List.length_set] at cl
    have := h c c0 (by rw [List.length_append]; omega) (by omega)
    rw [List.getD_eq_getElem?_getD, List.getD_eq_getElem?_getD, List.getElem?_append_left (by omega), List.getElem?_append_left (by omega), ← List.getD_eq_getElem?_getD, ← List.getD_eq_getElem?_getD] at this
    rw [getD_set_ne (by omega), getD_set_ne (by omega)]
    exact this
theorem popL_perm (kf : Value → Int × Int) (p : List Value) (y : Value) : ((p ++ [y]).getD 0 .none :: popL kf p y).Perm (p ++ [y]) := by
  unfold popL
  rcases p with _ | ⟨a, p⟩
  · exact .refl _
  · rw [if_neg (by simp)]
    refine ((su_perm kf _ 0 (by simp)).cons _).trans ?_
    show (a :: y :: p).Perm (a :: (p ++ [y]))
    exact (List.perm_append_comm (l₁ := [y]) (l₂ := p)).cons a

theorem popAll_ok {kf : Value → Int × Int} : ∀ (n : Nat) (l : List Value), l.length = n → HeapFrom kf l 0 → (popAll kf n l).Perm (l.map kf) ∧ (popAll kf n l).Pairwise kle
  | 0, l, hl, _ => by
    have : l = [] := List.eq_nil_of_length_eq_zero hl
    subst this
    exact ⟨.refl _, .nil⟩
  | n + 1, l, hl, h => by
    obtain ⟨p, y, rfl⟩ : ∃ p y, l = p ++ [y] := by
      rcases List.eq_nil_or_concat l with rfl | ⟨p, y, rfl⟩
      · simp at hl
      · exact ⟨p, y, by simp⟩
    have hpl : (popL kf p y).length = n := by rw [popL_length]; simpa using hl
    obtain ⟨i1, i2⟩ := popAll_ok n (popL kf p y) hpl (popL_heap h)
    have hpp := popL_perm kf p y
    rw [popAll]
    simp only [List.dropLast_concat, List.getLastD_concat]
    refine ⟨(i1.cons _).trans (hpp.map kf), List.Pairwise.cons ?_ i2⟩
    intro k hk
    obtain ⟨v, hv, rfl⟩ := List.mem_map.mp (i1.mem_iff.mp hk)
    have hv2 : v ∈ p ++ [y] := hpp.mem_iff.mp (.tail _ hv)
    obtain ⟨i, hi, rfl⟩ := List.mem_iff_getElem.mp hv2
    have := heap_min h i hi
    rwa [show (p ++ [y]).getD i .none = (p ++ [y])[i] by rw [List.getD_eq_getElem?_getD, List.getElem?_eq_getElem hi]; rfl] at this
end Mine
end

/-! part Plain3 -/
section
open PySem PySem.W PyProof.Rows PySem.Calls
namespace Mine

noncomputable def kll (a b : Int × Int) : Prop := a.1 < b.1 ∨ (a.1 = b.1 ∧ a.2 < b.2)
theorem kll_of {a b : Int × Int} (h : kle a b) (hne : a ≠ b) : kll a b := by
  rw [kle_iff] at h
  unfold kll
  by_cases e : a.1 = b.1 ∧ a.2 = b.2
  · exact absurd (Prod.ext e.1 e.2) hne
  · omega
theorem kll_irrefl (a : Int × Int) : ¬ kll a a := by unfold kll; omega
theorem kll_asymm {a b : Int × Int} (h : kll a b) : ¬ kll b a := by unfold kll at *; omega

/-- sorted lists with the same members are the same -/
theorem sorted_eq : ∀ (l m : List (Int × Int)), l.Pairwise kll → m.Pairwise kll → (∀ k, k ∈ l ↔ k ∈ m) → l = m
  | [], [], _, _, _ => rfl
  | [], b :: m, _, _, h => absurd ((h b).mpr (.head _)) (by simp)
  | a :: l, [], _, _, h => absurd ((h a).mp (.head _)) (by simp)
  | a :: l, b :: m, hl, hm, h => by
    rw [List.pairwise_cons] at hl hm
    have e : a = b := by
      rcases List.mem_cons.mp ((h a).mp (.head _)) with e | e
      · exact e
      · rcases List.mem_cons.mp ((h b).mpr (.head _)) with e' | e'
        · exact e'.symm
        · exact absurd (hl.1 b e') (kll_asymm (hm.1 a e))
    subst e
    rw [sorted_eq l m hl.2 hm.2 fun k => ?_]
    constructor
    · intro hk
      rcases List.mem_cons.mp ((h k).mp (.tail _ hk)) with e | e
      · rw [e] at hk; exact absurd (hl.1 a hk) (kll_irrefl a)
      · exact e
    · intro hk
      rcases List.mem_cons.mp ((h k).mpr (.tail _ hk)) with e | e
      · rw [e] at hk; exact absurd (hm.1 a hk) (kll_irrefl a)
      · exact e

theorem slAt_bound {x : Str} {i : Nat} : ∀ {n : Nat} {k : Int × Int}, k ∈ slAt x i n → k.2 = (i : Int) ∧ -(n : Int) ≤ k.1
  | 0, k, hk => by simp [slAt] at hk
  | n + 1, k, hk => by
    rw [slAt_succ] at hk
    rcases List.mem_append.mp hk with hk | hk
    · have := slAt_bound hk; omega
    · split at hk
      · cases List.mem_singleton.mp hk; dsimp only; omega
      · cases hk
theorem slAt_nodup {x : Str} {i : Nat} : ∀ n : Nat, (slAt x i n).Nodup
  | 0 => by simp [slAt]
  | n + 1 => by
    rw [slAt_succ, List.nodup_append]
    refine ⟨slAt_nodup n, ?_, ?_⟩
    · split <;> simp
    · intro a ha b hb e
      subst e
      split at hb
      · cases List.mem_singleton.mp hb
        have := (slAt_bound ha).2
        dsimp only at this; omega
      · cases hb
theorem slUp_bound {x : Str} : ∀ {n : Nat} {k : Int × Int}, k ∈ slUp x n → k.2 < (n : Int)
  | 0, k, hk => by simp [slUp] at hk
  | n + 1, k, hk => by
    rw [slUp_succ] at hk
    rcases List.mem_append.mp hk with hk | hk
    · have := slUp_bound hk; omega
    · have := (slAt_bound hk).1; omega
theorem slUp_nodup {x : Str} : ∀ n : Nat, (slUp x n).Nodup
  | 0 => by simp [slUp]
  | n + 1 => by
    rw [slUp_succ, List.nodup_append]
    refine ⟨slUp_nodup n, slAt_nodup _, ?_⟩
    intro a ha b hb e
    subst e
    have := slUp_bound ha
    have := (slAt_bound hb).1
    omega
theorem slUp_mem {x : Str} {k : Int × Int} : k ∈ slUp x x.length ↔ Good x k := by
  constructor
  · exact slUp_good k
  · rintro ⟨i, j, rfl, hj, hij, ht⟩
    unfold slUp slAt
    rw [List.mem_flatMap]
    refine ⟨i, List.mem_range.mpr (by omega), ?_⟩
    rw [List.mem_flatMap]
    refine ⟨j, List.mem_range.mpr (by omega), ?_⟩
    rw [if_pos ht]
    exact List.mem_singleton.mpr rfl

/-- the walks' order as keys -/
noncomputable def wKey (k : Nat × Nat) : Int × Int := (-(k.1 : Int), (k.2 : Int))
noncomputable def wList (x : Str) : List (Nat × Nat) := (wOrder x.length 3).filter fun k => isTok (piece x k.2 k.1)
theorem wOrder3 (n : Nat) : wOrder n 3 = wSizes n 3 ++ wSizes n 2 ++ wSizes n 1 := by
  simp [wOrder]
theorem wSizes_mem {n size : Nat} {k : Nat × Nat} : k ∈ wSizes n size ↔ k.1 = size ∧ k.2 < n - size + 1 := by
  unfold wSizes
  rw [List.mem_map]
  constructor
  · rintro ⟨a, ha, rfl⟩; exact ⟨rfl, List.mem_range.mp ha⟩
  · rintro ⟨h1, h2⟩; exact ⟨k.2, List.mem_range.mpr h2, by rw [← h1]⟩
theorem wSizes_sorted (n size : Nat) : (wSizes n size).Pairwise fun a b => kll (wKey a) (wKey b) := by
  unfold wSizes
  rw [List.pairwise_map]
  refine (List.pairwise_lt_range).imp ?_
  intro a b h
  unfold kll wKey
  dsimp only; omega
theorem wOrder_sorted (n : Nat) : (wOrder n 3).Pairwise fun a b => kll (wKey a) (wKey b) := by
  rw [wOrder3, List.pairwise_append, List.pairwise_append]
  refine ⟨⟨wSizes_sorted n 3, wSizes_sorted n 2, ?_⟩, wSizes_sorted n 1, ?_⟩
  · intro a ha b hb
    have := (wSizes_mem.mp ha).1; have := (wSizes_mem.mp hb).1
    unfold kll wKey; dsimp only; omega
  · intro a ha b hb
    have := (wSizes_mem.mp hb).1
    rcases List.mem_append.mp ha with ha | ha
    · have := (wSizes_mem.mp ha).1
      unfold kll wKey; dsimp only; omega
    · have := (wSizes_mem.mp ha).1
      unfold kll wKey; dsimp only; omega
theorem wOrder_mem {n : Nat} (h3 : 3 ≤ n) {k : Nat × Nat} : k ∈ wOrder n 3 ↔ 1 ≤ k.1 ∧ k.1 ≤ 3 ∧ k.2 + k.1 ≤ n := by
  rw [wOrder3, List.mem_append, List.mem_append, wSizes_mem, wSizes_mem, wSizes_mem]
  omega
theorem wList_mem {x : Str} (h3 : 3 ≤ x.length) {k : Nat × Nat} : k ∈ wList x ↔ (1 ≤ k.1 ∧ k.1 ≤ 3 ∧ k.2 + k.1 ≤ x.length) ∧ isTok (piece x k.2 k.1) = true := by
  unfold wList
  rw [List.mem_filter, wOrder_mem h3]
theorem wKeys_mem {x : Str} (h3 : 3 ≤ x.length) {k : Int × Int} : k ∈ (wList x).map wKey ↔ Good x k := by
  rw [List.mem_map]
  constructor
  · rintro ⟨a, ha, rfl⟩
    have := (wList_mem h3).mp ha
    refine ⟨a.2, a.1 - 1, ?_, by omega, by omega, ?_⟩
    · unfold wKey
      rw [show a.1 - 1 + 1 = a.1 by omega]
    · rw [show a.1 - 1 + 1 = a.1 by omega]; exact this.2
  · rintro ⟨i, j, rfl, hj, hij, ht⟩
    exact ⟨(j + 1, i), (wList_mem h3).mpr ⟨⟨by dsimp only; omega, by dsimp only; omega, by dsimp only; omega⟩, ht⟩, rfl⟩

/-- the heap hands the keys out in the walks' order -/
theorem popAll_eq {x : Str} {l₀ : List Value} {kf : Value → Int × Int} (h3 : 3 ≤ x.length) (hk : l₀.map kf = slUp x x.length) : popAll kf l₀.length (hf kf l₀) = (wList x).map wKey := by
  have hh := hf_heap kf l₀
  obtain ⟨p1, p2⟩ := popAll_ok (kf := kf) l₀.length (hf kf l₀) (hf_length kf l₀) hh.1
  have p3 : (popAll kf l₀.length (hf kf l₀)).Perm (slUp x x.length) := by rw [← hk]; exact p1.trans (hh.2.map kf)
  refine sorted_eq _ _ ?_ ?_ ?_
  · have nd := p3.nodup_iff.mpr (slUp_nodup x.length)
    exact (List.Pairwise.and p2 nd).imp fun h => kll_of h.1 h.2
  · rw [List.pairwise_map]
    exact (wOrder_sorted x.length).filter _
  · intro k
    rw [p3.mem_iff, slUp_mem, wKeys_mem h3]

/-! the two ways of taking -/
/-- taken places and free places tell the same -/
noncomputable def Same (n : Nat) (a : List Int × List (Int × Int × Int)) (b : List Bool × List (Int × Int × Int)) : Prop :=
  a.2 = b.2 ∧ b.1.length = n ∧ ∀ p, p < n → b.1[p]? = some (!a.1.contains (p : Int))

theorem rangeInts_mem : ∀ {n : Nat} {a z : Int}, z ∈ rangeInts a 1 n ↔ ∃ d : Nat, d < n ∧ z = a + (d : Int)
  | 0, a, z => by simp [rangeInts_zero]
  | n + 1, a, z => by
    rw [PyProof.Rows.rangeInts_succ, List.mem_cons, rangeInts_mem (n := n)]
    constructor
    · rintro (e | ⟨d, hd, e⟩)
      · exact ⟨0, by omega, by omega⟩
      · exact ⟨d + 1, by omega, by omega⟩
    · rintro ⟨d, hd, e⟩
      rcases d with _ | d
      · exact .inl (by omega)
      · exact .inr ⟨d, by omega, by omega⟩
theorem free_iff {n : Nat} {tk : List Int} {fr : List Bool} (_hl : fr.length = n) (hs : ∀ p, p < n → fr[p]? = some (!tk.contains (p : Int))) {i j : Nat} (hij : i + j ≤ n) :
    (rangeInts (i : Int) 1 j).filter (fun p => tk.contains p) = [] ↔ ((fr.drop i).take j).contains false = false := by
  rw [List.filter_eq_nil_iff]
  constructor
  · intro h
    rw [Bool.eq_false_iff]
    intro hc
    have hm : false ∈ (fr.drop i).take j := List.contains_iff_mem.mp hc
    obtain ⟨d, hd, e⟩ := List.mem_iff_getElem?.mp hm |>.imp fun d hd => (⟨(by
      have := List.getElem?_eq_some_iff.mp hd
      obtain ⟨q, _⟩ := this
      simp at q; omega : d < j), hd⟩ : d < j ∧ _)
    rw [List.getElem?_take_of_lt hd, List.getElem?_drop, hs (i + d) (by omega)] at e
    have := h ((i : Int) + (d : Int)) (rangeInts_mem.mpr ⟨d, hd, rfl⟩)
    rw [show ((i + d : Nat) : Int) = (i : Int) + (d : Int) by omega] at e
    have e2 := Option.some.inj e
    simp at this e2
    exact this e2
  · intro h z hz
    obtain ⟨d, hd, rfl⟩ := rangeInts_mem.mp hz
    intro hc
    have e := hs (i + d) (by omega)
    rw [show ((i + d : Nat) : Int) = (i : Int) + (d : Int) by omega, hc] at e
    rw [Bool.eq_false_iff] at h
    refine h (List.contains_iff_mem.mpr (List.mem_iff_getElem?.mpr ⟨d, ?_⟩))
    rw [List.getElem?_take_of_lt hd, List.getElem?_drop, e]
    rfl
theorem same_step {x : Str} {a : List Int × List (Int × Int × Int)} {b : List Bool × List (Int × Int × Int)} {k : Nat × Nat} (h : Same x.length a b) (hk : k.2 + k.1 ≤ x.length) (ht : isTok (piece x k.2 k.1) = true) :
    Same x.length (gStep x a (wKey k)) (wStep x b k) := by
  obtain ⟨h1, h2, h3⟩ := h
  have hc := free_iff h2 h3 hk
  have e0 : (-(wKey k).1).toNat = k.1 := by unfold wKey; dsimp only; omega
  have e1 : (wKey k).2 = (k.2 : Int) := rfl
  unfold gStep wStep
  rw [e0, e1]
  by_cases q : (rangeInts (k.2 : Int) 1 k.1).filter (fun p => a.1.contains p) = []
  · rw [if_pos q, if_pos ⟨ht, hc.mp q⟩]
    refine ⟨?_, ?_, ?_⟩
    · dsimp only
      rw [h1]
      have ep : Txt.slice x (some (k.2 : Int)) (some ((k.2 : Int) - (wKey k).1)) = piece x k.2 k.1 := by
        unfold piece wKey
        dsimp only
        rw [show (k.2 : Int) - -(k.1 : Int) = (k.2 : Int) + (k.1 : Int) by omega]
      rw [ep, tokVal_eq _ ht]
      unfold wKey
      dsimp only
      rw [Int.neg_neg]
    · dsimp only
      simp only [List.length_append, List.length_take, List.length_replicate, List.length_drop]
      omega
    · intro p hp
      dsimp only
      have hlt : (b.1.take k.2).length = k.2 := by rw [List.length_take]; omega
      by_cases c1 : p < k.2
      · rw [List.append_assoc, List.getElem?_append_left (by rw [hlt]; exact c1), List.getElem?_take_of_lt c1, h3 p hp]
        congr 2
        rw [List.contains_append]
        have : (rangeInts (k.2 : Int) 1 k.1).contains (p : Int) = false := by
          rw [Bool.eq_false_iff]
          intro hm
          obtain ⟨d, _, e⟩ := rangeInts_mem.mp (List.contains_iff_mem.mp hm)
          omega
        rw [this, Bool.or_false]
      · by_cases c2 : p < k.2 + k.1
        · rw [List.append_assoc, List.getElem?_append_right (by rw [hlt]; omega), hlt, List.getElem?_append_left (by rw [List.length_replicate]; omega), List.getElem?_replicate_of_lt (by omega)]
          have : (rangeInts (k.2 : Int) 1 k.1).contains (p : Int) = true := List.contains_iff_mem.mpr (rangeInts_mem.mpr ⟨p - k.2, by omega, by omega⟩)
          rw [List.contains_append, this, Bool.or_true]
          rfl
        · rw [List.getElem?_append_right (by rw [List.length_append, hlt, List.length_replicate]; omega), List.length_append, hlt, List.length_replicate, List.getElem?_drop, show k.2 + k.1 + (p - (k.2 + k.1)) = p by omega, h3 p hp]
          congr 2
          rw [List.contains_append]
          have : (rangeInts (k.2 : Int) 1 k.1).contains (p : Int) = false := by
            rw [Bool.eq_false_iff]
            intro hm
            obtain ⟨d, _, e⟩ := rangeInts_mem.mp (List.contains_iff_mem.mp hm)
            omega
          rw [this, Bool.or_false]
  · rw [if_neg q, if_neg fun hq => q (hc.mpr hq.2)]
    exact ⟨h1, h2, h3⟩
theorem same_fold {x : Str} : ∀ (ws : List (Nat × Nat)) (a : List Int × List (Int × Int × Int)) (b : List Bool × List (Int × Int × Int)), (∀ k ∈ ws, k.2 + k.1 ≤ x.length ∧ isTok (piece x k.2 k.1) = true) → Same x.length a b →
    Same x.length ((ws.map wKey).foldl (gStep x) a) (ws.foldl (wStep x) b)
  | [], _, _, _, h => h
  | k :: ws, _, _, hw, h => same_fold ws _ _ (fun q hq => hw q (.tail _ hq)) (same_step h (hw k (.head _)).1 (hw k (.head _)).2)
theorem fold_filter {x : Str} : ∀ (ws : List (Nat × Nat)) (b : List Bool × List (Int × Int × Int)), (ws.filter fun k => isTok (piece x k.2 k.1)).foldl (wStep x) b = ws.foldl (wStep x) b
  | [], _ => rfl
  | k :: ws, b => by
    rw [List.filter_cons]
    split
    · exact fold_filter ws _
    · rename_i h
      rw [fold_filter ws b, List.foldl_cons]
      congr 1
      unfold wStep
      rw [if_neg fun q => h q.1]

theorem plain_law {x : Str} {l₀ : List Value} {kf : Value → Int × Int} (h3 : 3 ≤ x.length) (hk : l₀.map kf = slUp x x.length) : ((popAll kf l₀.length (hf kf l₀)).foldl (gStep x) ([], [])).2 = (wAt x 3).2 := by
  rw [popAll_eq h3 hk]
  have h0 : Same x.length ([], []) (List.replicate x.length true, []) := by
    refine ⟨rfl, by simp, ?_⟩
    intro p hp
    rw [List.getElem?_replicate_of_lt hp]
    rfl
  have := same_fold (wList x) _ _ (fun k hk => ⟨((wList_mem h3).mp hk).1.2.2, ((wList_mem h3).mp hk).2⟩) h0
  rw [this.1]
  unfold wList wAt
  rw [fold_filter]
end Mine
end

/-! part Law -/
section
open PySem PySem.W PyProof.Rows PySem.Calls PyProof.Rows.LCg PyProof.Rows.LCt
set_option maxRecDepth 100000
namespace Mine

theorem TripsOf.keeps {h h' : Heap} (k : ∀ b o, h.get? b = some o → h'.get? b = some o) : ∀ {l : List Value} {ks : List (Int × Int × Int)}, TripsOf h l ks → TripsOf h' l ks
  | [], [], _ => trivial
  | _ :: _, _ :: _, ⟨⟨a, t1, t2, t3, n, e, hm⟩, r⟩ => ⟨⟨a, t1, t2, t3, n, e, k _ _ hm⟩, r.keeps k⟩
  | [], _ :: _, h => h.elim
  | _ :: _, [], h => h.elim
theorem TripsOf.cast {h : Heap} {l : List Value} {ks ks' : List (Int × Int × Int)} (x : TripsOf h l ks) (e : ks = ks') : TripsOf h l ks' := e ▸ x
theorem nil_news {h₀ h : Heap} {L : Addr} {m : Str → Option Value} (_ : Fr h₀ L h m) : News h₀ L h [] := fun p hp => by cases hp

set_option maxHeartbeats 8000000 in
theorem law_holds : PySem.Challenge.rw_mg0041_01.Holds := hd (by
  w_strict (
    k_go0
    rename_i hL ra w1 r0 hI hrr hc63 hcT K0 hDf h₁ tk₁ F oC dC N X0
    iterate 12 walk1
    rename_i h₂ oC₂ F₂ N₂ dC₂
    refine LCg.ListComp_U (F₀ := F₂) (cl := [(Str.ofString "signs", _)]) (by with_unfolding_all rfl) (by decide) (by rfl) (by decide) (by rfl) ?_
    iterate 8 walk1
    rename_i D₃ ws₃ h₃ F₃ N₃ hI₃ hC₃ hL₃ l₃
    have hw8 : ws₃.length ≤ 8 := by rw [hI₃.length, hC₃]; omega
    refine CompSrc.ledger (by rfl) F₃ N₃ (.head _) (by rw [sizeLine_eq]; simp; omega) fun g₂ => ?_
    refine comp_strs hI₃ (.inr ⟨_, .head _, rfl, _, rfl⟩) ?_ ?_ _ 0 [] (by simp) (by simp) rfl
    · intro n' t' I oI C oC' D m₂ h tk' ys E' Q' hC hm hF hN hq
      iterate 6 walk1
      have b1 := Int.fmod_nonneg_of_pos n' (b := 29) (by omega)
      have b2 := Int.fmod_lt_of_pos n' (b := 29) (by omega)
      refine KXi.item (n := 29) (by decide) (by omega) (by omega) (by omega) ?_
      intro hlen
      exact hq _ _ _ hlen
    · intro l hl1 hl2 D h₄ tk₄ F₄ N₄ hO
      iterate 1 walk1
      refine join_ones ⟨_, N₄.get (.head _), rfl, _, rfl⟩ hl1 (by rw [hl2, hC₃]; omega) ?_
      intro z u tk₅ hz
      iterate 1 walk1
      refine KXadd.add (K := 100) (L := 100) (by rw [hz, hl2, hC₃]; omega) (by decide) (by omega) ?_
      intro t₅ k₅ hzl
      have hz2 : (Str.ofString "**=...-").length = 7 := by decide
      obtain ⟨x, hx⟩ : ∃ x, x = z ++ Str.ofString "**=...-" := ⟨_, rfl⟩
      have hx7 : 3 ≤ x.length := by rw [hx]; omega
      have hx15 : x.length < 100 := by rw [hx]; have := hl2.trans hC₃; omega
      rw [← hx]
      clear hzl
      iterate 11 walk1
      rename_i h₆ F₆ N₆
      rename (hd.heap_39 _).In _ => KX
      rename Top _ _ _ _ _ _ => TT
      have G' : Base _ _ _ _ := ⟨KX, topRead_of TT⟩
      obtain ⟨oL, esL, epL, hoL, hdL, hsL, hnL⟩ := F₆.ns
      have gL := Heap.get?_none_of_le F₆.above
      refine ⟨KX.keeps F₆.keep, wpAny_call (byheap_call (L0 := _) (o0 := oL) G' F₆.keep (by rfl) (by show callerA.depth + 1 + 60 < recursionLimit; decide) (by show callerA.units + 3 + 120 < cLine; decide) (by rfl) (by rfl) (by rfl) hoL hdL gL hx15 ?_)⟩
      intro h₇ tk₇ Td l₇ n₇ l₀ kf k1 k2 k3 k4 k5
      obtain ⟨sl, k2⟩ := k2
      dsimp only
      have F₇ := (⟨⟨_, esL, epL, k2, hdL, hsL, hnL⟩, fun b o e => k1 b o (F₆.keep b o e) (fun q => by rw [q, gL] at e; cases e), F₆.above⟩ : Fr _ _ h₇ _)
      have N₇ := nil_news F₇
      clear F₆ N₆
      iterate 6 walk1
      refine ⟨KX.keeps F₇.keep, wpAny_call (walks_call G' F₇.keep (by rfl) (by show callerA.depth + 1 + 60 < recursionLimit; decide) (by show callerA.units + 3 + 120 < cLine; decide) hx15 hx7 ?_)⟩
      intro h₈ tk₈ Te l₈ n₈ q1 q2 q3
      dsimp only
      have F₈ := F₇.grownK q1
      have N₈ := nil_news F₈
      refine eq_trips (q1 _ _ k3) q2 ((TripsOf.keeps q1 k5).cast (plain_law hx7 k4)) q3 (by show callerA.units + 3 + 64 < cLine; decide) ?_
      clear F₇ N₇
      wrow_close
    ))
end Mine
end

theorem PySem.Challenge.cw_mg0041_01_holds : PySem.Challenge.rw_mg0041_01.Holds :=
  Mine.law_holds

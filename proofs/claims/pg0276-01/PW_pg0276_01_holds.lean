import PyProof.Rows.All
import Wide.All
import OpenK.AllK
import Wide.FinOn
import Lean
import PySem.Challenge.RW_pg0276_01
set_option Elab.async false
set_option maxRecDepth 100000
set_option compiler.extract_closed false
section
open PySem PySem.W PyProof.Rows
set_option maxHeartbeats 8000000
namespace Mine
open_top hd for PySem.Challenge.rw_pg0276_01
end Mine
end

section
open PySem PySem.W PyProof.Rows PySem.Calls
namespace Mine

/-- a call that keeps every object that stood, whoever calls it -/
def Pure (prog : Program) (w : World) (K : Frag) (p : Program) (loose : List Str) (mean : ExcName → Option Value) (mg mb : Str → Option Value) (d : Nat) (f : Addr) (vs : List Value) (Out : Heap → Heap → Value → Prop) : Prop :=
  ∀ (dp un : Nat) (gd : Option (List Code)) (fl : List Env) (s : Shared) (Q E : Value → Shared → Prop),
    K.In s.heap → Top p loose mean mg mb s.heap → dp + d < recursionLimit → un + 8 * d < cLine →
    (∀ v h' tk', (∀ b o, s.heap.get? b = some o → h'.get? b = some o) → Out s.heap h' v → Q v { s with heap := h', toks := tk' }) →
    wpAny (model prog w) { handled := none, depth := dp, frames := some fl, guards := gd, units := un } (call (.ref f) vs) Q E s

abbrev OutI (r : Int) : Heap → Heap → Value → Prop := fun _ _ v => ∃ t, v = .int r t
abbrev OutS (r : Str) : Heap → Heap → Value → Prop := fun _ _ v => ∃ t, v = .str r t

theorem outI_of {x y : Int} {t : Tok} {h h' : Heap} (e : y = x) : OutI x h h' (.int y t) := ⟨t, by rw [e]⟩
theorem outS_of {x y : Str} {t : Tok} {h h' : Heap} (e : y = x) : OutS x h h' (.str y t) := ⟨t, by rw [e]⟩

theorem pure_enter {prog : Program} {w : World} {A : Around} {s : Shared} {K : Frag} {p : Program} {loose : List Str} {mean : ExcName → Option Value} {mg mb : Str → Option Value} {R : Result → Shared → Prop} {name qual : Str} {params : Arguments} {body : List Stmt} {scope : Scope} {dV kV doc pm cdv ct oc : Value} {an od : Option Addr} {osl : Array (Option Value)} {f : Addr} {args : Args} {binds : List (Str × Value)}
    (X : K.In s.heap) (T : Top p loose mean mg mb s.heap)
    (ho : K.lookup f = some ⟨oc, od, .func (fnOf name qual params body scope dV kV doc pm an cdv ct), osl⟩) (hcd : codeIn K cdv qual = true) (hroom : A.depth < recursionLimit)
    (hbind : BindsTo s (fnOf name qual params body scope dV kV doc pm an cdv ct) args binds) (hloc : ∀ y ∈ binds, scope.names.lookup y.1 = some .local)
    (h : ∀ g h₁, g = s.heap → Fr g g.objs.size h₁ (fun y => binds.reverse.lookup y) → News g g.objs.size h₁ [] → K.In g → Top p loose mean mg mb g →
      wpAny (model prog w) (A.deeper (envOf qual scope g.objs.size f cdv)) (execs body (envOf qual scope g.objs.size f cdv))
        (fun fl s' => R (.ok (.ret (match fl with | .ret v => v | _ => .none))) s') (fun _ _ => False)
        { s with heap := h₁, toks := s.toks + binds.length })
    (hco : scope.isCoroutine = false) (hgen : scope.isGenerator = false) (hk : scope.kind = .function)
    (hcell : ∀ x ∈ scope.names, x.2 ≠ .cell) : codeAny (model prog w) A (.call (.ref f) args) R s :=
  codeAny_call_def (fd := fnOf name qual params body scope dV kV doc pm an cdv ct) (body := body) (binds := binds) hroom (X _ _ ho) rfl T.nolimit (codeRec_of X hcd) rfl hbind hcell hloc
    (fun h₁ hns hk₁ => wpAny_mono (h s.heap h₁ rfl ⟨hns, hk₁, Nat.le_refl _⟩ News.nil X T) (fun _ _ x => x) (fun _ _ x => x.elim)) hco hgen hk

theorem pure_enterC {prog : Program} {w : World} {A : Around} {s : Shared} {K : Frag} {p : Program} {loose : List Str} {mean : ExcName → Option Value} {mg mb : Str → Option Value} {R : Result → Shared → Prop} {name qual : Str} {params : Arguments} {body : List Stmt} {scope : Scope} {dV kV doc pm cdv ct oc : Value} {an od : Option Addr} {osl : Array (Option Value)} {f : Addr} {args : Args} {binds : List (Str × Value)}
    (X : K.In s.heap) (T : Top p loose mean mg mb s.heap)
    (ho : K.lookup f = some ⟨oc, od, .func (fnOf name qual params body scope dV kV doc pm an cdv ct), osl⟩) (hcd : codeIn K cdv qual = true) (hroom : A.depth < recursionLimit)
    (hbind : BindsTo s (fnOf name qual params body scope dV kV doc pm an cdv ct) args binds) (hkind : (binds.all fun y => scope.names.lookup y.1 == some .local || scope.names.lookup y.1 == some .cell) = true)
    (hnd : ((cellsFrom 0 scope.names []).map (·.1)).Nodup)
    (h : ∀ g h₁ tk cells, g = s.heap → Fr g g.objs.size h₁ (bindL (envOfC qual scope g.objs.size f cdv).kindOf binds fun _ => none) → News g g.objs.size h₁ cells →
      CellsAre (bindC (envOfC qual scope g.objs.size f cdv).kindOf binds fun _ => none) (cellsFrom (g.objs.size + 1) scope.names []) cells → K.In g → Top p loose mean mg mb g →
      wpAny (model prog w) (A.deeper (envOfC qual scope g.objs.size f cdv)) (execs body (envOfC qual scope g.objs.size f cdv))
        (fun fl s' => R (.ok (.ret (match fl with | .ret v => v | _ => .none))) s') (fun _ _ => False)
        { s with heap := h₁, toks := tk })
    (hco : scope.isCoroutine = false) (hgen : scope.isGenerator = false) (hk : scope.kind = .function) : codeAny (model prog w) A (.call (.ref f) args) R s := by
  refine codeAny_call_function (fd := fnOf name qual params body scope dV kV doc pm an cdv ct) hroom (X _ _ ho) rfl hco hgen rfl (codeRec_of X hcd) (hbind _ _ _ _ ?_)
  refine wpAny_newFunctionEnv_cells hk (kindsX hkind _) fun env' he s' x => ?_
  subst he
  refine ⟨T.nolimit.keeps x.toInCall.keep, codeAny_func ?_⟩
  obtain ⟨h₁, tk, rfl, _⟩ := x.done
  have hk₁ := x.toInCall.keep
  obtain ⟨cells, NC, Y⟩ := Cl.news (h₀ := s.heap) (Nat.le_refl _) fun n c hm => ⟨x.cell n c (lookup_of_mem_nodup (cellsFrom_names scope.names 0 (s.heap.objs.size + 1) [] [] rfl ▸ hnd) hm), x.above n c hm⟩
  exact wpAny_mono (h s.heap h₁ tk cells rfl ⟨x.toInCall.ns, hk₁, Nat.le_refl _⟩ NC Y X T) (fun fl s' hl => hl) fun _ _ y => y.elim

/-- behind a call that keeps what stood -/
def AllNe (d : Nat) : List (Addr × Obj) → Prop
  | [] => True
  | p :: r => @Ne Nat p.1 d ∧ AllNe d r
section
variable {h₀ h h' : Heap} {L a : Addr} {m : Str → Option Value} {news : List (Addr × Obj)} {o : Obj}
theorem after_fr (F : Fr h₀ L h m) (K : ∀ b o, h.get? b = some o → h'.get? b = some o) : Fr h₀ L h' m := F.keeps K
theorem after_news (N : News h₀ L h news) (K : ∀ b o, h.get? b = some o → h'.get? b = some o) : News h₀ L h' news := fun p hp => ⟨K _ _ (N p hp).1, (N p hp).2⟩
theorem after_more (F : Fr h₀ L h m) (N : News h₀ L h news) (K : ∀ b o, h.get? b = some o → h'.get? b = some o) (hn : h.get? a = none) (hg : h'.get? a = some o) : News h₀ L h' ((a, o) :: news) := by
  intro p hp
  rcases List.mem_cons.mp hp with rfl | hp
  · obtain ⟨oL, _, _, hL, _⟩ := F.ns
    refine ⟨hg, fun e => ?_, ?_⟩
    · have e' : a = L := e
      rw [e', hL] at hn; cases hn
    · cases q : h₀.get? a with
      | none => rfl
      | some o' => have := F.keep a o' q; rw [hn] at this; cases this
  · exact after_news N K p hp
theorem after_ne : ∀ {news : List (Addr × Obj)}, News h₀ L h news → h.get? a = none → AllNe a news
  | [], _, _ => trivial
  | p :: _, N, hn => ⟨(fun e => by have := (N p (.head _)).1; rw [e, hn] at this; cases this), after_ne (fun q hq => N q (.tail _ hq)) hn⟩
end
end Mine
end

section
open PySem PySem.W PyProof.Rows PySem.Calls
namespace Mine
section
variable {prog : Program} {w : World} {A : Around} {E : Value → Shared → Prop} {s : Shared} {env : Env} {h₀ : Heap} {target : Expr} {body : List Stmt} {Q : Flow → Shared → Prop}
theorem iter_rangeTurns {x : Str} {px : Pos} {r : Addr} {a₀ b₀ : Int} {t₀ u₀ v₀ : Tok} {n : Nat} {m₀ : Str → Option Value} {news : List (Addr × Obj)} {xs : List Itm} (ht : target = .Name x px)
    (hh : A.handled = none) (hr : IsRange s.heap r a₀ b₀ 1 t₀ u₀ v₀) (hsmall : Builtin.Range.small a₀ b₀ 1 = true) (hn : Builtin.Range.rangeSize a₀ b₀ 1 = (n : Int)) (F : Fr h₀ env.locals s.heap m₀) (N : News h₀ env.locals s.heap news)
    (hx : xs = (List.range n).map fun (i : Nat) => Itm.tok fun t => .int (a₀ + (i : Int)) t)
    (rest₀ : ∀ I : Addr, (∀ p ∈ news, p.1 < I) → ItemsRest prog w A E h₀ env target body Q s [(I, "range_iterator")] [] xs m₀ news) :
    wpAny (model prog w) A (pyIter (.ref r)) (fun it s₂ => TurnsAt prog w A h₀ env target body Q E it s₂) E s := by
  subst ht
  refine wpAny_pyIter_range hr hsmall ?_
  have W : Walks prog w A s.heap.objs.size [s.heap.objs.size] [s.heap.objs.size] n (fun i v => i < n ∧ ∃ t, v = .int (a₀ + i * 1) t)
      (fun i h => IsRangeIter h s.heap.objs.size (a₀ + (i : Nat) * 1) ((n : Int) - (i : Nat)) 1) := (Walks.range hh _ a₀ 1 n).bound
  refine ktu_core (tk0 := s.toks) (keep := []) (KTurns.ofWalks W fun i v s Q E st q => wpAny_pure q) (by rw [hx]; simp) (fun i v h hp => ?_) (fun i h st => ?_) (fun b hb => ?_) (fun b hb => by simpa using hb) (fun b hb => ?_) ?_ (fun p hp hI => ?_) ?_ (F.push _) (fun p hp => ⟨Heap.get?_push_of_some _ (N p hp).1, (N p hp).2⟩) trivial (rest₀ _ fun p hp => Heap.lt_size (N p hp).1)
  · obtain ⟨hi, t, e⟩ := hp
    refine ⟨.tok fun t => .int (a₀ + (i : Int)) t, ?_, t, ?_⟩
    · rw [hx]; simp [hi]
    · rw [e, Int.mul_one]
  · exact ⟨[(s.heap.objs.size, _)], ⟨⟨rfl, rfl⟩, trivial⟩, fun p hp => by rw [List.mem_singleton.mp hp]; exact st⟩
  · have hb' : b = s.heap.objs.size := by simpa using hb
    rw [hb']
    exact ⟨List.mem_singleton.mpr rfl, next_is_new F⟩
  · exact .inl (by simpa using hb)
  · intro hI
    exact absurd F.ns.lt ((List.mem_singleton.mp hI) ▸ Nat.lt_irrefl _)
  · exact absurd (Heap.lt_size (N p hp).1) ((List.mem_singleton.mp hI) ▸ Nat.lt_irrefl _)
  · show IsRangeIter _ _ _ _ _
    rw [hn]; simpa using Heap.get?_push_size _ rfl
end
end Mine
namespace Mine
open PySem.Flt
section
variable {prog : Program} {w : World} {A : Around} {E : Value → Shared → Prop} {s : Shared} {Q : Value → Shared → Prop} {h₀ : Heap} {L l : Addr} {m : Str → Option Value} {news : List (Addr × Obj)} {vs : List Value} {bs : List UInt64}
theorem iter_tup_ {its : Array Value} {Q : Value → Shared → Prop} (hl : s.heap.IsTuple l its)
    (h : ∀ s₂ : Shared, s₂ = { s with heap := s.heap.push { cls := .type "tuple_iterator", data := .fields #[.ref l, .int 0 0] } } →
      (s₂.heap.IsTupleIter s.heap.objs.size l 0 ∧ s₂.heap.IsTuple l its) → (∀ b ∈ [s.heap.objs.size, l], b < s₂.heap.objs.size) → l ≠ s.heap.objs.size → Q (.ref s.heap.objs.size) s₂) :
    wpAny (model prog w) A (pyIter (.ref l)) Q E s := by
  have hlt : l < s.heap.objs.size := by obtain ⟨_, e, _⟩ := hl; exact Heap.lt_size e
  have hl2 : (s.heap.push { cls := .type "tuple_iterator", data := .fields #[.ref l, .int 0 0] }).IsTuple l its := by
    obtain ⟨o, e, r⟩ := hl
    exact ⟨o, Heap.get?_push_of_some _ e, r⟩
  refine wpAny_pyIter_tuple hl (h _ rfl ⟨⟨_, Heap.get?_push_size _ rfl, rfl, rfl⟩, hl2⟩ (fun b hb => ?_) (Nat.ne_of_lt hlt))
  show b < (s.heap.push _).objs.size
  rw [Heap.size_push]
  rcases List.mem_cons.mp hb with rfl | hb
  · exact Nat.lt_succ_self _
  · rw [List.mem_singleton.mp hb]; exact Nat.lt_succ_of_lt hlt
theorem max_tupF {n : Nat} (hh : A.handled = none) (F : Fr h₀ L s.heap m) (N : News h₀ L s.heap news) (hl : (l, ({ cls := .type "tuple", data := .seq vs.toArray n } : Obj)) ∈ news) (hf : FloatsAre vs bs) (hne : 0 < bs.length)
    (h : ∀ h' tk t, Fr h₀ L h' m → News h₀ L h' news → Q (.float (maxOfBits bs) t) { s with heap := h', toks := tk }) : wpAny (model prog w) A (call (.builtin "max") [.ref l]) Q E s := by
  have hls : s.heap.IsTuple l vs.toArray := ⟨_, N.get hl, rfl, n, rfl⟩
  refine call_max_walk (iter_tup_ hls fun s₂ e st hfp hlI => ?_)
  subst e
  have W := Walks.tuple (prog := prog) (w := w) (A := A.in1) hh _ l hlI vs.toArray
  refine ⟨_, _, _, _, _, _, fun i j => gtB (bs.getD i 0) (bs.getD j 0), rfl, W, st, hfp, by rw [size_floats hf]; exact hne, fun i j vi vj s Q E hi hj h => ?_, fun v h' tk hP hk => ?_⟩
  · obtain ⟨b, t, rfl, e1⟩ := hf.at i vi (by simpa using hi)
    obtain ⟨c, u, rfl, e2⟩ := hf.at j vj (by simpa using hj)
    simp only [List.getD_eq_getElem?_getD, e1, e2, Option.getD_some] at h
    exact AutoFloatOps.gt_0 (by rw [cmp_gt]; exact h)
  · rw [size_floats hf] at hP
    obtain ⟨b, t, rfl, e1⟩ := hf.at _ v ((List.getElem?_toArray).symm.trans hP)
    have e2 := argBest_bits gtB bs (bs.length - 1) (by omega)
    rw [List.take_of_length_le (by rw [List.length_tail]; omega)] at e2
    rw [List.getD_eq_getElem?_getD, e1, Option.getD_some] at e2
    have kp := kept_iter hk
    rw [e2]; exact h h' tk t (F.grownK kp) (N.grown kp)
theorem min_tupF {n : Nat} (hh : A.handled = none) (F : Fr h₀ L s.heap m) (N : News h₀ L s.heap news) (hl : (l, ({ cls := .type "tuple", data := .seq vs.toArray n } : Obj)) ∈ news) (hf : FloatsAre vs bs) (hne : 0 < bs.length)
    (h : ∀ h' tk t, Fr h₀ L h' m → News h₀ L h' news → Q (.float (minOfBits bs) t) { s with heap := h', toks := tk }) : wpAny (model prog w) A (call (.builtin "min") [.ref l]) Q E s := by
  have hls : s.heap.IsTuple l vs.toArray := ⟨_, N.get hl, rfl, n, rfl⟩
  refine call_min_walk (iter_tup_ hls fun s₂ e st hfp hlI => ?_)
  subst e
  have W := Walks.tuple (prog := prog) (w := w) (A := A.in1) hh _ l hlI vs.toArray
  refine ⟨_, _, _, _, _, _, fun i j => ltB (bs.getD i 0) (bs.getD j 0), rfl, W, st, hfp, by rw [size_floats hf]; exact hne, fun i j vi vj s Q E hi hj h => ?_, fun v h' tk hP hk => ?_⟩
  · obtain ⟨b, t, rfl, e1⟩ := hf.at i vi (by simpa using hi)
    obtain ⟨c, u, rfl, e2⟩ := hf.at j vj (by simpa using hj)
    simp only [List.getD_eq_getElem?_getD, e1, e2, Option.getD_some] at h
    exact AutoFloatOps.lt_0 h
  · rw [size_floats hf] at hP
    obtain ⟨b, t, rfl, e1⟩ := hf.at _ v ((List.getElem?_toArray).symm.trans hP)
    have e2 := argBest_bits ltB bs (bs.length - 1) (by omega)
    rw [List.take_of_length_le (by rw [List.length_tail]; omega)] at e2
    rw [List.getD_eq_getElem?_getD, e1, Option.getD_some] at e2
    have kp := kept_iter hk
    rw [e2]; exact h h' tk t (F.grownK kp) (N.grown kp)
end
end Mine
namespace Mine
section
variable {M : Model} {A : Around} {E : Value → Shared → Prop} {s : Shared} {env : Env} {Q : Value → Shared → Prop}
theorem ifexp_str {test : Expr} {x y : Str} {k1 k2} {p1 p2 pos : Pos} (h : wpAny M A (isTrue test env (eval test env)) (fun b s₁ => Q (.str (if b = true then x else y) s₁.toks) { s₁ with toks := s₁.toks + 1 }) E s) :
    wpAny M A (eval (.IfExp test (.Constant (.str x) k1 p1) (.Constant (.str y) k2 p2) pos) env) Q E s := by
  refine wpAny_IfExp (wpAny_mono h (fun b s₁ hb => ?_) fun _ _ e => e)
  cases b with
  | true =>
    rw [if_pos rfl] at hb
    exact wpAny_Constant_str hb
  | false =>
    rw [if_neg (by decide)] at hb
    exact wpAny_Constant_str hb
end
end Mine
namespace Mine
def pick (c : Bool) (x y : Str) (i : Int) : Str := if c = true then Txt.item x i else Txt.item y i
theorem pick_len (c : Bool) (x y : Str) (i : Int) : (pick c x y i).length = 1 := by
  cases c <;> rfl
def cat3 (a b c : Str) : Str := Txt.join (Str.ofString "") [a, b, c]
theorem cat3_len (a b c : Str) : (cat3 a b c).length = a.length + b.length + c.length := by
  have e0 : Str.ofString "" = (⟨#[]⟩ : Str) := rfl
  have e1 : cat3 a b c = Str.join ⟨#[]⟩ [a, b, c] := by
    unfold cat3
    rw [e0]
    exact beq_iff_eq.mp (join_plain_closes _ _)
  rw [e1, PyProof.Rows.join_nil_cons, PyProof.Rows.join_nil_cons, PyProof.Rows.join_nil_cons]
  simp only [Str.length_append]
  have : (Str.join (⟨#[]⟩ : Str) []).length = 0 := rfl
  omega
section
variable {prog : Program} {w : World} {A : Around} {E : Value → Shared → Prop} {s : Shared} {Q : Value → Shared → Prop} {h₀ : Heap} {L D : Addr} {news : List (Addr × Obj)}
theorem join3 {a b c : Str} {t0 ta tb tc : Tok} {n : Nat} (N : News h₀ L s.heap news) (hm : (D, listOf [Value.str a ta, Value.str b tb, Value.str c tc].toArray n) ∈ news) (ha : a.length = 1) (hb : b.length = 1) (hc : c.length = 1)
    (h : ∀ t' k, (cat3 a b c).length = 3 → Q (.str (cat3 a b c) t') { s with toks := k }) :
    wpAny (model prog w) A (call (.builtin "str.join") [.str (Str.ofString "") t0, .ref D]) Q E s := by
  refine join_list (items := [Value.str a ta, Value.str b tb, Value.str c tc].toArray) (ys := [a, b, c]) (News.isList N hm) (.cons _ _ (.cons _ _ (.cons _ _ .nil))) ?_ fun t' k => ?_
  · have : (Str.ofString "").length = 0 := rfl
    simp [ha, hb, hc, this]
  · exact h t' k (by rw [cat3_len, ha, hb, hc])
theorem item_ite {c : Bool} {x y : Str} {i : Int} {t u : Tok} {value slice : Expr} (h1 : 0 ≤ i) (h2 : i < x.length) (h3 : i < y.length) (h63 : (x.length : Int) < 9223372036854775808) (h64 : (y.length : Int) < 9223372036854775808)
    (h : Q (.str (pick c x y i) s.toks) { s with toks := s.toks + 1 })
    (hs : ∀ z, subscripted slice false (.str z t) (.int i u) = operate [.str z t, .int i u] (getItem (.str z t) (.int i u)))
    (hv : ∀ z r, letTemporaryGo value (.str z t) r = pure ()) :
    wpAny (model prog w) A (subscriptTail value slice (.str (if c = true then x else y) t) (.int i u)) Q E s := by
  cases c with
  | true =>
    rw [if_pos rfl]
    unfold pick at h
    rw [if_pos rfl] at h
    have q : ItemOn (model prog w) A E (.str x t) (.int i u) Q s := SBL.item (by omega) h2 h63 (fun _ => h)
    obtain ⟨T, id, e1, e2, e3⟩ := q
    exact subscriptTail_builtin e2 e1 e3 (hs _) (hv _)
  | false =>
    rw [if_neg (by decide)]
    unfold pick at h
    rw [if_neg (by decide)] at h
    have q : ItemOn (model prog w) A E (.str y t) (.int i u) Q s := SBL.item (by omega) h3 h64 (fun _ => h)
    obtain ⟨T, id, e1, e2, e3⟩ := q
    exact subscriptTail_builtin e2 e1 e3 (hs _) (hv _)
end
end Mine
end

section
open PySem PySem.W PyProof.Rows PySem.Calls
namespace Mine
/-- a while that counts one name up or down until its test falls -/
def AtCnt (h₀ : Heap) (L : Addr) (s : Shared) (m : Str → Option Value) (i : Str) (news : List (Addr × Obj)) (k : Int) (t : Tok) (s₂ : Shared) : Prop :=
  ∃ h' tk, s₂ = { s with heap := h', toks := tk } ∧ Fr h₀ L h' (bindM m i (some (.int k t))) ∧ News h₀ L h' news
theorem AtCnt.intro {h₀ h' : Heap} {L : Addr} {s : Shared} {m : Str → Option Value} {i : Str} {news : List (Addr × Obj)} {k : Int} {t : Tok} {tk : Nat} (F : Fr h₀ L h' (bindM m i (some (.int k t)))) (N : News h₀ L h' news) :
    AtCnt h₀ L s m i news k t { s with heap := h', toks := tk } := ⟨h', tk, rfl, F, N⟩
section
variable {prog : Program} {w : World} {A : Around} {E : Value → Shared → Prop} {Q : Flow → Shared → Prop} {s : Shared} {env : Env} {h₀ : Heap} {L : Addr}
theorem While_upF {i : Str} {test : Expr} {body : List Stmt} {pos : Pos} {m : Str → Option Value} {news : List (Addr × Obj)} {k₀ K : Int} {t₀ : Tok} {c : Int → Bool}
    (F : Fr h₀ L s.heap m) (Nw : News h₀ L s.heap news) (hmi : m i = some (.int k₀ t₀))
    (gtest : ∀ k t h₁ tk₁, k₀ ≤ k → k ≤ K → Fr h₀ L h₁ (bindM m i (some (.int k t))) → News h₀ L h₁ news →
      wpAny (model prog w) A (isTrue test env (eval test env)) (fun b s₂ => SeqLeaf (b = c k ∧ AtCnt h₀ L s m i news k t s₂)) E { s with heap := h₁, toks := tk₁ })
    (gturn : ∀ k t h₁ tk₁, k₀ ≤ k → k < K → c k = true → Fr h₀ L h₁ (bindM m i (some (.int k t))) → News h₀ L h₁ news →
      wpAny (model prog w) A (execs body env) (CntStep h₀ L s m i news (k + 1)) E { s with heap := h₁, toks := tk₁ })
    (stop : k₀ ≤ K ∧ c K = false)
    (done : ∀ k t h' tk, k₀ ≤ k → k ≤ K → (∀ j, k₀ ≤ j → j < k → c j = true) → c k = false → Fr h₀ L h' (bindM m i (some (.int k t))) → News h₀ L h' news → Q .next { s with heap := h', toks := tk })
    (hE : PassesOwn (model prog w) A env E := by passes_own) :
    wpAny (model prog w) A (exec (.While test body [] pos) env) Q E s := by
  have hm0 : m = bindM m i (some (.int k₀ t₀)) := by rw [← hmi]; exact bindM_start m i
  refine While_inv (fun n m₁ news₁ => ∃ k t, k₀ ≤ k ∧ k ≤ K ∧ (∀ j, k₀ ≤ j → j < k → c j = true) ∧ m₁ = bindM m i (some (.int k t)) ∧ news = news₁ ∧ n = (K - k).toNat)
    F Nw ⟨k₀, t₀, Int.le_refl _, stop.1, fun j h1 h2 => absurd h2 (by omega), hm0, rfl, rfl⟩ ?_
  rintro n m₁ news₁ h₁ tk₁ F₁ N₁ ⟨k, t, hk, hkK, hall, rfl, rfl, rfl⟩
  refine wpAny_mono (gtest k t h₁ tk₁ hk hkK F₁ N₁) (fun b s₂ h₂ => ?_) fun _ _ e => e
  obtain ⟨rfl, h', tk, rfl, F₂, N₂⟩ := h₂
  cases hc : c k with
  | true =>
    rw [if_pos rfl]
    have hne : k ≠ K := fun e => by rw [e, stop.2] at hc; cases hc
    refine wpAny_mono (gturn k t h' tk hk (by omega) hc F₂ N₂) (fun f s₃ h₃ => ?_) fun _ _ e => e
    obtain ⟨rfl, h'', tk'', t', rfl, F₃, N₃⟩ := h₃
    refine WhileStep.intro F₃ N₃ (n' := (K - (k + 1)).toNat) (by omega) ⟨k + 1, t', by omega, by omega, fun j h1 h2 => ?_, rfl, rfl, rfl⟩
    by_cases hj : j < k
    · exact hall j h1 hj
    · have e : j = k := by omega
      rw [e]; exact hc
  | false =>
    rw [if_neg (by simp)]
    exact done k t h' tk hk hkK hall hc F₂ N₂
theorem While_downF {i : Str} {test : Expr} {body : List Stmt} {pos : Pos} {m : Str → Option Value} {news : List (Addr × Obj)} {k₀ K : Int} {t₀ : Tok} {c : Int → Bool}
    (F : Fr h₀ L s.heap m) (Nw : News h₀ L s.heap news) (hmi : m i = some (.int k₀ t₀))
    (gtest : ∀ k t h₁ tk₁, k ≤ k₀ → K ≤ k → Fr h₀ L h₁ (bindM m i (some (.int k t))) → News h₀ L h₁ news →
      wpAny (model prog w) A (isTrue test env (eval test env)) (fun b s₂ => SeqLeaf (b = c k ∧ AtCnt h₀ L s m i news k t s₂)) E { s with heap := h₁, toks := tk₁ })
    (gturn : ∀ k t h₁ tk₁, k ≤ k₀ → K < k → c k = true → Fr h₀ L h₁ (bindM m i (some (.int k t))) → News h₀ L h₁ news →
      wpAny (model prog w) A (execs body env) (CntStep h₀ L s m i news (k - 1)) E { s with heap := h₁, toks := tk₁ })
    (stop : K ≤ k₀ ∧ c K = false)
    (done : ∀ k t h' tk, k ≤ k₀ → K ≤ k → (∀ j, k < j → j ≤ k₀ → c j = true) → c k = false → Fr h₀ L h' (bindM m i (some (.int k t))) → News h₀ L h' news → Q .next { s with heap := h', toks := tk })
    (hE : PassesOwn (model prog w) A env E := by passes_own) :
    wpAny (model prog w) A (exec (.While test body [] pos) env) Q E s := by
  have hm0 : m = bindM m i (some (.int k₀ t₀)) := by rw [← hmi]; exact bindM_start m i
  refine While_inv (fun n m₁ news₁ => ∃ k t, k ≤ k₀ ∧ K ≤ k ∧ (∀ j, k < j → j ≤ k₀ → c j = true) ∧ m₁ = bindM m i (some (.int k t)) ∧ news = news₁ ∧ n = (k - K).toNat)
    F Nw ⟨k₀, t₀, Int.le_refl _, stop.1, fun j h1 h2 => absurd h2 (by omega), hm0, rfl, rfl⟩ ?_
  rintro n m₁ news₁ h₁ tk₁ F₁ N₁ ⟨k, t, hk, hkK, hall, rfl, rfl, rfl⟩
  refine wpAny_mono (gtest k t h₁ tk₁ hk hkK F₁ N₁) (fun b s₂ h₂ => ?_) fun _ _ e => e
  obtain ⟨rfl, h', tk, rfl, F₂, N₂⟩ := h₂
  cases hc : c k with
  | true =>
    rw [if_pos rfl]
    have hne : k ≠ K := fun e => by rw [e, stop.2] at hc; cases hc
    refine wpAny_mono (gturn k t h' tk hk (by omega) hc F₂ N₂) (fun f s₃ h₃ => ?_) fun _ _ e => e
    obtain ⟨rfl, h'', tk'', t', rfl, F₃, N₃⟩ := h₃
    refine WhileStep.intro F₃ N₃ (n' := (k - 1 - K).toNat) (by omega) ⟨k - 1, t', by omega, by omega, fun j h1 h2 => ?_, rfl, rfl, rfl⟩
    by_cases hj : k < j
    · exact hall j hj h2
    · have e : j = k := by omega
      rw [e]; exact hc
  | false =>
    rw [if_neg (by simp)]
    exact done k t h' tk hk hkK hall hc F₂ N₂
end
end Mine
namespace Mine
open PySem.Builtin PySem.Builtin.Str
theorem slice_empty_neg {x : Str} {k : Int} (h0 : k < 0) (h : k ≤ -(x.length : Int)) : (Txt.slice x none (some k)).length = 0 := by
  have e : strSliceIndices none (some k) 1 x.length = [] := by
    have a : max (0 : Int) (min (k + x.length) x.length) = 0 := by omega
    simp only [strSliceIndices, h0, if_true, show (1 : Int) > 0 by decide, a]
    rfl
  unfold Txt.slice
  rw [e]
  split
  · rename_i q
    have q' : (0 == x.length) = true := by simpa using q
    exact (beq_iff_eq.mp q').symm
  · rfl
theorem idx_neg {x : Str} {k : Int} (h : k ≤ 0) (hc : k ≠ 0) (hl : ((Txt.slice x none (some k)).length : Int) ≠ 0) : -(x.length : Int) ≤ k - 1 := by
  have h0 : k < 0 := by
    omega
  by_cases q : k ≤ -(x.length : Int)
  · exact absurd (by rw [slice_empty_neg h0 q]; rfl) hl
  · omega
theorem idx_zero {x : Str} {k : Int} (hc : k = 0) (hl : ((Txt.slice x none none).length : Int) ≠ 0) : -(x.length : Int) ≤ k - 1 := by
  have h0 : k = 0 := hc
  have := Txt.slice_le x none none
  omega
section
variable {prog : Program} {w : World} {A : Around} {E : Value → Shared → Prop} {s : Shared} {Q : Value → Shared → Prop}
theorem item_at {x : Str} {i : Int} {t u : Tok} {value slice : Expr} (h1 : -(x.length : Int) ≤ i) (h2 : i < x.length) (h63 : x.length ≤ 40)
    (h : Q (.str (Txt.item x i) s.toks) { s with toks := s.toks + 1 })
    (hs : ∀ z, subscripted slice false (.str z t) (.int i u) = operate [.str z t, .int i u] (getItem (.str z t) (.int i u)))
    (hv : ∀ z r, letTemporaryGo value (.str z t) r = pure ()) :
    wpAny (model prog w) A (subscriptTail value slice (.str x t) (.int i u)) Q E s := by
  have q : ItemOn (model prog w) A E (.str x t) (.int i u) Q s := SBL.item (by omega) h2 (by omega) (fun _ => h)
  obtain ⟨T, id, e1, e2, e3⟩ := q
  exact subscriptTail_builtin e2 e1 e3 (hs _) (hv _)
end
end Mine
end

section
open PySem PySem.W PyProof.Rows PySem.Calls
namespace Mine
/-- the even numbers from 2 on, a -/
def evens (n : Nat) : List Int := (List.range n).map fun (j : Nat) => 2 + (j : Int) * 2
theorem evens_len (n : Nat) : (evens n).length = n := by simp [evens]
theorem ints_at : ∀ (vs : List Value) (ns : List Int), vs.length = ns.length → (∀ (j : Nat) (v : Value), vs[j]? = some v → ∃ t, v = .int (ns.getD j 0) t) → IntsAre vs ns
  | [], [], _, _ => IntsAre.nil
  | [], _ :: _, e, _ => by simp at e
  | _ :: _, [], e, _ => by simp at e
  | v :: r, n :: ns, e, h => by
    obtain ⟨t, ht⟩ := h 0 v rfl
    have hv : v = .int n t := by rw [ht]; simp
    subst hv
    refine IntsAre.cons _ _ (ints_at r ns (by simpa using e) fun j v hj => ?_)
    obtain ⟨t', ht'⟩ := h (j + 1) v hj
    exact ⟨t', by rw [ht']; simp⟩
theorem evens_at {n j : Nat} (h : j < n) : (evens n).getD j 0 = 2 + (j : Int) * 2 := by
  unfold evens
  rw [List.getD_eq_getElem?_getD, List.getElem?_map, List.getElem?_range h]
  rfl
theorem size2 {n : Nat} {b : Int} (hb : b = 2 * ((n : Int) + 1)) : Builtin.Range.rangeSize 2 b 2 = (n : Int) := by
  subst hb
  unfold Builtin.Range.rangeSize
  simp only [show (2 : Int) > 0 by decide, if_true]
  split <;> omega
theorem small2 {n : Nat} {b : Int} (hb : b = 2 * ((n : Int) + 1)) (hn : n ≤ 40) : Builtin.Range.small 2 b 2 = true := by
  unfold Builtin.Range.small
  rw [size2 hb]
  simp only [Builtin.Range.rangeFitsLong, Bool.and_eq_true, Bool.or_eq_true, decide_eq_true_eq, beq_iff_eq, show (2 : Int) > 0 by decide, if_true]
  omega
section
variable {prog : Program} {w : World} {A : Around} {E : Value → Shared → Prop} {s : Shared} {h₀ : Heap} {L r : Addr} {m : Str → Option Value} {news : List (Addr × Obj)} {b : Int} {t₀ u₀ v₀ : Tok} {n : Nat} {Q : Value → Shared → Prop}
theorem list_range2 (hh : A.handled = none) (F : Fr h₀ L s.heap m) (N : News h₀ L s.heap news) (hr : IsRange s.heap r 2 b 2 t₀ u₀ v₀) (hb : b = 2 * ((n : Int) + 1)) (hn : n ≤ 40)
    (h : ∀ D us c h' tk, Fr h₀ L h' m → News h₀ L h' ((D, listOf (List.toArray us) c) :: news) → (∀ p ∈ news, p.1 < D) → IntsAre us (evens n) → Q (.ref D) { s with heap := h', toks := tk }) :
    wpAny (model prog w) A (call (.type "list") [.ref r]) Q E s := by
  refine call_list_range hh hr (small2 hb hn) (size2 hb) (by omega) fun h' tk acc c hk hD hI => ?_
  have hD' : h'.get? s.heap.objs.size = some (listOf (List.toArray acc.toList) c) := by
    rw [Array.toArray_toList]
    exact hD
  refine h _ acc.toList c h' tk (F.keeps hk) (news_pushed F N hk hD' rfl) (fun p hp => Heap.lt_size (N p hp).1) (ints_at _ _ (by rw [Array.length_toList, evens_len]; exact hI.1) fun j v hj => ?_)
  have hj' : acc[j]? = some v := by rw [← hj, Array.getElem?_toList]
  obtain ⟨t, e⟩ := hI.2 j v hj'
  have hlt : j < n := by
    have := (Array.getElem?_eq_some_iff.mp hj').1
    rw [hI.1] at this
    exact this
  exact ⟨t, by rw [e, evens_at hlt]⟩
end
end Mine
end

section
open PySem PySem.W PyProof.Rows PySem.Calls
namespace Mine
/-- the same, with arguments by name -/
def PureK (prog : Program) (w : World) (K : Frag) (p : Program) (loose : List Str) (mean : ExcName → Option Value) (mg mb : Str → Option Value) (d : Nat) (f : Addr) (vs : List Value) (kw : List (Str × Value)) (Out : Heap → Heap → Value → Prop) : Prop :=
  ∀ (dp un : Nat) (gd : Option (List Code)) (fl : List Env) (s : Shared) (Q E : Value → Shared → Prop),
    K.In s.heap → Top p loose mean mg mb s.heap → dp + d < recursionLimit → un + 8 * d < cLine →
    (∀ v h' tk', (∀ b o, s.heap.get? b = some o → h'.get? b = some o) → Out s.heap h' v → Q v { s with heap := h', toks := tk' }) →
    wpAny (model prog w) { handled := none, depth := dp, frames := some fl, guards := gd, units := un } (call (.ref f) vs kw) Q E s
end Mine
end

section
open PySem PySem.W PyProof.Rows PySem.Calls
namespace Mine
theorem plain_pat : PlainAttrs "re.Pattern" :=
  ⟨⟨"object.__getattribute__", by rw [typeLookup_type, builtinLookup_eq_fast]; kernel_rfl, by decide +kernel⟩, by rw [typeLookup_type, builtinLookup_eq_fast]; kernel_rfl⟩
theorem slot_search : Slot "re.Pattern" "search" "re.Pattern.search" :=
  .of (owner := "re.Pattern") (n := "search") (by rw [typeLookup_type, builtinLookup_eq_fast]; kernel_rfl) (by decide +kernel) (by decide +kernel) (by decide +kernel)
    (by first | exact .inl (by decide +kernel) | exact .inr (by decide +kernel)) (by rw [isSubtype_type]; kernel_rfl)
theorem type_search : typeOf (.builtin "re.Pattern.search") = pure (.type "method_descriptor") := by show builtinType _ = _; rw [builtinType_eq_fast]; kernel_rfl
theorem entry_search : entryFor table "re.Pattern.search" = some Builtin.«re.Pattern.search» := entryFor_of_tree (by kernel_rfl)
theorem args_search (a b : Value) : argsOk "re.Pattern.search" ⟨[a, b], []⟩ := by
  unfold argsOk; kernel_rfl
end Mine
namespace Mine
open PySem.Builtin PySem.Builtin.Re
def driveN : Nat → Sre.M → Option Sre.M
  | 0, _ => none
  | n + 1, m => if (m.runFor 4).outcome.isSome then some (m.runFor 4) else driveN n (m.runFor 4)
def hitNone (code text : Array Nat) : Bool := match driveN 200 (Sre.forSearch code text 0 (min (Int.toNat 0) text.size) (min (Int.toNat (2 ^ 63 - 1)) text.size) false) with
  | some m => (match m.outcome with | some .failed => true | _ => false)
  | none => false
section
variable {M : Model} {A : Around} {E : Value → Shared → Prop} {s : Shared}
theorem wp_drive : ∀ (n : Nat) {m m' : Sre.M} {N : Nat} {Q : Sre.M → Shared → Prop}, driveN n m = some m' → n ≤ N → Q m' s → wpAny M A (reDrive N m) Q E s
  | 0, _, _, _, _, h, _, _ => by simp [driveN] at h
  | n + 1, m, m', 0, _, _, hl, _ => by omega
  | n + 1, m, m', N + 1, Q, h, hl, hQ => by
    rw [reDrive]
    rw [driveN] at h
    show wpAny M A (if (m.runFor 4).outcome.isSome then pure (m.runFor 4) else do rule "sre.turn"; reDrive N (m.runFor 4)) Q E s
    by_cases c : (m.runFor 4).outcome.isSome = true
    · rw [if_pos c] at h ⊢
      cases h
      exact wpAny_pure hQ
    · rw [if_neg c] at h ⊢
      exact wpAny_bind (wpAny_rule (wp_drive n h (by omega) hQ))
theorem wp_toEnd {n : Nat} {m m' : Sre.M} {Q : Option Sre.M → Shared → Prop} (hd : driveN n m = some m') (hn : n ≤ 2 ^ 64) (ho : m'.outcome = some .failed) (hQ : Q none s) : wpAny M A (reRunToEnd m) Q E s := by
  unfold reRunToEnd
  refine wpAny_bind (wp_drive n hd hn ?_)
  refine wpAny_bind (wpAny_forIn_list _ (fun _ _ s' => s' = s) _ (fun x rest b s' e => ?_) (fun b s' e => ?_) _ _ rfl)
  · subst e
    split
    · exact wpAny_bind (wpAny_rule (wpAny_pure rfl))
    · exact wpAny_pure rfl
  · subst e
    rw [ho]
    exact wpAny_pure hQ
end
end Mine
namespace Mine
open PySem.Builtin PySem.Builtin.Re
def codeOf (items : Array Value) : Array Nat := (items.map reRawOf).map (·.toNat)
section
variable {prog : Program} {w : World} {A : Around} {E : Value → Shared → Prop} {s : Shared}
theorem named_one (v : Value) : reNamed "re.Pattern.search" "search" ["string", "pos", "endpos"] 1 [v] [] = pure [some v, none, none] := by rfl
theorem search_none {pat c : Addr} {oP oC : Obj} {f0 f1 f3 f4 : Value} {g0 k0 : Tok} {items : Array Value} {n : Nat} {x : Str} {t : Tok} {Q : Value → Shared → Prop}
    (hp : s.heap.get? pat = some oP) (hT : oP.cls = .type "re.Pattern") (hd : oP.data = .fields #[f0, f1, .int 0 g0, f3, f4, .ref c, .int 0 k0]) (hc : s.heap.get? c = some oC) (hcd : oC.data = .seq items n) (hx : hitNone (codeOf items) x.cps = true)
    (h : Q .none s) : wpAny (model prog w) A (call (.builtin "re.Pattern.search") [.ref pat, .str x t]) Q E s := by
  refine wpAny_call_entry slot_search ⟨oP, hp, hT⟩ entry_search ?_ (args_search _ _)
  unfold Builtin.«re.Pattern.search» reTarget
  refine wpAny_bind ?_
  dsimp only
  rw [named_one]
  refine wpAny_bind (wpAny_pure ?_)
  dsimp only
  refine wpAny_bind (wpAny_pure ?_)
  refine wpAny_bind (wpAny_pure ?_)
  refine wpAny_bind (wpAny_fieldsOf hp hd ?_)
  refine wpAny_bind (wpAny_pure ?_)
  dsimp only
  rw [if_neg (by simp [reRawNat]), if_neg (by simp [reRawNat])]
  refine wpAny_bind ?_
  unfold reNoCollectionInside
  rw [if_neg (by decide)]
  refine wpAny_pure (wpAny_bind ?_)
  unfold reRawItems
  refine wpAny_bind (wpAny_seqItems (o := oC) hc hcd (wpAny_pure (wpAny_pure ?_)))
  dsimp only
  unfold hitNone at hx
  split at hx
  · rename_i m' hm
    split at hx
    · rename_i hf
      unfold reAnswer
      refine wpAny_bind (wp_toEnd (n := 200) hm (by decide) hf ?_)
      exact wpAny_pure ⟨_, rfl, h⟩
    · cases hx
  · cases hx
end
end Mine
namespace Mine
def nameCode : Array Nat := #[14, 10, 4, 1, 1, 22, 0, 31, 16, 127, 0, 13, 7, 22, 0, 31, 16, 127, 0, 1]
def valueCode : Array Nat := #[14, 14, 4, 1, 1, 9, 4294966783, 0, 0, 2147483648, 0, 0, 0, 0, 0, 13, 11, 9, 4294966783, 0, 0, 2147483648, 0, 0, 0, 0, 0, 1]
section
variable {prog : Program} {w : World} {A : Around} {E : Value → Shared → Prop} {s : Shared} {h₀ : Heap} {L : Addr} {m : Str → Option Value} {K : Frag}
theorem meth_pat {a : Addr} {o : Obj} {pl : Sem Bool} {Q : Value × List Value → Shared → Prop} (X : K.In h₀) (F : Fr h₀ L s.heap m) (ho : K.lookup a = some o) (hT : o.cls = .type "re.Pattern") (hn : o.dict = none) (h : Q (.builtin "re.Pattern.search", [.ref a]) s) :
    wpAny (model prog w) A (getMethod (.ref a) (Str.ofString "search") pl) Q E s :=
  getMethod_builtin ⟨o, F.keep _ _ (X _ _ ho), hT⟩ plain_pat slot_search type_search (fun b e => by cases e; exact ⟨o, F.keep _ _ (X _ _ ho), hn⟩) h
theorem call_pat {a c : Addr} {oP oC : Obj} {f0 f1 f3 f4 : Value} {g0 k0 : Tok} {items : Array Value} {n : Nat} {x : Str} {t : Tok} {code : Array Nat} {Q : Value → Shared → Prop} (X : K.In h₀) (F : Fr h₀ L s.heap m)
    (ho : K.lookup a = some oP) (hT : oP.cls = .type "re.Pattern") (hd : oP.data = .fields #[f0, f1, .int 0 g0, f3, f4, .ref c, .int 0 k0]) (hc : K.lookup c = some oC) (hcd : oC.data = .seq items n) (hi : codeOf items = code) (hx : hitNone code x.cps = true)
    (h : Q .none s) : wpAny (model prog w) A (call (.builtin "re.Pattern.search") [.ref a, .str x t]) Q E s := by
  subst hi
  exact search_none (F.keep _ _ (X _ _ ho)) hT hd (F.keep _ _ (X _ _ hc)) hcd hx h
end
end Mine
end

section
open PySem PySem.W PyProof.Rows
namespace Mine
theorem five {vs : List Value} {ns : List Int} (h : IntsAre vs ns) (a b c d e : Tok) : ∃ n0 k0 n1 k1 n2 k2 n3 k3 n4 k4,
    (slicePick vs.toArray none (some 5) none).toList ++ (slicePick #[Value.int 14 a, Value.int 27 b, Value.int 100 c, Value.int 5 d, Value.int 9 e] (some (ns.length : Int)) none none).toList
      = [Value.int n0 k0, Value.int n1 k1, Value.int n2 k2, Value.int n3 k3, Value.int n4 k4] := by
  rw [kms_pick_eq, kms_pick_eq]
  cases h with
  | nil => exact ⟨_, _, _, _, _, _, _, _, _, _, rfl⟩
  | cons n0 t0 h => cases h with
    | nil => exact ⟨_, _, _, _, _, _, _, _, _, _, rfl⟩
    | cons n1 t1 h => cases h with
      | nil => exact ⟨_, _, _, _, _, _, _, _, _, _, rfl⟩
      | cons n2 t2 h => cases h with
        | nil => exact ⟨_, _, _, _, _, _, _, _, _, _, rfl⟩
        | cons n3 t3 h => cases h with
          | nil => exact ⟨_, _, _, _, _, _, _, _, _, _, rfl⟩
          | cons n4 t4 h =>
            rename_i vs' ns'
            refine ⟨n0, t0, n1, t1, n2, t2, n3, t3, n4, t4, ?_⟩
            have e1 : kms_hi (some 5) (vs'.length + 1 + 1 + 1 + 1 + 1) = 5 := by
              unfold kms_hi; simp only []; rw [if_neg (by decide)]; omega
            have e2 : kms_lo (some ((ns'.length + 1 + 1 + 1 + 1 + 1 : Nat) : Int)) 5 = 5 := by
              unfold kms_lo; simp only []; rw [if_neg (by omega)]; omega
            simp only [kms_pick, List.length_cons, List.length_nil, Nat.zero_add] at *
            rw [e1, e2]
            simp [kms_lo, kms_hi]
end Mine
end

section
open PySem PySem.W PyProof.Rows
namespace Mine
/-- what is left of the wheel: distinct places, none of them taken -/
def Good (ls S : List Int) : Prop := ls.Nodup ∧ ∀ x ∈ ls, 0 ≤ x ∧ x < 12 ∧ x ∉ S

theorem cut_at : ∀ {us : List Value} {ls : List Int} (_ : IntsAre us ls) (k : Nat), k < ls.length →
    ∃ p q t y lp lq, kl_cut us k = some (p, .int y t, q) ∧ ls = lp ++ y :: lq ∧ IntsAre (p ++ q) (lp ++ lq)
  | _, _, .nil, _, h => absurd h (Nat.not_lt_zero _)
  | _, _, .cons n t hr, 0, _ => ⟨[], _, t, n, [], _, rfl, rfl, hr⟩
  | _, _, .cons n t hr, k + 1, h => by
    obtain ⟨p, q, t', y, lp, lq, e, el, hi⟩ := cut_at hr k (by simpa using h)
    refine ⟨.int n t :: p, q, t', y, n :: lp, lq, ?_, by rw [el]; rfl, IntsAre.cons n t hi⟩
    unfold kl_cut; rw [e]

theorem good_cut {lp lq S : List Int} {y : Int} (h : Good (lp ++ y :: lq) S) : Good (lp ++ lq) (y :: S) ∧ 0 ≤ y ∧ y < 12 ∧ y ∉ S := by
  obtain ⟨hn, ha⟩ := h
  have hy := ha y (by simp)
  have hp : (y :: (lp ++ lq)).Nodup := (List.perm_middle.nodup_iff).mp hn
  rw [List.nodup_cons] at hp
  refine ⟨⟨hp.2, fun x hx => ?_⟩, hy⟩
  have hx' := ha x (by simp only [List.mem_append, List.mem_cons] at hx ⊢; rcases hx with h | h <;> simp [h])
  refine ⟨hx'.1, hx'.2.1, fun hm => ?_⟩
  rcases List.mem_cons.mp hm with rfl | hm
  · exact hp.1 hx
  · exact hx'.2.2 hm

theorem pop_pre {M : Model} {A : Around} {E : Value → Shared → Prop} {s : Shared} {D : Addr} {us : List Value} {ls S : List Int} {i : Int} {u : Tok} {Q : Value → Shared → Prop}
    (hI : IntsAre us ls) (hG : Good ls S) (hL : ls.length ≤ 12) (h0 : 0 ≤ i) (h1 : i < ls.length)
    (k : ∀ p q t y ls', kl_cut us i.toNat = some (p, Value.int y t, q) → seqIndex? i us.toArray.size = some i.toNat → Builtin.List.listFitsIndex i = true → us.toArray.toList.length ≤ sizeLine → IntsAre (p ++ q) ls' → Good ls' (y :: S) → ls'.length + 1 = ls.length → 0 ≤ y → y < 12 → y ∉ S →
      wpAny M A (call (.builtin "list.pop") [.ref D, .int i u]) Q E s) : wpAny M A (call (.builtin "list.pop") [.ref D, .int i u]) Q E s := by
  obtain ⟨p, q, t, y, lp, lq, e, el, hi⟩ := cut_at hI i.toNat (by omega)
  subst el
  obtain ⟨g1, g2, g3, g4⟩ := good_cut hG
  refine k p q t y _ e ?_ ?_ ?_ hi g1 ?_ g2 g3 g4
  · have hs := hI.length
    unfold seqIndex?
    have e1 : ¬ i < 0 := by omega
    have e2 : i < (us.toArray.size : Int) := by rw [List.size_toArray, hs]; exact h1
    simp [e1, h0, e2]
    rw [hs]; exact h1
  · unfold Builtin.List.listFitsIndex
    simp
    omega
  · have hs := hI.length
    simp only [sizeLine_eq]
    simp at hL ⊢
    rw [hs]
    simp
    omega
  · simp; omega
end Mine
namespace Mine
section
variable {prog : Program} {w : World} {A : Around} {E : Value → Shared → Prop} {s : Shared} {h₀ : Heap} {L a b : Addr} {m : Str → Option Value} {news : List (Addr × Obj)} {vs : List Value} {ns : List Int} {Q : Value → Shared → Prop}
theorem add_five {t1 t2 t3 t4 t5 : Tok} (F : Fr h₀ L s.heap m) (N : News h₀ L s.heap news) (ha : s.heap.IsList a (slicePick vs.toArray none (some 5) none))
    (hb : s.heap.IsList b (slicePick #[Value.int 14 t1, Value.int 27 t2, Value.int 100 t3, Value.int 5 t4, Value.int 9 t5] (some (ns.length : Int)) none none)) (hI : IntsAre vs ns)
    (h : ∀ n0 k0 n1 k1 n2 k2 n3 k3 n4 k4 D h', Fr h₀ L h' m → News h₀ L h' ((D, listOf [Value.int n0 k0, Value.int n1 k1, Value.int n2 k2, Value.int n3 k3, Value.int n4 k4].toArray 0) :: news) → (∀ p ∈ news, p.1 < D) → Q (.ref D) { s with heap := h' }) :
    wpAny (model prog w) A (binaryOp .Add (.ref a) (.ref b)) Q E s := by
  obtain ⟨n0, k0, n1, k1, n2, k2, n3, k3, n4, k4, e⟩ := five hI t1 t2 t3 t4 t5
  refine kmk_add_lit F N ha hb e (h n0 k0 n1 k1 n2 k2 n3 k3 n4 k4) ?_
  have := congrArg List.length e
  rw [List.length_append] at this
  rw [this]
  exact Nat.le_of_ble_eq_true rfl
end
end Mine
namespace Mine
section
variable {prog : Program} {w : World} {A : Around} {E : Value → Shared → Prop} {s : Shared} {h₀ : Heap} {L D r : Addr} {m : Str → Option Value} {news news' : List (Addr × Obj)} {us : List Value} {ls S : List Int} {c : Nat} {Q : Value → Shared → Prop}
theorem good12 : Good (rangeKs 0 12) [] := by unfold Good; decide
theorem list12 {t₀ u₀ v₀ : Tok} (hh : A.handled = none) (F : Fr h₀ L s.heap m) (N : News h₀ L s.heap news) (hr : IsRange s.heap r 0 12 1 t₀ u₀ v₀)
    (h : ∀ D us ls c h' tk, Fr h₀ L h' m → News h₀ L h' ((D, listOf (List.toArray us) c) :: news) → (∀ p ∈ news, p.1 < D) → IntsAre us ls → Good ls [] → ls.length = 12 → Q (.ref D) { s with heap := h', toks := tk }) :
    wpAny (model prog w) A (call (.type "list") [.ref r]) Q E s :=
  kll_range (n := 12) hh F N hr (by decide) (by decide) (by decide) fun D us c h' tk F' N' l hI => h D us (rangeKs 0 12) c h' tk F' N' l hI good12 (by decide)
theorem len_left {k : Nat} {z : Int} (N : News h₀ L s.heap news) (hm : (D, listOf us.toArray c) ∈ news) (hI : IntsAre us ls) (e : ls.length = k) (ez : (k : Int) = z) (hk : k ≤ 12)
    (h : Q (.int z (s.toks + 1)) { s with toks := s.toks + 1 + 1 }) : wpAny (model prog w) A (call (.builtin "len") [.ref D]) Q E s := by
  subst ez
  exact kst_len N hm (hI.length.trans e) (by omega) h
theorem pop_left {i : Int} {u : Tok} {k : Nat} (F : Fr h₀ L s.heap m) (N : News h₀ L s.heap news) (hI : IntsAre us ls) (hG : Good ls S) (hL : ls.length = k + 1) (hk : k + 1 ≤ 12) (h0 : 0 ≤ i) (h1 : i < ((k + 1 : Nat) : Int))
    (hm : (D, listOf us.toArray c) ∈ news)
    (h : ∀ us' ls' y t, IntsAre us' ls' → Good ls' (y :: S) → ls'.length = k → 0 ≤ y → y < 12 → y ∉ S →
      ∃ news', Upd D (listOf us.toArray c) (listOf us'.toArray (c + 1)) news news' ∧ ∀ h', Fr h₀ L h' m → News h₀ L h' news' → Q (.int y t) { s with heap := h' }) :
    wpAny (model prog w) A (call (.builtin "list.pop") [.ref D, .int i u]) Q E s := by
  let _ := hm
  refine pop_pre hI hG (by omega) h0 (by omega) fun p q t y ls' e1 e2 e3 e4 hI' hG' hl' g0 g1 g2 => ?_
  obtain ⟨news', U, k'⟩ := h _ _ y t hI' hG' (by omega) g0 g1 g2
  exact kl_popAt F N e3 e2 e1 U e4 k'
end
end Mine
end

section
open PySem PySem.W PyProof.Rows PySem.Calls
namespace Mine
/-- where a walk is to stand still -/
def Mark (P : Prop) : Prop := P
theorem Mark.mk {P : Prop} (h : P) : Mark P := h
theorem Mark.to {P : Prop} (h : Mark P) : P := h
def subC (x y : Str) : Int := if (x == y) = true then 0 else if (Txt.lower x == Txt.lower y) = true then 1 else 2
def upC (a b : Str) (k : Int) : Bool := if (((Txt.slice a (some k) none).length : Int) != 0) = true then (if (((Txt.slice b (some k) none).length : Int) != 0) = true then (if (Txt.item a k == Txt.item b k) = true then true else false) else false) else false
def cutTo (a : Str) (k : Int) : Str := if (k != 0) = true then Txt.slice a none (some k) else Txt.slice a none none
def dnC (a b : Str) (k : Int) : Bool := if (((cutTo a k).length : Int) != 0) = true then (if (((cutTo b k).length : Int) != 0) = true then (if (Txt.item a (k - 1) == Txt.item b (k - 1)) = true then true else false) else false) else false
def preN (a b : Str) : Nat := ((List.range 8).find? fun (j : Nat) => !upC a b (j : Int)).getD 0
def postN (a b : Str) : Nat := ((List.range 8).find? fun (j : Nat) => !dnC a b (-(j : Int))).getD 0
theorem find_first {c : Nat → Bool} {n k : Nat} (hk : k < n) (h1 : ∀ j, j < k → c j = false) (h2 : c k = true) : (List.range n).find? c = some k := by
  rw [List.find?_eq_some_iff_append]
  refine ⟨h2, List.range k, (List.range (n - k - 1)).map (· + (k + 1)), ?_, fun x hx => by simp [h1 x (List.mem_range.mp hx)]⟩
  apply List.ext_getElem
  · simp; omega
  · intro i h3 h4
    simp only [List.getElem_range]
    by_cases hi : i < k
    · simp [List.getElem_append, hi]
    · by_cases e : i = k
      · subst e; simp
      · rw [List.getElem_append_right (by simp; omega)]
        simp only [List.length_range]
        rw [List.getElem_cons]
        rw [dif_neg (by omega)]
        simp
        omega
theorem pre_is {a b : Str} {k : Int} (h0 : 0 ≤ k) (h7 : k ≤ 7) (h1 : ∀ j : Int, 0 ≤ j → j < k → upC a b j = true) (h2 : upC a b k = false) : k = (preN a b : Int) := by
  have e : (List.range 8).find? (fun (j : Nat) => !upC a b (j : Int)) = some k.toNat := by
    refine find_first (by omega) (fun j hj => ?_) ?_
    · rw [h1 j (by omega) (by omega)]; rfl
    · rw [show ((k.toNat : Nat) : Int) = k by omega, h2]; rfl
  unfold preN
  rw [e, Option.getD_some]
  omega
theorem post_is {a b : Str} {k : Int} (h0 : k ≤ 0) (h7 : -7 ≤ k) (h1 : ∀ j : Int, k < j → j ≤ 0 → dnC a b j = true) (h2 : dnC a b k = false) : k = -(postN a b : Int) := by
  have e : (List.range 8).find? (fun (j : Nat) => !dnC a b (-(j : Int))) = some (-k).toNat := by
    refine find_first (by omega) (fun j hj => ?_) ?_
    · rw [h1 (-(j : Int)) (by omega) (by omega)]; rfl
    · rw [show (-(((-k).toNat : Nat) : Int)) = k by omega, h2]; rfl
  unfold postN
  rw [e, Option.getD_some]
  omega
/-- one cell of the table of distances: distance, result, minimum, row -/
structure Cell where
  dist : Int
  res : Int
  low : Int
  row : List Int
def cellStep (a : Str) (c : Str) (st : Cell) (j : Nat) : Cell :=
  let d := st.row.getD j 0
  let r := min (min st.res d + 2) (st.dist + subC c (Txt.item a (j : Int)))
  ⟨d, r, if r < st.low then r else st.low, st.row.set j r⟩
def cells (a c : Str) (i : Nat) (row : List Int) (j : Nat) : Cell := (List.range j).foldl (cellStep a c) ⟨(i : Int) * 2, (i : Int) * 2, 9223372036854775807, row⟩
def rows (a b : Str) : Nat → List Int
  | 0 => (List.range a.length).map fun (j : Nat) => 2 + (j : Int) * 2
  | i + 1 => (cells a (Txt.item b (i : Int)) i (rows a b i) a.length).row
def lowAt (a b : Str) (i : Nat) : Int := (cells a (Txt.item b (i : Int)) i (rows a b i) a.length).low
def resAt (a b : Str) : Nat → Int
  | 0 => 0
  | i + 1 => (cells a (Txt.item b (i : Int)) i (rows a b i) a.length).res
theorem cells_succ (a c : Str) (i : Nat) (row : List Int) (j : Nat) : cells a c i row (j + 1) = cellStep a c (cells a c i row j) j := by
  unfold cells
  rw [List.range_succ, List.foldl_append]
  rfl
theorem cells_len (a c : Str) (i : Nat) (row : List Int) : ∀ j, (cells a c i row j).row.length = row.length
  | 0 => rfl
  | j + 1 => by rw [cells_succ]; unfold cellStep; simp [cells_len a c i row j]
theorem rows_len (a b : Str) : ∀ i, (rows a b i).length = a.length
  | 0 => by simp [rows]
  | i + 1 => by rw [rows, cells_len, rows_len]
/-- what the two names are like, when they go into the distance -/
def pairA (a b : Str) : Str := cutTo (Txt.slice a (some (preN a b : Int)) none) (-(postN (Txt.slice a (some (preN a b : Int)) none) (Txt.slice b (some (preN a b : Int)) none) : Int))
def pairB (a b : Str) : Str := cutTo (Txt.slice b (some (preN a b : Int)) none) (-(postN (Txt.slice a (some (preN a b : Int)) none) (Txt.slice b (some (preN a b : Int)) none) : Int))
def goodPair (a b : Str) : Bool := !(dnC (Txt.slice a (some (preN a b : Int)) none) (Txt.slice b (some (preN a b : Int)) none) (-6)) && a.length == 6 && b.length == 6 && !(a == b) && (pairA a b).length == (pairB a b).length && decide (1 ≤ (pairA a b).length) && decide ((pairA a b).length ≤ 6) && (List.range (pairA a b).length).all fun i => decide (lowAt (pairA a b) (pairB a b) i ≤ 6)
def levD (a b : Str) : Int := resAt (pairA a b) (pairB a b) (pairA a b).length
def nm12 : List Str := ["AbcDEf", "ABcDEf", "ABcdEf", "aBcdEf", "aBcdEF", "aBCdEF", "aBCdeF", "abCdeF", "abCDeF", "AbCDeF", "AbCDef", "AbcDef"]
def nm (p : Int) : Str := nm12.getD p.toNat "AbcDEf"
def wheel (p q : Int) : Int := min ((p - q) % 12) ((q - p) % 12)
end Mine
end

section
open PySem PySem.W PyProof.Rows PySem.Calls
namespace Mine
def rowOk (i : Nat) : Bool := (List.range 12).all fun j => i == j || (goodPair (nm (i : Int)) (nm (j : Int)) && decide (levD (nm (i : Int)) (nm (j : Int)) = wheel (i : Int) (j : Int)))
theorem row_0 : rowOk 0 = true := by decide +kernel
theorem row_1 : rowOk 1 = true := by decide +kernel
theorem row_2 : rowOk 2 = true := by decide +kernel
theorem row_3 : rowOk 3 = true := by decide +kernel
theorem row_4 : rowOk 4 = true := by decide +kernel
theorem row_5 : rowOk 5 = true := by decide +kernel
theorem row_6 : rowOk 6 = true := by decide +kernel
theorem row_7 : rowOk 7 = true := by decide +kernel
theorem row_8 : rowOk 8 = true := by decide +kernel
theorem row_9 : rowOk 9 = true := by decide +kernel
theorem row_10 : rowOk 10 = true := by decide +kernel
theorem row_11 : rowOk 11 = true := by decide +kernel
theorem rows_ok : ∀ i, i < 12 → rowOk i = true
  | 0, _ => row_0
  | 1, _ => row_1
  | 2, _ => row_2
  | 3, _ => row_3
  | 4, _ => row_4
  | 5, _ => row_5
  | 6, _ => row_6
  | 7, _ => row_7
  | 8, _ => row_8
  | 9, _ => row_9
  | 10, _ => row_10
  | 11, _ => row_11
  | i + 12, h => absurd h (by omega)
theorem pair_ok {p q : Int} (h1 : 0 ≤ p) (h2 : p < 12) (h3 : 0 ≤ q) (h4 : q < 12) (hne : p ≠ q) : goodPair (nm p) (nm q) = true ∧ levD (nm p) (nm q) = wheel p q := by
  have h := List.all_eq_true.mp (rows_ok p.toNat (by omega)) q.toNat (List.mem_range.mpr (by omega))
  rw [show ((p.toNat : Nat) : Int) = p by omega, show ((q.toNat : Nat) : Int) = q by omega] at h
  rcases Bool.or_eq_true_iff.mp h with h | h
  · exact absurd (beq_iff_eq.mp h) (by omega)
  · obtain ⟨a, b⟩ := Bool.and_eq_true_iff.mp h
    exact ⟨a, of_decide_eq_true b⟩
end Mine
end

section
open PySem PySem.W PyProof.Rows PySem.Calls
namespace Mine
def hueI (x : UInt64) : Int := Flt.toInt Float64.truncOf (Float64.mul x 4618441417868443648)
def hueF (x : UInt64) : UInt64 := Float64.sub (Float64.mul x 4618441417868443648) (Float64.ofInt (hueI x))
def hsvP (y z : UInt64) : UInt64 := Float64.mul z (Float64.sub 4607182418800017408 y)
def hsvQ (x y z : UInt64) : UInt64 := Float64.mul z (Float64.sub 4607182418800017408 (Float64.mul y (hueF x)))
def hsvT (x y z : UInt64) : UInt64 := Float64.mul z (Float64.sub 4607182418800017408 (Float64.mul y (Float64.sub 4607182418800017408 (hueF x))))
def hsvR (x y z : UInt64) : UInt64 × UInt64 × UInt64 :=
  let i := (hueI x).fmod 6
  if i = 0 then (z, hsvT x y z, hsvP y z) else if i = 1 then (hsvQ x y z, z, hsvP y z) else if i = 2 then (hsvP y z, z, hsvT x y z)
  else if i = 3 then (hsvP y z, hsvQ x y z, z) else if i = 4 then (hsvT x y z, hsvP y z, z) else (z, hsvP y z, hsvQ x y z)
abbrev hueOf (place t : Int) : UInt64 := Float64.ofFrac (decide (2 * place + 2 * t + 1 < 0) != decide ((24 : Int) < 0)) (2 * place + 2 * t + 1).natAbs (Int.natAbs 24)
abbrev letter (r : UInt64 × UInt64 × UInt64) (c : UInt64) (i : Int) : Str :=
  pick (Float64.cmp (Float64.mul (Float64.ofInt 2) c) (Float64.add (Flt.maxOfBits [r.1, r.2.1, r.2.2]) (Flt.minOfBits [r.1, r.2.1, r.2.2])) == some Ordering.gt) (Str.ofString "ABCDEF") (Str.ofString "abcdef") i
abbrev half (r : UInt64 × UInt64 × UInt64) (t : Int) : Str := cat3 (letter r r.1 (3 * t + 0)) (letter r r.2.1 (3 * t + 1)) (letter r r.2.2 (3 * t + 2))
def nameOf (place : Int) (y z : UInt64) : Str := (Str.ofString "" ++ half (hsvR (hueOf place 0) y z) 0) ++ half (hsvR (hueOf place 1) y z) 1
def shares : List UInt64 := [4598175219545276416, 4602678819172646912, 4604930618986332160, 4607182418800017408]
def Share (y : UInt64) : Prop := y ∈ shares
def nameRow (i : Nat) : Bool := shares.all fun y => shares.all fun z => nameOf (i : Int) y z == nm (i : Int)
theorem name_0 : nameRow 0 = true := by decide +kernel
theorem name_1 : nameRow 1 = true := by decide +kernel
theorem name_2 : nameRow 2 = true := by decide +kernel
theorem name_3 : nameRow 3 = true := by decide +kernel
theorem name_4 : nameRow 4 = true := by decide +kernel
theorem name_5 : nameRow 5 = true := by decide +kernel
theorem name_6 : nameRow 6 = true := by decide +kernel
theorem name_7 : nameRow 7 = true := by decide +kernel
theorem name_8 : nameRow 8 = true := by decide +kernel
theorem name_9 : nameRow 9 = true := by decide +kernel
theorem name_10 : nameRow 10 = true := by decide +kernel
theorem name_11 : nameRow 11 = true := by decide +kernel
theorem names_ok : ∀ i, i < 12 → nameRow i = true
  | 0, _ => name_0
  | 1, _ => name_1
  | 2, _ => name_2
  | 3, _ => name_3
  | 4, _ => name_4
  | 5, _ => name_5
  | 6, _ => name_6
  | 7, _ => name_7
  | 8, _ => name_8
  | 9, _ => name_9
  | 10, _ => name_10
  | 11, _ => name_11
  | i + 12, h => absurd h (by omega)
theorem hues_ok : ((List.range 13).all fun i => (fun x => !Float64.isNaN (Float64.mul x 4618441417868443648) && !Float64.isInf (Float64.mul x 4618441417868443648) && decide (0 ≤ hueI x) && decide (hueI x ≤ 6)) (hueOf (i : Int) 0)) = true := by decide +kernel
theorem shares_ok : (shares.all fun y => (Float64.cmp y 0 == some Ordering.eq) == false) = true := by decide +kernel
theorem name_is {place : Int} {y z : UInt64} (hp : 0 ≤ place) (hq : place < 12) (hy : Share y) (hz : Share z) : nameOf place y z = nm place := by
  have h := List.all_eq_true.mp (List.all_eq_true.mp (names_ok place.toNat (by omega)) y hy) z hz
  rw [show ((place.toNat : Nat) : Int) = place by omega] at h
  exact beq_iff_eq.mp h
theorem hue_ok {place t : Int} (hp : 0 ≤ place) (hq : place < 12) (ht : t = 0 ∨ t = 1) : Float64.isNaN (Float64.mul (hueOf place t) 4618441417868443648) = false ∧ Float64.isInf (Float64.mul (hueOf place t) 4618441417868443648) = false ∧ 0 ≤ hueI (hueOf place t) ∧ hueI (hueOf place t) ≤ 6 := by
  have h := List.all_eq_true.mp hues_ok (place + t).toNat (List.mem_range.mpr (by omega))
  rw [show (((place + t).toNat : Nat) : Int) = place + t by omega] at h
  have e : hueOf (place + t) 0 = hueOf place t := by
    unfold hueOf
    rw [show 2 * (place + t) + 2 * 0 + 1 = 2 * place + 2 * t + 1 by omega]
  rw [e] at h
  simp only [Bool.and_eq_true, Bool.not_eq_true', decide_eq_true_eq] at h
  exact ⟨h.1.1.1, h.1.1.2, h.1.2, h.2⟩
theorem share_ok {y : UInt64} (hy : Share y) : (Float64.cmp y 0 == some Ordering.eq) = false := by
  have h := List.all_eq_true.mp shares_ok y hy
  simpa using h
theorem quarter {n : Int} (h0 : 0 ≤ n) (h4 : n < 4) : Share (Float64.ofFrac (decide (1 + n < 0) != decide ((4 : Int) < 0)) (1 + n).natAbs (Int.natAbs 4)) := by
  have h : n = 0 ∨ n = 1 ∨ n = 2 ∨ n = 3 := by omega
  unfold Share
  rcases h with rfl | rfl | rfl | rfl <;> decide +kernel
end Mine
end

section
open PySem PySem.W PyProof.Rows PySem.Calls
namespace Mine
noncomputable def lawFn (P : Params) : Option FuncData := match (hd.heap_39 P).lookup 217 with
  | some o => (match o.data with | .func fd => some fd | _ => none)
  | none => none
def p0 : Params := { strHash := fun _ => 0, shareClass := fun _ => 0, mergeTok := id, idOf := fun _ => 0, idOfShared := fun _ _ => 0, followText := fun _ => true, idOfImm := fun _ => 0 }
noncomputable def lawScope : Scope := match lawFn p0 with | some fd => fd.scope | none => { kind := .module, names := [], isGenerator := false, isCoroutine := false }
noncomputable def lawStmts : List Stmt := match lawFn p0 with | some fd => (match fd.body with | .stmts b => b | _ => []) | none => []
noncomputable def bodyAt (i : Nat) : List Stmt := match lawStmts[i]? with | some (Stmt.For _ _ b _ _) => b | _ => []
noncomputable def loopBody : List Stmt := bodyAt 4
noncomputable def outBody : List Stmt := bodyAt 8
end Mine
end

section
open PySem PySem.W PyProof.Rows PySem.Calls
namespace Mine
theorem wp_peekA' {α : Type} {K : Frag} {M : Model} {A : Around} {E : Value → Shared → Prop} {Q : α → Shared → Prop} {s : Shared} {o : Obj} (X : K.In s.heap) :
    ∀ (t : Sem α) (g : Addr → Sem α), peekA K ⟨M.prog, M.w.params⟩ t = some (o, g) →
      wpAny M A (g s.heap.objs.size) Q E { s with heap := s.heap.push o } → wpAny M A t Q E s := by
  intro t
  induction t with
  | rule _ k ih => intro g e q Γ p hΓ; exact ih () g e q Γ p hΓ
  | point _ k ih => intro g e q Γ p hΓ; exact ih () g e q Γ p hΓ
  | ask k ih => intro g e q Γ p hΓ; exact ih _ g e q Γ p hΓ
  | load a _ k ih =>
    intro g e q Γ p hΓ
    simp only [peekA] at e
    split at e
    · rename_i ob ho; exact ⟨ob, X _ _ ho, ih ob g e q Γ p hΓ⟩
    · cases e
  | alloc ob k _ =>
    intro g e q
    have e : some (ob, k) = some (o, g) := e
    obtain ⟨e1, e2⟩ := Prod.mk.inj (Option.some.inj e)
    subst e1
    subst e2
    show wpAny M A (alloc ob >>= k) Q E s
    exact wpAny_bind (wpAny_alloc q)
  | _ => intro g e; cases e
theorem in_hide {K : Frag} {h : Heap} {as : List Addr} (X : K.In (hideAll h as)) : K.In h := fun a o e => of_hideAll _ (X a o e)
section
variable {prog : Program} {w : World} {A : Around} {s : Shared} {K : Frag} {p : Program} {loose : List Str} {mean : ExcName → Option Value} {mg mb : Str → Option Value} {R : Result → Shared → Prop} {name qual : Str} {params : Arguments} {body : List Stmt} {scope : Scope} {dV kV doc pm cdv ct oc : Value} {an od : Option Addr} {osl : Array (Option Value)} {f : Addr} {args : Args} {binds : List (Str × Value)} {news : List (Addr × Obj)}
/-- a call whose objects at hand stand on the ledger of its own frame -/
theorem mut_enter (S : ∀ p ∈ news, s.heap.get? p.1 = some p.2)
    (X : K.In (hideAll s.heap (news.map (·.1)))) (T : Top p loose mean mg mb (hideAll s.heap (news.map (·.1))))
    (ho : K.lookup f = some ⟨oc, od, .func (fnOf name qual params body scope dV kV doc pm an cdv ct), osl⟩) (hcd : codeIn K cdv qual = true) (hroom : A.depth < recursionLimit)
    (hbind : BindsTo s (fnOf name qual params body scope dV kV doc pm an cdv ct) args binds) (hloc : ∀ y ∈ binds, scope.names.lookup y.1 = some .local)
    (h : ∀ g L h₁, g = hideAll s.heap (news.map (·.1)) → Fr g L h₁ (fun y => binds.reverse.lookup y) → News g L h₁ news → K.In g → Top p loose mean mg mb g →
      wpAny (model prog w) (A.deeper (envOf qual scope L f cdv)) (execs body (envOf qual scope L f cdv))
        (fun fl s' => R (.ok (.ret (match fl with | .ret v => v | _ => .none))) s') (fun _ _ => False)
        { s with heap := h₁, toks := s.toks + binds.length })
    (hco : scope.isCoroutine = false) (hgen : scope.isGenerator = false) (hk : scope.kind = .function)
    (hcell : ∀ x ∈ scope.names, x.2 ≠ .cell) : codeAny (model prog w) A (.call (.ref f) args) R s :=
  codeAny_call_def (fd := fnOf name qual params body scope dV kV doc pm an cdv ct) (body := body) (binds := binds) hroom (in_hide X _ _ ho) rfl (T.nolimit.keeps fun _ _ e => of_hideAll _ e) (codeRec_of (in_hide X) hcd) rfl hbind hcell hloc
    (fun h₁ hns hk₁ => wpAny_mono (h _ s.heap.objs.size h₁ rfl ⟨hns, fun b o e => hk₁ b o (of_hideAll _ e), Nat.le_of_eq (hideAll_size _ _)⟩
      (fun p hp => ⟨hk₁ _ _ (S p hp), Nat.ne_of_lt (Heap.lt_size (S p hp)), hideAll_none _ (List.mem_map_of_mem hp)⟩) X T) (fun _ _ x => x) (fun _ _ x => x.elim)) hco hgen hk
/-- the same where the def has cells -/
theorem mut_enterC (S : ∀ p ∈ news, s.heap.get? p.1 = some p.2)
    (X : K.In (hideAll s.heap (news.map (·.1)))) (T : Top p loose mean mg mb (hideAll s.heap (news.map (·.1))))
    (ho : K.lookup f = some ⟨oc, od, .func (fnOf name qual params body scope dV kV doc pm an cdv ct), osl⟩) (hcd : codeIn K cdv qual = true) (hroom : A.depth < recursionLimit)
    (hbind : BindsTo s (fnOf name qual params body scope dV kV doc pm an cdv ct) args binds) (hkind : (binds.all fun y => scope.names.lookup y.1 == some .local || scope.names.lookup y.1 == some .cell) = true)
    (hnd : ((cellsFrom 0 scope.names []).map (·.1)).Nodup)
    (h : ∀ g L h₁ tk cells, g = hideAll s.heap (news.map (·.1)) → (∀ p ∈ news, p.1 < L) → Fr g L h₁ (bindL (envOfC qual scope L f cdv).kindOf binds fun _ => none) → News g L h₁ (cells ++ news) →
      CellsAre (bindC (envOfC qual scope L f cdv).kindOf binds fun _ => none) (cellsFrom (L + 1) scope.names []) cells → K.In g → Top p loose mean mg mb g →
      wpAny (model prog w) (A.deeper (envOfC qual scope L f cdv)) (execs body (envOfC qual scope L f cdv))
        (fun fl s' => R (.ok (.ret (match fl with | .ret v => v | _ => .none))) s') (fun _ _ => False)
        { s with heap := h₁, toks := tk })
    (hco : scope.isCoroutine = false) (hgen : scope.isGenerator = false) (hk : scope.kind = .function) : codeAny (model prog w) A (.call (.ref f) args) R s := by
  refine codeAny_call_function (fd := fnOf name qual params body scope dV kV doc pm an cdv ct) hroom (in_hide X _ _ ho) rfl hco hgen rfl (codeRec_of (in_hide X) hcd) (hbind _ _ _ _ ?_)
  refine wpAny_newFunctionEnv_cells hk (kindsX hkind _) fun env' he s' x => ?_
  subst he
  refine ⟨(T.nolimit.keeps fun _ _ e => of_hideAll _ e).keeps x.toInCall.keep, codeAny_func ?_⟩
  obtain ⟨h₁, tk, rfl, _⟩ := x.done
  have hk₁ := x.toInCall.keep
  obtain ⟨cells, NC, Y⟩ := Cl.news (h₀ := hideAll s.heap (news.map (·.1))) (L := s.heap.objs.size) (Nat.le_of_eq (hideAll_size _ _)) fun n c hm => ⟨x.cell n c (lookup_of_mem_nodup (cellsFrom_names scope.names 0 (s.heap.objs.size + 1) [] [] rfl ▸ hnd) hm), x.above n c hm⟩
  exact wpAny_mono (h _ s.heap.objs.size h₁ tk cells rfl (fun p hp => Heap.lt_size (S p hp)) ⟨x.toInCall.ns, fun b o e => hk₁ b o (of_hideAll _ e), Nat.le_of_eq (hideAll_size _ _)⟩
    (fun p hp => by
      rcases List.mem_append.mp hp with hp | hp
      · exact NC p hp
      · exact ⟨hk₁ _ _ (S p hp), Nat.ne_of_lt (Heap.lt_size (S p hp)), hideAll_none _ (List.mem_map_of_mem hp)⟩) Y X T) (fun fl s' hl => hl) fun _ _ y => y.elim
/-- the same with an empty dict of more arguments -/
theorem mut_enterM {bindsD : Addr → List (Str × Value)} {g₁ : Addr → Sem (List (Str × Value))} (S : ∀ p ∈ news, s.heap.get? p.1 = some p.2)
    (X : K.In (hideAll s.heap (news.map (·.1)))) (T : Top p loose mean mg mb (hideAll s.heap (news.map (·.1))))
    (ho : K.lookup f = some ⟨oc, od, .func (fnOf name qual params body scope dV kV doc pm an cdv ct), osl⟩) (hcd : codeIn K cdv qual = true) (hroom : A.depth < recursionLimit)
    (hp : peekA K ⟨prog, w.params⟩ (bindArgs (fnOf name qual params body scope dV kV doc pm an cdv ct) args) = some (dictOf [] 0, g₁))
    (hg : ∀ D, g₁ D = pure (bindsD D)) (hloc : ∀ D, ∀ y ∈ bindsD D, scope.names.lookup y.1 = some .local)
    (h : ∀ g D o L h₁ tk, g = hideAll s.heap (news.map (·.1)) → (∀ p ∈ news, p.1 < D) → (∀ b o, s.heap.get? b = some o → b < D) → (D == sysModules) = false → o.IsDictOf (strKind prog w) [] → PyProof.V.FlatPairs PyData.str ([] : List (Str × Value)) [] → Fr g L h₁ (fun y => (bindsD D).reverse.lookup y) → News g L h₁ ((D, o) :: news) → K.In g → Top p loose mean mg mb g →
      wpAny (model prog w) (A.deeper (envOf qual scope L f cdv)) (execs body (envOf qual scope L f cdv))
        (fun fl s' => R (.ok (.ret (match fl with | .ret v => v | _ => .none))) s') (fun _ _ => False)
        { s with heap := h₁, toks := tk })
    (hco : scope.isCoroutine = false) (hgen : scope.isGenerator = false) (hk : scope.kind = .function)
    (hcell : ∀ x ∈ scope.names, x.2 ≠ .cell) : codeAny (model prog w) A (.call (.ref f) args) R s := by
  refine codeAny_call_function (fd := fnOf name qual params body scope dV kV doc pm an cdv ct) (body := body) hroom (in_hide X _ _ ho) rfl hco hgen rfl (codeRec_of (in_hide X) hcd) ?_
  refine wp_peekA' (o := dictOf [] 0) (in_hide X) _ g₁ hp ?_
  rw [hg]
  refine wpAny_pure ?_
  have hgD : (hideAll s.heap (news.map (·.1))).get? s.heap.objs.size = none := Heap.get?_none_of_le (Nat.le_of_eq (hideAll_size _ _))
  have up : ∀ b o, s.heap.get? b = some o → (s.heap.push (dictOf [] 0)).get? b = some o := fun b o e => Heap.get?_push_of_some _ e
  have hD : (s.heap.push (dictOf [] 0)).get? s.heap.objs.size = some (dictOf [] 0) := Heap.get?_push_size _ rfl
  have hmod : (s.heap.objs.size == sysModules) = false := by
    have z := modules_low T.nolimit
    rw [hideAll_size] at z
    simp only [beq_eq_false_iff_ne, ne_eq]
    exact fun e => Nat.lt_irrefl _ (e ▸ z)
  have hlim : (s.heap.push (dictOf [] 0)).NoLimit := T.nolimit.keeps fun _ _ e => up _ _ (of_hideAll _ e)
  refine wpAny_newFunctionEnv hcell (hloc _) (fun h₁ hns hsb => ⟨hlim.fresh _ hsb, codeAny_func ?_⟩) hk
  have hk₁ : ∀ b o, (s.heap.push (dictOf [] 0)).get? b = some o → h₁.get? b = some o := fun b o e => hsb.extBut b o (Nat.ne_of_lt (Heap.lt_size e)) (Heap.get?_push_of_some _ e)
  refine wpAny_mono (h _ s.heap.objs.size (dictOf [] 0) _ h₁ _ rfl (fun p hp => Heap.lt_size (S p hp)) (fun b o e => Heap.lt_size e) hmod (kp_isDict (w := w) (ex := []) s.toks 0 List.nodup_nil) .nil ⟨hns, fun b o e => hk₁ b o (up _ _ (of_hideAll _ e)), ?_⟩ (fun p hp => ?_) X T) (fun _ _ x => x) (fun _ _ x => x.elim)
  · rw [hideAll_size, Heap.size_push]
    exact Nat.le_succ _
  · rcases List.mem_cons.mp hp with rfl | hp
    · exact ⟨hk₁ _ _ hD, Nat.ne_of_lt (Heap.lt_size hD), hgD⟩
    · exact ⟨hk₁ _ _ (up _ _ (S p hp)), Nat.ne_of_lt (Heap.lt_size (up _ _ (S p hp))), hideAll_none _ (List.mem_map_of_mem hp)⟩
end
theorem mut_keep {g h h' : Heap} {L : Addr} {m : Str → Option Value} {as : List Addr} (F : Fr g L h' m) (e : g = hideAll h as) {b : Addr} {o : Obj} (hb : b ∉ as) (q : h.get? b = some o) : h'.get? b = some o :=
  F.keep b o (by rw [e]; exact hideAll_get _ q hb)
/-- the caller's frame and ledger behind a call that changed one object of the ledger -/
theorem after_upd {h₀ h h' : Heap} {L H : Addr} {m : Str → Option Value} {o o' : Obj} {news news' : List (Addr × Obj)} (F : Fr h₀ L h m) (N : News h₀ L h news) (K : ∀ b o, b ≠ H → h.get? b = some o → h'.get? b = some o) (hH : h'.get? H = some o') (U : Upd H o o' news news') :
    Fr h₀ L h' m ∧ News h₀ L h' news' := by
  obtain ⟨pre, post, rfl, rfl, ha, hb⟩ := U.split
  have D := N (H, o) (List.mem_append.mpr (.inr (.head _)))
  obtain ⟨oL, es, ep, hL, r⟩ := F.ns
  refine ⟨⟨⟨oL, es, ep, K _ _ (Ne.symm D.2.1) hL, r⟩, fun b x q => K _ _ (fun z => ?_) (F.keep b x q), F.above⟩, fun p hp => ?_⟩
  · have := D.2.2; rw [← z, q] at this; cases this
  · rcases List.mem_append.mp hp with q | q
    · have P := N p (List.mem_append_left _ q); exact ⟨K _ _ (ha p q) P.1, P.2⟩
    · rcases List.mem_cons.mp q with rfl | q
      · exact ⟨hH, D.2⟩
      · have P := N p (List.mem_append_right _ (.tail _ q)); exact ⟨K _ _ (hb p q) P.1, P.2⟩
theorem fresh_in {h₀ h : Heap} {L a : Addr} {m : Str → Option Value} (F : Fr h₀ L h m) (hn : h.get? a = none) : a ≠ L ∧ h₀.get? a = none := by
  obtain ⟨oL, _, _, hL, _⟩ := F.ns
  refine ⟨(fun e => by rw [e, hL] at hn; cases hn), ?_⟩
  cases q : h₀.get? a with
  | none => rfl
  | some o => have := F.keep a o q; rw [hn] at this; cases this
end Mine
end

section
open PySem PySem.W PyProof.Rows PySem.Calls
namespace Mine
theorem hits_ok : ((List.range 12).all fun i => hitNone nameCode (nm (i : Int)).cps && hitNone valueCode (Str.ofString (toString (i : Int))).cps && decide ((Str.ofString (toString (i : Int))).length ≤ 40)) = true := by decide +kernel
theorem hit_all {y : Int} (h0 : 0 ≤ y) (h1 : y < 12) : hitNone nameCode (nm y).cps = true ∧ hitNone valueCode (Str.ofString (toString y)).cps = true ∧ (Str.ofString (toString y)).length ≤ 40 := by
  have h := List.all_eq_true.mp hits_ok y.toNat (List.mem_range.mpr (by omega))
  rw [show ((y.toNat : Nat) : Int) = y by omega] at h
  simp only [Bool.and_eq_true, decide_eq_true_eq] at h
  exact ⟨h.1.1, h.1.2, h.2⟩
theorem three_of {h₀ h : Heap} {L : Addr} {news : List (Addr × Obj)} {H O D : Addr} {oH oO oD : Obj} (N : News h₀ L h news) (m1 : (H, oH) ∈ news) (m2 : (O, oO) ∈ news) (m3 : (D, oD) ∈ news) : ∀ p ∈ [(H, oH), (O, oO), (D, oD)], h.get? p.1 = some p.2 := by
  intro p hp
  simp only [List.mem_cons, List.not_mem_nil, or_false] at hp
  rcases hp with rfl | rfl | rfl
  · exact (N _ m1).1
  · exact (N _ m2).1
  · exact (N _ m3).1
theorem stays_hidden {h₀ h : Heap} {L : Addr} {m : Str → Option Value} {news : List (Addr × Obj)} {H O D : Addr} {oH oO oD : Obj} (F : Fr h₀ L h m) (N : News h₀ L h news) (m1 : (H, oH) ∈ news) (m2 : (O, oO) ∈ news) (m3 : (D, oD) ∈ news) : ∀ b o, h₀.get? b = some o → (hideAll h [H, O, D]).get? b = some o := by
  intro b o e
  refine hideAll_get _ (F.keep b o e) fun hm => ?_
  simp only [List.mem_cons, List.not_mem_nil, or_false] at hm
  rcases hm with rfl | rfl | rfl
  · have := (N _ m1).2.2; rw [e] at this; cases this
  · have := (N _ m2).2.2; rw [e] at this; cases this
  · have := (N _ m3).2.2; rw [e] at this; cases this
/-- all of the ledger lies below a -/
def AllBelow (news : List Addr) (a : Addr) : Prop := ∀ b ∈ news, @LT.lt Nat _ b a
theorem after_add {h₀ h h' : Heap} {L H a : Addr} {m : Str → Option Value} {o o' oa : Obj} {news news' : List (Addr × Obj)} (F : Fr h₀ L h m) (N : News h₀ L h news) (K : ∀ b o, b ≠ H → h.get? b = some o → h'.get? b = some o)
    (hlt : ∀ b o, h.get? b = some o → b < a) (hg : h'.get? a = some oa) (hH : h'.get? H = some o') (U : Upd H o o' news news') : Fr h₀ L h' m ∧ News h₀ L h' ((a, oa) :: news') ∧ AllBelow (news.map (·.1)) a := by
  have hn : h.get? a = none := by
    cases q : h.get? a with
    | none => rfl
    | some o => exact absurd (hlt _ _ q) (Nat.lt_irrefl _)
  obtain ⟨F', N'⟩ := after_upd F N K hH U
  obtain ⟨n1, n2⟩ := fresh_in F hn
  refine ⟨F', fun p hp => ?_, fun b hb => ?_⟩
  · rcases List.mem_cons.mp hp with rfl | hp
    · exact ⟨hg, n1, n2⟩
    · exact N' p hp
  · obtain ⟨q, hq, rfl⟩ := List.mem_map.mp hb
    exact hlt _ _ (N q hq).1
end Mine
end

section
open PySem PySem.W PyProof.Rows PySem.Calls PyProof.V
namespace Mine
section
variable {prog : Program} {w : World} {A : Around} {E : Value → Shared → Prop} {s : Shared} {h₀ : Heap} {L a b : Addr} {news : List (Addr × Obj)} {Q : Value → Shared → Prop} {v0 v1 v2 v3 v4 : Str} {s0 s1 s2 s3 s4 t0 t1 t2 t3 t4 : Tok} {n m : Nat}
theorem ne_five (N : News h₀ L s.heap news) (ha : (a, listOf [Value.str v0 s0, Value.str v1 s1, Value.str v2 s2, Value.str v3 s3, Value.str v4 s4].toArray n) ∈ news) (hb : (b, listOf [Value.str v0 t0, Value.str v1 t1, Value.str v2 t2, Value.str v3 t3, Value.str v4 t4].toArray m) ∈ news)
    (e0 : PyData.strOk v0 = true) (e1 : PyData.strOk v1 = true) (e2 : PyData.strOk v2 = true) (e3 : PyData.strOk v3 = true) (e4 : PyData.strOk v4 = true) (hu : A.units + 64 < cLine) (h : Q (.bool false) s) : wpAny (model prog w) A (compareOp .NotEq (.ref a) (.ref b)) Q E s := by
  have r1 := reads_list_at (News.get N ha) rfl rfl (ReadsAll.cons (Reads.str v0 s0) (ReadsAll.cons (Reads.str v1 s1) (ReadsAll.cons (Reads.str v2 s2) (ReadsAll.cons (Reads.str v3 s3) (ReadsAll.cons (Reads.str v4 s4) ReadsAll.nil)))))
  have r2 := reads_list_at (News.get N hb) rfl rfl (ReadsAll.cons (Reads.str v0 t0) (ReadsAll.cons (Reads.str v1 t1) (ReadsAll.cons (Reads.str v2 t2) (ReadsAll.cons (Reads.str v3 t3) (ReadsAll.cons (Reads.str v4 t4) ReadsAll.nil)))))
  refine ne_dataH r1 r2 ?_ ?_ hu ?_
  · simp [SeqAt.shaped, PyData.canLay0, PyData.canLayAll0, PyData.depth, PyData.depthAll, e0, e1, e2, e3, e4]
  · simp [SeqAt.shaped, PyData.canLay0, PyData.canLayAll0, PyData.depth, PyData.depthAll, e0, e1, e2, e3, e4]
  · simp only [PyData.eqv, PyData.eqvAll, beq_self_eq_true, Bool.and_true, Bool.not_true]
    exact h
end
theorem oks_ok : ((List.range 12).all fun i => PyData.strOk (Str.ofString (toString (i : Int)))) = true := by decide +kernel
theorem ok_all {y : Int} (h0 : 0 ≤ y) (h1 : y < 12) : PyData.strOk (Str.ofString (toString y)) = true := by
  have h := List.all_eq_true.mp oks_ok y.toNat (List.mem_range.mpr (by omega))
  rw [show ((y.toNat : Nat) : Int) = y by omega] at h
  exact h
end Mine
end

section
open PySem PySem.W PyProof.Rows PySem.Calls
namespace Mine
theorem execs_split_wp {M : Model} {Γ : Ctx} {A : Around} (hΓ : Γ.In A) {E : Value → Shared → Prop} {env : Env} {b : List Stmt} {Q : Flow → Shared → Prop} : ∀ {a : List Stmt} {p : Pos} {s : Shared}, Sem.wp M Γ (execs a env) (fun f p' s' => match f with | .next => wpAny M A (execs b env) Q E s' | f => Q f s') (fun e _ s' => E e s') p s → Sem.wp M Γ (execs (a ++ b) env) (fun f _ s' => Q f s') (fun e _ s' => E e s') p s
  | [], p, s, h => by
    have e : execs [] env = pure Flow.next := by rw [execs]
    rw [e] at h
    exact h Γ p hΓ
  | x :: r, p, s, h => by
    rw [List.cons_append, execs_cons, Sem.wp_bind']
    rw [execs_cons, Sem.wp_bind'] at h
    refine Sem.wp_mono M Γ _ (fun f p' s' h' => ?_) (fun _ _ _ h' => h') _ _ h
    cases f with
    | next => exact execs_split_wp hΓ h'
    | brk => exact h'
    | cont => exact h'
    | ret v => exact h'
theorem execs_split {M : Model} {A : Around} {E : Value → Shared → Prop} {env : Env} {a b : List Stmt} {s : Shared} {Q : Flow → Shared → Prop} (h : wpAny M A (execs a env) (fun f s' => match f with | .next => wpAny M A (execs b env) Q E s' | f => Q f s') E s) : wpAny M A (execs (a ++ b) env) Q E s :=
  fun Γ p hΓ => execs_split_wp hΓ (h Γ p hΓ)
end Mine
end

section
open PySem PySem.W PyProof.Rows PySem.Calls
namespace Mine
/-- where a walk is to stop -/
def Leaf (P : Prop) : Prop := P
theorem Leaf.mk {P : Prop} (h : P) : Leaf P := h
section
variable {prog : Program} {w : World} {A : Around} {E : Value → Shared → Prop} {R : Result → Shared → Prop}

def compBody (elt : Expr) (gens : List Comprehension) (scope : Scope) (pos : Pos) (d : Nat) (it acc : Value) (env : Env) : Sem Fin :=
  match gens[d + 1]? with
  | some g' => do
    let x ← eval g'.iter env
    standAt g'.iter.pos
    let x ← if g'.is_async != 0 then foldedIterable g'.iter x else foldedSetIterable g'.iter env x
    let _ ← runOwn (.compStart (.ListComp elt gens scope pos) (d + 1) (← holding [x] (if g'.is_async != 0 then asyncIter x else pyIter x)) acc env) env
    again (.compLoop (.ListComp elt gens scope pos) d it acc env)
  | none => do
    (do let _ ← call (.builtin "list.append") [acc, ← eval elt env])
    again (.compLoop (.ListComp elt gens scope pos) d it acc env)

theorem compTurn_gen {elt : Expr} {gens : List Comprehension} {scope : Scope} {pos : Pos} {d : Nat} {x : Str} {px : Pos} {iter : Expr} {ifs : List Expr} (hg : gens[d]? = some ⟨.Name x px, iter, ifs, 0⟩) (hn : gens[d + 1]? = none ∨ ∃ t i f, gens[d + 1]? = some ⟨t, i, f, 0⟩) (it acc : Value) (env : Env) :
    compTurn (.ListComp elt gens scope pos) d it acc env = (do
      standAt iter.pos
      match ← pyNext it with
      | none => pure (.done .next)
      | some v =>
        assign (.Name x px) env v
        let ok ← forIn ifs true fun c r => if r = true then do let ok ← isTrue c env (eval c env); pure (ForInStep.yield ok) else pure (ForInStep.yield r)
        if ok = true then compBody elt gens scope pos d it acc env
        else again (.compLoop (.ListComp elt gens scope pos) d it acc env)) := by
  unfold compTurn
  simp only [hg]
  rcases hn with hn | ⟨t', i', f', hn⟩
  · simp only [compBody, hn]; rfl
  · simp only [compBody, hn]; rfl

theorem codeAny_compLoop_gen {elt : Expr} {gens : List Comprehension} {scope : Scope} {pos : Pos} {d : Nat} {x : Str} {px : Pos} {iter : Expr} {ifs : List Expr} (hg : gens[d]? = some ⟨.Name x px, iter, ifs, 0⟩) (hn : gens[d + 1]? = none ∨ ∃ t i f, gens[d + 1]? = some ⟨t, i, f, 0⟩) {it acc : Value} {env : Env} (I : Nat → Shared → Prop)
    (turn : ∀ n s, I n s → wpAny (model prog w) A (pyNext it) (fun r s₁ => match r with
      | none => R (.ok .next) s₁
      | some v => wpAny (model prog w) A (assign (.Name x px) env v) (fun _ s₂ =>
          wpAny (model prog w) A (forIn ifs true fun c r => if r = true then do let ok ← isTrue c env (eval c env); pure (ForInStep.yield ok) else pure (ForInStep.yield r)) (fun ok s₃ =>
            if ok = true then wpAny (model prog w) A (compBody elt gens scope pos d it acc env) (fun f s₅ => f = .again (.compLoop (.ListComp elt gens scope pos) d it acc env) ∧ ∃ m, m < n ∧ I m s₅) (notedBy (model prog w) A env fun e s' => R (.error e) s') s₃
            else ∃ m, m < n ∧ I m s₃) (notedBy (model prog w) A env fun e s' => R (.error e) s') s₂) (notedBy (model prog w) A env fun e s' => R (.error e) s') s₁) (notedBy (model prog w) A env fun e s' => R (.error e) s') s)
    (n : Nat) (s : Shared) (h : I n s) :
    codeAny (model prog w) A (.compLoop (.ListComp elt gens scope pos) d it acc env) R s := by
  refine codeAny_loop rfl I (fun n s hI => ?_) n h
  show wpAny _ A ((compTurn (.ListComp elt gens scope pos) d it acc env).onRaise (fun x => do noteFrame x env; theTreesLotGoes x)) _ _ s
  refine wpAny_noted ?_
  rw [compTurn_gen hg hn]
  refine wpAny_bind (wpAny_standAt (wpAny_bind (wpAny_mono (turn n s hI) (fun r s₁ h₁ => ?_) fun _ _ h' => h')))
  cases r with
  | none => exact wpAny_pure h₁
  | some v =>
    refine wpAny_bind (wpAny_mono h₁ (fun _ s₂ h₂ => wpAny_bind (wpAny_mono h₂ (fun ok s₃ h₃ => ?_) fun _ _ h' => h')) fun _ _ h' => h')
    cases ok with
    | false => exact wpAny_pure ⟨rfl, h₃⟩
    | true => exact wpAny_mono h₃ (fun f s₄ h₄ => by obtain ⟨rfl, h₄⟩ := h₄; exact ⟨rfl, h₄⟩) fun _ _ h' => h'

theorem codeAny_compStart_gen {elt : Expr} {gens : List Comprehension} {scope : Scope} {pos : Pos} {d : Nat} {x : Str} {px : Pos} {iter : Expr} {ifs : List Expr} (hg : gens[d]? = some ⟨.Name x px, iter, ifs, 0⟩) {it acc : Value} {env : Env} {s : Shared}
    (h0 : codeAny (model prog w) A (.compLoop (.ListComp elt gens scope pos) d it acc env) R s)
    (h : wpAny (model prog w) A (pyIter it) (fun it' s' => codeAny (model prog w) A (.compLoop (.ListComp elt gens scope pos) d it' acc env) R s')
      (notedBy (model prog w) A env fun x s' => R (.error x) s') s) :
    codeAny (model prog w) A (.compStart (.ListComp elt gens scope pos) d it acc env) R s := by
  refine codeAny_of_tree ?_
  show wpAny _ _ ((compStart (.ListComp elt gens scope pos) d it acc env).onRaise (fun x => do noteFrame x env; standAt theWindowsPlace)) _ _ s
  refine wpAny_notedAt ?_
  unfold compStart
  have hc : (clausesOf (.ListComp elt gens scope pos))[d]? = some ⟨.Name x px, iter, ifs, 0⟩ := hg
  simp only [hc, Option.elim]
  show wpAny _ _ (ask >>= _) _ _ s
  refine wpAny_bind (wpAny_askSetting (wpAny_ite ?_))
  split
  · first
      | exact wpAny_bind (wpAny_pure (wpAny_pure (And.intro rfl h0)))
      | exact wpAny_pure (And.intro rfl h0)
  · first
      | exact wpAny_bind (wpAny_rule (wpAny_bind (wpAny_standAt (wpAny_bind (wpAny_mono h (fun it' s' h' => wpAny_pure (And.intro rfl h')) fun _ _ x => x)))))
      | (refine wpAny_bind (wpAny_rule ?_); show wpAny _ _ (standAt iter.pos >>= _) _ _ s; exact wpAny_bind (wpAny_standAt (wpAny_bind (wpAny_mono h (fun it' s' h' => wpAny_pure (And.intro rfl h')) fun _ _ x => x))))

theorem body_last {elt : Expr} {gens : List Comprehension} {scope : Scope} {pos : Pos} {d : Nat} (hg : gens[d + 1]? = none) {it acc : Value} {env : Env} {s : Shared} {Q : Shared → Prop}
    (h : wpAny (model prog w) A (eval elt env) (fun v s₁ => wpAny (model prog w) A (call (.builtin "list.append") [acc, v]) (fun _ s₂ => Q s₂) E s₁) E s) :
    wpAny (model prog w) A (compBody elt gens scope pos d it acc env) (fun f s' => f = .again (.compLoop (.ListComp elt gens scope pos) d it acc env) ∧ Q s') E s := by
  simp only [compBody, hg]
  exact wpAny_bind (wpAny_bind (wpAny_mono h (fun v s₁ h₁ => wpAny_bind (wpAny_mono h₁ (fun _ s₂ h₂ => wpAny_pure (wpAny_pure ⟨rfl, h₂⟩)) fun _ _ e => e)) fun _ _ e => e))

theorem body_next {elt : Expr} {gens : List Comprehension} {scope : Scope} {pos : Pos} {d : Nat} {x : Str} {px : Pos} {iter : Expr} {ifs : List Expr} (hg : gens[d + 1]? = some ⟨.Name x px, iter, ifs, 0⟩) {it acc : Value} {env : Env} {s : Shared} {Q : Shared → Prop}
    (hs : ∀ x, foldedSetIterable iter env x = pure x)
    (h : wpAny (model prog w) A (eval iter env) (fun xv s₁ => wpAny (model prog w) A (pyIter xv) (fun it' s₂ =>
      codeAny (model prog w) A (.compStart (.ListComp elt gens scope pos) (d + 1) it' acc env) (fun r s' => match r with | .ok _ => Q s' | .error e => cameBackBy (model prog w) A env E e s') s₂) E s₁) E s) :
    wpAny (model prog w) A (compBody elt gens scope pos d it acc env) (fun f s' => f = .again (.compLoop (.ListComp elt gens scope pos) d it acc env) ∧ Q s') E s := by
  simp only [compBody, hg]
  refine wpAny_bind (wpAny_mono h (fun xv s₁ h₁ => wpAny_bind (wpAny_standAt (wpAny_bind (wpAny_of_eq (hs xv) (wpAny_bind (wpAny_holding (wpAny_mono h₁ (fun it s₂ h₂ => ?_) fun _ _ e => e))))))) fun _ _ e => e)
  refine wpAny_bind (wpAny_runOwn (codeAny_mono h₂ fun r s' hr => ?_))
  cases r with
  | ok f => exact wpAny_pure ⟨rfl, hr⟩
  | error e => exact hr
end
end Mine
end

section
open PySem PySem.W PyProof.Rows PySem.Calls
namespace Mine
structure Stt (L : Addr) (m : Str → Option Value) (hb : Heap) (CF : (Str → Option Value) → Heap → Prop) (fs : List Addr) (D : Addr) (mC : Str → Option Value) (ys : List Value) (Pr : List (Addr × Obj)) (h : Heap) : Prop where
  ns : h.Ns L m
  kb : ∀ b o, b ≠ L → hb.get? b = some o → h.get? b = some o
  cf : CF mC h
  fa : ∀ f ∈ fs, (∃ o, h.get? f = some o) ∧ f ≠ L ∧ hb.get? f = none ∧ f ≠ D
  d : h.get? D = some (LCg.lst ys)
  dd : D ≠ L ∧ hb.get? D = none
  pr : ∀ p ∈ Pr, h.get? p.1 = some p.2 ∧ p.1 ≠ L ∧ hb.get? p.1 = none ∧ p.1 ≠ D ∧ p.1 ∉ fs
  nd : (Pr.map (·.1)).Nodup
structure CFok (prog : Program) (w : World) (A : Around) (cenv : Env) (x : Str) (px : Pos) (CF : (Str → Option Value) → Heap → Prop) (fs : List Addr) : Prop where
  frame : ∀ mC h h', CF mC h → (∀ f ∈ fs, ∀ o, h.get? f = some o → h'.get? f = some o) → CF mC h'
  store : ∀ mC v (s : Shared) (Q : Unit → Shared → Prop) (E : Value → Shared → Prop), CF mC s.heap → (∀ f ∈ fs, ∃ o, s.heap.get? f = some o) →
    (∀ h' tk, CF (fun y => if y = x then some v else mC y) h' → (∀ b o, b ∉ fs → s.heap.get? b = some o → h'.get? b = some o) → (∀ f ∈ fs, ∃ o, h'.get? f = some o) → Q () { s with heap := h', toks := tk }) →
    wpAny (model prog w) A (assign (.Name x px) cenv v) Q E s
section
variable {L : Addr} {m : Str → Option Value} {hb : Heap} {CF : (Str → Option Value) → Heap → Prop} {fs : List Addr} {D : Addr} {mC : Str → Option Value} {ys : List Value} {Pr : List (Addr × Obj)} {h h' : Heap} {I : Addr} {oI oI' : Obj}
  {prog : Program} {w : World} {A : Around} {cenv : Env} {x : Str} {px : Pos}
theorem Stt.off (K : CFok prog w A cenv x px CF fs) (S : Stt L m hb CF fs D mC ys ((I, oI) :: Pr) h) (k : ∀ b o, b ≠ I → h.get? b = some o → h'.get? b = some o) : Stt L m hb CF fs D mC ys Pr h' := by
  obtain ⟨ns, kb, cf, fa, d, dd, pr, nd⟩ := S
  obtain ⟨e1, e2, e3, e4, e5⟩ := pr _ List.mem_cons_self
  have hfI : ∀ f ∈ fs, f ≠ I := fun f hf q => e5 (by show I ∈ fs; rw [← q]; exact hf)
  obtain ⟨hn1, hn2⟩ := List.nodup_cons.mp nd
  refine ⟨ns.at' fun o e => k _ o (Ne.symm e2) e, fun b o hb1 e => k b o (fun q => ?_) (kb b o hb1 e), K.frame _ _ _ cf fun f hf o e => k f o (hfI f hf) e, fun f hf => ?_, k _ _ (Ne.symm e4) d, dd, fun p hp => ?_, hn2⟩
  · rw [q] at e
    have e3' : hb.get? I = none := e3
    rw [e3'] at e; cases e
  · obtain ⟨⟨o, e⟩, r⟩ := fa f hf
    exact ⟨⟨o, k f o (hfI f hf) e⟩, r⟩
  · obtain ⟨a1, r⟩ := pr p (List.mem_cons_of_mem _ hp)
    exact ⟨k _ _ (fun q => hn1 (by have := List.mem_map_of_mem (f := (·.1)) hp; rw [show p.1 = I from q] at this; exact this)) a1, r⟩
theorem Stt.put (K : CFok prog w A cenv x px CF fs) (S : Stt L m hb CF fs D mC ys ((I, oI) :: Pr) h) (k : ∀ b o, b ≠ I → h.get? b = some o → h'.get? b = some o) (e : h'.get? I = some oI') : Stt L m hb CF fs D mC ys ((I, oI') :: Pr) h' := by
  obtain ⟨ns, kb, cf, fa, d, dd, pr, nd⟩ := Stt.off K S k
  obtain ⟨e1, e2, e3, e4, e5⟩ := S.pr _ List.mem_cons_self
  refine ⟨ns, kb, cf, fa, d, dd, fun p hp => ?_, S.nd⟩
  rcases List.mem_cons.mp hp with rfl | hp
  · exact ⟨e, e2, e3, e4, e5⟩
  · exact pr p hp
theorem Stt.grow (K : CFok prog w A cenv x px CF fs) (S : Stt L m hb CF fs D mC ys Pr h) (k : ∀ b o, b ≠ L → h.get? b = some o → h'.get? b = some o) (n : h'.Ns L m) : Stt L m hb CF fs D mC ys Pr h' := by
  obtain ⟨ns, kb, cf, fa, d, dd, pr, nd⟩ := S
  refine ⟨n, fun b o hb1 e => k b o hb1 (kb b o hb1 e), K.frame _ _ _ cf fun f hf o e => k f o (fa f hf).2.1 e, fun f hf => ?_, k _ _ dd.1 d, dd, fun p hp => ?_, nd⟩
  · obtain ⟨⟨o, e⟩, r⟩ := fa f hf
    exact ⟨⟨o, k f o r.1 e⟩, r⟩
  · obtain ⟨a1, r⟩ := pr p hp
    exact ⟨k _ _ r.1 a1, r⟩
theorem Stt.fresh (S : Stt L m hb CF fs D mC ys Pr h) {a : Addr} {o : Obj} (e : h.get? a = none) (hL : a ≠ L) : hb.get? a = none ∧ a ≠ D ∧ a ∉ fs ∧ a ∉ Pr.map (·.1) := by
  refine ⟨?_, fun q => ?_, fun q => ?_, fun q => ?_⟩
  · cases q : hb.get? a with
    | none => rfl
    | some o => have := S.kb a o hL q; rw [e] at this; cases this
  · have := S.d; rw [← q, e] at this; cases this
  · obtain ⟨⟨o, e'⟩, _⟩ := S.fa a q; rw [e] at e'; cases e'
  · obtain ⟨p, hp, q⟩ := List.mem_map.mp q
    have := (S.pr p hp).1; rw [q, e] at this; cases this
theorem Stt.snoc (K : CFok prog w A cenv x px CF fs) (S : Stt L m hb CF fs D mC ys Pr h) (k : ∀ b o, b ≠ L → h.get? b = some o → h'.get? b = some o) (n : h'.Ns L m) {a : Addr} {o : Obj} (hn : h.get? a = none) (hL : a ≠ L) (e : h'.get? a = some o) :
    Stt L m hb CF fs D mC ys (Pr ++ [(a, o)]) h' := by
  obtain ⟨f1, f2, f3, f4⟩ := S.fresh (o := o) hn hL
  obtain ⟨ns, kb, cf, fa, d, dd, pr, nd⟩ := Stt.grow K S k n
  refine ⟨ns, kb, cf, fa, d, dd, fun p hp => ?_, ?_⟩
  · rcases List.mem_append.mp hp with hp | hp
    · exact pr p hp
    · rw [List.mem_singleton.mp hp]; exact ⟨e, hL, f1, f2, f3⟩
  · rw [List.map_append]
    exact List.nodup_append.mpr ⟨nd, List.nodup_cons.mpr ⟨List.not_mem_nil, List.nodup_nil⟩, fun q hq r hr z => f4 ((z.trans (List.mem_singleton.mp hr : r = a)) ▸ hq)⟩
theorem Stt.cons (K : CFok prog w A cenv x px CF fs) (S : Stt L m hb CF fs D mC ys Pr h) (k : ∀ b o, b ≠ L → h.get? b = some o → h'.get? b = some o) (n : h'.Ns L m) {a : Addr} {o : Obj} (hn : h.get? a = none) (hL : a ≠ L) (e : h'.get? a = some o) :
    Stt L m hb CF fs D mC ys ((a, o) :: Pr) h' := by
  obtain ⟨f1, f2, f3, f4⟩ := S.fresh (o := o) hn hL
  obtain ⟨ns, kb, cf, fa, d, dd, pr, nd⟩ := Stt.grow K S k n
  refine ⟨ns, kb, cf, fa, d, dd, fun p hp => ?_, List.nodup_cons.mpr ⟨f4, nd⟩⟩
  rcases List.mem_cons.mp hp with rfl | hp
  · exact ⟨e, hL, f1, f2, f3⟩
  · exact pr p hp
theorem Stt.emit (K : CFok prog w A cenv x px CF fs) (S : Stt L m hb CF fs D mC ys Pr h) {y : Value} (hs : Heap.SameBut D h h') (e : h'.get? D = some (LCg.lst (ys ++ [y]))) : Stt L m hb CF fs D mC (ys ++ [y]) Pr h' := by
  obtain ⟨ns, kb, cf, fa, d, dd, pr, nd⟩ := S
  have k := hs.extBut
  refine ⟨ns.at' fun o e => k _ o (Ne.symm dd.1) e, fun b o hb1 e => k b o (fun q => ?_) (kb b o hb1 e), K.frame _ _ _ cf fun f hf o e => k f o (fa f hf).2.2.2 e, fun f hf => ?_, e, dd, fun p hp => ?_, nd⟩
  · rw [q, dd.2] at e; cases e
  · obtain ⟨⟨o, e⟩, r⟩ := fa f hf
    exact ⟨⟨o, k f o r.2.2 e⟩, r⟩
  · obtain ⟨a1, r⟩ := pr p hp
    exact ⟨k _ _ r.2.2.1 a1, r⟩
theorem Stt.store (S : Stt L m hb CF fs D mC ys Pr h) {mC' : Str → Option Value} (hcf : CF mC' h') (k : ∀ b o, b ∉ fs → h.get? b = some o → h'.get? b = some o) (al : ∀ f ∈ fs, ∃ o, h'.get? f = some o) : Stt L m hb CF fs D mC' ys Pr h' := by
  obtain ⟨ns, kb, cf, fa, d, dd, pr, nd⟩ := S
  have hLf : L ∉ fs := fun q => (fa L q).2.1 rfl
  refine ⟨ns.at' fun o e => k _ o hLf e, fun b o hb1 e => k b o (fun q => ?_) (kb b o hb1 e), hcf, fun f hf => ⟨al f hf, (fa f hf).2⟩, k _ _ (fun q => (fa D q).2.2.2 rfl) d, dd, fun p hp => ?_, nd⟩
  · rw [(fa b q).2.2.1] at e; cases e
  · obtain ⟨a1, r⟩ := pr p hp
    exact ⟨k _ _ r.2.2.2 a1, r⟩
end
section
variable {prog : Program} {w : World} {A : Around} {E : Value → Shared → Prop} {R : Result → Shared → Prop}

abbrev TurnOk (prog : Program) (w : World) (A : Around) (elt : Expr) (gens : List Comprehension) (scope : Scope) (pos : Pos) (d : Nat) (ifs : List Expr) (I D : Addr) (cenv : Env) (Z : Shared → Prop) (s : Shared) : Prop :=
  ∀ E' : Value → Shared → Prop, wpAny (model prog w) A (forIn ifs true fun c r => if r = true then do let ok ← isTrue c cenv (eval c cenv); pure (ForInStep.yield ok) else pure (ForInStep.yield r))
    (fun ok s₃ => if ok = true then wpAny (model prog w) A (compBody elt gens scope pos d (.ref I) (.ref D) cenv) (fun f s₄ => f = .again (.compLoop (.ListComp elt gens scope pos) d (.ref I) (.ref D) cenv) ∧ Z s₄) E' s₃ else Z s₃) E' s

theorem level_loop {elt : Expr} {gens : List Comprehension} {scope : Scope} {pos : Pos} {d : Nat} {x : Str} {px : Pos} {iter : Expr} {ifs : List Expr} (hg : gens[d]? = some ⟨.Name x px, iter, ifs, 0⟩) (hn : gens[d + 1]? = none ∨ ∃ t i f, gens[d + 1]? = some ⟨t, i, f, 0⟩)
  {I D : Addr} {fp : List Addr} {n : Nat} {P : Nat → Value → Prop} {St : Nat → Heap → Prop} (W : Walks prog w A I fp [I] n P St) {cenv : Env} {L : Addr} {m : Str → Option Value} {hb : Heap} {CF : (Str → Option Value) → Heap → Prop} {fs : List Addr} (K : CFok prog w A cenv x px CF fs)
  (stI : ∀ i h, St i h → ∃ o, h.get? I = some o)
  (stS : ∀ i h h' o, St i h → h.get? I = some o → h'.get? I = some o → (∀ b o, b ≠ L → hb.get? b = some o → h'.get? b = some o) → St i h')
  (Y : Nat → (Str → Option Value) → List Value → List (Addr × Obj) → Prop) (s : Shared)
  (turn : ∀ i v oI mC ys Pr h tk, i < n → P i v → Y i mC ys Pr → Stt L m hb CF fs D (fun y => if y = x then some v else mC y) ys ((I, oI) :: Pr) h →
    TurnOk prog w A elt gens scope pos d ifs I D cenv (fun s₄ => ∃ h' tk' mC' ys' Pr', s₄ = { s with heap := h', toks := tk' } ∧ Stt L m hb CF fs D mC' ys' ((I, oI) :: Pr') h' ∧ Y (i + 1) mC' ys' Pr') { s with heap := h, toks := tk })
  {mC : Str → Option Value} {ys : List Value} {Pr : List (Addr × Obj)} {h : Heap} {tk : Tok} {oI : Obj} (hst : St 0 h) (S0 : Stt L m hb CF fs D mC ys ((I, oI) :: Pr) h) (Y0 : Y 0 mC ys Pr)
  (done : ∀ mC ys Pr h tk, Stt L m hb CF fs D mC ys Pr h → Y n mC ys Pr → R (.ok .next) { s with heap := h, toks := tk }) :
  codeAny (model prog w) A (.compLoop (.ListComp elt gens scope pos) d (.ref I) (.ref D) cenv) R { s with heap := h, toks := tk } := by
  refine codeAny_compLoop_gen hg hn (fun k s' => ∃ i h tk oI mC ys Pr, s' = { s with heap := h, toks := tk } ∧ i ≤ n ∧ k = n + 1 - i ∧ St i h ∧ Stt L m hb CF fs D mC ys ((I, oI) :: Pr) h ∧ Y i mC ys Pr) ?_ (n + 1) _
    ⟨0, h, tk, oI, mC, ys, Pr, rfl, Nat.zero_le _, rfl, hst, S0, Y0⟩
  rintro k s' ⟨i, h, tk, oI, mC, ys, Pr, rfl, hi, rfl, hst, S, hY⟩
  by_cases hlt : i < n
  · refine W.item i _ _ _ hlt hst fun v h₂ tk₂ hPv hst₂ hk₂ => ?_
    obtain ⟨oI₂, heI⟩ := stI _ _ hst₂
    have S₂ := S.put K (fun b o hb1 e => hk₂ b o (by simpa using hb1) e) heI
    refine K.store _ v _ _ _ S₂.cf (fun f hf => (S₂.fa f hf).1) fun h₃ tk₃ hcf hk₃ hal => ?_
    have S₃ := S₂.store hcf hk₃ hal
    have hst₃ := stS _ h₂ h₃ _ hst₂ heI (S₃.pr _ List.mem_cons_self).1 S₃.kb
    refine wpAny_mono (turn i v _ mC ys Pr h₃ tk₃ hlt hPv hY S₃ _) (fun ok s₄ h₄ => ?_) fun _ _ e => e
    have fin : ∀ s₅, (∃ h' tk' mC' ys' Pr', s₅ = { s with heap := h', toks := tk' } ∧ Stt L m hb CF fs D mC' ys' ((I, oI₂) :: Pr') h' ∧ Y (i + 1) mC' ys' Pr') →
        ∃ k, k < n + 1 - i ∧ ∃ i h tk oI mC ys Pr, s₅ = { s with heap := h, toks := tk } ∧ i ≤ n ∧ k = n + 1 - i ∧ St i h ∧ Stt L m hb CF fs D mC ys ((I, oI) :: Pr) h ∧ Y i mC ys Pr := by
      rintro s₅ ⟨h₅, tk₅, mC₅, ys₅, Pr₅, rfl, S₅, Y₅⟩
      exact ⟨n + 1 - (i + 1), by omega, i + 1, h₅, tk₅, _, mC₅, ys₅, Pr₅, rfl, hlt, rfl, stS _ h₃ h₅ _ hst₃ (S₃.pr _ List.mem_cons_self).1 (S₅.pr _ List.mem_cons_self).1 S₅.kb, S₅, Y₅⟩
    cases ok with
    | false =>
      rw [if_neg (by decide)] at h₄ ⊢
      exact fin _ h₄
    | true =>
      rw [if_pos rfl] at h₄ ⊢
      exact wpAny_mono h₄ (fun f s₅ h₅ => ⟨h₅.1, fin _ h₅.2⟩) fun _ _ e => e
  · obtain rfl : i = n := Nat.le_antisymm hi (Nat.not_lt.mp hlt)
    refine W.done _ _ _ hst fun h₂ tk₂ hk₂ => ?_
    exact done _ _ _ h₂ tk₂ (S.off K fun b o hb1 e => hk₂ b o (by simpa using hb1) e) hY
end
end Mine
end

section
open PySem PySem.W PyProof.Rows PySem.Calls
namespace Mine
structure OutC (L : Addr) (m : Str → Option Value) (hb : Heap) (D : Addr) (ys : List Value) (Pr : List (Addr × Obj)) (h : Heap) : Prop where
  ns : h.Ns L m
  kb : ∀ b o, b ≠ L → hb.get? b = some o → h.get? b = some o
  d : h.get? D = some (LCg.lst ys)
  dd : D ≠ L ∧ hb.get? D = none
  pr : ∀ p ∈ Pr, h.get? p.1 = some p.2 ∧ p.1 ≠ L ∧ hb.get? p.1 = none ∧ p.1 ≠ D
  nd : (Pr.map (·.1)).Nodup
section
variable {L : Addr} {m : Str → Option Value} {hb : Heap} {CF : (Str → Option Value) → Heap → Prop} {fs : List Addr} {D : Addr} {mC : Str → Option Value} {ys : List Value} {Pr : List (Addr × Obj)} {h h' : Heap}
theorem Stt.out (S : Stt L m hb CF fs D mC ys Pr h) {C : Addr} (hC : C ∈ fs) (hs : Heap.SameBut C h h') : OutC L m hb D ys Pr h' := by
  obtain ⟨ns, kb, cf, fa, d, dd, pr, nd⟩ := S
  obtain ⟨_, c1, c2, c3⟩ := fa C hC
  have k := hs.extBut
  refine ⟨ns.at' fun o e => k _ o (Ne.symm c1) e, fun b o hb1 e => k b o (fun q => ?_) (kb b o hb1 e), k _ _ (Ne.symm c3) d, dd, fun p hp => ?_, nd⟩
  · rw [q, c2] at e; cases e
  · obtain ⟨a1, a2, a3, a4, a5⟩ := pr p hp
    exact ⟨k _ _ (fun q => a5 (q ▸ hC)) a1, a2, a3, a4⟩
theorem OutC.set (O : OutC L m hb D ys Pr h) {m' : Str → Option Value} (hn : h'.Ns L m') (hs : Heap.SameBut L h h') : OutC L m' hb D ys Pr h' := by
  obtain ⟨ns, kb, d, dd, pr, nd⟩ := O
  have k := hs.extBut
  refine ⟨hn, fun b o hb1 e => k b o hb1 (kb b o hb1 e), k _ _ dd.1 d, dd, fun p hp => ?_, nd⟩
  obtain ⟨a1, a2, r⟩ := pr p hp
  exact ⟨k _ _ a2 a1, a2, r⟩
end
section
variable {prog : Program} {w : World} {A : Around} {E : Value → Shared → Prop} {s : Shared} {h₀ : Heap} {L : Addr} {m : Str → Option Value} {env : Env}
abbrev CFp (C : Addr) : (Str → Option Value) → Heap → Prop := fun mC h => h.Ns C mC
theorem cfp_ok {C : Addr} {scope : Scope} {cl : List (Str × Addr)} {x : Str} {px : Pos} (hkind : scope.kind = .function) (hx : scope.names.lookup x = some .local) : CFok prog w A (compEnvC scope cl C env) x px (CFp C) [C] where
  frame := fun mC h h' hn k => hn.at' fun o e => k C List.mem_cons_self o e
  store := fun mC v s Q E hn _ hQ => wpAny_assign_Name (wpAny_storeName_local (lookup_relabel_local hx) hn (fun h' hn' hs' => hQ h' _ hn' (fun b o hb e => hs'.extBut b o (fun q => hb (List.mem_singleton.mpr q)) e)
    fun f hf => by rw [List.mem_singleton.mp hf]; obtain ⟨o, _, _, e, _⟩ := hn'; exact ⟨o, e⟩) (by simp [compEnvC, relabel, hkind]))

theorem comp_start {elt : Expr} {gens : List Comprehension} {scope : Scope} {cl : List (Str × Addr)} {pos : Pos} {x : Str} {px : Pos} {iter : Expr} {ifs : List Expr} (hg : gens[0]? = some ⟨.Name x px, iter, ifs, 0⟩) {s₁ : Shared} {itObj : Obj} (hfr : itObj.isFreed = false) (F : Fr h₀ L s₁.heap m)
    (hcell : ∀ y ∈ scope.names, y.2 ≠ .cell) (hkind : scope.kind = .function) {RR : Value → Addr → Result → Shared → Prop}
    (self : ∀ (s : Shared) (Q : Value → Shared → Prop) (E : Value → Shared → Prop), s.heap.get? s₁.heap.objs.size = some itObj → (∀ b o, b ≠ L → s₁.heap.get? b = some o → s.heap.get? b = some o) → Q (.ref s₁.heap.objs.size) s → wpAny (model prog w) A (pyIter (.ref s₁.heap.objs.size)) Q E s)
    (h : ∀ D C h tk, Stt L m s₁.heap (CFp C) [C] D (fun _ => none) [] [(s₁.heap.objs.size, itObj)] h →
      codeAny (model prog w) A (.compLoop (.ListComp elt gens scope pos) 0 (.ref s₁.heap.objs.size) (.ref D) (compEnvC scope cl C env)) (RR (.ref D) C) { s₁ with heap := h, toks := tk }) :
    wpAny (model prog w) A (newList []) (fun acc s₃ => wpAny (model prog w) A (newFunctionEnv scope env.globals cl [] env.qual none .none (some env)) (fun cenv s₄ =>
      codeAny (model prog w) A (.compStart (.ListComp elt gens scope pos) 0 (.ref s₁.heap.objs.size) acc { cenv with scope := relabel scope env }) (RR acc cenv.locals) s₄) E s₃) E { s₁ with heap := s₁.heap.push itObj } := by
  refine wpAny_newObj_type (wpAny_newFunctionEnv hcell (by intro y hy; simp at hy) (fun h₁ hns₁ hsb₁ => ?_) hkind)
  dsimp only at hns₁ hsb₁ ⊢
  generalize hH1 : s₁.heap.push itObj = H1 at hns₁ hsb₁ ⊢
  have hD : H1.objs.size = s₁.heap.objs.size + 1 := by rw [← hH1, Heap.size_push]
  generalize hH2 : H1.push { cls := .type "list", dict := none, data := .seq ([] : List Value).toArray } = H2 at hns₁ hsb₁ ⊢
  have hC : H2.objs.size = s₁.heap.objs.size + 2 := by rw [← hH2, Heap.size_push, hD]
  have hns : h₁.Ns H2.objs.size (fun _ => none) := by
    have e : (fun x => (([] : List (Str × Value)).reverse.lookup x)) = fun _ => none := rfl
    rw [← e]; exact hns₁
  have k := hsb₁.extBut
  have below : ∀ b, b < s₁.heap.objs.size → b ≠ H2.objs.size := fun b hb => by rw [hC]; exact Nat.ne_of_lt (Nat.lt_succ_of_lt (Nat.lt_succ_of_lt hb))
  have old : ∀ b o, s₁.heap.get? b = some o → h₁.get? b = some o := fun b o e => k b o (below b (Heap.lt_size e)) (Heap.get?_push_of_some _ (hH2 ▸ Heap.get?_push_of_some _ (hH1 ▸ Heap.get?_push_of_some _ e)))
  have fresh : ∀ a, s₁.heap.objs.size ≤ a → s₁.heap.get? a = none := fun a ha => by
    cases e : s₁.heap.get? a with
    | none => rfl
    | some o' => exact absurd (Heap.lt_size e) (Nat.not_lt.mpr ha)
  have hLlt : L < s₁.heap.objs.size := F.ns.lt
  have ne01 : s₁.heap.objs.size ≠ H1.objs.size := by rw [hD]; exact Nat.ne_of_lt (Nat.lt_succ_self _)
  have ne02 : s₁.heap.objs.size ≠ H2.objs.size := by rw [hC]; exact Nat.ne_of_lt (Nat.lt_succ_of_lt (Nat.lt_succ_self _))
  have ne12 : H1.objs.size ≠ H2.objs.size := by rw [hC, hD]; exact Nat.ne_of_lt (Nat.lt_succ_self _)
  have le1 : s₁.heap.objs.size ≤ H1.objs.size := by rw [hD]; exact Nat.le_succ _
  have le2 : s₁.heap.objs.size ≤ H2.objs.size := by rw [hC]; exact Nat.le_succ_of_le (Nat.le_succ _)
  have neDL : H1.objs.size ≠ L := Nat.ne_of_gt (Nat.lt_of_lt_of_le hLlt le1)
  have neCL : H2.objs.size ≠ L := Nat.ne_of_gt (Nat.lt_of_lt_of_le hLlt le2)
  have hit : h₁.get? s₁.heap.objs.size = some itObj := k _ _ ne02 (Heap.get?_push_of_some _ (hH2 ▸ Heap.get?_push_of_some _ (hH1 ▸ Heap.get?_push_size _ hfr)))
  have hS : Stt L m s₁.heap (CFp H2.objs.size) [H2.objs.size] H1.objs.size (fun _ => none) [] [(s₁.heap.objs.size, itObj)] h₁ := by
    refine ⟨F.ns.at' fun o e => old _ o e, fun b o _ e => old b o e, hns, fun f hf => ?_, k _ _ ne12 (Heap.get?_push_of_some _ (hH2 ▸ Heap.get?_push_size _ rfl)), ⟨neDL, fresh _ le1⟩, fun p hp => ?_, by simp⟩
    · rw [List.mem_singleton.mp hf]
      obtain ⟨o, _, _, e, _⟩ := hns₁
      exact ⟨⟨o, e⟩, neCL, fresh _ le2, Ne.symm ne12⟩
    · rw [List.mem_singleton.mp hp]
      exact ⟨hit, Nat.ne_of_gt hLlt, fresh _ (Nat.le_refl _), ne01, fun q => ne02 (List.mem_singleton.mp q)⟩
  exact codeAny_compStart_gen hg (h _ _ _ _ hS) (self _ _ _ hit (fun b o _ e => old b o e) (h _ _ _ _ hS))

theorem comp_list {elt : Expr} {gs : List Comprehension} {scope : Scope} {cl : List (Str × Addr)} {pos : Pos} {x : Str} {px : Pos} {iter : Expr} {ifs : List Expr} {use : Option (Value → Sem Unit)} {Q : Value → Shared → Prop} {fpos : Pos}
    (hn : gs[0]? = none ∨ ∃ t i f, gs[0]? = some ⟨t, i, f, 0⟩)
    (hclos : closureFor scope env = pure cl) (hcell : ∀ y ∈ scope.names, y.2 ≠ .cell) (hkind : scope.kind = .function)
    (hnames : ∀ y ∈ scope.names, y.2 = .local → scope.names.lookup y.1 = some .local) (hx : scope.names.lookup x = some .local) (hh : A.handled = none)
    (Y : Nat → (Str → Option Value) → List Value → List (Addr × Obj) → Prop)
    (h : wpAny (model prog w) A (eval iter env) (fun xv s₁ => Leaf <| ∃ ax its, xv = .ref ax ∧ s₁.heap.IsList ax its ∧ ax ≠ L ∧ Fr h₀ L s₁.heap m ∧
      (∀ C I D i v oI mC ys Pr h tk, CFok prog w A (compEnvC scope cl C env) x px (CFp C) [C] → its[i]? = some v → Y i mC ys Pr → Stt L m s₁.heap (CFp C) [C] D (fun y => if y = x then some v else mC y) ys ((I, oI) :: Pr) h →
        TurnOk prog w A elt (⟨.Name x px, iter, ifs, 0⟩ :: gs) scope pos 0 ifs I D (compEnvC scope cl C env) (fun s₄ => ∃ h' tk' mC' ys' Pr', s₄ = { s₁ with heap := h', toks := tk' } ∧ Stt L m s₁.heap (CFp C) [C] D mC' ys' ((I, oI) :: Pr') h' ∧ Y (i + 1) mC' ys' Pr') { s₁ with heap := h, toks := tk }) ∧
      Y 0 (fun _ => none) [] [] ∧
      (∀ C D h tk mC ys Pr, Stt L m s₁.heap (CFp C) [C] D mC ys Pr h → Y its.size mC ys Pr → compPost (model prog w) A E use Q (.ref D) C (.ok .next) { s₁ with heap := h, toks := tk })) E s)
    (hs : ∀ x, foldedSetIterable iter env x = pure x := by intro _; rfl) :
    wpAny (model prog w) A (comprehension (.ListComp elt (⟨.Name x px, iter, ifs, 0⟩ :: gs) scope pos) scope env fpos (newList []) false (eval iter env) use) Q E s := by
  refine wpAny_comprehension_free rfl hs hclos hkind hnames (wpAny_mono h (fun xv s₁ h₁ => ?_) fun _ _ e => e)
  obtain ⟨ax, its, rfl, hl, haL, F, turn, Y0, fin⟩ := h₁
  refine wpAny_pyIter_list hl ?_
  have hlt : ax < s₁.heap.objs.size := by obtain ⟨_, e, _⟩ := hl; exact Heap.lt_size e
  have stL : ∀ h : Heap, (∀ b o, b ≠ L → s₁.heap.get? b = some o → h.get? b = some o) → h.IsList ax its := fun h k => hl.at fun o e => k _ _ haL e
  refine comp_start (RR := fun acc C => compPost (model prog w) A E use Q acc C) rfl rfl F hcell hkind (fun s Q E e k hQ => wpAny_pyIter_listiter (l := ax) (i := 0) ⟨_, e, rfl, rfl⟩ hQ) fun D C h tk S => ?_
  have W := Walks.list (prog := prog) (w := w) (A := A) hh s₁.heap.objs.size ax (Nat.ne_of_lt hlt) its
  refine level_loop (s := s₁) rfl hn W (cfp_ok hkind hx) (fun i h st => by obtain ⟨o, e, _⟩ := st.1; exact ⟨o, e⟩) (fun i h h' o st e e' k => ⟨by obtain ⟨o', q, r⟩ := st.1; rw [e] at q; cases q; exact ⟨o, e', r⟩, stL _ k⟩) Y (fun i v oI mC ys Pr h tk hi hv hY S => turn C _ D i v oI mC ys Pr h tk (cfp_ok hkind hx) hv hY S)
    ⟨⟨_, (S.pr _ List.mem_cons_self).1, rfl, rfl⟩, stL _ S.kb⟩ S Y0 fun mC ys Pr h tk S hY => ?_
  exact fin C D h tk mC ys Pr S hY

theorem comp_range {elt : Expr} {gs : List Comprehension} {scope : Scope} {cl : List (Str × Addr)} {pos : Pos} {x : Str} {px : Pos} {iter : Expr} {ifs : List Expr} {use : Option (Value → Sem Unit)} {Q : Value → Shared → Prop} {fpos : Pos}
    (hn : gs[0]? = none ∨ ∃ t i f, gs[0]? = some ⟨t, i, f, 0⟩)
    (hclos : closureFor scope env = pure cl) (hcell : ∀ y ∈ scope.names, y.2 ≠ .cell) (hkind : scope.kind = .function)
    (hnames : ∀ y ∈ scope.names, y.2 = .local → scope.names.lookup y.1 = some .local) (hx : scope.names.lookup x = some .local) (hh : A.handled = none)
    (Y : Nat → (Str → Option Value) → List Value → List (Addr × Obj) → Prop)
    (h : wpAny (model prog w) A (eval iter env) (fun xv s₁ => Leaf <| ∃ r a b t u v n, xv = .ref r ∧ IsRange s₁.heap r a b 1 t u v ∧ Builtin.Range.small a b 1 = true ∧ Builtin.Range.rangeSize a b 1 = ((n : Nat) : Int) ∧ Fr h₀ L s₁.heap m ∧
      (∀ C I D i v oI mC ys Pr h tk, CFok prog w A (compEnvC scope cl C env) x px (CFp C) [C] → (i < n ∧ ∃ t, v = .int (a + (i : Int)) t) → Y i mC ys Pr → Stt L m s₁.heap (CFp C) [C] D (fun y => if y = x then some v else mC y) ys ((I, oI) :: Pr) h →
        TurnOk prog w A elt (⟨.Name x px, iter, ifs, 0⟩ :: gs) scope pos 0 ifs I D (compEnvC scope cl C env) (fun s₄ => ∃ h' tk' mC' ys' Pr', s₄ = { s₁ with heap := h', toks := tk' } ∧ Stt L m s₁.heap (CFp C) [C] D mC' ys' ((I, oI) :: Pr') h' ∧ Y (i + 1) mC' ys' Pr') { s₁ with heap := h, toks := tk }) ∧
      Y 0 (fun _ => none) [] [] ∧
      (∀ C D h tk mC ys Pr, Stt L m s₁.heap (CFp C) [C] D mC ys Pr h → Y n mC ys Pr → compPost (model prog w) A E use Q (.ref D) C (.ok .next) { s₁ with heap := h, toks := tk })) E s)
    (hs : ∀ x, foldedSetIterable iter env x = pure x := by intro _; rfl) :
    wpAny (model prog w) A (comprehension (.ListComp elt (⟨.Name x px, iter, ifs, 0⟩ :: gs) scope pos) scope env fpos (newList []) false (eval iter env) use) Q E s := by
  refine wpAny_comprehension_free rfl hs hclos hkind hnames (wpAny_mono h (fun xv s₁ h₁ => ?_) fun _ _ e => e)
  obtain ⟨r, a, b, t, u, v, n, rfl, hr, hsm, hsz, F, turn, Y0, fin⟩ := h₁
  refine wpAny_pyIter_range hr hsm ?_
  refine comp_start (RR := fun acc C => compPost (model prog w) A E use Q acc C) rfl rfl F hcell hkind (fun s Q E e k hQ => (LCg.range_walks (prog := prog) (w := w) (A := A) hh a n).self 0 s Q E (by show IsRangeIter _ _ _ _ _; rw [← hsz]; simpa using e) hQ) fun D C h tk S => ?_
  have W := LCg.range_walks (prog := prog) (w := w) (A := A) (I := s₁.heap.objs.size) hh a n
  refine level_loop (s := s₁) rfl hn W (cfp_ok hkind hx) (fun i h st => ⟨_, st⟩) (fun i h h' o st e e' k => by
      have st' : h.get? s₁.heap.objs.size = some _ := st
      show h'.get? s₁.heap.objs.size = some _
      rw [e', ← e]; exact st') Y (fun i v oI mC ys Pr h tk hi hv hY S => turn C _ D i v oI mC ys Pr h tk (cfp_ok hkind hx) ⟨hi, hv⟩ hY S)
    (by show IsRangeIter _ _ _ _ _; have e := (S.pr _ List.mem_cons_self).1; rw [hsz] at e; simpa using e) S Y0 fun mC ys Pr h tk S hY => ?_
  exact fin C D h tk mC ys Pr S hY

theorem post_none {Q : Value → Shared → Prop} {D C : Addr} {h hb : Heap} {mC : Str → Option Value} {ys : List Value} {Pr : List (Addr × Obj)} (S : Stt L m hb (CFp C) [C] D mC ys Pr h) {s : Shared} {tk : Tok} (hQ : ∀ h', OutC L m hb D ys Pr h' → Q (.ref D) { s with heap := h', toks := tk }) :
    compPost (model prog w) A E none Q (.ref D) C (.ok .next) { s with heap := h, toks := tk } := ⟨mC, S.cf, fun h' hs => hQ h' (S.out List.mem_cons_self hs)⟩
theorem post_use {Q : Value → Shared → Prop} {D C : Addr} {h hb : Heap} {mC : Str → Option Value} {y : Str} {py : Pos} (hL : env.locals = L) (hy : env.kindOf y = some .local) (hp : (env.scope.kind == .class || (env.scope.kind == .module && env.locals != env.globals)) = false)
    {s : Shared} {tk : Tok} {ys : List Value} {Pr : List (Addr × Obj)} (S : Stt L m hb (CFp C) [C] D mC ys Pr h)
    (hQ : ∀ h' tk', OutC L (fun z => if z = y then some (.ref D) else m z) hb D ys Pr h' → Q .none { s with heap := h', toks := tk' }) :
    compPost (model prog w) A E (some (assign (.Name y py) env)) Q (.ref D) C (.ok .next) { s with heap := h, toks := tk } := by
  subst hL
  show wpAny _ A (assign (.Name y py) env (.ref D)) _ _ _
  obtain ⟨_, c1, c2, c3⟩ := S.fa C List.mem_cons_self
  refine wpAny_assign_Name (wpAny_storeName_local hy S.ns (fun h₂ hn₂ hs₂ => ?_) hp)
  have k := hs₂.extBut
  have S₂ : Stt env.locals (fun z => if z = y then some (.ref D) else m z) hb (CFp C) [C] D mC ys Pr h₂ := by
    obtain ⟨ns, kb, cf, fa, d, dd, pr, nd⟩ := S
    refine ⟨hn₂, fun b o hb1 e => k b o hb1 (kb b o hb1 e), cf.sameBut hs₂ c1, fun f hf => ?_, k _ _ dd.1 d, dd, fun p hp => ?_, nd⟩
    · obtain ⟨⟨o, e⟩, r⟩ := fa f hf
      exact ⟨⟨o, k f o r.1 e⟩, r⟩
    · obtain ⟨a1, r⟩ := pr p hp
      exact ⟨k _ _ r.1 a1, r⟩
  exact ⟨mC, S₂.cf, fun h₃ hs₃ => hQ h₃ _ (S₂.out List.mem_cons_self hs₃)⟩
theorem eval_list {elt : Expr} {gs : List Comprehension} {scope : Scope} {cl : List (Str × Addr)} {pos : Pos} {x : Str} {px : Pos} {iter : Expr} {ifs : List Expr} {Q : Value → Shared → Prop}
    (hn : gs[0]? = none ∨ ∃ t i f, gs[0]? = some ⟨t, i, f, 0⟩)
    (hclos : closureFor scope env = pure cl) (hcell : ∀ y ∈ scope.names, y.2 ≠ .cell) (hkind : scope.kind = .function)
    (hnames : ∀ y ∈ scope.names, y.2 = .local → scope.names.lookup y.1 = some .local) (hx : scope.names.lookup x = some .local) (hh : A.handled = none)
    (Y : Nat → (Str → Option Value) → List Value → List (Addr × Obj) → Prop)
    (h : wpAny (model prog w) A (eval iter env) (fun xv s₁ => Leaf <| ∃ ax its, xv = .ref ax ∧ s₁.heap.IsList ax its ∧ ax ≠ L ∧ Fr h₀ L s₁.heap m ∧
      (∀ C I D i v oI mC ys Pr h tk, CFok prog w A (compEnvC scope cl C env) x px (CFp C) [C] → its[i]? = some v → Y i mC ys Pr → Stt L m s₁.heap (CFp C) [C] D (fun y => if y = x then some v else mC y) ys ((I, oI) :: Pr) h →
        TurnOk prog w A elt (⟨.Name x px, iter, ifs, 0⟩ :: gs) scope pos 0 ifs I D (compEnvC scope cl C env) (fun s₄ => ∃ h' tk' mC' ys' Pr', s₄ = { s₁ with heap := h', toks := tk' } ∧ Stt L m s₁.heap (CFp C) [C] D mC' ys' ((I, oI) :: Pr') h' ∧ Y (i + 1) mC' ys' Pr') { s₁ with heap := h, toks := tk }) ∧
      Y 0 (fun _ => none) [] [] ∧
      (∀ C D h tk mC ys Pr, Stt L m s₁.heap (CFp C) [C] D mC ys Pr h → Y its.size mC ys Pr → compPost (model prog w) A E none Q (.ref D) C (.ok .next) { s₁ with heap := h, toks := tk })) E s)
    (hs : ∀ x, foldedSetIterable iter env x = pure x := by intro _; rfl) :
    wpAny (model prog w) A (eval (.ListComp elt (⟨.Name x px, iter, ifs, 0⟩ :: gs) scope pos) env) Q E s := by
  rw [eval_ListComp]
  exact comp_list hn hclos hcell hkind hnames hx hh Y h hs
theorem eval_range {elt : Expr} {gs : List Comprehension} {scope : Scope} {cl : List (Str × Addr)} {pos : Pos} {x : Str} {px : Pos} {iter : Expr} {ifs : List Expr} {Q : Value → Shared → Prop}
    (hn : gs[0]? = none ∨ ∃ t i f, gs[0]? = some ⟨t, i, f, 0⟩)
    (hclos : closureFor scope env = pure cl) (hcell : ∀ y ∈ scope.names, y.2 ≠ .cell) (hkind : scope.kind = .function)
    (hnames : ∀ y ∈ scope.names, y.2 = .local → scope.names.lookup y.1 = some .local) (hx : scope.names.lookup x = some .local) (hh : A.handled = none)
    (Y : Nat → (Str → Option Value) → List Value → List (Addr × Obj) → Prop)
    (h : wpAny (model prog w) A (eval iter env) (fun xv s₁ => Leaf <| ∃ r a b t u v n, xv = .ref r ∧ IsRange s₁.heap r a b 1 t u v ∧ Builtin.Range.small a b 1 = true ∧ Builtin.Range.rangeSize a b 1 = ((n : Nat) : Int) ∧ Fr h₀ L s₁.heap m ∧
      (∀ C I D i v oI mC ys Pr h tk, CFok prog w A (compEnvC scope cl C env) x px (CFp C) [C] → (i < n ∧ ∃ t, v = .int (a + (i : Int)) t) → Y i mC ys Pr → Stt L m s₁.heap (CFp C) [C] D (fun y => if y = x then some v else mC y) ys ((I, oI) :: Pr) h →
        TurnOk prog w A elt (⟨.Name x px, iter, ifs, 0⟩ :: gs) scope pos 0 ifs I D (compEnvC scope cl C env) (fun s₄ => ∃ h' tk' mC' ys' Pr', s₄ = { s₁ with heap := h', toks := tk' } ∧ Stt L m s₁.heap (CFp C) [C] D mC' ys' ((I, oI) :: Pr') h' ∧ Y (i + 1) mC' ys' Pr') { s₁ with heap := h, toks := tk }) ∧
      Y 0 (fun _ => none) [] [] ∧
      (∀ C D h tk mC ys Pr, Stt L m s₁.heap (CFp C) [C] D mC ys Pr h → Y n mC ys Pr → compPost (model prog w) A E none Q (.ref D) C (.ok .next) { s₁ with heap := h, toks := tk })) E s)
    (hs : ∀ x, foldedSetIterable iter env x = pure x := by intro _; rfl) :
    wpAny (model prog w) A (eval (.ListComp elt (⟨.Name x px, iter, ifs, 0⟩ :: gs) scope pos) env) Q E s := by
  rw [eval_ListComp]
  exact comp_range hn hclos hcell hkind hnames hx hh Y h hs
theorem assign_list {elt : Expr} {gs : List Comprehension} {scope : Scope} {cl : List (Str × Addr)} {pos : Pos} {x : Str} {px : Pos} {iter : Expr} {ifs : List Expr} {Q : Flow → Shared → Prop}{y : Str} {py spos : Pos}
    (hsw : swapsWith (.ListComp elt (⟨.Name x px, iter, ifs, 0⟩ :: gs) scope pos) (some (.Name y py)) spos.line env = pure true)
    (hn : gs[0]? = none ∨ ∃ t i f, gs[0]? = some ⟨t, i, f, 0⟩)
    (hclos : closureFor scope env = pure cl) (hcell : ∀ y ∈ scope.names, y.2 ≠ .cell) (hkind : scope.kind = .function)
    (hnames : ∀ y ∈ scope.names, y.2 = .local → scope.names.lookup y.1 = some .local) (hx : scope.names.lookup x = some .local) (hh : A.handled = none)
    (Y : Nat → (Str → Option Value) → List Value → List (Addr × Obj) → Prop)
    (h : wpAny (model prog w) A (eval iter env) (fun xv s₁ => Leaf <| ∃ ax its, xv = .ref ax ∧ s₁.heap.IsList ax its ∧ ax ≠ L ∧ Fr h₀ L s₁.heap m ∧
      (∀ C I D i v oI mC ys Pr h tk, CFok prog w A (compEnvC scope cl C env) x px (CFp C) [C] → its[i]? = some v → Y i mC ys Pr → Stt L m s₁.heap (CFp C) [C] D (fun y => if y = x then some v else mC y) ys ((I, oI) :: Pr) h →
        TurnOk prog w A elt (⟨.Name x px, iter, ifs, 0⟩ :: gs) scope pos 0 ifs I D (compEnvC scope cl C env) (fun s₄ => ∃ h' tk' mC' ys' Pr', s₄ = { s₁ with heap := h', toks := tk' } ∧ Stt L m s₁.heap (CFp C) [C] D mC' ys' ((I, oI) :: Pr') h' ∧ Y (i + 1) mC' ys' Pr') { s₁ with heap := h, toks := tk }) ∧
      Y 0 (fun _ => none) [] [] ∧
      (∀ C D h tk mC ys Pr, Stt L m s₁.heap (CFp C) [C] D mC ys Pr h → Y its.size mC ys Pr → compPost (model prog w) A E (some (assign (.Name y py) env)) (fun _ s' => Q .next s') (.ref D) C (.ok .next) { s₁ with heap := h, toks := tk })) E s)
    (hs : ∀ x, foldedSetIterable iter env x = pure x := by intro _; rfl) :
    wpAny (model prog w) A (exec (.Assign [.Name y py] (.ListComp elt (⟨.Name x px, iter, ifs, 0⟩ :: gs) scope pos) spos) env) Q E s := by
  rw [exec_Assign_Name_used _ _ _ _ hsw]
  refine wpAny_bind (wpAny_standAt (wpAny_bind ?_))
  show wpAny _ A (do let _ ← comprehension (.ListComp elt (⟨.Name x px, iter, ifs, 0⟩ :: gs) scope pos) scope env _ (newList []) false (eval iter env) (some (assign (.Name y py) env))) _ _ s
  exact wpAny_bind (wpAny_mono (comp_list (use := some (assign (.Name y py) env)) (Q := fun _ s' => Q .next s') hn hclos hcell hkind hnames hx hh Y h hs) (fun _ s' hq => wpAny_pure (wpAny_pure hq)) fun _ _ e => e)
end
end Mine
end

section
open PySem PySem.W PyProof.Rows PySem.Calls
namespace Mine
section
variable {prog : Program} {w : World} {A : Around} {E : Value → Shared → Prop} {s : Shared} {h₀ : Heap} {L : Addr} {m : Str → Option Value} {env : Env}
abbrev CFc (C cj : Addr) (x : Str) : (Str → Option Value) → Heap → Prop := fun mC h => h.Ns C (fun _ => none) ∧ h.IsCell cj (mC x)
theorem cfc_ok {C cj : Addr} {scope : Scope} {cl : List (Str × Addr)} {x : Str} {px : Pos} (hne : C ≠ cj) (hkind : scope.kind = .function) (hx : (relabel scope env).names.lookup x = some .cell) : CFok prog w A (compEnvC scope ((x, cj) :: cl) C env) x px (CFc C cj x) [C, cj] where
  frame := fun mC h h' hn k => ⟨hn.1.at' fun o e => k C List.mem_cons_self o e, by obtain ⟨o, e, r⟩ := hn.2; exact ⟨o, k cj (List.mem_cons_of_mem _ List.mem_cons_self) o e, r⟩⟩
  store := fun mC v s Q E hn _ hQ => wpAny_assign_Name (wpAny_storeName_cell (by simp [compEnvC, relabel, hkind]) hx (by simp [compEnvC]) hn.2 (fun h' hc' hs' => by
    have e1 : (if x = x then some v else mC x) = some v := if_pos rfl
    have hn1 := hn.1.sameBut hs' hne
    refine hQ h' s.toks ⟨hn1, ?_⟩ (fun b o hb e => hs'.extBut b o (fun q => hb (q ▸ List.mem_cons_of_mem _ List.mem_cons_self)) e) fun f hf => ?_
    · show h'.IsCell cj (if x = x then some v else mC x)
      rw [e1]; exact hc'
    · rcases List.mem_cons.mp hf with rfl | hf
      · obtain ⟨o, _, _, e, _⟩ := hn1; exact ⟨o, e⟩
      · rw [List.mem_singleton.mp hf]; obtain ⟨o, e, _⟩ := hc'; exact ⟨o, e⟩))

theorem comp_start_cell {elt : Expr} {gens : List Comprehension} {scope : Scope} {cl : List (Str × Addr)} {pos : Pos} {x : Str} {px : Pos} {iter : Expr} {ifs : List Expr} (hg : gens[0]? = some ⟨.Name x px, iter, ifs, 0⟩) {s₁ : Shared} {itObj : Obj} (hfr : itObj.isFreed = false) (F : Fr h₀ L s₁.heap m)
    (hcells : ∀ n acc, cellsFrom n scope.names acc = (x, n) :: acc) (hpush : ∀ h, pushCells h scope.names = h.push { cls := .type "cell", data := .cell none }) {RR : Value → Addr → Result → Shared → Prop}
    (self : ∀ (s : Shared) (Q : Value → Shared → Prop) (E : Value → Shared → Prop), s.heap.get? s₁.heap.objs.size = some itObj → (∀ b o, b ≠ L → s₁.heap.get? b = some o → s.heap.get? b = some o) → Q (.ref s₁.heap.objs.size) s → wpAny (model prog w) A (pyIter (.ref s₁.heap.objs.size)) Q E s)
    (h : ∀ D C cj h tk, C ≠ cj → Stt L m s₁.heap (CFc C cj x) [C, cj] D (fun _ => none) [] [(s₁.heap.objs.size, itObj)] h →
      codeAny (model prog w) A (.compLoop (.ListComp elt gens scope pos) 0 (.ref s₁.heap.objs.size) (.ref D) (compEnvC scope ((x, cj) :: cl) C env)) (RR (.ref D) C) { s₁ with heap := h, toks := tk }) :
    wpAny (model prog w) A (newList []) (fun acc s₃ => wpAny (model prog w) A (newFunctionEnv scope env.globals cl [] env.qual none .none (some env)) (fun cenv s₄ =>
      codeAny (model prog w) A (.compStart (.ListComp elt gens scope pos) 0 (.ref s₁.heap.objs.size) acc { cenv with scope := relabel scope env }) (RR acc cenv.locals) s₄) E s₃) E { s₁ with heap := s₁.heap.push itObj } := by
  refine wpAny_newObj_type ?_
  simp only [newFunctionEnv, Option.isSome_some, if_true]
  refine wpAny_bind (wpAny_alloc ?_)
  refine wpAny_bind (wpAny_layCells _ (fun name kind cells => by cases hkc : kind == NameKind.cell <;> simp [hkc]) _ _ _ _ ?_)
  dsimp only
  rw [hcells, hpush]
  simp only [List.forIn_nil]
  refine wpAny_bind (wpAny_pure (wpAny_pure ?_))
  generalize hH1 : s₁.heap.push itObj = H1
  have hD : H1.objs.size = s₁.heap.objs.size + 1 := by rw [← hH1, Heap.size_push]
  generalize hH2 : H1.push { cls := .type "list", dict := none, data := .seq ([] : List Value).toArray } = H2
  have hC : H2.objs.size = s₁.heap.objs.size + 2 := by rw [← hH2, Heap.size_push, hD]
  generalize hH3 : H2.push { cls := .type "dict", data := .dict #[] } = H3
  have hj : H3.objs.size = s₁.heap.objs.size + 3 := by rw [← hH3, Heap.size_push, hC]
  generalize hH4 : H3.push { cls := .type "cell", data := .cell none } = h₁
  have up0 : ∀ b o, s₁.heap.get? b = some o → H1.get? b = some o := fun b o e => hH1 ▸ Heap.get?_push_of_some _ e
  have up1 : ∀ b o, H1.get? b = some o → H2.get? b = some o := fun b o e => hH2 ▸ Heap.get?_push_of_some _ e
  have up2 : ∀ b o, H2.get? b = some o → H3.get? b = some o := fun b o e => hH3 ▸ Heap.get?_push_of_some _ e
  have up3 : ∀ b o, H3.get? b = some o → h₁.get? b = some o := fun b o e => hH4 ▸ Heap.get?_push_of_some _ e
  have old : ∀ b o, s₁.heap.get? b = some o → h₁.get? b = some o := fun b o e => up3 _ _ (up2 _ _ (up1 _ _ (up0 _ _ e)))
  have fresh : ∀ a, s₁.heap.objs.size ≤ a → s₁.heap.get? a = none := fun a ha => by
    cases e : s₁.heap.get? a with
    | none => rfl
    | some o' => exact absurd (Heap.lt_size e) (Nat.not_lt.mpr ha)
  have hLlt : L < s₁.heap.objs.size := F.ns.lt
  have ne01 : s₁.heap.objs.size ≠ H1.objs.size := by rw [hD]; exact Nat.ne_of_lt (Nat.lt_succ_self _)
  have ne02 : s₁.heap.objs.size ≠ H2.objs.size := by rw [hC]; exact Nat.ne_of_lt (Nat.lt_succ_of_lt (Nat.lt_succ_self _))
  have ne03 : s₁.heap.objs.size ≠ H3.objs.size := by rw [hj]; exact Nat.ne_of_lt (Nat.lt_succ_of_lt (Nat.lt_succ_of_lt (Nat.lt_succ_self _)))
  have ne12 : H1.objs.size ≠ H2.objs.size := by rw [hC, hD]; exact Nat.ne_of_lt (Nat.lt_succ_self _)
  have ne13 : H1.objs.size ≠ H3.objs.size := by rw [hj, hD]; exact Nat.ne_of_lt (Nat.lt_succ_of_lt (Nat.lt_succ_self _))
  have ne23 : H2.objs.size ≠ H3.objs.size := by rw [hC, hj]; exact Nat.ne_of_lt (Nat.lt_succ_self _)
  have le1 : s₁.heap.objs.size ≤ H1.objs.size := by rw [hD]; exact Nat.le_succ _
  have le2 : s₁.heap.objs.size ≤ H2.objs.size := by rw [hC]; exact Nat.le_succ_of_le (Nat.le_succ _)
  have le3 : s₁.heap.objs.size ≤ H3.objs.size := by rw [hj]; exact Nat.le_succ_of_le (Nat.le_succ_of_le (Nat.le_succ _))
  have neDL : H1.objs.size ≠ L := Nat.ne_of_gt (Nat.lt_of_lt_of_le hLlt le1)
  have neCL : H2.objs.size ≠ L := Nat.ne_of_gt (Nat.lt_of_lt_of_le hLlt le2)
  have neJL : H3.objs.size ≠ L := Nat.ne_of_gt (Nat.lt_of_lt_of_le hLlt le3)
  have hit : h₁.get? s₁.heap.objs.size = some itObj := up3 _ _ (up2 _ _ (up1 _ _ (hH1 ▸ Heap.get?_push_size _ hfr)))
  have hDd : h₁.get? H1.objs.size = some (LCg.lst []) := up3 _ _ (up2 _ _ (hH2 ▸ Heap.get?_push_size _ rfl))
  have hCn : h₁.Ns H2.objs.size (fun _ => none) := ((hH3 ▸ Heap.Ns.new H2 (.type "dict")) : H3.Ns H2.objs.size (fun _ => none)).at' fun o e => up3 _ o e
  have hJc : h₁.IsCell H3.objs.size none := ⟨_, hH4 ▸ Heap.get?_push_size _ rfl, rfl⟩
  have hS : Stt L m s₁.heap (CFc H2.objs.size H3.objs.size x) [H2.objs.size, H3.objs.size] H1.objs.size (fun _ => none) [] [(s₁.heap.objs.size, itObj)] h₁ := by
    refine ⟨F.ns.at' fun o e => old _ o e, fun b o _ e => old b o e, ⟨hCn, hJc⟩, fun f hf => ?_, hDd, ⟨neDL, fresh _ le1⟩, fun p hp => ?_, by simp⟩
    · rcases List.mem_cons.mp hf with rfl | hf
      · obtain ⟨o, _, _, e, _⟩ := hCn
        exact ⟨⟨o, e⟩, neCL, fresh _ le2, Ne.symm ne12⟩
      · rw [List.mem_singleton.mp hf]
        obtain ⟨o, e, _⟩ := hJc
        exact ⟨⟨o, e⟩, neJL, fresh _ le3, Ne.symm ne13⟩
    · rw [List.mem_singleton.mp hp]
      refine ⟨hit, Nat.ne_of_gt hLlt, fresh _ (Nat.le_refl _), ne01, fun q => ?_⟩
      rcases List.mem_cons.mp q with q | q
      · exact ne02 q
      · exact ne03 (List.mem_singleton.mp q)
  exact codeAny_compStart_gen hg (h _ _ _ _ _ ne23 hS) (self _ _ _ hit (fun b o _ e => old b o e) (h _ _ _ _ _ ne23 hS))

theorem comp_range_cell {elt : Expr} {gs : List Comprehension} {scope : Scope} {cl : List (Str × Addr)} {pos : Pos} {x : Str} {px : Pos} {iter : Expr} {ifs : List Expr} {use : Option (Value → Sem Unit)} {Q : Value → Shared → Prop} {fpos : Pos}
    (hn : gs[0]? = none ∨ ∃ t i f, gs[0]? = some ⟨t, i, f, 0⟩)
    (hclos : closureFor scope env = pure cl) (hcells : ∀ n acc, cellsFrom n scope.names acc = (x, n) :: acc) (hpush : ∀ h, pushCells h scope.names = h.push { cls := .type "cell", data := .cell none }) (hkind : scope.kind = .function)
    (hnames : ∀ y ∈ scope.names, y.2 = .local → scope.names.lookup y.1 = some .local) (hx : (relabel scope env).names.lookup x = some .cell) (hh : A.handled = none)
    (Y : Nat → (Str → Option Value) → List Value → List (Addr × Obj) → Prop)
    (h : wpAny (model prog w) A (eval iter env) (fun xv s₁ => Leaf <| ∃ r a b t u v n, xv = .ref r ∧ IsRange s₁.heap r a b 1 t u v ∧ Builtin.Range.small a b 1 = true ∧ Builtin.Range.rangeSize a b 1 = ((n : Nat) : Int) ∧ Fr h₀ L s₁.heap m ∧
      (∀ C cj I D i v oI mC ys Pr h tk, CFok prog w A (compEnvC scope ((x, cj) :: cl) C env) x px (CFc C cj x) [C, cj] → (i < n ∧ ∃ t, v = .int (a + (i : Int)) t) → Y i mC ys Pr → Stt L m s₁.heap (CFc C cj x) [C, cj] D (fun y => if y = x then some v else mC y) ys ((I, oI) :: Pr) h →
        TurnOk prog w A elt (⟨.Name x px, iter, ifs, 0⟩ :: gs) scope pos 0 ifs I D (compEnvC scope ((x, cj) :: cl) C env) (fun s₄ => ∃ h' tk' mC' ys' Pr', s₄ = { s₁ with heap := h', toks := tk' } ∧ Stt L m s₁.heap (CFc C cj x) [C, cj] D mC' ys' ((I, oI) :: Pr') h' ∧ Y (i + 1) mC' ys' Pr') { s₁ with heap := h, toks := tk }) ∧
      Y 0 (fun _ => none) [] [] ∧
      (∀ C cj D h tk mC ys Pr, Stt L m s₁.heap (CFc C cj x) [C, cj] D mC ys Pr h → Y n mC ys Pr → compPost (model prog w) A E use Q (.ref D) C (.ok .next) { s₁ with heap := h, toks := tk })) E s)
    (hs : ∀ x, foldedSetIterable iter env x = pure x := by intro _; rfl) :
    wpAny (model prog w) A (comprehension (.ListComp elt (⟨.Name x px, iter, ifs, 0⟩ :: gs) scope pos) scope env fpos (newList []) false (eval iter env) use) Q E s := by
  refine wpAny_comprehension_free rfl hs hclos hkind hnames (wpAny_mono h (fun xv s₁ h₁ => ?_) fun _ _ e => e)
  obtain ⟨r, a, b, t, u, v, n, rfl, hr, hsm, hsz, F, turn, Y0, fin⟩ := h₁
  refine wpAny_pyIter_range hr hsm ?_
  refine comp_start_cell (RR := fun acc C => compPost (model prog w) A E use Q acc C) rfl rfl F hcells hpush (fun s Q E e k hQ => (LCg.range_walks (prog := prog) (w := w) (A := A) hh a n).self 0 s Q E (by show IsRangeIter _ _ _ _ _; rw [← hsz]; simpa using e) hQ) fun D C cj h tk hne S => ?_
  have W := LCg.range_walks (prog := prog) (w := w) (A := A) (I := s₁.heap.objs.size) hh a n
  refine level_loop (s := s₁) rfl hn W (cfc_ok hne hkind hx) (fun i h st => ⟨_, st⟩) (fun i h h' o st e e' k => by
      have st' : h.get? s₁.heap.objs.size = some _ := st
      show h'.get? s₁.heap.objs.size = some _
      rw [e', ← e]; exact st') Y (fun i v oI mC ys Pr h tk hi hv hY S => turn C cj _ D i v oI mC ys Pr h tk (cfc_ok hne hkind hx) ⟨hi, hv⟩ hY S)
    (by show IsRangeIter _ _ _ _ _; have e := (S.pr _ List.mem_cons_self).1; rw [hsz] at e; simpa using e) S Y0 fun mC ys Pr h tk S hY => ?_
  exact fin C cj D h tk mC ys Pr S hY
theorem post_cell {Q : Value → Shared → Prop} {D C cj : Addr} {x : Str} {h hb : Heap} {mC : Str → Option Value} {ys : List Value} {Pr : List (Addr × Obj)} (S : Stt L m hb (CFc C cj x) [C, cj] D mC ys Pr h) {s : Shared} {tk : Tok} (hQ : ∀ h', OutC L m hb D ys Pr h' → Q (.ref D) { s with heap := h', toks := tk }) :
    compPost (model prog w) A E none Q (.ref D) C (.ok .next) { s with heap := h, toks := tk } := ⟨_, S.cf.1, fun h' hs => hQ h' (S.out List.mem_cons_self hs)⟩
theorem eval_range_cell {elt : Expr} {gs : List Comprehension} {scope : Scope} {cl : List (Str × Addr)} {pos : Pos} {x : Str} {px : Pos} {iter : Expr} {ifs : List Expr} {Q : Value → Shared → Prop}
    (hn : gs[0]? = none ∨ ∃ t i f, gs[0]? = some ⟨t, i, f, 0⟩)
    (hclos : closureFor scope env = pure cl) (hcells : ∀ n acc, cellsFrom n scope.names acc = (x, n) :: acc) (hpush : ∀ h, pushCells h scope.names = h.push { cls := .type "cell", data := .cell none }) (hkind : scope.kind = .function)
    (hnames : ∀ y ∈ scope.names, y.2 = .local → scope.names.lookup y.1 = some .local) (hx : (relabel scope env).names.lookup x = some .cell) (hh : A.handled = none)
    (Y : Nat → (Str → Option Value) → List Value → List (Addr × Obj) → Prop)
    (h : wpAny (model prog w) A (eval iter env) (fun xv s₁ => Leaf <| ∃ r a b t u v n, xv = .ref r ∧ IsRange s₁.heap r a b 1 t u v ∧ Builtin.Range.small a b 1 = true ∧ Builtin.Range.rangeSize a b 1 = ((n : Nat) : Int) ∧ Fr h₀ L s₁.heap m ∧
      (∀ C cj I D i v oI mC ys Pr h tk, CFok prog w A (compEnvC scope ((x, cj) :: cl) C env) x px (CFc C cj x) [C, cj] → (i < n ∧ ∃ t, v = .int (a + (i : Int)) t) → Y i mC ys Pr → Stt L m s₁.heap (CFc C cj x) [C, cj] D (fun y => if y = x then some v else mC y) ys ((I, oI) :: Pr) h →
        TurnOk prog w A elt (⟨.Name x px, iter, ifs, 0⟩ :: gs) scope pos 0 ifs I D (compEnvC scope ((x, cj) :: cl) C env) (fun s₄ => ∃ h' tk' mC' ys' Pr', s₄ = { s₁ with heap := h', toks := tk' } ∧ Stt L m s₁.heap (CFc C cj x) [C, cj] D mC' ys' ((I, oI) :: Pr') h' ∧ Y (i + 1) mC' ys' Pr') { s₁ with heap := h, toks := tk }) ∧
      Y 0 (fun _ => none) [] [] ∧
      (∀ C cj D h tk mC ys Pr, Stt L m s₁.heap (CFc C cj x) [C, cj] D mC ys Pr h → Y n mC ys Pr → compPost (model prog w) A E none Q (.ref D) C (.ok .next) { s₁ with heap := h, toks := tk })) E s)
    (hs : ∀ x, foldedSetIterable iter env x = pure x := by intro _; rfl) :
    wpAny (model prog w) A (eval (.ListComp elt (⟨.Name x px, iter, ifs, 0⟩ :: gs) scope pos) env) Q E s := by
  rw [eval_ListComp]
  exact comp_range_cell hn hclos hcells hpush hkind hnames hx hh Y h hs
end
end Mine
end

section
open PySem PySem.W PyProof.Rows PySem.Calls
namespace Mine
/-- a fact put by -/
structure Kp (P : Prop) : Prop where
  out : P
noncomputable def above (h₀ : Heap) (L : Addr) (h : Heap) : List (Addr × Obj) := (List.range h.objs.size).filterMap fun a => if a = L ∨ (h₀.get? a).isSome then none else (h.get? a).map fun o => (a, o)
theorem mem_above {h₀ h : Heap} {L : Addr} {p : Addr × Obj} : p ∈ above h₀ L h ↔ h.get? p.1 = some p.2 ∧ p.1 ≠ L ∧ h₀.get? p.1 = none := by
  obtain ⟨a, o⟩ := p
  simp only [above, List.mem_filterMap, List.mem_range]
  constructor
  · rintro ⟨b, hb, e⟩
    split at e
    · cases e
    · rename_i hn
      cases q : h.get? b with
      | none => rw [q] at e; cases e
      | some o' =>
        rw [q] at e
        cases e
        refine ⟨q, fun e => hn (.inl e), ?_⟩
        cases q' : h₀.get? a with
        | none => rfl
        | some _ => exact absurd (.inr (by rw [q']; rfl)) hn
  · rintro ⟨e1, e2, e3⟩
    refine ⟨a, Heap.lt_size e1, ?_⟩
    have e3' : h₀.get? a = none := e3
    have e1' : h.get? a = some o := e1
    rw [if_neg (fun q => q.elim (fun q => e2 q) fun q => by rw [e3'] at q; cases q), e1']
    rfl
section
variable {h₀ h h' hb : Heap} {L : Addr} {m m' : Str → Option Value} {news : List (Addr × Obj)}
theorem news_above (N : News h₀ L h news) : News h₀ L h (news ++ above h₀ L h) := fun p hp => by
  rcases List.mem_append.mp hp with hp | hp
  · exact N p hp
  · exact mem_above.mp hp
theorem news_kept (N : News h₀ L h news) (k : ∀ b o, b ≠ L → h.get? b = some o → h'.get? b = some o) : News h₀ L h' news := fun p hp => ⟨k _ _ (N p hp).2.1 (N p hp).1, (N p hp).2⟩
theorem fr_kept (F : Fr h₀ L h m) (k : ∀ b o, b ≠ L → h.get? b = some o → h'.get? b = some o) (n : h'.Ns L m') : Fr h₀ L h' m' :=
  ⟨n, fun b o e => k b o (fun q => by rw [q, Heap.get?_none_of_le F.above] at e; cases e) (F.keep b o e), F.above⟩
theorem kept_of (F : Fr h₀ L h m) (F' : Fr h₀ L h' m') (N' : ∀ p ∈ above h₀ L h, h'.get? p.1 = some p.2) : ∀ b o, b ≠ L → h.get? b = some o → h'.get? b = some o := fun b o hb e => by
  cases q : h₀.get? b with
  | none => exact N' (b, o) (mem_above.mpr ⟨e, hb, q⟩)
  | some o' =>
    have e' := F.keep b o' q
    rw [e] at e'
    cases e'
    exact F'.keep b o q
end
section
variable {prog : Program} {w : World} {A : Around} {L : Addr} {m : Str → Option Value} {hb : Heap} {CF : (Str → Option Value) → Heap → Prop} {fs : List Addr} {D : Addr} {mC : Str → Option Value} {ys : List Value} {Pr : List (Addr × Obj)} {h : Heap} {I : Addr} {oI : Obj}
  {cenv : Env} {x : Str} {px : Pos} {elt : Expr} {gens : List Comprehension} {scope : Scope} {pos : Pos} {d : Nat} {s : Shared} {tk : Tok}
theorem body_val (K : CFok prog w A cenv x px CF fs) (hg : gens[d + 1]? = none) (S : Stt L m hb CF fs D mC ys ((I, oI) :: Pr) h) (hsz : ys.length ≤ sizeLine) {Z : Value → Prop} {E' : Value → Shared → Prop} {Zs : Shared → Prop}
    (he : wpAny (model prog w) A (eval elt cenv) (fun y s₄ => Leaf <| ∃ h₄ tk₄, s₄ = { s with heap := h₄, toks := tk₄ } ∧ h₄.Ns L m ∧ (∀ b o, b ≠ L → h.get? b = some o → h₄.get? b = some o) ∧ Z y) E' { s with heap := h, toks := tk })
    (fin : ∀ y h' tk', Z y → Stt L m hb CF fs D mC (ys ++ [y]) ((I, oI) :: Pr) h' → Zs { s with heap := h', toks := tk' }) :
    wpAny (model prog w) A (compBody elt gens scope pos d (.ref I) (.ref D) cenv) (fun f s₄ => f = .again (.compLoop (.ListComp elt gens scope pos) d (.ref I) (.ref D) cenv) ∧ Zs s₄) E' { s with heap := h, toks := tk } := by
  refine body_last hg (wpAny_mono he (fun y s₄ h₄ => ?_) fun _ _ e => e)
  obtain ⟨h₄, tk₄, rfl, n₄, k₄, hZ⟩ := h₄
  have S₄ := S.grow K k₄ n₄
  refine append_at (hsz := by rw [List.size_toArray]; exact hsz) S₄.d fun h₅ hs₅ hD₅ => ?_
  exact fin y h₅ tk₄ hZ (S₄.emit K hs₅ (hD₅.trans (congrArg some (LCg.lst_snoc ys y))))
theorem body_ref (K : CFok prog w A cenv x px CF fs) (hg : gens[d + 1]? = none) (S : Stt L m hb CF fs D mC ys ((I, oI) :: Pr) h) (hsz : ys.length ≤ sizeLine) {Z : Obj → Prop} {E' : Value → Shared → Prop} {Zs : Shared → Prop}
    (he : wpAny (model prog w) A (eval elt cenv) (fun y s₄ => Leaf <| ∃ h₄ tk₄ a o, s₄ = { s with heap := h₄, toks := tk₄ } ∧ h₄.Ns L m ∧ (∀ b o, b ≠ L → h.get? b = some o → h₄.get? b = some o) ∧ y = .ref a ∧ h.get? a = none ∧ a ≠ L ∧ h₄.get? a = some o ∧ Z o) E' { s with heap := h, toks := tk })
    (fin : ∀ a o h' tk', Z o → Stt L m hb CF fs D mC (ys ++ [.ref a]) ((I, oI) :: (Pr ++ [(a, o)])) h' → Zs { s with heap := h', toks := tk' }) :
    wpAny (model prog w) A (compBody elt gens scope pos d (.ref I) (.ref D) cenv) (fun f s₄ => f = .again (.compLoop (.ListComp elt gens scope pos) d (.ref I) (.ref D) cenv) ∧ Zs s₄) E' { s with heap := h, toks := tk } := by
  refine body_last hg (wpAny_mono he (fun y s₄ h₄ => ?_) fun _ _ e => e)
  obtain ⟨h₄, tk₄, a, o, rfl, n₄, k₄, rfl, hn, hL, ho, hZ⟩ := h₄
  have S₄ := S.snoc K k₄ n₄ hn hL ho
  refine append_at (hsz := by rw [List.size_toArray]; exact hsz) S₄.d fun h₅ hs₅ hD₅ => ?_
  exact fin a o h₅ tk₄ hZ (S₄.emit K hs₅ (hD₅.trans (congrArg some (LCg.lst_snoc ys (.ref a)))))
end
/-- the distances, by places -/
def nthI (l : List Int) (j : Int) : Int := l.getD j.toNat 0
def farv (l : List Int) (j k : Int) : Int := if j < k then wheel (nthI l j) (nthI l k) else 0
theorem five_cases {j : Int} (h0 : 0 ≤ j) (h1 : j < 5) : j = 0 ∨ j = 1 ∨ j = 2 ∨ j = 3 ∨ j = 4 := by omega
end Mine
end

section
open PySem PySem.W PyProof.Rows PySem.Calls
namespace Mine
section
variable {prog : Program} {w : World} {A : Around} {L : Addr} {m : Str → Option Value} {hb : Heap} {CF : (Str → Option Value) → Heap → Prop} {fs : List Addr} {D : Addr} {mC : Str → Option Value} {ys : List Value} {Pr : List (Addr × Obj)} {h : Heap} {I : Addr} {oI : Obj}
  {cenv : Env} {x : Str} {px : Pos} {elt : Expr} {gens : List Comprehension} {scope : Scope} {pos : Pos} {d : Nat} {s : Shared} {tk : Tok}
theorem turn_test (K : CFok prog w A cenv x px CF fs) {c : Expr} (S : Stt L m hb CF fs D mC ys Pr h) (B : Bool) {Z : Shared → Prop}
    (ht : ∀ E' : Value → Shared → Prop, wpAny (model prog w) A (isTrue c cenv (eval c cenv)) (fun b s₃ => Leaf (b = B ∧ ∃ h₄ tk₄, s₃ = { s with heap := h₄, toks := tk₄ } ∧ h₄.Ns L m ∧ (∀ b o, b ≠ L → h.get? b = some o → h₄.get? b = some o))) E' { s with heap := h, toks := tk })
    (yes : B = true → ∀ h' tk', Stt L m hb CF fs D mC ys Pr h' → ∀ E' : Value → Shared → Prop, wpAny (model prog w) A (compBody elt gens scope pos d (.ref I) (.ref D) cenv) (fun f s₄ => f = .again (.compLoop (.ListComp elt gens scope pos) d (.ref I) (.ref D) cenv) ∧ Z s₄) E' { s with heap := h', toks := tk' })
    (no : B = false → ∀ h' tk', Stt L m hb CF fs D mC ys Pr h' → Z { s with heap := h', toks := tk' }) :
    TurnOk prog w A elt gens scope pos d [c] I D cenv Z { s with heap := h, toks := tk } := by
  intro E'
  refine wpAny_tests_one (wpAny_mono (ht E') (fun b s₃ h₃ => ?_) fun _ _ e => e)
  obtain ⟨rfl, h₄, tk₄, rfl, n₄, k₄⟩ := h₃
  have S₄ := S.grow K k₄ n₄
  cases b with
  | true => rw [if_pos rfl]; exact yes rfl h₄ tk₄ S₄ E'
  | false => rw [if_neg (by decide)]; exact no rfl h₄ tk₄ S₄
theorem body_list {C : Addr} {x' : Str} {px' : Pos} {iter' : Expr} {ifs' : List Expr} (hg : gens[d + 1]? = some ⟨.Name x' px', iter', ifs', 0⟩) (hn : gens[d + 1 + 1]? = none ∨ ∃ t i f, gens[d + 1 + 1]? = some ⟨t, i, f, 0⟩) (hs : ∀ x, foldedSetIterable iter' cenv x = pure x)
    (K' : CFok prog w A cenv x' px' (CFp C) [C]) (S : Stt L m hb (CFp C) [C] D mC ys Pr h) (hh : A.handled = none) {ax : Addr} {its : Array Value} (hl : hb.IsList ax its) (haL : ax ≠ L) {E' : Value → Shared → Prop} {Zs : Shared → Prop}
    (he : wpAny (model prog w) A (eval iter' cenv) (fun xv s₁ => Leaf (xv = .ref ax ∧ ∃ tk₁, s₁ = { s with heap := h, toks := tk₁ })) E' { s with heap := h, toks := tk })
    (Y : Nat → (Str → Option Value) → List Value → List (Addr × Obj) → Prop)
    (turn : ∀ I' i v oI mC ys Pr h tk, its[i]? = some v → Y i mC ys Pr → Stt L m hb (CFp C) [C] D (fun y => if y = x' then some v else mC y) ys ((I', oI) :: Pr) h →
      TurnOk prog w A elt gens scope pos (d + 1) ifs' I' D cenv (fun s₄ => ∃ h' tk' mC' ys' Pr', s₄ = { s with heap := h', toks := tk' } ∧ Stt L m hb (CFp C) [C] D mC' ys' ((I', oI) :: Pr') h' ∧ Y (i + 1) mC' ys' Pr') { s with heap := h, toks := tk })
    (Y0 : Y 0 mC ys Pr)
    (fin : ∀ mC ys Pr h tk, Stt L m hb (CFp C) [C] D mC ys Pr h → Y its.size mC ys Pr → Zs { s with heap := h, toks := tk }) :
    wpAny (model prog w) A (compBody elt gens scope pos d (.ref I) (.ref D) cenv) (fun f s₄ => f = .again (.compLoop (.ListComp elt gens scope pos) d (.ref I) (.ref D) cenv) ∧ Zs s₄) E' { s with heap := h, toks := tk } := by
  refine body_next hg hs (wpAny_mono he (fun xv s₁ h₁ => ?_) fun _ _ e => e)
  obtain ⟨rfl, tk₁, rfl⟩ := h₁
  have stL : ∀ h : Heap, (∀ b o, b ≠ L → hb.get? b = some o → h.get? b = some o) → h.IsList ax its := fun h k => hl.at fun o e => k _ _ haL e
  have hl' := stL h S.kb
  refine wpAny_pyIter_list hl' ?_
  have hlt : ax < h.objs.size := by obtain ⟨_, e, _⟩ := hl'; exact Heap.lt_size e
  have hLlt : L < h.objs.size := S.ns.lt
  have fr : h.get? h.objs.size = none := by
    cases e : h.get? h.objs.size with
    | none => rfl
    | some o' => exact absurd (Heap.lt_size e) (Nat.lt_irrefl _)
  have S' := S.cons K' (h' := h.push { cls := .type "list_iterator", data := .fields #[.ref ax, .int 0 0] }) (fun b o _ e => Heap.get?_push_of_some _ e) (S.ns.at' fun o e => Heap.get?_push_of_some _ e) fr (Nat.ne_of_gt hLlt) (Heap.get?_push_size _ rfl)
  have W := Walks.list (prog := prog) (w := w) (A := A) hh h.objs.size ax (Nat.ne_of_lt hlt) its
  have go : ∀ tk₂, codeAny (model prog w) A (.compLoop (.ListComp elt gens scope pos) (d + 1) (.ref h.objs.size) (.ref D) cenv) (fun r s' => match r with | .ok _ => Zs s' | .error e => cameBackBy (model prog w) A cenv E' e s')
      { s with heap := h.push { cls := .type "list_iterator", data := .fields #[.ref ax, .int 0 0] }, toks := tk₂ } := fun tk₂ => by
    refine level_loop (s := s) hg hn W K' (fun i h st => by obtain ⟨o, e, _⟩ := st.1; exact ⟨o, e⟩) (fun i h h' o st e e' k => ⟨by obtain ⟨o', q, r⟩ := st.1; rw [e] at q; cases q; exact ⟨o, e', r⟩, stL _ k⟩) Y (fun i v oI mC ys Pr h tk hi hv hY S => turn _ i v oI mC ys Pr h tk hv hY S)
      ⟨⟨_, (S'.pr _ List.mem_cons_self).1, rfl, rfl⟩, stL _ S'.kb⟩ S' Y0 fun mC ys Pr h tk S hY => fin mC ys Pr h tk S hY
  exact codeAny_compStart_gen hg (go tk₁) (wpAny_pyIter_listiter (l := ax) (i := 0) ⟨_, (S'.pr _ List.mem_cons_self).1, rfl, rfl⟩ (go tk₁))
end
/-- which three stand for a triple -/
def triObj (f : Int → Int → Int) (t : Int × Int × Int) (o : Obj) : Prop := ∃ a b e c, o = listOf [Value.int (f t.1 t.2.1) a, Value.int (f t.1 t.2.2) b, Value.int (f t.2.1 t.2.2) e].toArray c
inductive Tris (f : Int → Int → Int) : List (Addr × Obj) → List (Int × Int × Int) → Prop
  | nil : Tris f [] []
  | cons {p t l k} : triObj f t p.2 → Tris f l k → Tris f (p :: l) (t :: k)
theorem Tris.snoc {f : Int → Int → Int} {p : Addr × Obj} {t : Int × Int × Int} (h : triObj f t p.2) : ∀ {l k}, Tris f l k → Tris f (l ++ [p]) (k ++ [t])
  | _, _, .nil => .cons h .nil
  | _, _, .cons a r => .cons a (Tris.snoc h r)
theorem Tris.len {f : Int → Int → Int} : ∀ {l k}, Tris f l k → l.length = k.length
  | _, _, .nil => rfl
  | _, _, .cons _ r => by simp [Tris.len r]
def T2 (j k : Int) (ms : List Int) : List (Int × Int × Int) := (ms.filter fun m => decide (j < k) && decide (k < m)).map fun m => (j, k, m)
def T1 (gl : List Int) (j : Int) (ks : List Int) : List (Int × Int × Int) := ks.flatMap fun k => T2 j k gl
def T0 (gl js : List Int) : List (Int × Int × Int) := js.flatMap fun j => T1 gl j gl
theorem take_snoc {α : Type} {l : List α} {i : Nat} {v : α} (e : l[i]? = some v) : l.take (i + 1) = l.take i ++ [v] := by
  rw [List.take_add_one, e]; rfl
end Mine
end

section
open PySem PySem.W PyProof.Rows PySem.Calls
namespace Mine
/-- a flag for a walk's stop -/
structure StopHere : Prop where
section
variable {prog : Program} {w : World} {A : Around} {E : Value → Shared → Prop} {s : Shared} {h₀ : Heap} {L : Addr} {m : Str → Option Value} {env : Env}
theorem assign_range {elt : Expr} {gs : List Comprehension} {scope : Scope} {cl : List (Str × Addr)} {pos : Pos} {x : Str} {px : Pos} {iter : Expr} {ifs : List Expr} {Q : Flow → Shared → Prop}{y : Str} {py spos : Pos}
    (hsw : swapsWith (.ListComp elt (⟨.Name x px, iter, ifs, 0⟩ :: gs) scope pos) (some (.Name y py)) spos.line env = pure true)
    (hn : gs[0]? = none ∨ ∃ t i f, gs[0]? = some ⟨t, i, f, 0⟩)
    (hclos : closureFor scope env = pure cl) (hcell : ∀ y ∈ scope.names, y.2 ≠ .cell) (hkind : scope.kind = .function)
    (hnames : ∀ y ∈ scope.names, y.2 = .local → scope.names.lookup y.1 = some .local) (hx : scope.names.lookup x = some .local) (hh : A.handled = none)
    (Y : Nat → (Str → Option Value) → List Value → List (Addr × Obj) → Prop)
    (h : wpAny (model prog w) A (eval iter env) (fun xv s₁ => Leaf <| ∃ r a b t u v n, xv = .ref r ∧ IsRange s₁.heap r a b 1 t u v ∧ Builtin.Range.small a b 1 = true ∧ Builtin.Range.rangeSize a b 1 = ((n : Nat) : Int) ∧ Fr h₀ L s₁.heap m ∧
      (∀ C I D i v oI mC ys Pr h tk, CFok prog w A (compEnvC scope cl C env) x px (CFp C) [C] → (i < n ∧ ∃ t, v = .int (a + (i : Int)) t) → Y i mC ys Pr → Stt L m s₁.heap (CFp C) [C] D (fun y => if y = x then some v else mC y) ys ((I, oI) :: Pr) h →
        TurnOk prog w A elt (⟨.Name x px, iter, ifs, 0⟩ :: gs) scope pos 0 ifs I D (compEnvC scope cl C env) (fun s₄ => ∃ h' tk' mC' ys' Pr', s₄ = { s₁ with heap := h', toks := tk' } ∧ Stt L m s₁.heap (CFp C) [C] D mC' ys' ((I, oI) :: Pr') h' ∧ Y (i + 1) mC' ys' Pr') { s₁ with heap := h, toks := tk }) ∧
      Y 0 (fun _ => none) [] [] ∧
      (∀ C D h tk mC ys Pr, Stt L m s₁.heap (CFp C) [C] D mC ys Pr h → Y n mC ys Pr → compPost (model prog w) A E (some (assign (.Name y py) env)) (fun _ s' => Q .next s') (.ref D) C (.ok .next) { s₁ with heap := h, toks := tk })) E s)
    (hs : ∀ x, foldedSetIterable iter env x = pure x := by intro _; rfl) :
    wpAny (model prog w) A (exec (.Assign [.Name y py] (.ListComp elt (⟨.Name x px, iter, ifs, 0⟩ :: gs) scope pos) spos) env) Q E s := by
  rw [exec_Assign_Name_used _ _ _ _ hsw]
  refine wpAny_bind (wpAny_standAt (wpAny_bind ?_))
  show wpAny _ A (do let _ ← comprehension (.ListComp elt (⟨.Name x px, iter, ifs, 0⟩ :: gs) scope pos) scope env _ (newList []) false (eval iter env) (some (assign (.Name y py) env))) _ _ s
  exact wpAny_bind (wpAny_mono (comp_range (use := some (assign (.Name y py) env)) (Q := fun _ s' => Q .next s') hn hclos hcell hkind hnames hx hh Y h hs) (fun _ s' hq => wpAny_pure (wpAny_pure hq)) fun _ _ e => e)
end
section
variable {prog : Program} {w : World} {A : Around} {E : Value → Shared → Prop} {s : Shared} {Q : Value → Shared → Prop} {a b : Int} {t u : Tok}
theorem eq_yes (h : a = b) (hq : Q (.bool true) s) : wpAny (model prog w) A (compareOp .Eq (.int a t) (.int b u)) Q E s := PyProof.Rows.eq_int (by rw [h, beq_self_eq_true]; exact hq)
theorem eq_no (h : ¬ a = b) (hq : Q (.bool false) s) : wpAny (model prog w) A (compareOp .Eq (.int a t) (.int b u)) Q E s := PyProof.Rows.eq_int (by rw [beq_false_of_ne h]; exact hq)
end
theorem int_at {vs : List Value} {ns : List Int} (h : IntsAre vs ns) {k : Int} (h0 : 0 ≤ k) (h1 : k < ns.length) : ∃ t, vs[k.toNat]? = some (.int (nthI ns k) t) := by
  have e : ns[k.toNat]? = some (nthI ns k) := by
    have hk : k.toNat < ns.length := by omega
    simp [nthI, List.getElem?_eq_getElem hk]
  exact h.get _ _ e
end Mine
end

section
open PySem PySem.W PyProof.Rows PySem.Calls Mine
set_option maxHeartbeats 8000000
local macro_rules | `(tactic| ktr_enter) => `(tactic| first | (refine' pure_enter ?k1 ?k2 ?k6 ?k7 ?k8 ?k9 ?kB ?_ ?c2 ?c3 ?c4 ?c5; (case k1 => k_asm); (case k2 => k_asm); (case k6 => k_is); (case k7 => k_is); (case k8 => ((try dsimp only); omega)); (case k9 => exact BindsTo.of_eq rfl); (case c5 => decide); (case kB => exact locs rfl); (case c2 => exact rfl); (case c3 => exact rfl); (case c4 => exact rfl); k_whole; intro g' h' hg' F' N' X' T'; (try dsimp only); (try k_fold)) | (refine' pure_enterC ?k1 ?k2 ?k6 ?k7 ?k8 ?k9 ?kB ?kD ?_ ?c2 ?c3 ?c4; (case k1 => k_asm); (case k2 => k_asm); (case k6 => k_is); (case k7 => k_is); (case k8 => ((try dsimp only); omega)); (case k9 => exact BindsTo.of_eq rfl); (case kB => exact rfl); (case kD => decide +kernel); (case c2 => exact rfl); (case c3 => exact rfl); (case c4 => exact rfl); k_whole; intro g' h' tk' cells' hg' F' N' Y' X' T'; k_cells Y'; (try simp only [List.cons_append, List.nil_append] at N'); (try dsimp only); (try k_fold)))
local macro_rules | `(tactic| k_ne) => `(tactic| (refine neN ?_; (try dsimp only); first | assumption | exact Ne.symm (by assumption) | exact Nat.ne_of_lt (by assumption) | exact Nat.ne_of_gt (by assumption) | (simp; done) | ((repeat (rename (_ ∧ _) => h9; obtain ⟨_, _⟩ := h9)); first | assumption | exact Ne.symm (by assumption) | exact Nat.ne_of_lt (by assumption) | exact Nat.ne_of_gt (by assumption)) | omega))
local macro_rules | `(tactic| k_steps) => `(tactic| repeat' (first | (k_unfold; (try dsimp only)) | (dsimp only; k_unfold; (try dsimp only)) | walk1 | (dsimp only; walk1) | (leave1; walk_say "STEP leave1"; try dsimp only) | fail "no step"))

section
open PySem PySem.W PyProof.Rows PySem.Calls
set_option maxHeartbeats 8000000
namespace Mine


theorem sub_claim (w : World) (p : Program) (loose : List Str) (mean : ExcName → Option Value) (mg mb : Str → Option Value) (x y : Str) (tx ty : Tok) (hx : x.length ≤ 40) (hy : y.length ≤ 40) :
   Pure PySem.Challenge.rw_pg0276_01.row.prog w (Mine.hd.heap_39 w.params) p loose mean mg mb 1 45 [.str x tx, .str y ty] (OutI (subC x y)) := by
  w_on
  w_strict (
    unfold Pure
    intro dp un gd fl s Q E X T hd hu hret
    refine wpAny_call ?_
    k_dflt ktr_enter
    k_steps
    skip)
  all_goals (rename (_ = Shared.heap _) => hgE; subst hgE; rename Fr _ _ _ _ => F'; exact hret _ _ _ F'.keep (outI_of (by simp [subC, *])))

end Mine
end

section
open PySem PySem.W PyProof.Rows PySem.Calls
set_option maxHeartbeats 8000000
namespace Mine
abbrev OutT (r : UInt64 × UInt64 × UInt64) : Heap → Heap → Value → Prop := fun h h' v => ∃ a x y z t1 t2 t3, r = (x, y, z) ∧ v = .ref a ∧ h.get? a = none ∧ h'.get? a = some { cls := .type "tuple", data := .seq #[.float x t1, .float y t2, .float z t3] }
theorem outT_of {r : UInt64 × UInt64 × UInt64} {x y z : UInt64} {a : Addr} {t1 t2 t3 : Tok} {h h' : Heap} {L : Addr} {news : List (Addr × Obj)} (N : News h L h' news)
    (hm : (a, ({ cls := .type "tuple", data := .seq #[.float x t1, .float y t2, .float z t3] } : Obj)) ∈ news) (e : r = (x, y, z)) : OutT r h h' (.ref a) :=
  ⟨a, x, y, z, t1, t2, t3, e, rfl, N.fresh hm, N.get hm⟩
theorem big_no {n : Nat} (h : 2 ^ 1024 - 2 ^ 970 ≤ n) (h2 : n < 2 ^ 63) : False := by
  have : (2 : Nat) ^ 63 < 2 ^ 1024 - 2 ^ 970 := by decide +kernel
  omega
theorem hsv_claim (w : World) (p : Program) (loose : List Str) (mean : ExcName → Option Value) (mg mb : Str → Option Value) (x y z : UInt64) (tx ty tz : Tok)
   (hy : (Float64.cmp y 0 == some Ordering.eq) = false) (hn : Float64.isNaN (Float64.mul x 4618441417868443648) = false) (hf : Float64.isInf (Float64.mul x 4618441417868443648) = false)
   (h0 : 0 ≤ hueI x) (h1 : hueI x ≤ 6) :
   Pure PySem.Challenge.rw_pg0276_01.row.prog w (Mine.hd.heap_39 w.params) p loose mean mg mb 1 59 [.float x tx, .float y ty, .float z tz] (OutT (hsvR x y z)) := by
  w_on
  w_strict (
    unfold Pure
    intro dp un gd fl s Q E X T hd hu hret
    refine wpAny_call ?_
    k_dflt ktr_enter
    k_steps)
  all_goals (try (exfalso; first | (simp_all; done) | (exact big_no (by assumption) (by unfold hueI at h0 h1; omega))))
  all_goals (try (rename (_ = Shared.heap _) => hgE; subst hgE; rename Fr _ _ _ _ => F'; rename News _ _ _ _ => N'; exact hret _ _ _ F'.keep (outT_of N' (List.Mem.head _) (by simp_all [hsvR, hueI, hueF, hsvP, hsvQ, hsvT]))))
  all_goals (exfalso; have q1 := Int.fmod_lt_of_pos (hueI x) (show (0 : Int) < 6 by decide); have q2 := Int.fmod_nonneg_of_pos (hueI x) (show (0 : Int) < 6 by decide); unfold hueI at q1 q2; omega)

end Mine
end

section
open PySem PySem.W PyProof.Rows PySem.Calls
set_option maxHeartbeats 8000000
namespace Mine
section
variable {M : Model} {A : Around} {E : Value → Shared → Prop} {s : Shared} {h₀ : Heap} {L : Addr} {m : Str → Option Value}
theorem ld_nlaw {n : Str} {scope : Scope} {fa : Addr} {cd : Value} {x : Str} {pos : Pos} {v : Value} {Q : Value → Shared → Prop} (F : Fr h₀ L s.heap m) (hv : m x = some v) (hk : (envOfC n scope L fa cd).scope.kind = .function) (hl : (envOfC n scope L fa cd).kindOf x = some .local) (hd : (x == ("__debug__" : Str)) = false) (h : Q v s) :
    wpAny M A (eval (.Name x pos) (envOfC n scope L fa cd)) Q E s := wpAny_Name (wpAny_loadName_local hk hl F.ns hv h) hd
end
section
variable {prog : Program} {w : World} {A : Around} {E : Value → Shared → Prop} {s : Shared} {Q : Value → Shared → Prop}
theorem item_six {c : Bool} {i : Int} {t u : Tok} {value slice : Expr} (h1 : 0 ≤ i) (h2 : i < 6)
    (h : Q (.str (pick c (Str.ofString "ABCDEF") (Str.ofString "abcdef") i) s.toks) { s with toks := s.toks + 1 })
    (hs : ∀ z, subscripted slice false (.str z t) (.int i u) = operate [.str z t, .int i u] (getItem (.str z t) (.int i u)))
    (hv : ∀ z r, letTemporaryGo value (.str z t) r = pure ()) :
    wpAny (model prog w) A (subscriptTail value slice (.str (if c = true then Str.ofString "ABCDEF" else Str.ofString "abcdef") t) (.int i u)) Q E s :=
  item_ite h1 h2 h2 (by decide) (by decide) h hs hv
end
noncomputable def nameFn : Option FuncData := match (hd.heap_39 p0).lookup 212 with
  | some o => (match o.data with | .func fd => some fd | _ => none)
  | none => none
noncomputable def nameScope : Scope := match nameFn with | some fd => fd.scope | none => { kind := .module, names := [], isGenerator := false, isCoroutine := false }
noncomputable def nameStmts : List Stmt := match nameFn with | some fd => (match fd.body with | .stmts b => b | _ => []) | none => []
noncomputable def nameBody : List Stmt := match nameStmts[1]? with | some (Stmt.For _ _ b _ _) => b | _ => []
local macro_rules | `(tactic| walk_at "CompSrc") => `(tactic| (k_here; k_dflt (refine LCg.CompSrc.range (by rfl) (by k_asm) (by k_asm) (by assumption) (by first | decide | rfl) (by first | rfl | decide) (by first | size_fits | exact Nat.le_of_ble_eq_true rfl) ?_; intro g'; lcg_lit)))
theorem nturn_claim (w : World) (p : Program) (loose : List Str) (mean : ExcName → Option Value) (mg mb : Str → Option Value) (fa : Addr) (cd : Value) (h₀ : Heap) (L : Addr) (m : Str → Option Value) (place t : Int) (y z : UInt64) (x : Str) (tt tx ty tz tn : Tok) (i : Addr) (oi o1 o2 o3 : Obj) (v2 v3 : Option Value)
  (ht : t = 0 ∨ t = 1) (hp : 0 ≤ place) (hq : place < 12) (hy : Share y) (hz : Share z) (hx : x.length ≤ 6)
  (mn : m (Str.ofString "name") = some (.str x tn)) (mp : m (Str.ofString "place") = some (.int place tx)) (ms : m (Str.ofString "share") = some (.float y ty)) (ml : m (Str.ofString "level") = some (.float z tz))
  (hc1 : o1.data = .cell (some (.int t tt))) (hc2 : o2.data = .cell v2) (hc3 : o3.data = .cell v3) (li : @LT.lt Nat _ (L + 1 + 1 + 1) i)
  (dp un : Nat) (gd : Option (List Code)) (fl : List Env) (s : Shared) (Q : Flow → Shared → Prop) (E : Value → Shared → Prop)
  (X : (Mine.hd.heap_39 w.params).In h₀) (T : Top p loose mean mg mb h₀) (hd : dp + 1 < recursionLimit) (hu : un + 8 * 1 < cLine)
  (F : Fr h₀ L s.heap m)
  (N : News h₀ L s.heap [(i, oi), (L + 1 + 1 + 1, o3), (L + 1 + 1, o2), (L + 1, o1)])
  (hret : ∀ h' tk' t' o2' o3' v2' v3', o2'.data = .cell v2' → o3'.data = .cell v3' → Fr h₀ L h' (fun q => if q = Str.ofString "name" then some (.str (x ++ half (hsvR (hueOf place t) y z) t) t') else m q) →
    News h₀ L h' [(i, oi), (L + 1 + 1 + 1, o3'), (L + 1 + 1, o2'), (L + 1, o1)] → Q .next { s with heap := h', toks := tk' }) :
  wpAny (model PySem.Challenge.rw_pg0276_01.row.prog w) { handled := none, depth := dp, frames := some fl, guards := gd, units := un } (execs nameBody (envOfC (Str.ofString "_law_name") nameScope L fa cd)) Q E s := by
  have t0 : 0 ≤ t := by omega
  have t1 : t < 2 := by omega
  w_on
  obtain ⟨hp', gens, drawn, tk, os⟩ := s
  dsimp only at F N hret
  have eb : nameBody = nameBody := rfl
  conv at eb => { rhs; whnf }
  rw [eb]
  clear eb
  w_strict (repeat' (first | (rename (_ ∧ _) => h9; obtain ⟨_, _⟩ := h9) | (k_unfold; (try dsimp only)) | (dsimp only; k_unfold; (try dsimp only)) | ((with_reducible show wpAny _ _ (loadName _ _) _ _ _); (k_dflt (refine' wpAny_loadName_local ?k ?l ?F ?v ?_; (case F => exact Fr.ns (by k_asm)); (case v => with_reducible assumption); (case k => with_unfolding_all rfl); (case l => with_unfolding_all rfl)))) | ((with_reducible show wpAny _ _ (eval (Expr.Name _ _) _) _ _ _); ((first | (with_reducible show wpAny _ _ (eval (Expr.Name (Str.ofString "place") _) (envOfC _ _ _ _ _)) _ _ _) | (with_reducible show wpAny _ _ (eval (Expr.Name (Str.ofString "share") _) (envOfC _ _ _ _ _)) _ _ _) | (with_reducible show wpAny _ _ (eval (Expr.Name (Str.ofString "level") _) (envOfC _ _ _ _ _)) _ _ _)); k_dflt (refine' ld_nlaw ?F ?v ?k ?l ?d ?_; (case F => k_asm); (case v => with_reducible assumption); (case k => with_unfolding_all rfl); (case l => with_unfolding_all rfl); (case d => decide)))) | ((with_reducible show wpAny _ _ (call (Value.ref _) _ _) _ _ _); (k_here; (with_reducible show wpAny _ _ (call (Value.ref 59) _) _ _ _); k_dflt (refine' hsv_claim _ _ _ _ _ _ _ _ _ _ _ _ ?hy ?hn ?hf ?h0 ?h1 _ _ _ _ _ _ _ ?hX ?hT ?hd ?hu ?_; (case hX => (with_unfolding_all exact Frag.In.keeps (by k_asm) (Fr.keep (by k_asm)))); (case hT => (with_unfolding_all exact Top.keeps (by k_asm) (Fr.keep (by k_asm)))); (case hd => ((try dsimp only); omega)); (case hu => ((try dsimp only); omega)); (case hy => exact share_ok (by assumption)); (case hn => exact (hue_ok (by assumption) (by assumption) (by assumption)).1); (case hf => exact (hue_ok (by assumption) (by assumption) (by assumption)).2.1); (case h0 => exact (hue_ok (by assumption) (by assumption) (by assumption)).2.2.1); (case h1 => exact (hue_ok (by assumption) (by assumption) (by assumption)).2.2.2)); intro v9q h9q tk9q K9q O9q; obtain ⟨a9q, x9q, y9q, z9q, t91q, t92q, t93q, er9q, ev9q, hn9q, hg9q⟩ := O9q; subst ev9q; (try dsimp only at K9q hn9q hg9q); (rename Fr _ _ _ _ => F8q); (rename News _ _ _ _ => N8q); (have F9q := after_fr F8q K9q); (have N9q := after_more F8q N8q K9q hn9q hg9q); (have ne9q := after_ne N8q hn9q); (try simp only [AllNe, and_true] at ne9q); clear hg9q hn9q F8q N8q)) | ((with_reducible show wpAny _ _ (call (Value.builtin "min") _ _) _ _ _); (k_here; (with_reducible show wpAny _ _ (call (Value.builtin _) [Value.ref _]) _ _ _); k_dflt (refine' min_tupF ?k0 ?k1 ?k2 ?k3 ?k4 ?k5 ?_; (case k0 => rfl); (case k1 => k_asm); (case k2 => k_asm); (case k3 => k_mem); (case k4 => exact .cons _ _ (.cons _ _ (.cons _ _ .nil))); (case k5 => exact Nat.succ_pos _)); intro h'q tk'q t'q F'q N'q)) | ((with_reducible show wpAny _ _ (call (Value.builtin "max") _ _) _ _ _); (k_here; (with_reducible show wpAny _ _ (call (Value.builtin _) [Value.ref _]) _ _ _); k_dflt (refine' max_tupF ?k0 ?k1 ?k2 ?k3 ?k4 ?k5 ?_; (case k0 => rfl); (case k1 => k_asm); (case k2 => k_asm); (case k3 => k_mem); (case k4 => exact .cons _ _ (.cons _ _ (.cons _ _ .nil))); (case k5 => exact Nat.succ_pos _)); intro h'q tk'q t'q F'q N'q)) | ((with_reducible show wpAny _ _ (eval (Expr.IfExp _ _ _ _) _) _ _ _); (with_reducible refine ifexp_str ?_)) | ((with_reducible show wpAny _ _ (eval (Expr.ListComp _ _ _ _) _) _ _ _); (k_here; k_dflt (refine LCg.ListComp_U (F₀ := by k_asm) (by with_unfolding_all rfl) (by decide) (by rfl) (by decide) (by rfl) ?_); k_dflt lcg_toSrc)) | ((with_reducible show wpAny _ _ (subscriptTail (Expr.IfExp _ _ _ _) _ _ _) _ _ _); (k_here; k_dflt (refine kba_turn (value' := PySem.Expr.Name (PySem.Str.ofString "_") ⟨0, 0, 0, 0⟩) (fun _ => rfl) ?_); (with_reducible show wpAny _ _ (subscriptTail _ _ (Value.str (ite _ _ _) _) (Value.int _ _)) _ _ _); k_dflt (refine' item_six ?h1 ?h2 ?_ ?h6 ?h7; (case h1 => omega); (case h2 => omega); (case h6 => (intro _; with_unfolding_all rfl)); (case h7 => (intro _ _; with_unfolding_all rfl))))) | ((with_reducible show wpAny _ _ (call (Value.builtin "str.join") _ _) _ _ _); (k_here; (with_reducible show wpAny _ _ (call (Value.builtin "str.join") _) _ _ _); k_dflt (refine' join3 ?k1 ?k2 ?k3 ?k4 ?k5 ?_; (case k1 => k_asm); (case k2 => k_mem); (case k3 => exact pick_len _ _ _ _); (case k4 => exact pick_len _ _ _ _); (case k5 => exact pick_len _ _ _ _)); intro t'q k'q hj'q)) | (walk1; try dsimp only) | (dsimp only; first | ((with_reducible show wpAny _ _ (loadName _ _) _ _ _); (k_dflt (refine' wpAny_loadName_local ?k ?l ?F ?v ?_; (case F => exact Fr.ns (by k_asm)); (case v => with_reducible assumption); (case k => with_unfolding_all rfl); (case l => with_unfolding_all rfl)))) | ((with_reducible show wpAny _ _ (eval (Expr.Name _ _) _) _ _ _); ((first | (with_reducible show wpAny _ _ (eval (Expr.Name (Str.ofString "place") _) (envOfC _ _ _ _ _)) _ _ _) | (with_reducible show wpAny _ _ (eval (Expr.Name (Str.ofString "share") _) (envOfC _ _ _ _ _)) _ _ _) | (with_reducible show wpAny _ _ (eval (Expr.Name (Str.ofString "level") _) (envOfC _ _ _ _ _)) _ _ _)); k_dflt (refine' ld_nlaw ?F ?v ?k ?l ?d ?_; (case F => k_asm); (case v => with_reducible assumption); (case k => with_unfolding_all rfl); (case l => with_unfolding_all rfl); (case d => decide)))) | ((with_reducible show wpAny _ _ (call (Value.ref _) _ _) _ _ _); (k_here; (with_reducible show wpAny _ _ (call (Value.ref 59) _) _ _ _); k_dflt (refine' hsv_claim _ _ _ _ _ _ _ _ _ _ _ _ ?hy ?hn ?hf ?h0 ?h1 _ _ _ _ _ _ _ ?hX ?hT ?hd ?hu ?_; (case hX => (with_unfolding_all exact Frag.In.keeps (by k_asm) (Fr.keep (by k_asm)))); (case hT => (with_unfolding_all exact Top.keeps (by k_asm) (Fr.keep (by k_asm)))); (case hd => ((try dsimp only); omega)); (case hu => ((try dsimp only); omega)); (case hy => exact share_ok (by assumption)); (case hn => exact (hue_ok (by assumption) (by assumption) (by assumption)).1); (case hf => exact (hue_ok (by assumption) (by assumption) (by assumption)).2.1); (case h0 => exact (hue_ok (by assumption) (by assumption) (by assumption)).2.2.1); (case h1 => exact (hue_ok (by assumption) (by assumption) (by assumption)).2.2.2)); intro v9q h9q tk9q K9q O9q; obtain ⟨a9q, x9q, y9q, z9q, t91q, t92q, t93q, er9q, ev9q, hn9q, hg9q⟩ := O9q; subst ev9q; (try dsimp only at K9q hn9q hg9q); (rename Fr _ _ _ _ => F8q); (rename News _ _ _ _ => N8q); (have F9q := after_fr F8q K9q); (have N9q := after_more F8q N8q K9q hn9q hg9q); (have ne9q := after_ne N8q hn9q); (try simp only [AllNe, and_true] at ne9q); clear hg9q hn9q F8q N8q)) | ((with_reducible show wpAny _ _ (call (Value.builtin "min") _ _) _ _ _); (k_here; (with_reducible show wpAny _ _ (call (Value.builtin _) [Value.ref _]) _ _ _); k_dflt (refine' min_tupF ?k0 ?k1 ?k2 ?k3 ?k4 ?k5 ?_; (case k0 => rfl); (case k1 => k_asm); (case k2 => k_asm); (case k3 => k_mem); (case k4 => exact .cons _ _ (.cons _ _ (.cons _ _ .nil))); (case k5 => exact Nat.succ_pos _)); intro h'q tk'q t'q F'q N'q)) | ((with_reducible show wpAny _ _ (call (Value.builtin "max") _ _) _ _ _); (k_here; (with_reducible show wpAny _ _ (call (Value.builtin _) [Value.ref _]) _ _ _); k_dflt (refine' max_tupF ?k0 ?k1 ?k2 ?k3 ?k4 ?k5 ?_; (case k0 => rfl); (case k1 => k_asm); (case k2 => k_asm); (case k3 => k_mem); (case k4 => exact .cons _ _ (.cons _ _ (.cons _ _ .nil))); (case k5 => exact Nat.succ_pos _)); intro h'q tk'q t'q F'q N'q)) | ((with_reducible show wpAny _ _ (eval (Expr.IfExp _ _ _ _) _) _ _ _); (with_reducible refine ifexp_str ?_)) | ((with_reducible show wpAny _ _ (eval (Expr.ListComp _ _ _ _) _) _ _ _); (k_here; k_dflt (refine LCg.ListComp_U (F₀ := by k_asm) (by with_unfolding_all rfl) (by decide) (by rfl) (by decide) (by rfl) ?_); k_dflt lcg_toSrc)) | ((with_reducible show wpAny _ _ (subscriptTail (Expr.IfExp _ _ _ _) _ _ _) _ _ _); (k_here; k_dflt (refine kba_turn (value' := PySem.Expr.Name (PySem.Str.ofString "_") ⟨0, 0, 0, 0⟩) (fun _ => rfl) ?_); (with_reducible show wpAny _ _ (subscriptTail _ _ (Value.str (ite _ _ _) _) (Value.int _ _)) _ _ _); k_dflt (refine' item_six ?h1 ?h2 ?_ ?h6 ?h7; (case h1 => omega); (case h2 => omega); (case h6 => (intro _; with_unfolding_all rfl)); (case h7 => (intro _ _; with_unfolding_all rfl))))) | ((with_reducible show wpAny _ _ (call (Value.builtin "str.join") _ _) _ _ _); (k_here; (with_reducible show wpAny _ _ (call (Value.builtin "str.join") _) _ _ _); k_dflt (refine' join3 ?k1 ?k2 ?k3 ?k4 ?k5 ?_; (case k1 => k_asm); (case k2 => k_mem); (case k3 => exact pick_len _ _ _ _); (case k4 => exact pick_len _ _ _ _); (case k5 => exact pick_len _ _ _ _)); intro t'q k'q hj'q)) | walk1) | (leave1; walk_say "STEP leave1"; try dsimp only) | fail "no step"))
  rename Fr _ _ _ _ => F9
  rename News _ _ _ _ => N9
  rename (hsvR _ _ _ = _) => e1
  have e : hsvR (hueOf place t) y z = _ := e1
  have N8 := fun q hq => N9 q (.tail _ (.tail _ hq))
  refine' hret _ _ _ _ _ _ _ ?d2 ?d3 ?F N8
  case d2 => with_reducible assumption
  case d3 => with_reducible assumption
  case F =>
    rw [e]
    exact F9
theorem nturn_use {w : World} {p : Program} {loose : List Str} {mean : ExcName → Option Value} {mg mb : Str → Option Value} {fa : Addr} {cd : Value} {h₀ : Heap} {L : Addr} {m : Str → Option Value} {place t : Int} {y z : UInt64} {x : Str} {tt tx ty tz tn : Tok} {i : Addr} {oi o1 o2 o3 : Obj} {v2 v3 : Option Value}
  {dp un : Nat} {gd : Option (List Code)} {fl : List Env} {s : Shared} {Q : Flow → Shared → Prop} {E : Value → Shared → Prop}
  (F : Fr h₀ L s.heap m)
  (N : News h₀ L s.heap [(i, oi), (L + 1 + 1 + 1, o3), (L + 1 + 1, o2), (L + 1, o1)])
  (ht : t = 0 ∨ t = 1) (hp : 0 ≤ place) (hq : place < 12) (hy : Share y) (hz : Share z) (hx : x.length ≤ 6)
  (mn : m (Str.ofString "name") = some (.str x tn)) (mp : m (Str.ofString "place") = some (.int place tx)) (ms : m (Str.ofString "share") = some (.float y ty)) (ml : m (Str.ofString "level") = some (.float z tz))
  (hc1 : o1.data = .cell (some (.int t tt))) (hc2 : o2.data = .cell v2) (hc3 : o3.data = .cell v3) (li : @LT.lt Nat _ (L + 1 + 1 + 1) i)
  (X : (Mine.hd.heap_39 w.params).In h₀) (T : Top p loose mean mg mb h₀) (hd : dp + 1 < recursionLimit) (hu : un + 8 * 1 < cLine)
  (hret : ∀ h' tk' t' o2' o3' v2' v3', o2'.data = .cell v2' → o3'.data = .cell v3' → Fr h₀ L h' (fun q => if q = Str.ofString "name" then some (.str (x ++ half (hsvR (hueOf place t) y z) t) t') else m q) →
    News h₀ L h' [(i, oi), (L + 1 + 1 + 1, o3'), (L + 1 + 1, o2'), (L + 1, o1)] → Q .next { s with heap := h', toks := tk' }) :
  wpAny (model PySem.Challenge.rw_pg0276_01.row.prog w) { handled := none, depth := dp, frames := some fl, guards := gd, units := un } (execs nameBody (envOfC (Str.ofString "_law_name") nameScope L fa cd)) Q E s :=
  nturn_claim w p loose mean mg mb fa cd h₀ L m place t y z x tt tx ty tz tn i oi o1 o2 o3 v2 v3 ht hp hq hy hz hx mn mp ms ml hc1 hc2 hc3 li dp un gd fl s Q E X T hd hu F N hret

end Mine
end

section
open PySem PySem.W PyProof.Rows PySem.Calls
set_option maxHeartbeats 8000000
namespace Mine
local macro_rules | `(tactic| walk_at "none") => `(tactic| fail "none")
theorem half_len (r : UInt64 × UInt64 × UInt64) (t : Int) : (half r t).length = 3 := by rw [cat3_len, pick_len, pick_len, pick_len]
local macro_rules | `(tactic| walk_at "execs cons") => `(tactic| ((with_reducible show wpAny _ _ (execs [Stmt.Assign _ _ _, Stmt.Assign _ _ _, _] _) _ _ _); refine Mark.to ?_))
theorem name_claim (w : World) (p : Program) (loose : List Str) (mean : ExcName → Option Value) (mg mb : Str → Option Value) (place : Int) (y z : UInt64) (tx ty tz : Tok)
   (hp : 0 ≤ place) (hq : place < 12) (hy : Share y) (hz : Share z) :
   Pure PySem.Challenge.rw_pg0276_01.row.prog w (Mine.hd.heap_39 w.params) p loose mean mg mb 2 212 [.int place tx, .float y ty, .float z tz] (OutS (nm place)) := by
  w_on
  w_strict (
    unfold Pure
    intro dp un gd fl s Q E X T hd hu hret
    refine wpAny_call ?_
    k_dflt ktr_enter
    repeat' (first | (rename (_ ∧ _) => h9; obtain ⟨_, _⟩ := h9) | (k_unfold; (try dsimp only)) | (dsimp only; k_unfold; (try dsimp only)) | ((with_reducible show wpAny _ _ (pyIter (Value.ref _)) _ _ _); (k_here; (with_reducible show wpAny _ _ (pyIter (Value.ref _)) (fun it s₂ => TurnsAt _ _ _ _ _ _ _ _ _ it s₂) _ _); (rename Fr _ _ _ _ => lF'q); (rename News _ _ _ _ => lN'q); (rename IsRange _ _ _ _ _ _ _ _ => rgXq); (with_unfolding_all refine' iter_rangeTurns (n := 2) rfl rfl rgXq (by decide) (by decide) lF'q lN'q rfl ?_); clear lF'q lN'q; intro i'q l1q; (try k_lt l1q))) | ((with_reducible show wpAny _ _ (exec (Stmt.For _ _ _ _ _) _) _ _ _); (k_here; (rename Fr _ _ _ _ => lF'q); (with_unfolding_all refine' For_turns lF'q ?_; k_whole))) | (walk1; try dsimp only) | (dsimp only; first | ((with_reducible show wpAny _ _ (pyIter (Value.ref _)) _ _ _); (k_here; (with_reducible show wpAny _ _ (pyIter (Value.ref _)) (fun it s₂ => TurnsAt _ _ _ _ _ _ _ _ _ it s₂) _ _); (rename Fr _ _ _ _ => lF'q); (rename News _ _ _ _ => lN'q); (rename IsRange _ _ _ _ _ _ _ _ => rgXq); (with_unfolding_all refine' iter_rangeTurns (n := 2) rfl rfl rgXq (by decide) (by decide) lF'q lN'q rfl ?_); clear lF'q lN'q; intro i'q l1q; (try k_lt l1q))) | ((with_reducible show wpAny _ _ (exec (Stmt.For _ _ _ _ _) _) _ _ _); (k_here; (rename Fr _ _ _ _ => lF'q); (with_unfolding_all refine' For_turns lF'q ?_; k_whole))) | walk1) | (leave1; walk_say "STEP leave1"; try dsimp only) | fail "no step"))
  refine Mark.mk ?_
  rename Fr _ _ _ _ => F8
  rename News _ _ _ _ => N8
  k_dflt (with_unfolding_all refine' nturn_use (place := place) (t := (0 + ((0 : Nat) : Int))) (y := y) (z := z) (x := (Str.ofString "")) (tx := tx) (ty := ty) (tz := tz) F8 N8 ?ht hp hq hy hz ?hx ?mn ?mp ?ms ?ml ?hc1 ?hc2 ?hc3 ?li ?X ?T ?hd ?hu ?_)
  case ht => exact .inl rfl
  case hx => (exact Nat.zero_le _)
  case mn => with_unfolding_all rfl
  case mp => with_unfolding_all rfl
  case ms => with_unfolding_all rfl
  case ml => with_unfolding_all rfl
  case hc1 => assumption
  case hc2 => assumption
  case hc3 => assumption
  case li => assumption
  case X => with_reducible assumption
  case T => with_reducible assumption
  case hd => ((try dsimp only); omega)
  case hu => ((try dsimp only); omega)
  intro h9 tk9 t9 o29 o39 v29 v39 d29 d39 F9 N9
  clear F8 N8
  w_strict (repeat' (first | (rename (_ ∧ _) => h9; obtain ⟨_, _⟩ := h9) | (k_unfold; (try dsimp only)) | (dsimp only; k_unfold; (try dsimp only)) | ((with_reducible show wpAny _ _ (pyIter (Value.ref _)) _ _ _); (k_here; (with_reducible show wpAny _ _ (pyIter (Value.ref _)) (fun it s₂ => TurnsAt _ _ _ _ _ _ _ _ _ it s₂) _ _); (rename Fr _ _ _ _ => lF'q); (rename News _ _ _ _ => lN'q); (rename IsRange _ _ _ _ _ _ _ _ => rgXq); (with_unfolding_all refine' iter_rangeTurns (n := 2) rfl rfl rgXq (by decide) (by decide) lF'q lN'q rfl ?_); clear lF'q lN'q; intro i'q l1q; (try k_lt l1q))) | ((with_reducible show wpAny _ _ (exec (Stmt.For _ _ _ _ _) _) _ _ _); (k_here; (rename Fr _ _ _ _ => lF'q); (with_unfolding_all refine' For_turns lF'q ?_; k_whole))) | (walk1; try dsimp only) | (dsimp only; first | ((with_reducible show wpAny _ _ (pyIter (Value.ref _)) _ _ _); (k_here; (with_reducible show wpAny _ _ (pyIter (Value.ref _)) (fun it s₂ => TurnsAt _ _ _ _ _ _ _ _ _ it s₂) _ _); (rename Fr _ _ _ _ => lF'q); (rename News _ _ _ _ => lN'q); (rename IsRange _ _ _ _ _ _ _ _ => rgXq); (with_unfolding_all refine' iter_rangeTurns (n := 2) rfl rfl rgXq (by decide) (by decide) lF'q lN'q rfl ?_); clear lF'q lN'q; intro i'q l1q; (try k_lt l1q))) | ((with_reducible show wpAny _ _ (exec (Stmt.For _ _ _ _ _) _) _ _ _); (k_here; (rename Fr _ _ _ _ => lF'q); (with_unfolding_all refine' For_turns lF'q ?_; k_whole))) | walk1) | (leave1; walk_say "STEP leave1"; try dsimp only) | fail "no step"))
  refine Mark.mk ?_
  rename Fr _ _ _ _ => F8
  rename News _ _ _ _ => N8
  k_dflt (with_unfolding_all refine' nturn_use (place := place) (t := (0 + ((1 : Nat) : Int))) (y := y) (z := z) (x := (Str.ofString "" ++ half (hsvR (hueOf place (0 + ((0 : Nat) : Int))) y z) (0 + ((0 : Nat) : Int)))) (tx := tx) (ty := ty) (tz := tz) F8 N8 ?ht hp hq hy hz ?hx ?mn ?mp ?ms ?ml ?hc1 ?hc2 ?hc3 ?li ?X ?T ?hd ?hu ?_)
  case ht => exact .inr rfl
  case hx => (rw [Str.length_append, half_len]; exact Nat.le_of_ble_eq_true rfl)
  case mn => with_unfolding_all rfl
  case mp => with_unfolding_all rfl
  case ms => with_unfolding_all rfl
  case ml => with_unfolding_all rfl
  case hc1 => assumption
  case hc2 => assumption
  case hc3 => assumption
  case li => assumption
  case X => with_reducible assumption
  case T => with_reducible assumption
  case hd => ((try dsimp only); omega)
  case hu => ((try dsimp only); omega)
  intro h9 tk9 t9 o29 o39 v29 v39 d29 d39 F9 N9
  clear F8 N8
  w_strict (repeat' (first | (rename (_ ∧ _) => h9; obtain ⟨_, _⟩ := h9) | (k_unfold; (try dsimp only)) | (dsimp only; k_unfold; (try dsimp only)) | ((with_reducible show wpAny _ _ (pyIter (Value.ref _)) _ _ _); (k_here; (with_reducible show wpAny _ _ (pyIter (Value.ref _)) (fun it s₂ => TurnsAt _ _ _ _ _ _ _ _ _ it s₂) _ _); (rename Fr _ _ _ _ => lF'q); (rename News _ _ _ _ => lN'q); (rename IsRange _ _ _ _ _ _ _ _ => rgXq); (with_unfolding_all refine' iter_rangeTurns (n := 2) rfl rfl rgXq (by decide) (by decide) lF'q lN'q rfl ?_); clear lF'q lN'q; intro i'q l1q; (try k_lt l1q))) | ((with_reducible show wpAny _ _ (exec (Stmt.For _ _ _ _ _) _) _ _ _); (k_here; (rename Fr _ _ _ _ => lF'q); (with_unfolding_all refine' For_turns lF'q ?_; k_whole))) | (walk1; try dsimp only) | (dsimp only; first | ((with_reducible show wpAny _ _ (pyIter (Value.ref _)) _ _ _); (k_here; (with_reducible show wpAny _ _ (pyIter (Value.ref _)) (fun it s₂ => TurnsAt _ _ _ _ _ _ _ _ _ it s₂) _ _); (rename Fr _ _ _ _ => lF'q); (rename News _ _ _ _ => lN'q); (rename IsRange _ _ _ _ _ _ _ _ => rgXq); (with_unfolding_all refine' iter_rangeTurns (n := 2) rfl rfl rgXq (by decide) (by decide) lF'q lN'q rfl ?_); clear lF'q lN'q; intro i'q l1q; (try k_lt l1q))) | ((with_reducible show wpAny _ _ (exec (Stmt.For _ _ _ _ _) _) _ _ _); (k_here; (rename Fr _ _ _ _ => lF'q); (with_unfolding_all refine' For_turns lF'q ?_; k_whole))) | walk1) | (leave1; walk_say "STEP leave1"; try dsimp only) | fail "no step"))
  all_goals (rename (_ = Shared.heap _) => hgE; subst hgE; rename Fr _ _ _ _ => F')
  try dsimp only
  refine hret _ _ _ F'.keep (outS_of ?_)
  exact name_is hp hq hy hz

end Mine
end

section
open PySem PySem.W PyProof.Rows PySem.Calls
set_option maxHeartbeats 8000000
namespace Mine
local macro_rules | `(tactic| walk_at "none") => `(tactic| fail "none")
theorem item_le {x : Str} {i : Int} : (Txt.item x i).length ≤ 40 := by
  rw [show (Txt.item x i).length = 1 from rfl]
  decide
local macro_rules | `(tactic| walk_at "SeqLeaf") => `(tactic| (refine Mark.to ?_))
local macro_rules | `(tactic| walk_at "CntStep") => `(tactic| (refine Mark.to ?_))
theorem cut_ne {A : Str} {k : Int} (h : k ≠ 0) : cutTo A k = Txt.slice A none (some k) := by
  unfold cutTo
  rw [if_pos (by simpa using h)]
theorem cut_eq {A : Str} {k : Int} (h : k = 0) : cutTo A k = Txt.slice A none none := by
  unfold cutTo
  rw [if_neg (by simpa using h)]
theorem dn1 {A B S : Str} {k : Int} (e : cutTo A k = S) (h : (S.length : Int) = 0) : false = dnC A B k := by
  unfold dnC
  rw [e, if_neg (by simpa using h)]
theorem dn2 {A B S U : Str} {k : Int} (e : cutTo A k = S) (e' : cutTo B k = U) (h : (S.length : Int) ≠ 0) (h' : (U.length : Int) = 0) : false = dnC A B k := by
  unfold dnC
  rw [e, e', if_pos (by simpa using h), if_neg (by simpa using h')]
theorem dn3 {A B S U : Str} {k : Int} {c : Bool} (e : cutTo A k = S) (e' : cutTo B k = U) (h : (S.length : Int) ≠ 0) (h' : (U.length : Int) ≠ 0) (h'' : (Txt.item A (k - 1) == Txt.item B (k - 1)) = c) : c = dnC A B k := by
  unfold dnC
  rw [e, e', if_pos (by simpa using h), if_pos (by simpa using h'), h'']
  cases c <;> rfl
theorem pairA_is {a b : Str} {k1 k2 : Int} (h1 : k1 = (preN a b : Int)) (h2 : k2 = -(postN (Txt.slice a (some k1) none) (Txt.slice b (some k1) none) : Int)) : cutTo (Txt.slice a (some k1) none) k2 = pairA a b := by
  rw [h2, h1, pairA]
theorem pairB_is {a b : Str} {k1 k2 : Int} (h1 : k1 = (preN a b : Int)) (h2 : k2 = -(postN (Txt.slice a (some k1) none) (Txt.slice b (some k1) none) : Int)) : cutTo (Txt.slice b (some k1) none) k2 = pairB a b := by
  rw [h2, h1, pairB]
def OutAt (A B : Str) (n : Nat) (r : Int) (row : List Int) : Prop := r = resAt A B n ∧ row = rows A B n
def InAt (A c : Str) (i : Nat) (row0 : List Int) (n : Nat) (d r m : Int) (row : List Int) : Prop := d = (cells A c i row0 n).dist ∧ r = (cells A c i row0 n).res ∧ m = (cells A c i row0 n).low ∧ row = (cells A c i row0 n).row
theorem OutAt.start {A B : Str} : OutAt A B 0 0 (evens A.length) := ⟨rfl, rfl⟩
theorem InAt.start {A B : Str} {n : Nat} {k r : Int} {row : List Int} (h : OutAt A B n r row) (e : k = 0 + (n : Int)) : InAt A (Txt.item B k) n (rows A B n) 0 (k * 2) (k * 2) 9223372036854775807 row := by
  obtain ⟨_, h2⟩ := h
  refine ⟨?_, ?_, rfl, h2⟩
  · show k * 2 = (n : Int) * 2
    omega
  · show k * 2 = (n : Int) * 2
    omega
theorem InAt.len {A B c : Str} {n i : Nat} {d r m : Int} {row : List Int} (h : InAt A c i (rows A B i) n d r m row) : row.length = A.length := by
  obtain ⟨_, _, _, h⟩ := h
  rw [h, cells_len, rows_len]
theorem OutAt.len {A B : Str} {n : Nat} {r : Int} {row : List Int} (h : OutAt A B n r row) : row.length = A.length := by
  rw [h.2, rows_len]
theorem min2 {a b : Int} : (if b < a then b else a) = min a b := by
  by_cases h : b < a
  · rw [if_pos h]; omega
  · rw [if_neg h]; omega
theorem cell_is {A c : Str} {i j : Nat} {row0 row : List Int} {d r m k : Int} (h : InAt A c i row0 j d r m row) (e : k = 0 + (j : Int)) :
    cells A c i row0 (j + 1) = ⟨row.getD k.toNat 0, if d + subC c (Txt.item A k) < (if row.getD k.toNat 0 < r then row.getD k.toNat 0 else r) + 2 then d + subC c (Txt.item A k) else (if row.getD k.toNat 0 < r then row.getD k.toNat 0 else r) + 2,
      if (if d + subC c (Txt.item A k) < (if row.getD k.toNat 0 < r then row.getD k.toNat 0 else r) + 2 then d + subC c (Txt.item A k) else (if row.getD k.toNat 0 < r then row.getD k.toNat 0 else r) + 2) < m then (if d + subC c (Txt.item A k) < (if row.getD k.toNat 0 < r then row.getD k.toNat 0 else r) + 2 then d + subC c (Txt.item A k) else (if row.getD k.toNat 0 < r then row.getD k.toNat 0 else r) + 2) else m,
      row.set k.toNat (if d + subC c (Txt.item A k) < (if row.getD k.toNat 0 < r then row.getD k.toNat 0 else r) + 2 then d + subC c (Txt.item A k) else (if row.getD k.toNat 0 < r then row.getD k.toNat 0 else r) + 2)⟩ := by
  obtain ⟨h1, h2, h3, h4⟩ := h
  have e1 : k = (j : Int) := by omega
  have e2 : k.toNat = j := by omega
  rw [e2, e1, cells_succ, cellStep, h1, h2, h3, h4]
  simp only [min2]
theorem InAt.stepA {A c : Str} {i : Nat} {pre : List Int} {row0 row : List Int} {d r m k : Int} (h : InAt A c i row0 pre.length d r m row) (e : k = 0 + (pre.length : Int))
    (hlt : (if d + subC c (Txt.item A k) < (if row.getD k.toNat 0 < r then row.getD k.toNat 0 else r) + 2 then d + subC c (Txt.item A k) else (if row.getD k.toNat 0 < r then row.getD k.toNat 0 else r) + 2) < m) :
    InAt A c i row0 (pre ++ [k]).length (row.getD k.toNat 0) (if d + subC c (Txt.item A k) < (if row.getD k.toNat 0 < r then row.getD k.toNat 0 else r) + 2 then d + subC c (Txt.item A k) else (if row.getD k.toNat 0 < r then row.getD k.toNat 0 else r) + 2)
      (if d + subC c (Txt.item A k) < (if row.getD k.toNat 0 < r then row.getD k.toNat 0 else r) + 2 then d + subC c (Txt.item A k) else (if row.getD k.toNat 0 < r then row.getD k.toNat 0 else r) + 2)
      (row.set k.toNat (if d + subC c (Txt.item A k) < (if row.getD k.toNat 0 < r then row.getD k.toNat 0 else r) + 2 then d + subC c (Txt.item A k) else (if row.getD k.toNat 0 < r then row.getD k.toNat 0 else r) + 2)) := by
  have q := cell_is h e
  rw [if_pos hlt] at q
  unfold InAt
  rw [List.length_append, List.length_singleton, q]
  exact ⟨rfl, rfl, rfl, rfl⟩
theorem InAt.stepB {A c : Str} {i : Nat} {pre : List Int} {row0 row : List Int} {d r m k : Int} (h : InAt A c i row0 pre.length d r m row) (e : k = 0 + (pre.length : Int))
    (hlt : ¬ (if d + subC c (Txt.item A k) < (if row.getD k.toNat 0 < r then row.getD k.toNat 0 else r) + 2 then d + subC c (Txt.item A k) else (if row.getD k.toNat 0 < r then row.getD k.toNat 0 else r) + 2) < m) :
    InAt A c i row0 (pre ++ [k]).length (row.getD k.toNat 0) (if d + subC c (Txt.item A k) < (if row.getD k.toNat 0 < r then row.getD k.toNat 0 else r) + 2 then d + subC c (Txt.item A k) else (if row.getD k.toNat 0 < r then row.getD k.toNat 0 else r) + 2)
      m
      (row.set k.toNat (if d + subC c (Txt.item A k) < (if row.getD k.toNat 0 < r then row.getD k.toNat 0 else r) + 2 then d + subC c (Txt.item A k) else (if row.getD k.toNat 0 < r then row.getD k.toNat 0 else r) + 2)) := by
  have q := cell_is h e
  rw [if_neg hlt] at q
  unfold InAt
  rw [List.length_append, List.length_singleton, q]
  exact ⟨rfl, rfl, rfl, rfl⟩
theorem OutAt.step {A B : Str} {pre : List Int} {L : Nat} {d r m k : Int} {row : List Int} (h : InAt A (Txt.item B k) pre.length (rows A B pre.length) L d r m row) (e : k = 0 + (pre.length : Int)) (eL : L = A.length) : OutAt A B (pre ++ [k]).length r row := by
  obtain ⟨_, h2, _, h4⟩ := h
  have e1 : k = (pre.length : Int) := by omega
  rw [eL, e1] at h2 h4
  unfold OutAt
  rw [List.length_append, List.length_singleton]
  exact ⟨h2, h4⟩
theorem low_no {A B : Str} {n L : Nat} {d r m k : Int} {row : List Int} (hl : Mark (∀ i, i < A.length → lowAt A B i ≤ 6)) (h : InAt A (Txt.item B k) n (rows A B n) L d r m row) (e : k = 0 + (n : Int)) (eL : L = A.length) (hn : n < A.length) (h6 : 6 < m) : False := by
  obtain ⟨_, _, h3, _⟩ := h
  have e1 : k = (n : Int) := by omega
  rw [eL, e1] at h3
  have := hl.to n hn
  unfold lowAt at this
  omega
theorem res_is {A B : Str} {L : Nat} {r : Int} {row : List Int} (h : OutAt A B L r row) (eL : L = A.length) : r = resAt A B A.length := by
  rw [h.1, eL]
theorem ks_len {n : Nat} : (rangeKs 0 ((n : Int) - 0).toNat).length = n := by
  rw [rangeKs_length]
  omega
theorem ks_lenB {n k : Nat} (h : k = n) : (rangeKs 0 ((n : Int) - 0).toNat).length = k := by
  rw [rangeKs_length]
  omega
def Halt : Prop := True
def CutLeaf (x : Str) (h₀ : Heap) (L : Addr) (m : Str → Option Value) (news : List (Addr × Obj)) (s : Shared) (v : Value) (s' : Shared) : Prop := ∃ h' tk t, v = .str x t ∧ s' = { s with heap := h', toks := tk } ∧ Fr h₀ L h' m ∧ News h₀ L h' news
theorem CutLeaf.mk {x y : Str} {h₀ h' : Heap} {L : Addr} {m : Str → Option Value} {news : List (Addr × Obj)} {s : Shared} {t : Tok} {tk : Nat} (e : x = y) (F : Fr h₀ L h' m) (N : News h₀ L h' news) : CutLeaf x h₀ L m news s (.str y t) { s with heap := h', toks := tk } := ⟨h', tk, t, by rw [e], rfl, F, N⟩
theorem cut_bridge {M : Model} {A : Around} {E : Value → Shared → Prop} {s : Shared} {Q : Value → Shared → Prop} {h₀ : Heap} {L : Addr} {m : Str → Option Value} {news : List (Addr × Obj)} {x : Str} {tree : Sem Value} (F : Fr h₀ L s.heap m) (N : News h₀ L s.heap news)
    (h1 : wpAny M A tree (fun v s' => SeqLeaf (CutLeaf x h₀ L m news s v s')) E s)
    (h2 : ∀ h' tk t, Fr h₀ L h' m → News h₀ L h' news → Q (.str x t) { s with heap := h', toks := tk }) : wpAny M A tree Q E s :=
  wpAny_mono h1 (fun v s' h => by obtain ⟨h', tk, t, rfl, rfl, F', N'⟩ := h; exact h2 h' tk t F' N') fun _ _ e => e
local macro_rules | `(tactic| kst_p) => `(tactic| ((try dsimp only); first | with_reducible assumption | exact OutAt.start | exact InAt.start (by with_reducible assumption) (by with_reducible assumption) | exact InAt.stepA (by with_reducible assumption) (by with_reducible assumption) (by with_reducible assumption) | exact InAt.stepB (by with_reducible assumption) (by with_reducible assumption) (by with_reducible assumption) | exact OutAt.step (by with_reducible assumption) (by with_reducible assumption) ks_len))
theorem up_stop {a b : Str} (ha : a.length = 6) : upC a b 6 = false := by
  have e : Txt.slice a (some 6) none = Str.empty := slice_beyond (by omega)
  unfold upC
  rw [e]
  rfl
theorem good_facts {a b : Str} (h : goodPair a b = true) : dnC (Txt.slice a (some (preN a b : Int)) none) (Txt.slice b (some (preN a b : Int)) none) (-6) = false ∧ a.length = 6 ∧ b.length = 6 ∧ (a == b) = false ∧ (pairA a b).length = (pairB a b).length ∧ 1 ≤ (pairA a b).length ∧ (pairA a b).length ≤ 6 ∧ ∀ i, i < (pairA a b).length → lowAt (pairA a b) (pairB a b) i ≤ 6 := by
  unfold goodPair at h
  simp only [Bool.and_eq_true, beq_iff_eq, Bool.not_eq_true', decide_eq_true_eq, List.all_eq_true, List.mem_range] at h
  obtain ⟨⟨⟨⟨⟨⟨⟨h0, h1⟩, h2⟩, h3⟩, h4⟩, h5⟩, h6⟩, h7⟩ := h
  exact ⟨h0, h1, h2, h3, h4, h5, h6, h7⟩
theorem lev_claim (w : World) (p : Program) (loose : List Str) (mean : ExcName → Option Value) (mg mb : Str → Option Value) (a b : Str) (ta tb tc : Tok) (hG : goodPair a b = true) :
   Pure PySem.Challenge.rw_pg0276_01.row.prog w (Mine.hd.heap_39 w.params) p loose mean mg mb 2 52 [.str a ta, .str b tb, .int 6 tc] (OutI (levD a b)) := by
  obtain ⟨hdn, ha, hb, hne, hl, h1, h6, hlow⟩ := good_facts hG
  unfold levD
  w_on
  w_strict (
    unfold Pure
    intro dp un gd fl s Q E X T hd hu hret
    refine wpAny_call ?_
    k_dflt ktr_enter
    repeat' (first | (k_unfold; (try dsimp only)) | (dsimp only; k_unfold; (try dsimp only)) | ((with_reducible show wpAny _ _ (eval (Expr.Subscript _ _ _) _) _ _ _); ((with_reducible show wpAny _ _ (eval (Expr.Subscript _ (Expr.Slice none (some _) none _) _) _) _ _ _); (have _ : Halt := by assumption); refine Mark.to ?_)) | ((with_reducible show wpAny _ _ (call (Value.ref _) _ _) _ _ _); (k_here; (with_reducible show wpAny _ _ (call (Value.ref 45) _) _ _ _); k_dflt (refine' sub_claim _ _ _ _ _ _ _ _ _ _ ?hx ?hy _ _ _ _ _ _ _ ?hX ?hT ?hd ?hu ?_; (case hX => (with_unfolding_all exact Frag.In.keeps (by k_asm) (Fr.keep (by k_asm)))); (case hT => (with_unfolding_all exact Top.keeps (by k_asm) (Fr.keep (by k_asm)))); (case hd => ((try dsimp only); omega)); (case hu => ((try dsimp only); omega)); (case hx => exact item_le); (case hy => exact item_le)); intro v9q h9q tk9q K9q O9q; obtain ⟨t9q, ev9q⟩ := O9q; subst ev9q; (try dsimp only at K9q); (rename Fr _ _ _ _ => F8q); (rename News _ _ _ _ => N8q); (have F9q := after_fr F8q K9q); (have N9q := after_news N8q K9q); clear F8q N8q)) | ((with_reducible show wpAny _ _ (call (Value.type "list") _ _) _ _ _); (k_here; (with_reducible show wpAny _ _ (call (Value.type _) [Value.ref _]) _ _ _); (rename IsRange _ _ _ _ _ _ _ _ => rgXq); (with_unfolding_all refine' list_range2 ?k0 ?k1 ?k2 ?k3 ?k4 ?k5 ?_; (case k0 => rfl); (case k1 => k_asm); (case k2 => k_asm); (case k3 => exact rgXq); (case k4 => rfl); (case k5 => omega); k_whole); intro D'q vs'q c'q h'q tk'q F'q N'q l1q hI'q; (try k_lt l1q); clear rgXq)) | ((with_reducible show wpAny _ _ (pyIter (Value.ref _)) _ _ _); (refine Mark.to ?_)) | ((with_reducible show wpAny _ _ (exec (Stmt.While _ _ _ _) _) _ _ _); (refine Mark.to ?_)) | ((with_reducible show wpAny _ _ (subscriptTail (Expr.Name _ _) (Expr.BinOp _ _ _ _) (Value.str _ _) (Value.int _ _)) _ _ _); (k_here; (with_reducible show wpAny _ _ (subscriptTail _ _ (Value.str _ _) (Value.int _ _)) _ _ _); k_dflt (refine' item_at ?h1 ?h2 ?h3 ?_ ?h6 ?h7; (case h1 => first | exact idx_neg (by with_reducible assumption) (by with_reducible assumption) (by with_reducible assumption) | exact idx_zero (by with_reducible assumption) (by with_reducible assumption)); (case h2 => omega); (case h3 => omega); (case h6 => (intro _; with_unfolding_all rfl)); (case h7 => (intro _ _; with_unfolding_all rfl))))) | ((with_reducible show wpAny _ _ (subscriptTail (Expr.Name _ _) (Expr.Slice _ _ _ _) (Value.str _ _) (Value.ref _)) _ _ _); ((with_reducible show wpAny _ _ (subscriptTail _ (Expr.Slice none (some _) none _) _ _) _ _ _); (with_reducible rename Fr _ _ _ _ => F'q); (with_reducible rename News _ _ _ _ => N'q); refine slice_strN_nn_len (s := ⟨_, _, _, _, _⟩) F'q N'q ?_; intro _ _ _ _ _ _)) | walk1 | (dsimp only; first | ((with_reducible show wpAny _ _ (eval (Expr.Subscript _ _ _) _) _ _ _); ((with_reducible show wpAny _ _ (eval (Expr.Subscript _ (Expr.Slice none (some _) none _) _) _) _ _ _); (have _ : Halt := by assumption); refine Mark.to ?_)) | ((with_reducible show wpAny _ _ (call (Value.ref _) _ _) _ _ _); (k_here; (with_reducible show wpAny _ _ (call (Value.ref 45) _) _ _ _); k_dflt (refine' sub_claim _ _ _ _ _ _ _ _ _ _ ?hx ?hy _ _ _ _ _ _ _ ?hX ?hT ?hd ?hu ?_; (case hX => (with_unfolding_all exact Frag.In.keeps (by k_asm) (Fr.keep (by k_asm)))); (case hT => (with_unfolding_all exact Top.keeps (by k_asm) (Fr.keep (by k_asm)))); (case hd => ((try dsimp only); omega)); (case hu => ((try dsimp only); omega)); (case hx => exact item_le); (case hy => exact item_le)); intro v9q h9q tk9q K9q O9q; obtain ⟨t9q, ev9q⟩ := O9q; subst ev9q; (try dsimp only at K9q); (rename Fr _ _ _ _ => F8q); (rename News _ _ _ _ => N8q); (have F9q := after_fr F8q K9q); (have N9q := after_news N8q K9q); clear F8q N8q)) | ((with_reducible show wpAny _ _ (call (Value.type "list") _ _) _ _ _); (k_here; (with_reducible show wpAny _ _ (call (Value.type _) [Value.ref _]) _ _ _); (rename IsRange _ _ _ _ _ _ _ _ => rgXq); (with_unfolding_all refine' list_range2 ?k0 ?k1 ?k2 ?k3 ?k4 ?k5 ?_; (case k0 => rfl); (case k1 => k_asm); (case k2 => k_asm); (case k3 => exact rgXq); (case k4 => rfl); (case k5 => omega); k_whole); intro D'q vs'q c'q h'q tk'q F'q N'q l1q hI'q; (try k_lt l1q); clear rgXq)) | ((with_reducible show wpAny _ _ (pyIter (Value.ref _)) _ _ _); (refine Mark.to ?_)) | ((with_reducible show wpAny _ _ (exec (Stmt.While _ _ _ _) _) _ _ _); (refine Mark.to ?_)) | ((with_reducible show wpAny _ _ (subscriptTail (Expr.Name _ _) (Expr.BinOp _ _ _ _) (Value.str _ _) (Value.int _ _)) _ _ _); (k_here; (with_reducible show wpAny _ _ (subscriptTail _ _ (Value.str _ _) (Value.int _ _)) _ _ _); k_dflt (refine' item_at ?h1 ?h2 ?h3 ?_ ?h6 ?h7; (case h1 => first | exact idx_neg (by with_reducible assumption) (by with_reducible assumption) (by with_reducible assumption) | exact idx_zero (by with_reducible assumption) (by with_reducible assumption)); (case h2 => omega); (case h3 => omega); (case h6 => (intro _; with_unfolding_all rfl)); (case h7 => (intro _ _; with_unfolding_all rfl))))) | ((with_reducible show wpAny _ _ (subscriptTail (Expr.Name _ _) (Expr.Slice _ _ _ _) (Value.str _ _) (Value.ref _)) _ _ _); ((with_reducible show wpAny _ _ (subscriptTail _ (Expr.Slice none (some _) none _) _ _) _ _ _); (with_reducible rename Fr _ _ _ _ => F'q); (with_reducible rename News _ _ _ _ => N'q); refine slice_strN_nn_len (s := ⟨_, _, _, _, _⟩) F'q N'q ?_; intro _ _ _ _ _ _)) | walk1) | (leave1; walk_say "STEP leave1"; try dsimp only) | fail "no step"))
  all_goals (refine Mark.mk ?_; rename Fr _ _ _ _ => F1; rename News _ _ _ _ => N1)
  refine' While_upF (i := Str.ofString "pre") (k₀ := 0) (K := 6) (c := upC a b) F1 N1 ?hmi ?gtest ?gturn ?stop ?done
  case hmi => with_unfolding_all rfl
  case stop => exact ⟨by decide, up_stop ha⟩
  case gtest =>
    intro k t h₁ tk₁ hk hkK F1 N1
    w_strict (repeat' (first | (k_unfold; (try dsimp only)) | (dsimp only; k_unfold; (try dsimp only)) | ((with_reducible show wpAny _ _ (eval (Expr.Subscript _ _ _) _) _ _ _); ((with_reducible show wpAny _ _ (eval (Expr.Subscript _ (Expr.Slice none (some _) none _) _) _) _ _ _); (have _ : Halt := by assumption); refine Mark.to ?_)) | ((with_reducible show wpAny _ _ (call (Value.ref _) _ _) _ _ _); (k_here; (with_reducible show wpAny _ _ (call (Value.ref 45) _) _ _ _); k_dflt (refine' sub_claim _ _ _ _ _ _ _ _ _ _ ?hx ?hy _ _ _ _ _ _ _ ?hX ?hT ?hd ?hu ?_; (case hX => (with_unfolding_all exact Frag.In.keeps (by k_asm) (Fr.keep (by k_asm)))); (case hT => (with_unfolding_all exact Top.keeps (by k_asm) (Fr.keep (by k_asm)))); (case hd => ((try dsimp only); omega)); (case hu => ((try dsimp only); omega)); (case hx => exact item_le); (case hy => exact item_le)); intro v9q h9q tk9q K9q O9q; obtain ⟨t9q, ev9q⟩ := O9q; subst ev9q; (try dsimp only at K9q); (rename Fr _ _ _ _ => F8q); (rename News _ _ _ _ => N8q); (have F9q := after_fr F8q K9q); (have N9q := after_news N8q K9q); clear F8q N8q)) | ((with_reducible show wpAny _ _ (call (Value.type "list") _ _) _ _ _); (k_here; (with_reducible show wpAny _ _ (call (Value.type _) [Value.ref _]) _ _ _); (rename IsRange _ _ _ _ _ _ _ _ => rgXq); (with_unfolding_all refine' list_range2 ?k0 ?k1 ?k2 ?k3 ?k4 ?k5 ?_; (case k0 => rfl); (case k1 => k_asm); (case k2 => k_asm); (case k3 => exact rgXq); (case k4 => rfl); (case k5 => omega); k_whole); intro D'q vs'q c'q h'q tk'q F'q N'q l1q hI'q; (try k_lt l1q); clear rgXq)) | ((with_reducible show wpAny _ _ (pyIter (Value.ref _)) _ _ _); (refine Mark.to ?_)) | ((with_reducible show wpAny _ _ (exec (Stmt.While _ _ _ _) _) _ _ _); (refine Mark.to ?_)) | ((with_reducible show wpAny _ _ (subscriptTail (Expr.Name _ _) (Expr.BinOp _ _ _ _) (Value.str _ _) (Value.int _ _)) _ _ _); (k_here; (with_reducible show wpAny _ _ (subscriptTail _ _ (Value.str _ _) (Value.int _ _)) _ _ _); k_dflt (refine' item_at ?h1 ?h2 ?h3 ?_ ?h6 ?h7; (case h1 => first | exact idx_neg (by with_reducible assumption) (by with_reducible assumption) (by with_reducible assumption) | exact idx_zero (by with_reducible assumption) (by with_reducible assumption)); (case h2 => omega); (case h3 => omega); (case h6 => (intro _; with_unfolding_all rfl)); (case h7 => (intro _ _; with_unfolding_all rfl))))) | ((with_reducible show wpAny _ _ (subscriptTail (Expr.Name _ _) (Expr.Slice _ _ _ _) (Value.str _ _) (Value.ref _)) _ _ _); ((with_reducible show wpAny _ _ (subscriptTail _ (Expr.Slice none (some _) none _) _ _) _ _ _); (with_reducible rename Fr _ _ _ _ => F'q); (with_reducible rename News _ _ _ _ => N'q); refine slice_strN_nn_len (s := ⟨_, _, _, _, _⟩) F'q N'q ?_; intro _ _ _ _ _ _)) | walk1 | (dsimp only; first | ((with_reducible show wpAny _ _ (eval (Expr.Subscript _ _ _) _) _ _ _); ((with_reducible show wpAny _ _ (eval (Expr.Subscript _ (Expr.Slice none (some _) none _) _) _) _ _ _); (have _ : Halt := by assumption); refine Mark.to ?_)) | ((with_reducible show wpAny _ _ (call (Value.ref _) _ _) _ _ _); (k_here; (with_reducible show wpAny _ _ (call (Value.ref 45) _) _ _ _); k_dflt (refine' sub_claim _ _ _ _ _ _ _ _ _ _ ?hx ?hy _ _ _ _ _ _ _ ?hX ?hT ?hd ?hu ?_; (case hX => (with_unfolding_all exact Frag.In.keeps (by k_asm) (Fr.keep (by k_asm)))); (case hT => (with_unfolding_all exact Top.keeps (by k_asm) (Fr.keep (by k_asm)))); (case hd => ((try dsimp only); omega)); (case hu => ((try dsimp only); omega)); (case hx => exact item_le); (case hy => exact item_le)); intro v9q h9q tk9q K9q O9q; obtain ⟨t9q, ev9q⟩ := O9q; subst ev9q; (try dsimp only at K9q); (rename Fr _ _ _ _ => F8q); (rename News _ _ _ _ => N8q); (have F9q := after_fr F8q K9q); (have N9q := after_news N8q K9q); clear F8q N8q)) | ((with_reducible show wpAny _ _ (call (Value.type "list") _ _) _ _ _); (k_here; (with_reducible show wpAny _ _ (call (Value.type _) [Value.ref _]) _ _ _); (rename IsRange _ _ _ _ _ _ _ _ => rgXq); (with_unfolding_all refine' list_range2 ?k0 ?k1 ?k2 ?k3 ?k4 ?k5 ?_; (case k0 => rfl); (case k1 => k_asm); (case k2 => k_asm); (case k3 => exact rgXq); (case k4 => rfl); (case k5 => omega); k_whole); intro D'q vs'q c'q h'q tk'q F'q N'q l1q hI'q; (try k_lt l1q); clear rgXq)) | ((with_reducible show wpAny _ _ (pyIter (Value.ref _)) _ _ _); (refine Mark.to ?_)) | ((with_reducible show wpAny _ _ (exec (Stmt.While _ _ _ _) _) _ _ _); (refine Mark.to ?_)) | ((with_reducible show wpAny _ _ (subscriptTail (Expr.Name _ _) (Expr.BinOp _ _ _ _) (Value.str _ _) (Value.int _ _)) _ _ _); (k_here; (with_reducible show wpAny _ _ (subscriptTail _ _ (Value.str _ _) (Value.int _ _)) _ _ _); k_dflt (refine' item_at ?h1 ?h2 ?h3 ?_ ?h6 ?h7; (case h1 => first | exact idx_neg (by with_reducible assumption) (by with_reducible assumption) (by with_reducible assumption) | exact idx_zero (by with_reducible assumption) (by with_reducible assumption)); (case h2 => omega); (case h3 => omega); (case h6 => (intro _; with_unfolding_all rfl)); (case h7 => (intro _ _; with_unfolding_all rfl))))) | ((with_reducible show wpAny _ _ (subscriptTail (Expr.Name _ _) (Expr.Slice _ _ _ _) (Value.str _ _) (Value.ref _)) _ _ _); ((with_reducible show wpAny _ _ (subscriptTail _ (Expr.Slice none (some _) none _) _ _) _ _ _); (with_reducible rename Fr _ _ _ _ => F'q); (with_reducible rename News _ _ _ _ => N'q); refine slice_strN_nn_len (s := ⟨_, _, _, _, _⟩) F'q N'q ?_; intro _ _ _ _ _ _)) | walk1) | (leave1; walk_say "STEP leave1"; try dsimp only) | fail "no step"))
    all_goals (refine Mark.mk (SeqLeaf.intro ⟨?_, AtCnt.intro (by assumption) (by assumption)⟩))
    all_goals (unfold upC; simp_all; done)
  case gturn => 
    intro k t h₁ tk₁ hk hkK hc F1 N1
    w_strict (repeat' (first | (k_unfold; (try dsimp only)) | (dsimp only; k_unfold; (try dsimp only)) | ((with_reducible show wpAny _ _ (eval (Expr.Subscript _ _ _) _) _ _ _); ((with_reducible show wpAny _ _ (eval (Expr.Subscript _ (Expr.Slice none (some _) none _) _) _) _ _ _); (have _ : Halt := by assumption); refine Mark.to ?_)) | ((with_reducible show wpAny _ _ (call (Value.ref _) _ _) _ _ _); (k_here; (with_reducible show wpAny _ _ (call (Value.ref 45) _) _ _ _); k_dflt (refine' sub_claim _ _ _ _ _ _ _ _ _ _ ?hx ?hy _ _ _ _ _ _ _ ?hX ?hT ?hd ?hu ?_; (case hX => (with_unfolding_all exact Frag.In.keeps (by k_asm) (Fr.keep (by k_asm)))); (case hT => (with_unfolding_all exact Top.keeps (by k_asm) (Fr.keep (by k_asm)))); (case hd => ((try dsimp only); omega)); (case hu => ((try dsimp only); omega)); (case hx => exact item_le); (case hy => exact item_le)); intro v9q h9q tk9q K9q O9q; obtain ⟨t9q, ev9q⟩ := O9q; subst ev9q; (try dsimp only at K9q); (rename Fr _ _ _ _ => F8q); (rename News _ _ _ _ => N8q); (have F9q := after_fr F8q K9q); (have N9q := after_news N8q K9q); clear F8q N8q)) | ((with_reducible show wpAny _ _ (call (Value.type "list") _ _) _ _ _); (k_here; (with_reducible show wpAny _ _ (call (Value.type _) [Value.ref _]) _ _ _); (rename IsRange _ _ _ _ _ _ _ _ => rgXq); (with_unfolding_all refine' list_range2 ?k0 ?k1 ?k2 ?k3 ?k4 ?k5 ?_; (case k0 => rfl); (case k1 => k_asm); (case k2 => k_asm); (case k3 => exact rgXq); (case k4 => rfl); (case k5 => omega); k_whole); intro D'q vs'q c'q h'q tk'q F'q N'q l1q hI'q; (try k_lt l1q); clear rgXq)) | ((with_reducible show wpAny _ _ (pyIter (Value.ref _)) _ _ _); (refine Mark.to ?_)) | ((with_reducible show wpAny _ _ (exec (Stmt.While _ _ _ _) _) _ _ _); (refine Mark.to ?_)) | ((with_reducible show wpAny _ _ (subscriptTail (Expr.Name _ _) (Expr.BinOp _ _ _ _) (Value.str _ _) (Value.int _ _)) _ _ _); (k_here; (with_reducible show wpAny _ _ (subscriptTail _ _ (Value.str _ _) (Value.int _ _)) _ _ _); k_dflt (refine' item_at ?h1 ?h2 ?h3 ?_ ?h6 ?h7; (case h1 => first | exact idx_neg (by with_reducible assumption) (by with_reducible assumption) (by with_reducible assumption) | exact idx_zero (by with_reducible assumption) (by with_reducible assumption)); (case h2 => omega); (case h3 => omega); (case h6 => (intro _; with_unfolding_all rfl)); (case h7 => (intro _ _; with_unfolding_all rfl))))) | ((with_reducible show wpAny _ _ (subscriptTail (Expr.Name _ _) (Expr.Slice _ _ _ _) (Value.str _ _) (Value.ref _)) _ _ _); ((with_reducible show wpAny _ _ (subscriptTail _ (Expr.Slice none (some _) none _) _ _) _ _ _); (with_reducible rename Fr _ _ _ _ => F'q); (with_reducible rename News _ _ _ _ => N'q); refine slice_strN_nn_len (s := ⟨_, _, _, _, _⟩) F'q N'q ?_; intro _ _ _ _ _ _)) | walk1 | (dsimp only; first | ((with_reducible show wpAny _ _ (eval (Expr.Subscript _ _ _) _) _ _ _); ((with_reducible show wpAny _ _ (eval (Expr.Subscript _ (Expr.Slice none (some _) none _) _) _) _ _ _); (have _ : Halt := by assumption); refine Mark.to ?_)) | ((with_reducible show wpAny _ _ (call (Value.ref _) _ _) _ _ _); (k_here; (with_reducible show wpAny _ _ (call (Value.ref 45) _) _ _ _); k_dflt (refine' sub_claim _ _ _ _ _ _ _ _ _ _ ?hx ?hy _ _ _ _ _ _ _ ?hX ?hT ?hd ?hu ?_; (case hX => (with_unfolding_all exact Frag.In.keeps (by k_asm) (Fr.keep (by k_asm)))); (case hT => (with_unfolding_all exact Top.keeps (by k_asm) (Fr.keep (by k_asm)))); (case hd => ((try dsimp only); omega)); (case hu => ((try dsimp only); omega)); (case hx => exact item_le); (case hy => exact item_le)); intro v9q h9q tk9q K9q O9q; obtain ⟨t9q, ev9q⟩ := O9q; subst ev9q; (try dsimp only at K9q); (rename Fr _ _ _ _ => F8q); (rename News _ _ _ _ => N8q); (have F9q := after_fr F8q K9q); (have N9q := after_news N8q K9q); clear F8q N8q)) | ((with_reducible show wpAny _ _ (call (Value.type "list") _ _) _ _ _); (k_here; (with_reducible show wpAny _ _ (call (Value.type _) [Value.ref _]) _ _ _); (rename IsRange _ _ _ _ _ _ _ _ => rgXq); (with_unfolding_all refine' list_range2 ?k0 ?k1 ?k2 ?k3 ?k4 ?k5 ?_; (case k0 => rfl); (case k1 => k_asm); (case k2 => k_asm); (case k3 => exact rgXq); (case k4 => rfl); (case k5 => omega); k_whole); intro D'q vs'q c'q h'q tk'q F'q N'q l1q hI'q; (try k_lt l1q); clear rgXq)) | ((with_reducible show wpAny _ _ (pyIter (Value.ref _)) _ _ _); (refine Mark.to ?_)) | ((with_reducible show wpAny _ _ (exec (Stmt.While _ _ _ _) _) _ _ _); (refine Mark.to ?_)) | ((with_reducible show wpAny _ _ (subscriptTail (Expr.Name _ _) (Expr.BinOp _ _ _ _) (Value.str _ _) (Value.int _ _)) _ _ _); (k_here; (with_reducible show wpAny _ _ (subscriptTail _ _ (Value.str _ _) (Value.int _ _)) _ _ _); k_dflt (refine' item_at ?h1 ?h2 ?h3 ?_ ?h6 ?h7; (case h1 => first | exact idx_neg (by with_reducible assumption) (by with_reducible assumption) (by with_reducible assumption) | exact idx_zero (by with_reducible assumption) (by with_reducible assumption)); (case h2 => omega); (case h3 => omega); (case h6 => (intro _; with_unfolding_all rfl)); (case h7 => (intro _ _; with_unfolding_all rfl))))) | ((with_reducible show wpAny _ _ (subscriptTail (Expr.Name _ _) (Expr.Slice _ _ _ _) (Value.str _ _) (Value.ref _)) _ _ _); ((with_reducible show wpAny _ _ (subscriptTail _ (Expr.Slice none (some _) none _) _ _) _ _ _); (with_reducible rename Fr _ _ _ _ => F'q); (with_reducible rename News _ _ _ _ => N'q); refine slice_strN_nn_len (s := ⟨_, _, _, _, _⟩) F'q N'q ?_; intro _ _ _ _ _ _)) | walk1) | (leave1; walk_say "STEP leave1"; try dsimp only) | fail "no step"))
    all_goals (refine Mark.mk ?_; with_unfolding_all exact CntStep.intro (by assumption) (by assumption))
  case done =>
    intro k1 t h' tk hk hkK hall hend F1 N1
    have hk1 := Mark.mk (pre_is hk (by omega) hall hend)
    clear hall hend
    dsimp only
    w_strict (repeat' (first | (k_unfold; (try dsimp only)) | (dsimp only; k_unfold; (try dsimp only)) | ((with_reducible show wpAny _ _ (eval (Expr.Subscript _ _ _) _) _ _ _); ((with_reducible show wpAny _ _ (eval (Expr.Subscript _ (Expr.Slice none (some _) none _) _) _) _ _ _); (have _ : Halt := by assumption); refine Mark.to ?_)) | ((with_reducible show wpAny _ _ (call (Value.ref _) _ _) _ _ _); (k_here; (with_reducible show wpAny _ _ (call (Value.ref 45) _) _ _ _); k_dflt (refine' sub_claim _ _ _ _ _ _ _ _ _ _ ?hx ?hy _ _ _ _ _ _ _ ?hX ?hT ?hd ?hu ?_; (case hX => (with_unfolding_all exact Frag.In.keeps (by k_asm) (Fr.keep (by k_asm)))); (case hT => (with_unfolding_all exact Top.keeps (by k_asm) (Fr.keep (by k_asm)))); (case hd => ((try dsimp only); omega)); (case hu => ((try dsimp only); omega)); (case hx => exact item_le); (case hy => exact item_le)); intro v9q h9q tk9q K9q O9q; obtain ⟨t9q, ev9q⟩ := O9q; subst ev9q; (try dsimp only at K9q); (rename Fr _ _ _ _ => F8q); (rename News _ _ _ _ => N8q); (have F9q := after_fr F8q K9q); (have N9q := after_news N8q K9q); clear F8q N8q)) | ((with_reducible show wpAny _ _ (call (Value.type "list") _ _) _ _ _); (k_here; (with_reducible show wpAny _ _ (call (Value.type _) [Value.ref _]) _ _ _); (rename IsRange _ _ _ _ _ _ _ _ => rgXq); (with_unfolding_all refine' list_range2 ?k0 ?k1 ?k2 ?k3 ?k4 ?k5 ?_; (case k0 => rfl); (case k1 => k_asm); (case k2 => k_asm); (case k3 => exact rgXq); (case k4 => rfl); (case k5 => omega); k_whole); intro D'q vs'q c'q h'q tk'q F'q N'q l1q hI'q; (try k_lt l1q); clear rgXq)) | ((with_reducible show wpAny _ _ (pyIter (Value.ref _)) _ _ _); (refine Mark.to ?_)) | ((with_reducible show wpAny _ _ (exec (Stmt.While _ _ _ _) _) _ _ _); (refine Mark.to ?_)) | ((with_reducible show wpAny _ _ (subscriptTail (Expr.Name _ _) (Expr.BinOp _ _ _ _) (Value.str _ _) (Value.int _ _)) _ _ _); (k_here; (with_reducible show wpAny _ _ (subscriptTail _ _ (Value.str _ _) (Value.int _ _)) _ _ _); k_dflt (refine' item_at ?h1 ?h2 ?h3 ?_ ?h6 ?h7; (case h1 => first | exact idx_neg (by with_reducible assumption) (by with_reducible assumption) (by with_reducible assumption) | exact idx_zero (by with_reducible assumption) (by with_reducible assumption)); (case h2 => omega); (case h3 => omega); (case h6 => (intro _; with_unfolding_all rfl)); (case h7 => (intro _ _; with_unfolding_all rfl))))) | ((with_reducible show wpAny _ _ (subscriptTail (Expr.Name _ _) (Expr.Slice _ _ _ _) (Value.str _ _) (Value.ref _)) _ _ _); ((with_reducible show wpAny _ _ (subscriptTail _ (Expr.Slice none (some _) none _) _ _) _ _ _); (with_reducible rename Fr _ _ _ _ => F'q); (with_reducible rename News _ _ _ _ => N'q); refine slice_strN_nn_len (s := ⟨_, _, _, _, _⟩) F'q N'q ?_; intro _ _ _ _ _ _)) | walk1 | (dsimp only; first | ((with_reducible show wpAny _ _ (eval (Expr.Subscript _ _ _) _) _ _ _); ((with_reducible show wpAny _ _ (eval (Expr.Subscript _ (Expr.Slice none (some _) none _) _) _) _ _ _); (have _ : Halt := by assumption); refine Mark.to ?_)) | ((with_reducible show wpAny _ _ (call (Value.ref _) _ _) _ _ _); (k_here; (with_reducible show wpAny _ _ (call (Value.ref 45) _) _ _ _); k_dflt (refine' sub_claim _ _ _ _ _ _ _ _ _ _ ?hx ?hy _ _ _ _ _ _ _ ?hX ?hT ?hd ?hu ?_; (case hX => (with_unfolding_all exact Frag.In.keeps (by k_asm) (Fr.keep (by k_asm)))); (case hT => (with_unfolding_all exact Top.keeps (by k_asm) (Fr.keep (by k_asm)))); (case hd => ((try dsimp only); omega)); (case hu => ((try dsimp only); omega)); (case hx => exact item_le); (case hy => exact item_le)); intro v9q h9q tk9q K9q O9q; obtain ⟨t9q, ev9q⟩ := O9q; subst ev9q; (try dsimp only at K9q); (rename Fr _ _ _ _ => F8q); (rename News _ _ _ _ => N8q); (have F9q := after_fr F8q K9q); (have N9q := after_news N8q K9q); clear F8q N8q)) | ((with_reducible show wpAny _ _ (call (Value.type "list") _ _) _ _ _); (k_here; (with_reducible show wpAny _ _ (call (Value.type _) [Value.ref _]) _ _ _); (rename IsRange _ _ _ _ _ _ _ _ => rgXq); (with_unfolding_all refine' list_range2 ?k0 ?k1 ?k2 ?k3 ?k4 ?k5 ?_; (case k0 => rfl); (case k1 => k_asm); (case k2 => k_asm); (case k3 => exact rgXq); (case k4 => rfl); (case k5 => omega); k_whole); intro D'q vs'q c'q h'q tk'q F'q N'q l1q hI'q; (try k_lt l1q); clear rgXq)) | ((with_reducible show wpAny _ _ (pyIter (Value.ref _)) _ _ _); (refine Mark.to ?_)) | ((with_reducible show wpAny _ _ (exec (Stmt.While _ _ _ _) _) _ _ _); (refine Mark.to ?_)) | ((with_reducible show wpAny _ _ (subscriptTail (Expr.Name _ _) (Expr.BinOp _ _ _ _) (Value.str _ _) (Value.int _ _)) _ _ _); (k_here; (with_reducible show wpAny _ _ (subscriptTail _ _ (Value.str _ _) (Value.int _ _)) _ _ _); k_dflt (refine' item_at ?h1 ?h2 ?h3 ?_ ?h6 ?h7; (case h1 => first | exact idx_neg (by with_reducible assumption) (by with_reducible assumption) (by with_reducible assumption) | exact idx_zero (by with_reducible assumption) (by with_reducible assumption)); (case h2 => omega); (case h3 => omega); (case h6 => (intro _; with_unfolding_all rfl)); (case h7 => (intro _ _; with_unfolding_all rfl))))) | ((with_reducible show wpAny _ _ (subscriptTail (Expr.Name _ _) (Expr.Slice _ _ _ _) (Value.str _ _) (Value.ref _)) _ _ _); ((with_reducible show wpAny _ _ (subscriptTail _ (Expr.Slice none (some _) none _) _ _) _ _ _); (with_reducible rename Fr _ _ _ _ => F'q); (with_reducible rename News _ _ _ _ => N'q); refine slice_strN_nn_len (s := ⟨_, _, _, _, _⟩) F'q N'q ?_; intro _ _ _ _ _ _)) | walk1) | (leave1; walk_say "STEP leave1"; try dsimp only) | fail "no step"))
    all_goals (refine Mark.mk ?_; rename Fr _ _ _ _ => F2; rename News _ _ _ _ => N2)
    refine' While_downF (i := Str.ofString "post") (k₀ := 0) (K := -6) (c := dnC (Txt.slice a (some k1) none) (Txt.slice b (some k1) none)) F2 N2 ?hmi ?gtest ?gturn ?stop ?done
    case hmi => with_unfolding_all rfl
    case stop => exact ⟨by decide, by rw [Mark.to hk1]; exact hdn⟩
    case gtest =>
      intro k t h₁ tk₁ hk hkK F1 N1
      w_strict (repeat' (first | (k_unfold; (try dsimp only)) | (dsimp only; k_unfold; (try dsimp only)) | ((with_reducible show wpAny _ _ (eval (Expr.Subscript _ _ _) _) _ _ _); ((with_reducible show wpAny _ _ (eval (Expr.Subscript _ (Expr.Slice none (some _) none _) _) _) _ _ _); (have _ : Halt := by assumption); refine Mark.to ?_)) | ((with_reducible show wpAny _ _ (call (Value.ref _) _ _) _ _ _); (k_here; (with_reducible show wpAny _ _ (call (Value.ref 45) _) _ _ _); k_dflt (refine' sub_claim _ _ _ _ _ _ _ _ _ _ ?hx ?hy _ _ _ _ _ _ _ ?hX ?hT ?hd ?hu ?_; (case hX => (with_unfolding_all exact Frag.In.keeps (by k_asm) (Fr.keep (by k_asm)))); (case hT => (with_unfolding_all exact Top.keeps (by k_asm) (Fr.keep (by k_asm)))); (case hd => ((try dsimp only); omega)); (case hu => ((try dsimp only); omega)); (case hx => exact item_le); (case hy => exact item_le)); intro v9q h9q tk9q K9q O9q; obtain ⟨t9q, ev9q⟩ := O9q; subst ev9q; (try dsimp only at K9q); (rename Fr _ _ _ _ => F8q); (rename News _ _ _ _ => N8q); (have F9q := after_fr F8q K9q); (have N9q := after_news N8q K9q); clear F8q N8q)) | ((with_reducible show wpAny _ _ (call (Value.type "list") _ _) _ _ _); (k_here; (with_reducible show wpAny _ _ (call (Value.type _) [Value.ref _]) _ _ _); (rename IsRange _ _ _ _ _ _ _ _ => rgXq); (with_unfolding_all refine' list_range2 ?k0 ?k1 ?k2 ?k3 ?k4 ?k5 ?_; (case k0 => rfl); (case k1 => k_asm); (case k2 => k_asm); (case k3 => exact rgXq); (case k4 => rfl); (case k5 => omega); k_whole); intro D'q vs'q c'q h'q tk'q F'q N'q l1q hI'q; (try k_lt l1q); clear rgXq)) | ((with_reducible show wpAny _ _ (pyIter (Value.ref _)) _ _ _); (refine Mark.to ?_)) | ((with_reducible show wpAny _ _ (exec (Stmt.While _ _ _ _) _) _ _ _); (refine Mark.to ?_)) | ((with_reducible show wpAny _ _ (subscriptTail (Expr.Name _ _) (Expr.BinOp _ _ _ _) (Value.str _ _) (Value.int _ _)) _ _ _); (k_here; (with_reducible show wpAny _ _ (subscriptTail _ _ (Value.str _ _) (Value.int _ _)) _ _ _); k_dflt (refine' item_at ?h1 ?h2 ?h3 ?_ ?h6 ?h7; (case h1 => first | exact idx_neg (by with_reducible assumption) (by with_reducible assumption) (by with_reducible assumption) | exact idx_zero (by with_reducible assumption) (by with_reducible assumption)); (case h2 => omega); (case h3 => omega); (case h6 => (intro _; with_unfolding_all rfl)); (case h7 => (intro _ _; with_unfolding_all rfl))))) | ((with_reducible show wpAny _ _ (subscriptTail (Expr.Name _ _) (Expr.Slice _ _ _ _) (Value.str _ _) (Value.ref _)) _ _ _); ((with_reducible show wpAny _ _ (subscriptTail _ (Expr.Slice none (some _) none _) _ _) _ _ _); (with_reducible rename Fr _ _ _ _ => F'q); (with_reducible rename News _ _ _ _ => N'q); refine slice_strN_nn_len (s := ⟨_, _, _, _, _⟩) F'q N'q ?_; intro _ _ _ _ _ _)) | walk1 | (dsimp only; first | ((with_reducible show wpAny _ _ (eval (Expr.Subscript _ _ _) _) _ _ _); ((with_reducible show wpAny _ _ (eval (Expr.Subscript _ (Expr.Slice none (some _) none _) _) _) _ _ _); (have _ : Halt := by assumption); refine Mark.to ?_)) | ((with_reducible show wpAny _ _ (call (Value.ref _) _ _) _ _ _); (k_here; (with_reducible show wpAny _ _ (call (Value.ref 45) _) _ _ _); k_dflt (refine' sub_claim _ _ _ _ _ _ _ _ _ _ ?hx ?hy _ _ _ _ _ _ _ ?hX ?hT ?hd ?hu ?_; (case hX => (with_unfolding_all exact Frag.In.keeps (by k_asm) (Fr.keep (by k_asm)))); (case hT => (with_unfolding_all exact Top.keeps (by k_asm) (Fr.keep (by k_asm)))); (case hd => ((try dsimp only); omega)); (case hu => ((try dsimp only); omega)); (case hx => exact item_le); (case hy => exact item_le)); intro v9q h9q tk9q K9q O9q; obtain ⟨t9q, ev9q⟩ := O9q; subst ev9q; (try dsimp only at K9q); (rename Fr _ _ _ _ => F8q); (rename News _ _ _ _ => N8q); (have F9q := after_fr F8q K9q); (have N9q := after_news N8q K9q); clear F8q N8q)) | ((with_reducible show wpAny _ _ (call (Value.type "list") _ _) _ _ _); (k_here; (with_reducible show wpAny _ _ (call (Value.type _) [Value.ref _]) _ _ _); (rename IsRange _ _ _ _ _ _ _ _ => rgXq); (with_unfolding_all refine' list_range2 ?k0 ?k1 ?k2 ?k3 ?k4 ?k5 ?_; (case k0 => rfl); (case k1 => k_asm); (case k2 => k_asm); (case k3 => exact rgXq); (case k4 => rfl); (case k5 => omega); k_whole); intro D'q vs'q c'q h'q tk'q F'q N'q l1q hI'q; (try k_lt l1q); clear rgXq)) | ((with_reducible show wpAny _ _ (pyIter (Value.ref _)) _ _ _); (refine Mark.to ?_)) | ((with_reducible show wpAny _ _ (exec (Stmt.While _ _ _ _) _) _ _ _); (refine Mark.to ?_)) | ((with_reducible show wpAny _ _ (subscriptTail (Expr.Name _ _) (Expr.BinOp _ _ _ _) (Value.str _ _) (Value.int _ _)) _ _ _); (k_here; (with_reducible show wpAny _ _ (subscriptTail _ _ (Value.str _ _) (Value.int _ _)) _ _ _); k_dflt (refine' item_at ?h1 ?h2 ?h3 ?_ ?h6 ?h7; (case h1 => first | exact idx_neg (by with_reducible assumption) (by with_reducible assumption) (by with_reducible assumption) | exact idx_zero (by with_reducible assumption) (by with_reducible assumption)); (case h2 => omega); (case h3 => omega); (case h6 => (intro _; with_unfolding_all rfl)); (case h7 => (intro _ _; with_unfolding_all rfl))))) | ((with_reducible show wpAny _ _ (subscriptTail (Expr.Name _ _) (Expr.Slice _ _ _ _) (Value.str _ _) (Value.ref _)) _ _ _); ((with_reducible show wpAny _ _ (subscriptTail _ (Expr.Slice none (some _) none _) _ _) _ _ _); (with_reducible rename Fr _ _ _ _ => F'q); (with_reducible rename News _ _ _ _ => N'q); refine slice_strN_nn_len (s := ⟨_, _, _, _, _⟩) F'q N'q ?_; intro _ _ _ _ _ _)) | walk1) | (leave1; walk_say "STEP leave1"; try dsimp only) | fail "no step"))
      all_goals (refine Mark.mk (SeqLeaf.intro ⟨?_, AtCnt.intro (by assumption) (by assumption)⟩))
      all_goals (first | exact absurd (show k = 0 by with_reducible assumption) (by with_reducible assumption) | exact dn1 (cut_ne (by with_reducible assumption)) (by with_reducible assumption) | exact dn1 (cut_eq (by with_reducible assumption)) (by with_reducible assumption) | exact dn2 (cut_ne (by with_reducible assumption)) (cut_ne (by with_reducible assumption)) (by with_reducible assumption) (by with_reducible assumption) | exact dn2 (cut_eq (by with_reducible assumption)) (cut_eq (by with_reducible assumption)) (by with_reducible assumption) (by with_reducible assumption) | exact dn3 (cut_ne (by with_reducible assumption)) (cut_ne (by with_reducible assumption)) (by with_reducible assumption) (by with_reducible assumption) (by with_reducible assumption) | exact dn3 (cut_eq (by with_reducible assumption)) (cut_eq (by with_reducible assumption)) (by with_reducible assumption) (by with_reducible assumption) (by with_reducible assumption))
    case gturn => 
      intro k t h₁ tk₁ hk hkK hc F1 N1
      w_strict (repeat' (first | (k_unfold; (try dsimp only)) | (dsimp only; k_unfold; (try dsimp only)) | ((with_reducible show wpAny _ _ (eval (Expr.Subscript _ _ _) _) _ _ _); ((with_reducible show wpAny _ _ (eval (Expr.Subscript _ (Expr.Slice none (some _) none _) _) _) _ _ _); (have _ : Halt := by assumption); refine Mark.to ?_)) | ((with_reducible show wpAny _ _ (call (Value.ref _) _ _) _ _ _); (k_here; (with_reducible show wpAny _ _ (call (Value.ref 45) _) _ _ _); k_dflt (refine' sub_claim _ _ _ _ _ _ _ _ _ _ ?hx ?hy _ _ _ _ _ _ _ ?hX ?hT ?hd ?hu ?_; (case hX => (with_unfolding_all exact Frag.In.keeps (by k_asm) (Fr.keep (by k_asm)))); (case hT => (with_unfolding_all exact Top.keeps (by k_asm) (Fr.keep (by k_asm)))); (case hd => ((try dsimp only); omega)); (case hu => ((try dsimp only); omega)); (case hx => exact item_le); (case hy => exact item_le)); intro v9q h9q tk9q K9q O9q; obtain ⟨t9q, ev9q⟩ := O9q; subst ev9q; (try dsimp only at K9q); (rename Fr _ _ _ _ => F8q); (rename News _ _ _ _ => N8q); (have F9q := after_fr F8q K9q); (have N9q := after_news N8q K9q); clear F8q N8q)) | ((with_reducible show wpAny _ _ (call (Value.type "list") _ _) _ _ _); (k_here; (with_reducible show wpAny _ _ (call (Value.type _) [Value.ref _]) _ _ _); (rename IsRange _ _ _ _ _ _ _ _ => rgXq); (with_unfolding_all refine' list_range2 ?k0 ?k1 ?k2 ?k3 ?k4 ?k5 ?_; (case k0 => rfl); (case k1 => k_asm); (case k2 => k_asm); (case k3 => exact rgXq); (case k4 => rfl); (case k5 => omega); k_whole); intro D'q vs'q c'q h'q tk'q F'q N'q l1q hI'q; (try k_lt l1q); clear rgXq)) | ((with_reducible show wpAny _ _ (pyIter (Value.ref _)) _ _ _); (refine Mark.to ?_)) | ((with_reducible show wpAny _ _ (exec (Stmt.While _ _ _ _) _) _ _ _); (refine Mark.to ?_)) | ((with_reducible show wpAny _ _ (subscriptTail (Expr.Name _ _) (Expr.BinOp _ _ _ _) (Value.str _ _) (Value.int _ _)) _ _ _); (k_here; (with_reducible show wpAny _ _ (subscriptTail _ _ (Value.str _ _) (Value.int _ _)) _ _ _); k_dflt (refine' item_at ?h1 ?h2 ?h3 ?_ ?h6 ?h7; (case h1 => first | exact idx_neg (by with_reducible assumption) (by with_reducible assumption) (by with_reducible assumption) | exact idx_zero (by with_reducible assumption) (by with_reducible assumption)); (case h2 => omega); (case h3 => omega); (case h6 => (intro _; with_unfolding_all rfl)); (case h7 => (intro _ _; with_unfolding_all rfl))))) | ((with_reducible show wpAny _ _ (subscriptTail (Expr.Name _ _) (Expr.Slice _ _ _ _) (Value.str _ _) (Value.ref _)) _ _ _); ((with_reducible show wpAny _ _ (subscriptTail _ (Expr.Slice none (some _) none _) _ _) _ _ _); (with_reducible rename Fr _ _ _ _ => F'q); (with_reducible rename News _ _ _ _ => N'q); refine slice_strN_nn_len (s := ⟨_, _, _, _, _⟩) F'q N'q ?_; intro _ _ _ _ _ _)) | walk1 | (dsimp only; first | ((with_reducible show wpAny _ _ (eval (Expr.Subscript _ _ _) _) _ _ _); ((with_reducible show wpAny _ _ (eval (Expr.Subscript _ (Expr.Slice none (some _) none _) _) _) _ _ _); (have _ : Halt := by assumption); refine Mark.to ?_)) | ((with_reducible show wpAny _ _ (call (Value.ref _) _ _) _ _ _); (k_here; (with_reducible show wpAny _ _ (call (Value.ref 45) _) _ _ _); k_dflt (refine' sub_claim _ _ _ _ _ _ _ _ _ _ ?hx ?hy _ _ _ _ _ _ _ ?hX ?hT ?hd ?hu ?_; (case hX => (with_unfolding_all exact Frag.In.keeps (by k_asm) (Fr.keep (by k_asm)))); (case hT => (with_unfolding_all exact Top.keeps (by k_asm) (Fr.keep (by k_asm)))); (case hd => ((try dsimp only); omega)); (case hu => ((try dsimp only); omega)); (case hx => exact item_le); (case hy => exact item_le)); intro v9q h9q tk9q K9q O9q; obtain ⟨t9q, ev9q⟩ := O9q; subst ev9q; (try dsimp only at K9q); (rename Fr _ _ _ _ => F8q); (rename News _ _ _ _ => N8q); (have F9q := after_fr F8q K9q); (have N9q := after_news N8q K9q); clear F8q N8q)) | ((with_reducible show wpAny _ _ (call (Value.type "list") _ _) _ _ _); (k_here; (with_reducible show wpAny _ _ (call (Value.type _) [Value.ref _]) _ _ _); (rename IsRange _ _ _ _ _ _ _ _ => rgXq); (with_unfolding_all refine' list_range2 ?k0 ?k1 ?k2 ?k3 ?k4 ?k5 ?_; (case k0 => rfl); (case k1 => k_asm); (case k2 => k_asm); (case k3 => exact rgXq); (case k4 => rfl); (case k5 => omega); k_whole); intro D'q vs'q c'q h'q tk'q F'q N'q l1q hI'q; (try k_lt l1q); clear rgXq)) | ((with_reducible show wpAny _ _ (pyIter (Value.ref _)) _ _ _); (refine Mark.to ?_)) | ((with_reducible show wpAny _ _ (exec (Stmt.While _ _ _ _) _) _ _ _); (refine Mark.to ?_)) | ((with_reducible show wpAny _ _ (subscriptTail (Expr.Name _ _) (Expr.BinOp _ _ _ _) (Value.str _ _) (Value.int _ _)) _ _ _); (k_here; (with_reducible show wpAny _ _ (subscriptTail _ _ (Value.str _ _) (Value.int _ _)) _ _ _); k_dflt (refine' item_at ?h1 ?h2 ?h3 ?_ ?h6 ?h7; (case h1 => first | exact idx_neg (by with_reducible assumption) (by with_reducible assumption) (by with_reducible assumption) | exact idx_zero (by with_reducible assumption) (by with_reducible assumption)); (case h2 => omega); (case h3 => omega); (case h6 => (intro _; with_unfolding_all rfl)); (case h7 => (intro _ _; with_unfolding_all rfl))))) | ((with_reducible show wpAny _ _ (subscriptTail (Expr.Name _ _) (Expr.Slice _ _ _ _) (Value.str _ _) (Value.ref _)) _ _ _); ((with_reducible show wpAny _ _ (subscriptTail _ (Expr.Slice none (some _) none _) _ _) _ _ _); (with_reducible rename Fr _ _ _ _ => F'q); (with_reducible rename News _ _ _ _ => N'q); refine slice_strN_nn_len (s := ⟨_, _, _, _, _⟩) F'q N'q ?_; intro _ _ _ _ _ _)) | walk1) | (leave1; walk_say "STEP leave1"; try dsimp only) | fail "no step"))
      all_goals (refine Mark.mk ?_; with_unfolding_all exact CntStep.intro (by assumption) (by assumption))
    case done =>
      intro k2 t h' tk hk hkK hall hend F1 N1
      have hk2 := Mark.mk (post_is hk (by omega) hall hend)
      clear hall hend
      dsimp only
      have eA : cutTo (Txt.slice a (some k1) none) k2 = pairA a b := pairA_is (Mark.to hk1) (Mark.to hk2)
      have eB : cutTo (Txt.slice b (some k1) none) k2 = pairB a b := pairB_is (Mark.to hk1) (Mark.to hk2)
      clear hk1 hk2 hdn hG hne
      generalize pairA a b = PA at eA hl h1 h6 hlow hret ⊢
      generalize pairB a b = PB at eB hl hlow hret ⊢
      have h6' : PB.length ≤ 6 := by omega
      have h1' : 1 ≤ PB.length := by omega
      replace eA := Mark.mk eA
      replace eB := Mark.mk eB
      replace hlow := Mark.mk hlow
      have hh : Halt := trivial
      w_strict (repeat' (first | (k_unfold; (try dsimp only)) | (dsimp only; k_unfold; (try dsimp only)) | ((with_reducible show wpAny _ _ (eval (Expr.Subscript _ _ _) _) _ _ _); ((with_reducible show wpAny _ _ (eval (Expr.Subscript _ (Expr.Slice none (some _) none _) _) _) _ _ _); (have _ : Halt := by assumption); refine Mark.to ?_)) | ((with_reducible show wpAny _ _ (call (Value.ref _) _ _) _ _ _); (k_here; (with_reducible show wpAny _ _ (call (Value.ref 45) _) _ _ _); k_dflt (refine' sub_claim _ _ _ _ _ _ _ _ _ _ ?hx ?hy _ _ _ _ _ _ _ ?hX ?hT ?hd ?hu ?_; (case hX => (with_unfolding_all exact Frag.In.keeps (by k_asm) (Fr.keep (by k_asm)))); (case hT => (with_unfolding_all exact Top.keeps (by k_asm) (Fr.keep (by k_asm)))); (case hd => ((try dsimp only); omega)); (case hu => ((try dsimp only); omega)); (case hx => exact item_le); (case hy => exact item_le)); intro v9q h9q tk9q K9q O9q; obtain ⟨t9q, ev9q⟩ := O9q; subst ev9q; (try dsimp only at K9q); (rename Fr _ _ _ _ => F8q); (rename News _ _ _ _ => N8q); (have F9q := after_fr F8q K9q); (have N9q := after_news N8q K9q); clear F8q N8q)) | ((with_reducible show wpAny _ _ (call (Value.type "list") _ _) _ _ _); (k_here; (with_reducible show wpAny _ _ (call (Value.type _) [Value.ref _]) _ _ _); (rename IsRange _ _ _ _ _ _ _ _ => rgXq); (with_unfolding_all refine' list_range2 ?k0 ?k1 ?k2 ?k3 ?k4 ?k5 ?_; (case k0 => rfl); (case k1 => k_asm); (case k2 => k_asm); (case k3 => exact rgXq); (case k4 => rfl); (case k5 => omega); k_whole); intro D'q vs'q c'q h'q tk'q F'q N'q l1q hI'q; (try k_lt l1q); clear rgXq)) | ((with_reducible show wpAny _ _ (pyIter (Value.ref _)) _ _ _); (refine Mark.to ?_)) | ((with_reducible show wpAny _ _ (exec (Stmt.While _ _ _ _) _) _ _ _); (refine Mark.to ?_)) | ((with_reducible show wpAny _ _ (subscriptTail (Expr.Name _ _) (Expr.BinOp _ _ _ _) (Value.str _ _) (Value.int _ _)) _ _ _); (k_here; (with_reducible show wpAny _ _ (subscriptTail _ _ (Value.str _ _) (Value.int _ _)) _ _ _); k_dflt (refine' item_at ?h1 ?h2 ?h3 ?_ ?h6 ?h7; (case h1 => first | exact idx_neg (by with_reducible assumption) (by with_reducible assumption) (by with_reducible assumption) | exact idx_zero (by with_reducible assumption) (by with_reducible assumption)); (case h2 => omega); (case h3 => omega); (case h6 => (intro _; with_unfolding_all rfl)); (case h7 => (intro _ _; with_unfolding_all rfl))))) | ((with_reducible show wpAny _ _ (subscriptTail (Expr.Name _ _) (Expr.Slice _ _ _ _) (Value.str _ _) (Value.ref _)) _ _ _); ((with_reducible show wpAny _ _ (subscriptTail _ (Expr.Slice none (some _) none _) _ _) _ _ _); (with_reducible rename Fr _ _ _ _ => F'q); (with_reducible rename News _ _ _ _ => N'q); refine slice_strN_nn_len (s := ⟨_, _, _, _, _⟩) F'q N'q ?_; intro _ _ _ _ _ _)) | walk1 | (dsimp only; first | ((with_reducible show wpAny _ _ (eval (Expr.Subscript _ _ _) _) _ _ _); ((with_reducible show wpAny _ _ (eval (Expr.Subscript _ (Expr.Slice none (some _) none _) _) _) _ _ _); (have _ : Halt := by assumption); refine Mark.to ?_)) | ((with_reducible show wpAny _ _ (call (Value.ref _) _ _) _ _ _); (k_here; (with_reducible show wpAny _ _ (call (Value.ref 45) _) _ _ _); k_dflt (refine' sub_claim _ _ _ _ _ _ _ _ _ _ ?hx ?hy _ _ _ _ _ _ _ ?hX ?hT ?hd ?hu ?_; (case hX => (with_unfolding_all exact Frag.In.keeps (by k_asm) (Fr.keep (by k_asm)))); (case hT => (with_unfolding_all exact Top.keeps (by k_asm) (Fr.keep (by k_asm)))); (case hd => ((try dsimp only); omega)); (case hu => ((try dsimp only); omega)); (case hx => exact item_le); (case hy => exact item_le)); intro v9q h9q tk9q K9q O9q; obtain ⟨t9q, ev9q⟩ := O9q; subst ev9q; (try dsimp only at K9q); (rename Fr _ _ _ _ => F8q); (rename News _ _ _ _ => N8q); (have F9q := after_fr F8q K9q); (have N9q := after_news N8q K9q); clear F8q N8q)) | ((with_reducible show wpAny _ _ (call (Value.type "list") _ _) _ _ _); (k_here; (with_reducible show wpAny _ _ (call (Value.type _) [Value.ref _]) _ _ _); (rename IsRange _ _ _ _ _ _ _ _ => rgXq); (with_unfolding_all refine' list_range2 ?k0 ?k1 ?k2 ?k3 ?k4 ?k5 ?_; (case k0 => rfl); (case k1 => k_asm); (case k2 => k_asm); (case k3 => exact rgXq); (case k4 => rfl); (case k5 => omega); k_whole); intro D'q vs'q c'q h'q tk'q F'q N'q l1q hI'q; (try k_lt l1q); clear rgXq)) | ((with_reducible show wpAny _ _ (pyIter (Value.ref _)) _ _ _); (refine Mark.to ?_)) | ((with_reducible show wpAny _ _ (exec (Stmt.While _ _ _ _) _) _ _ _); (refine Mark.to ?_)) | ((with_reducible show wpAny _ _ (subscriptTail (Expr.Name _ _) (Expr.BinOp _ _ _ _) (Value.str _ _) (Value.int _ _)) _ _ _); (k_here; (with_reducible show wpAny _ _ (subscriptTail _ _ (Value.str _ _) (Value.int _ _)) _ _ _); k_dflt (refine' item_at ?h1 ?h2 ?h3 ?_ ?h6 ?h7; (case h1 => first | exact idx_neg (by with_reducible assumption) (by with_reducible assumption) (by with_reducible assumption) | exact idx_zero (by with_reducible assumption) (by with_reducible assumption)); (case h2 => omega); (case h3 => omega); (case h6 => (intro _; with_unfolding_all rfl)); (case h7 => (intro _ _; with_unfolding_all rfl))))) | ((with_reducible show wpAny _ _ (subscriptTail (Expr.Name _ _) (Expr.Slice _ _ _ _) (Value.str _ _) (Value.ref _)) _ _ _); ((with_reducible show wpAny _ _ (subscriptTail _ (Expr.Slice none (some _) none _) _ _) _ _ _); (with_reducible rename Fr _ _ _ _ => F'q); (with_reducible rename News _ _ _ _ => N'q); refine slice_strN_nn_len (s := ⟨_, _, _, _, _⟩) F'q N'q ?_; intro _ _ _ _ _ _)) | walk1) | (leave1; walk_say "STEP leave1"; try dsimp only) | fail "no step"))
      all_goals (refine Mark.mk ?_; rename Fr _ _ _ _ => F3; rename News _ _ _ _ => N3)
      refine' cut_bridge (s := ⟨_, _, _, _, _⟩) (x := PA) F3 N3 (Subscript_ ?_) ?_
      · clear hh
        w_strict (repeat' (first | (k_unfold; (try dsimp only)) | (dsimp only; k_unfold; (try dsimp only)) | ((with_reducible show wpAny _ _ (eval (Expr.Subscript _ _ _) _) _ _ _); ((with_reducible show wpAny _ _ (eval (Expr.Subscript _ (Expr.Slice none (some _) none _) _) _) _ _ _); (have _ : Halt := by assumption); refine Mark.to ?_)) | ((with_reducible show wpAny _ _ (call (Value.ref _) _ _) _ _ _); (k_here; (with_reducible show wpAny _ _ (call (Value.ref 45) _) _ _ _); k_dflt (refine' sub_claim _ _ _ _ _ _ _ _ _ _ ?hx ?hy _ _ _ _ _ _ _ ?hX ?hT ?hd ?hu ?_; (case hX => (with_unfolding_all exact Frag.In.keeps (by k_asm) (Fr.keep (by k_asm)))); (case hT => (with_unfolding_all exact Top.keeps (by k_asm) (Fr.keep (by k_asm)))); (case hd => ((try dsimp only); omega)); (case hu => ((try dsimp only); omega)); (case hx => exact item_le); (case hy => exact item_le)); intro v9q h9q tk9q K9q O9q; obtain ⟨t9q, ev9q⟩ := O9q; subst ev9q; (try dsimp only at K9q); (rename Fr _ _ _ _ => F8q); (rename News _ _ _ _ => N8q); (have F9q := after_fr F8q K9q); (have N9q := after_news N8q K9q); clear F8q N8q)) | ((with_reducible show wpAny _ _ (call (Value.type "list") _ _) _ _ _); (k_here; (with_reducible show wpAny _ _ (call (Value.type _) [Value.ref _]) _ _ _); (rename IsRange _ _ _ _ _ _ _ _ => rgXq); (with_unfolding_all refine' list_range2 ?k0 ?k1 ?k2 ?k3 ?k4 ?k5 ?_; (case k0 => rfl); (case k1 => k_asm); (case k2 => k_asm); (case k3 => exact rgXq); (case k4 => rfl); (case k5 => omega); k_whole); intro D'q vs'q c'q h'q tk'q F'q N'q l1q hI'q; (try k_lt l1q); clear rgXq)) | ((with_reducible show wpAny _ _ (pyIter (Value.ref _)) _ _ _); (refine Mark.to ?_)) | ((with_reducible show wpAny _ _ (exec (Stmt.While _ _ _ _) _) _ _ _); (refine Mark.to ?_)) | ((with_reducible show wpAny _ _ (subscriptTail (Expr.Name _ _) (Expr.BinOp _ _ _ _) (Value.str _ _) (Value.int _ _)) _ _ _); (k_here; (with_reducible show wpAny _ _ (subscriptTail _ _ (Value.str _ _) (Value.int _ _)) _ _ _); k_dflt (refine' item_at ?h1 ?h2 ?h3 ?_ ?h6 ?h7; (case h1 => first | exact idx_neg (by with_reducible assumption) (by with_reducible assumption) (by with_reducible assumption) | exact idx_zero (by with_reducible assumption) (by with_reducible assumption)); (case h2 => omega); (case h3 => omega); (case h6 => (intro _; with_unfolding_all rfl)); (case h7 => (intro _ _; with_unfolding_all rfl))))) | ((with_reducible show wpAny _ _ (subscriptTail (Expr.Name _ _) (Expr.Slice _ _ _ _) (Value.str _ _) (Value.ref _)) _ _ _); ((with_reducible show wpAny _ _ (subscriptTail _ (Expr.Slice none (some _) none _) _ _) _ _ _); (with_reducible rename Fr _ _ _ _ => F'q); (with_reducible rename News _ _ _ _ => N'q); refine slice_strN_nn_len (s := ⟨_, _, _, _, _⟩) F'q N'q ?_; intro _ _ _ _ _ _)) | walk1 | (dsimp only; first | ((with_reducible show wpAny _ _ (eval (Expr.Subscript _ _ _) _) _ _ _); ((with_reducible show wpAny _ _ (eval (Expr.Subscript _ (Expr.Slice none (some _) none _) _) _) _ _ _); (have _ : Halt := by assumption); refine Mark.to ?_)) | ((with_reducible show wpAny _ _ (call (Value.ref _) _ _) _ _ _); (k_here; (with_reducible show wpAny _ _ (call (Value.ref 45) _) _ _ _); k_dflt (refine' sub_claim _ _ _ _ _ _ _ _ _ _ ?hx ?hy _ _ _ _ _ _ _ ?hX ?hT ?hd ?hu ?_; (case hX => (with_unfolding_all exact Frag.In.keeps (by k_asm) (Fr.keep (by k_asm)))); (case hT => (with_unfolding_all exact Top.keeps (by k_asm) (Fr.keep (by k_asm)))); (case hd => ((try dsimp only); omega)); (case hu => ((try dsimp only); omega)); (case hx => exact item_le); (case hy => exact item_le)); intro v9q h9q tk9q K9q O9q; obtain ⟨t9q, ev9q⟩ := O9q; subst ev9q; (try dsimp only at K9q); (rename Fr _ _ _ _ => F8q); (rename News _ _ _ _ => N8q); (have F9q := after_fr F8q K9q); (have N9q := after_news N8q K9q); clear F8q N8q)) | ((with_reducible show wpAny _ _ (call (Value.type "list") _ _) _ _ _); (k_here; (with_reducible show wpAny _ _ (call (Value.type _) [Value.ref _]) _ _ _); (rename IsRange _ _ _ _ _ _ _ _ => rgXq); (with_unfolding_all refine' list_range2 ?k0 ?k1 ?k2 ?k3 ?k4 ?k5 ?_; (case k0 => rfl); (case k1 => k_asm); (case k2 => k_asm); (case k3 => exact rgXq); (case k4 => rfl); (case k5 => omega); k_whole); intro D'q vs'q c'q h'q tk'q F'q N'q l1q hI'q; (try k_lt l1q); clear rgXq)) | ((with_reducible show wpAny _ _ (pyIter (Value.ref _)) _ _ _); (refine Mark.to ?_)) | ((with_reducible show wpAny _ _ (exec (Stmt.While _ _ _ _) _) _ _ _); (refine Mark.to ?_)) | ((with_reducible show wpAny _ _ (subscriptTail (Expr.Name _ _) (Expr.BinOp _ _ _ _) (Value.str _ _) (Value.int _ _)) _ _ _); (k_here; (with_reducible show wpAny _ _ (subscriptTail _ _ (Value.str _ _) (Value.int _ _)) _ _ _); k_dflt (refine' item_at ?h1 ?h2 ?h3 ?_ ?h6 ?h7; (case h1 => first | exact idx_neg (by with_reducible assumption) (by with_reducible assumption) (by with_reducible assumption) | exact idx_zero (by with_reducible assumption) (by with_reducible assumption)); (case h2 => omega); (case h3 => omega); (case h6 => (intro _; with_unfolding_all rfl)); (case h7 => (intro _ _; with_unfolding_all rfl))))) | ((with_reducible show wpAny _ _ (subscriptTail (Expr.Name _ _) (Expr.Slice _ _ _ _) (Value.str _ _) (Value.ref _)) _ _ _); ((with_reducible show wpAny _ _ (subscriptTail _ (Expr.Slice none (some _) none _) _ _) _ _ _); (with_reducible rename Fr _ _ _ _ => F'q); (with_reducible rename News _ _ _ _ => N'q); refine slice_strN_nn_len (s := ⟨_, _, _, _, _⟩) F'q N'q ?_; intro _ _ _ _ _ _)) | walk1) | (leave1; walk_say "STEP leave1"; try dsimp only) | fail "no step"))
        all_goals (try exact absurd (show k2 = 0 by with_reducible assumption) (by with_reducible assumption))
        all_goals (refine Mark.mk (SeqLeaf.intro (CutLeaf.mk ?_ (by assumption) (by assumption))); have q := Mark.to eA; first | (rw [cut_ne (k := k2) (by with_reducible assumption)] at q; exact q.symm) | (rw [cut_eq (k := k2) (by with_reducible assumption)] at q; exact q.symm))
      clear eA F3 N3
      intro h3 tk3 t3 F3 N3
      w_strict (repeat' (first | (k_unfold; (try dsimp only)) | (dsimp only; k_unfold; (try dsimp only)) | ((with_reducible show wpAny _ _ (eval (Expr.Subscript _ _ _) _) _ _ _); ((with_reducible show wpAny _ _ (eval (Expr.Subscript _ (Expr.Slice none (some _) none _) _) _) _ _ _); (have _ : Halt := by assumption); refine Mark.to ?_)) | ((with_reducible show wpAny _ _ (call (Value.ref _) _ _) _ _ _); (k_here; (with_reducible show wpAny _ _ (call (Value.ref 45) _) _ _ _); k_dflt (refine' sub_claim _ _ _ _ _ _ _ _ _ _ ?hx ?hy _ _ _ _ _ _ _ ?hX ?hT ?hd ?hu ?_; (case hX => (with_unfolding_all exact Frag.In.keeps (by k_asm) (Fr.keep (by k_asm)))); (case hT => (with_unfolding_all exact Top.keeps (by k_asm) (Fr.keep (by k_asm)))); (case hd => ((try dsimp only); omega)); (case hu => ((try dsimp only); omega)); (case hx => exact item_le); (case hy => exact item_le)); intro v9q h9q tk9q K9q O9q; obtain ⟨t9q, ev9q⟩ := O9q; subst ev9q; (try dsimp only at K9q); (rename Fr _ _ _ _ => F8q); (rename News _ _ _ _ => N8q); (have F9q := after_fr F8q K9q); (have N9q := after_news N8q K9q); clear F8q N8q)) | ((with_reducible show wpAny _ _ (call (Value.type "list") _ _) _ _ _); (k_here; (with_reducible show wpAny _ _ (call (Value.type _) [Value.ref _]) _ _ _); (rename IsRange _ _ _ _ _ _ _ _ => rgXq); (with_unfolding_all refine' list_range2 ?k0 ?k1 ?k2 ?k3 ?k4 ?k5 ?_; (case k0 => rfl); (case k1 => k_asm); (case k2 => k_asm); (case k3 => exact rgXq); (case k4 => rfl); (case k5 => omega); k_whole); intro D'q vs'q c'q h'q tk'q F'q N'q l1q hI'q; (try k_lt l1q); clear rgXq)) | ((with_reducible show wpAny _ _ (pyIter (Value.ref _)) _ _ _); (refine Mark.to ?_)) | ((with_reducible show wpAny _ _ (exec (Stmt.While _ _ _ _) _) _ _ _); (refine Mark.to ?_)) | ((with_reducible show wpAny _ _ (subscriptTail (Expr.Name _ _) (Expr.BinOp _ _ _ _) (Value.str _ _) (Value.int _ _)) _ _ _); (k_here; (with_reducible show wpAny _ _ (subscriptTail _ _ (Value.str _ _) (Value.int _ _)) _ _ _); k_dflt (refine' item_at ?h1 ?h2 ?h3 ?_ ?h6 ?h7; (case h1 => first | exact idx_neg (by with_reducible assumption) (by with_reducible assumption) (by with_reducible assumption) | exact idx_zero (by with_reducible assumption) (by with_reducible assumption)); (case h2 => omega); (case h3 => omega); (case h6 => (intro _; with_unfolding_all rfl)); (case h7 => (intro _ _; with_unfolding_all rfl))))) | ((with_reducible show wpAny _ _ (subscriptTail (Expr.Name _ _) (Expr.Slice _ _ _ _) (Value.str _ _) (Value.ref _)) _ _ _); ((with_reducible show wpAny _ _ (subscriptTail _ (Expr.Slice none (some _) none _) _ _) _ _ _); (with_reducible rename Fr _ _ _ _ => F'q); (with_reducible rename News _ _ _ _ => N'q); refine slice_strN_nn_len (s := ⟨_, _, _, _, _⟩) F'q N'q ?_; intro _ _ _ _ _ _)) | walk1 | (dsimp only; first | ((with_reducible show wpAny _ _ (eval (Expr.Subscript _ _ _) _) _ _ _); ((with_reducible show wpAny _ _ (eval (Expr.Subscript _ (Expr.Slice none (some _) none _) _) _) _ _ _); (have _ : Halt := by assumption); refine Mark.to ?_)) | ((with_reducible show wpAny _ _ (call (Value.ref _) _ _) _ _ _); (k_here; (with_reducible show wpAny _ _ (call (Value.ref 45) _) _ _ _); k_dflt (refine' sub_claim _ _ _ _ _ _ _ _ _ _ ?hx ?hy _ _ _ _ _ _ _ ?hX ?hT ?hd ?hu ?_; (case hX => (with_unfolding_all exact Frag.In.keeps (by k_asm) (Fr.keep (by k_asm)))); (case hT => (with_unfolding_all exact Top.keeps (by k_asm) (Fr.keep (by k_asm)))); (case hd => ((try dsimp only); omega)); (case hu => ((try dsimp only); omega)); (case hx => exact item_le); (case hy => exact item_le)); intro v9q h9q tk9q K9q O9q; obtain ⟨t9q, ev9q⟩ := O9q; subst ev9q; (try dsimp only at K9q); (rename Fr _ _ _ _ => F8q); (rename News _ _ _ _ => N8q); (have F9q := after_fr F8q K9q); (have N9q := after_news N8q K9q); clear F8q N8q)) | ((with_reducible show wpAny _ _ (call (Value.type "list") _ _) _ _ _); (k_here; (with_reducible show wpAny _ _ (call (Value.type _) [Value.ref _]) _ _ _); (rename IsRange _ _ _ _ _ _ _ _ => rgXq); (with_unfolding_all refine' list_range2 ?k0 ?k1 ?k2 ?k3 ?k4 ?k5 ?_; (case k0 => rfl); (case k1 => k_asm); (case k2 => k_asm); (case k3 => exact rgXq); (case k4 => rfl); (case k5 => omega); k_whole); intro D'q vs'q c'q h'q tk'q F'q N'q l1q hI'q; (try k_lt l1q); clear rgXq)) | ((with_reducible show wpAny _ _ (pyIter (Value.ref _)) _ _ _); (refine Mark.to ?_)) | ((with_reducible show wpAny _ _ (exec (Stmt.While _ _ _ _) _) _ _ _); (refine Mark.to ?_)) | ((with_reducible show wpAny _ _ (subscriptTail (Expr.Name _ _) (Expr.BinOp _ _ _ _) (Value.str _ _) (Value.int _ _)) _ _ _); (k_here; (with_reducible show wpAny _ _ (subscriptTail _ _ (Value.str _ _) (Value.int _ _)) _ _ _); k_dflt (refine' item_at ?h1 ?h2 ?h3 ?_ ?h6 ?h7; (case h1 => first | exact idx_neg (by with_reducible assumption) (by with_reducible assumption) (by with_reducible assumption) | exact idx_zero (by with_reducible assumption) (by with_reducible assumption)); (case h2 => omega); (case h3 => omega); (case h6 => (intro _; with_unfolding_all rfl)); (case h7 => (intro _ _; with_unfolding_all rfl))))) | ((with_reducible show wpAny _ _ (subscriptTail (Expr.Name _ _) (Expr.Slice _ _ _ _) (Value.str _ _) (Value.ref _)) _ _ _); ((with_reducible show wpAny _ _ (subscriptTail _ (Expr.Slice none (some _) none _) _ _) _ _ _); (with_reducible rename Fr _ _ _ _ => F'q); (with_reducible rename News _ _ _ _ => N'q); refine slice_strN_nn_len (s := ⟨_, _, _, _, _⟩) F'q N'q ?_; intro _ _ _ _ _ _)) | walk1) | (leave1; walk_say "STEP leave1"; try dsimp only) | fail "no step"))
      all_goals (refine Mark.mk ?_; rename Fr _ _ _ _ => F4; rename News _ _ _ _ => N4)
      refine' cut_bridge (s := ⟨_, _, _, _, _⟩) (x := PB) F4 N4 (Subscript_ ?_) ?_
      · clear hh
        w_strict (repeat' (first | (k_unfold; (try dsimp only)) | (dsimp only; k_unfold; (try dsimp only)) | ((with_reducible show wpAny _ _ (eval (Expr.Subscript _ _ _) _) _ _ _); ((with_reducible show wpAny _ _ (eval (Expr.Subscript _ (Expr.Slice none (some _) none _) _) _) _ _ _); (have _ : Halt := by assumption); refine Mark.to ?_)) | ((with_reducible show wpAny _ _ (call (Value.ref _) _ _) _ _ _); (k_here; (with_reducible show wpAny _ _ (call (Value.ref 45) _) _ _ _); k_dflt (refine' sub_claim _ _ _ _ _ _ _ _ _ _ ?hx ?hy _ _ _ _ _ _ _ ?hX ?hT ?hd ?hu ?_; (case hX => (with_unfolding_all exact Frag.In.keeps (by k_asm) (Fr.keep (by k_asm)))); (case hT => (with_unfolding_all exact Top.keeps (by k_asm) (Fr.keep (by k_asm)))); (case hd => ((try dsimp only); omega)); (case hu => ((try dsimp only); omega)); (case hx => exact item_le); (case hy => exact item_le)); intro v9q h9q tk9q K9q O9q; obtain ⟨t9q, ev9q⟩ := O9q; subst ev9q; (try dsimp only at K9q); (rename Fr _ _ _ _ => F8q); (rename News _ _ _ _ => N8q); (have F9q := after_fr F8q K9q); (have N9q := after_news N8q K9q); clear F8q N8q)) | ((with_reducible show wpAny _ _ (call (Value.type "list") _ _) _ _ _); (k_here; (with_reducible show wpAny _ _ (call (Value.type _) [Value.ref _]) _ _ _); (rename IsRange _ _ _ _ _ _ _ _ => rgXq); (with_unfolding_all refine' list_range2 ?k0 ?k1 ?k2 ?k3 ?k4 ?k5 ?_; (case k0 => rfl); (case k1 => k_asm); (case k2 => k_asm); (case k3 => exact rgXq); (case k4 => rfl); (case k5 => omega); k_whole); intro D'q vs'q c'q h'q tk'q F'q N'q l1q hI'q; (try k_lt l1q); clear rgXq)) | ((with_reducible show wpAny _ _ (pyIter (Value.ref _)) _ _ _); (refine Mark.to ?_)) | ((with_reducible show wpAny _ _ (exec (Stmt.While _ _ _ _) _) _ _ _); (refine Mark.to ?_)) | ((with_reducible show wpAny _ _ (subscriptTail (Expr.Name _ _) (Expr.BinOp _ _ _ _) (Value.str _ _) (Value.int _ _)) _ _ _); (k_here; (with_reducible show wpAny _ _ (subscriptTail _ _ (Value.str _ _) (Value.int _ _)) _ _ _); k_dflt (refine' item_at ?h1 ?h2 ?h3 ?_ ?h6 ?h7; (case h1 => first | exact idx_neg (by with_reducible assumption) (by with_reducible assumption) (by with_reducible assumption) | exact idx_zero (by with_reducible assumption) (by with_reducible assumption)); (case h2 => omega); (case h3 => omega); (case h6 => (intro _; with_unfolding_all rfl)); (case h7 => (intro _ _; with_unfolding_all rfl))))) | ((with_reducible show wpAny _ _ (subscriptTail (Expr.Name _ _) (Expr.Slice _ _ _ _) (Value.str _ _) (Value.ref _)) _ _ _); ((with_reducible show wpAny _ _ (subscriptTail _ (Expr.Slice none (some _) none _) _ _) _ _ _); (with_reducible rename Fr _ _ _ _ => F'q); (with_reducible rename News _ _ _ _ => N'q); refine slice_strN_nn_len (s := ⟨_, _, _, _, _⟩) F'q N'q ?_; intro _ _ _ _ _ _)) | walk1 | (dsimp only; first | ((with_reducible show wpAny _ _ (eval (Expr.Subscript _ _ _) _) _ _ _); ((with_reducible show wpAny _ _ (eval (Expr.Subscript _ (Expr.Slice none (some _) none _) _) _) _ _ _); (have _ : Halt := by assumption); refine Mark.to ?_)) | ((with_reducible show wpAny _ _ (call (Value.ref _) _ _) _ _ _); (k_here; (with_reducible show wpAny _ _ (call (Value.ref 45) _) _ _ _); k_dflt (refine' sub_claim _ _ _ _ _ _ _ _ _ _ ?hx ?hy _ _ _ _ _ _ _ ?hX ?hT ?hd ?hu ?_; (case hX => (with_unfolding_all exact Frag.In.keeps (by k_asm) (Fr.keep (by k_asm)))); (case hT => (with_unfolding_all exact Top.keeps (by k_asm) (Fr.keep (by k_asm)))); (case hd => ((try dsimp only); omega)); (case hu => ((try dsimp only); omega)); (case hx => exact item_le); (case hy => exact item_le)); intro v9q h9q tk9q K9q O9q; obtain ⟨t9q, ev9q⟩ := O9q; subst ev9q; (try dsimp only at K9q); (rename Fr _ _ _ _ => F8q); (rename News _ _ _ _ => N8q); (have F9q := after_fr F8q K9q); (have N9q := after_news N8q K9q); clear F8q N8q)) | ((with_reducible show wpAny _ _ (call (Value.type "list") _ _) _ _ _); (k_here; (with_reducible show wpAny _ _ (call (Value.type _) [Value.ref _]) _ _ _); (rename IsRange _ _ _ _ _ _ _ _ => rgXq); (with_unfolding_all refine' list_range2 ?k0 ?k1 ?k2 ?k3 ?k4 ?k5 ?_; (case k0 => rfl); (case k1 => k_asm); (case k2 => k_asm); (case k3 => exact rgXq); (case k4 => rfl); (case k5 => omega); k_whole); intro D'q vs'q c'q h'q tk'q F'q N'q l1q hI'q; (try k_lt l1q); clear rgXq)) | ((with_reducible show wpAny _ _ (pyIter (Value.ref _)) _ _ _); (refine Mark.to ?_)) | ((with_reducible show wpAny _ _ (exec (Stmt.While _ _ _ _) _) _ _ _); (refine Mark.to ?_)) | ((with_reducible show wpAny _ _ (subscriptTail (Expr.Name _ _) (Expr.BinOp _ _ _ _) (Value.str _ _) (Value.int _ _)) _ _ _); (k_here; (with_reducible show wpAny _ _ (subscriptTail _ _ (Value.str _ _) (Value.int _ _)) _ _ _); k_dflt (refine' item_at ?h1 ?h2 ?h3 ?_ ?h6 ?h7; (case h1 => first | exact idx_neg (by with_reducible assumption) (by with_reducible assumption) (by with_reducible assumption) | exact idx_zero (by with_reducible assumption) (by with_reducible assumption)); (case h2 => omega); (case h3 => omega); (case h6 => (intro _; with_unfolding_all rfl)); (case h7 => (intro _ _; with_unfolding_all rfl))))) | ((with_reducible show wpAny _ _ (subscriptTail (Expr.Name _ _) (Expr.Slice _ _ _ _) (Value.str _ _) (Value.ref _)) _ _ _); ((with_reducible show wpAny _ _ (subscriptTail _ (Expr.Slice none (some _) none _) _ _) _ _ _); (with_reducible rename Fr _ _ _ _ => F'q); (with_reducible rename News _ _ _ _ => N'q); refine slice_strN_nn_len (s := ⟨_, _, _, _, _⟩) F'q N'q ?_; intro _ _ _ _ _ _)) | walk1) | (leave1; walk_say "STEP leave1"; try dsimp only) | fail "no step"))
        all_goals (try exact absurd (show k2 = 0 by with_reducible assumption) (by with_reducible assumption))
        all_goals (refine Mark.mk (SeqLeaf.intro (CutLeaf.mk ?_ (by assumption) (by assumption))); have q := Mark.to eB; first | (rw [cut_ne (k := k2) (by with_reducible assumption)] at q; exact q.symm) | (rw [cut_eq (k := k2) (by with_reducible assumption)] at q; exact q.symm))
      clear eB F4 N4 hh
      intro h4 tk4 t4 F4 N4
      w_strict (repeat' (first | (k_unfold; (try dsimp only)) | (dsimp only; k_unfold; (try dsimp only)) | ((with_reducible show wpAny _ _ (eval (Expr.Subscript _ _ _) _) _ _ _); ((with_reducible show wpAny _ _ (eval (Expr.Subscript _ (Expr.Slice none (some _) none _) _) _) _ _ _); (have _ : Halt := by assumption); refine Mark.to ?_)) | ((with_reducible show wpAny _ _ (call (Value.ref _) _ _) _ _ _); (k_here; (with_reducible show wpAny _ _ (call (Value.ref 45) _) _ _ _); k_dflt (refine' sub_claim _ _ _ _ _ _ _ _ _ _ ?hx ?hy _ _ _ _ _ _ _ ?hX ?hT ?hd ?hu ?_; (case hX => (with_unfolding_all exact Frag.In.keeps (by k_asm) (Fr.keep (by k_asm)))); (case hT => (with_unfolding_all exact Top.keeps (by k_asm) (Fr.keep (by k_asm)))); (case hd => ((try dsimp only); omega)); (case hu => ((try dsimp only); omega)); (case hx => exact item_le); (case hy => exact item_le)); intro v9q h9q tk9q K9q O9q; obtain ⟨t9q, ev9q⟩ := O9q; subst ev9q; (try dsimp only at K9q); (rename Fr _ _ _ _ => F8q); (rename News _ _ _ _ => N8q); (have F9q := after_fr F8q K9q); (have N9q := after_news N8q K9q); clear F8q N8q)) | ((with_reducible show wpAny _ _ (call (Value.type "list") _ _) _ _ _); (k_here; (with_reducible show wpAny _ _ (call (Value.type _) [Value.ref _]) _ _ _); (rename IsRange _ _ _ _ _ _ _ _ => rgXq); (with_unfolding_all refine' list_range2 ?k0 ?k1 ?k2 ?k3 ?k4 ?k5 ?_; (case k0 => rfl); (case k1 => k_asm); (case k2 => k_asm); (case k3 => exact rgXq); (case k4 => rfl); (case k5 => omega); k_whole); intro D'q vs'q c'q h'q tk'q F'q N'q l1q hI'q; (try k_lt l1q); clear rgXq)) | ((with_reducible show wpAny _ _ (pyIter (Value.ref _)) _ _ _); (refine Mark.to ?_)) | ((with_reducible show wpAny _ _ (exec (Stmt.While _ _ _ _) _) _ _ _); (refine Mark.to ?_)) | ((with_reducible show wpAny _ _ (subscriptTail (Expr.Name _ _) (Expr.BinOp _ _ _ _) (Value.str _ _) (Value.int _ _)) _ _ _); (k_here; (with_reducible show wpAny _ _ (subscriptTail _ _ (Value.str _ _) (Value.int _ _)) _ _ _); k_dflt (refine' item_at ?h1 ?h2 ?h3 ?_ ?h6 ?h7; (case h1 => first | exact idx_neg (by with_reducible assumption) (by with_reducible assumption) (by with_reducible assumption) | exact idx_zero (by with_reducible assumption) (by with_reducible assumption)); (case h2 => omega); (case h3 => omega); (case h6 => (intro _; with_unfolding_all rfl)); (case h7 => (intro _ _; with_unfolding_all rfl))))) | ((with_reducible show wpAny _ _ (subscriptTail (Expr.Name _ _) (Expr.Slice _ _ _ _) (Value.str _ _) (Value.ref _)) _ _ _); ((with_reducible show wpAny _ _ (subscriptTail _ (Expr.Slice none (some _) none _) _ _) _ _ _); (with_reducible rename Fr _ _ _ _ => F'q); (with_reducible rename News _ _ _ _ => N'q); refine slice_strN_nn_len (s := ⟨_, _, _, _, _⟩) F'q N'q ?_; intro _ _ _ _ _ _)) | walk1 | (dsimp only; first | ((with_reducible show wpAny _ _ (eval (Expr.Subscript _ _ _) _) _ _ _); ((with_reducible show wpAny _ _ (eval (Expr.Subscript _ (Expr.Slice none (some _) none _) _) _) _ _ _); (have _ : Halt := by assumption); refine Mark.to ?_)) | ((with_reducible show wpAny _ _ (call (Value.ref _) _ _) _ _ _); (k_here; (with_reducible show wpAny _ _ (call (Value.ref 45) _) _ _ _); k_dflt (refine' sub_claim _ _ _ _ _ _ _ _ _ _ ?hx ?hy _ _ _ _ _ _ _ ?hX ?hT ?hd ?hu ?_; (case hX => (with_unfolding_all exact Frag.In.keeps (by k_asm) (Fr.keep (by k_asm)))); (case hT => (with_unfolding_all exact Top.keeps (by k_asm) (Fr.keep (by k_asm)))); (case hd => ((try dsimp only); omega)); (case hu => ((try dsimp only); omega)); (case hx => exact item_le); (case hy => exact item_le)); intro v9q h9q tk9q K9q O9q; obtain ⟨t9q, ev9q⟩ := O9q; subst ev9q; (try dsimp only at K9q); (rename Fr _ _ _ _ => F8q); (rename News _ _ _ _ => N8q); (have F9q := after_fr F8q K9q); (have N9q := after_news N8q K9q); clear F8q N8q)) | ((with_reducible show wpAny _ _ (call (Value.type "list") _ _) _ _ _); (k_here; (with_reducible show wpAny _ _ (call (Value.type _) [Value.ref _]) _ _ _); (rename IsRange _ _ _ _ _ _ _ _ => rgXq); (with_unfolding_all refine' list_range2 ?k0 ?k1 ?k2 ?k3 ?k4 ?k5 ?_; (case k0 => rfl); (case k1 => k_asm); (case k2 => k_asm); (case k3 => exact rgXq); (case k4 => rfl); (case k5 => omega); k_whole); intro D'q vs'q c'q h'q tk'q F'q N'q l1q hI'q; (try k_lt l1q); clear rgXq)) | ((with_reducible show wpAny _ _ (pyIter (Value.ref _)) _ _ _); (refine Mark.to ?_)) | ((with_reducible show wpAny _ _ (exec (Stmt.While _ _ _ _) _) _ _ _); (refine Mark.to ?_)) | ((with_reducible show wpAny _ _ (subscriptTail (Expr.Name _ _) (Expr.BinOp _ _ _ _) (Value.str _ _) (Value.int _ _)) _ _ _); (k_here; (with_reducible show wpAny _ _ (subscriptTail _ _ (Value.str _ _) (Value.int _ _)) _ _ _); k_dflt (refine' item_at ?h1 ?h2 ?h3 ?_ ?h6 ?h7; (case h1 => first | exact idx_neg (by with_reducible assumption) (by with_reducible assumption) (by with_reducible assumption) | exact idx_zero (by with_reducible assumption) (by with_reducible assumption)); (case h2 => omega); (case h3 => omega); (case h6 => (intro _; with_unfolding_all rfl)); (case h7 => (intro _ _; with_unfolding_all rfl))))) | ((with_reducible show wpAny _ _ (subscriptTail (Expr.Name _ _) (Expr.Slice _ _ _ _) (Value.str _ _) (Value.ref _)) _ _ _); ((with_reducible show wpAny _ _ (subscriptTail _ (Expr.Slice none (some _) none _) _ _) _ _ _); (with_reducible rename Fr _ _ _ _ => F'q); (with_reducible rename News _ _ _ _ => N'q); refine slice_strN_nn_len (s := ⟨_, _, _, _, _⟩) F'q N'q ?_; intro _ _ _ _ _ _)) | walk1) | (leave1; walk_say "STEP leave1"; try dsimp only) | fail "no step"))
      all_goals (try (exfalso; omega))
      all_goals (refine Mark.mk ?_)
      all_goals (w_strict (k_state (fun pre result row => OutAt PA PB pre.length result row) "result" "row"))
      rotate_left
      · w_strict (repeat' (first | (k_unfold; (try dsimp only)) | (dsimp only; k_unfold; (try dsimp only)) | ((with_reducible show wpAny _ _ (eval (Expr.Subscript _ _ _) _) _ _ _); ((with_reducible show wpAny _ _ (eval (Expr.Subscript _ (Expr.Slice none (some _) none _) _) _) _ _ _); (have _ : Halt := by assumption); refine Mark.to ?_)) | ((with_reducible show wpAny _ _ (call (Value.ref _) _ _) _ _ _); (k_here; (with_reducible show wpAny _ _ (call (Value.ref 45) _) _ _ _); k_dflt (refine' sub_claim _ _ _ _ _ _ _ _ _ _ ?hx ?hy _ _ _ _ _ _ _ ?hX ?hT ?hd ?hu ?_; (case hX => (with_unfolding_all exact Frag.In.keeps (by k_asm) (Fr.keep (by k_asm)))); (case hT => (with_unfolding_all exact Top.keeps (by k_asm) (Fr.keep (by k_asm)))); (case hd => ((try dsimp only); omega)); (case hu => ((try dsimp only); omega)); (case hx => exact item_le); (case hy => exact item_le)); intro v9q h9q tk9q K9q O9q; obtain ⟨t9q, ev9q⟩ := O9q; subst ev9q; (try dsimp only at K9q); (rename Fr _ _ _ _ => F8q); (rename News _ _ _ _ => N8q); (have F9q := after_fr F8q K9q); (have N9q := after_news N8q K9q); clear F8q N8q)) | ((with_reducible show wpAny _ _ (call (Value.type "list") _ _) _ _ _); (k_here; (with_reducible show wpAny _ _ (call (Value.type _) [Value.ref _]) _ _ _); (rename IsRange _ _ _ _ _ _ _ _ => rgXq); (with_unfolding_all refine' list_range2 ?k0 ?k1 ?k2 ?k3 ?k4 ?k5 ?_; (case k0 => rfl); (case k1 => k_asm); (case k2 => k_asm); (case k3 => exact rgXq); (case k4 => rfl); (case k5 => omega); k_whole); intro D'q vs'q c'q h'q tk'q F'q N'q l1q hI'q; (try k_lt l1q); clear rgXq)) | ((with_reducible show wpAny _ _ (pyIter (Value.ref _)) _ _ _); (refine Mark.to ?_)) | ((with_reducible show wpAny _ _ (exec (Stmt.While _ _ _ _) _) _ _ _); (refine Mark.to ?_)) | ((with_reducible show wpAny _ _ (subscriptTail (Expr.Name _ _) (Expr.BinOp _ _ _ _) (Value.str _ _) (Value.int _ _)) _ _ _); (k_here; (with_reducible show wpAny _ _ (subscriptTail _ _ (Value.str _ _) (Value.int _ _)) _ _ _); k_dflt (refine' item_at ?h1 ?h2 ?h3 ?_ ?h6 ?h7; (case h1 => first | exact idx_neg (by with_reducible assumption) (by with_reducible assumption) (by with_reducible assumption) | exact idx_zero (by with_reducible assumption) (by with_reducible assumption)); (case h2 => omega); (case h3 => omega); (case h6 => (intro _; with_unfolding_all rfl)); (case h7 => (intro _ _; with_unfolding_all rfl))))) | ((with_reducible show wpAny _ _ (subscriptTail (Expr.Name _ _) (Expr.Slice _ _ _ _) (Value.str _ _) (Value.ref _)) _ _ _); ((with_reducible show wpAny _ _ (subscriptTail _ (Expr.Slice none (some _) none _) _ _) _ _ _); (with_reducible rename Fr _ _ _ _ => F'q); (with_reducible rename News _ _ _ _ => N'q); refine slice_strN_nn_len (s := ⟨_, _, _, _, _⟩) F'q N'q ?_; intro _ _ _ _ _ _)) | walk1 | (dsimp only; first | ((with_reducible show wpAny _ _ (eval (Expr.Subscript _ _ _) _) _ _ _); ((with_reducible show wpAny _ _ (eval (Expr.Subscript _ (Expr.Slice none (some _) none _) _) _) _ _ _); (have _ : Halt := by assumption); refine Mark.to ?_)) | ((with_reducible show wpAny _ _ (call (Value.ref _) _ _) _ _ _); (k_here; (with_reducible show wpAny _ _ (call (Value.ref 45) _) _ _ _); k_dflt (refine' sub_claim _ _ _ _ _ _ _ _ _ _ ?hx ?hy _ _ _ _ _ _ _ ?hX ?hT ?hd ?hu ?_; (case hX => (with_unfolding_all exact Frag.In.keeps (by k_asm) (Fr.keep (by k_asm)))); (case hT => (with_unfolding_all exact Top.keeps (by k_asm) (Fr.keep (by k_asm)))); (case hd => ((try dsimp only); omega)); (case hu => ((try dsimp only); omega)); (case hx => exact item_le); (case hy => exact item_le)); intro v9q h9q tk9q K9q O9q; obtain ⟨t9q, ev9q⟩ := O9q; subst ev9q; (try dsimp only at K9q); (rename Fr _ _ _ _ => F8q); (rename News _ _ _ _ => N8q); (have F9q := after_fr F8q K9q); (have N9q := after_news N8q K9q); clear F8q N8q)) | ((with_reducible show wpAny _ _ (call (Value.type "list") _ _) _ _ _); (k_here; (with_reducible show wpAny _ _ (call (Value.type _) [Value.ref _]) _ _ _); (rename IsRange _ _ _ _ _ _ _ _ => rgXq); (with_unfolding_all refine' list_range2 ?k0 ?k1 ?k2 ?k3 ?k4 ?k5 ?_; (case k0 => rfl); (case k1 => k_asm); (case k2 => k_asm); (case k3 => exact rgXq); (case k4 => rfl); (case k5 => omega); k_whole); intro D'q vs'q c'q h'q tk'q F'q N'q l1q hI'q; (try k_lt l1q); clear rgXq)) | ((with_reducible show wpAny _ _ (pyIter (Value.ref _)) _ _ _); (refine Mark.to ?_)) | ((with_reducible show wpAny _ _ (exec (Stmt.While _ _ _ _) _) _ _ _); (refine Mark.to ?_)) | ((with_reducible show wpAny _ _ (subscriptTail (Expr.Name _ _) (Expr.BinOp _ _ _ _) (Value.str _ _) (Value.int _ _)) _ _ _); (k_here; (with_reducible show wpAny _ _ (subscriptTail _ _ (Value.str _ _) (Value.int _ _)) _ _ _); k_dflt (refine' item_at ?h1 ?h2 ?h3 ?_ ?h6 ?h7; (case h1 => first | exact idx_neg (by with_reducible assumption) (by with_reducible assumption) (by with_reducible assumption) | exact idx_zero (by with_reducible assumption) (by with_reducible assumption)); (case h2 => omega); (case h3 => omega); (case h6 => (intro _; with_unfolding_all rfl)); (case h7 => (intro _ _; with_unfolding_all rfl))))) | ((with_reducible show wpAny _ _ (subscriptTail (Expr.Name _ _) (Expr.Slice _ _ _ _) (Value.str _ _) (Value.ref _)) _ _ _); ((with_reducible show wpAny _ _ (subscriptTail _ (Expr.Slice none (some _) none _) _ _) _ _ _); (with_reducible rename Fr _ _ _ _ => F'q); (with_reducible rename News _ _ _ _ => N'q); refine slice_strN_nn_len (s := ⟨_, _, _, _, _⟩) F'q N'q ?_; intro _ _ _ _ _ _)) | walk1) | (leave1; walk_say "STEP leave1"; try dsimp only) | fail "no step"))
        rename (_ = Shared.heap _) => hgE
        subst hgE
        rename OutAt _ _ _ _ _ => hO
        refine hret _ _ _ (Fr.keep (by k_asm)) (outI_of (res_is hO (ks_lenB hl)))
      w_strict (repeat' (first | (k_unfold; (try dsimp only)) | (dsimp only; k_unfold; (try dsimp only)) | ((with_reducible show wpAny _ _ (eval (Expr.Subscript _ _ _) _) _ _ _); ((with_reducible show wpAny _ _ (eval (Expr.Subscript _ (Expr.Slice none (some _) none _) _) _) _ _ _); (have _ : Halt := by assumption); refine Mark.to ?_)) | ((with_reducible show wpAny _ _ (call (Value.ref _) _ _) _ _ _); (k_here; (with_reducible show wpAny _ _ (call (Value.ref 45) _) _ _ _); k_dflt (refine' sub_claim _ _ _ _ _ _ _ _ _ _ ?hx ?hy _ _ _ _ _ _ _ ?hX ?hT ?hd ?hu ?_; (case hX => (with_unfolding_all exact Frag.In.keeps (by k_asm) (Fr.keep (by k_asm)))); (case hT => (with_unfolding_all exact Top.keeps (by k_asm) (Fr.keep (by k_asm)))); (case hd => ((try dsimp only); omega)); (case hu => ((try dsimp only); omega)); (case hx => exact item_le); (case hy => exact item_le)); intro v9q h9q tk9q K9q O9q; obtain ⟨t9q, ev9q⟩ := O9q; subst ev9q; (try dsimp only at K9q); (rename Fr _ _ _ _ => F8q); (rename News _ _ _ _ => N8q); (have F9q := after_fr F8q K9q); (have N9q := after_news N8q K9q); clear F8q N8q)) | ((with_reducible show wpAny _ _ (call (Value.type "list") _ _) _ _ _); (k_here; (with_reducible show wpAny _ _ (call (Value.type _) [Value.ref _]) _ _ _); (rename IsRange _ _ _ _ _ _ _ _ => rgXq); (with_unfolding_all refine' list_range2 ?k0 ?k1 ?k2 ?k3 ?k4 ?k5 ?_; (case k0 => rfl); (case k1 => k_asm); (case k2 => k_asm); (case k3 => exact rgXq); (case k4 => rfl); (case k5 => omega); k_whole); intro D'q vs'q c'q h'q tk'q F'q N'q l1q hI'q; (try k_lt l1q); clear rgXq)) | ((with_reducible show wpAny _ _ (pyIter (Value.ref _)) _ _ _); (refine Mark.to ?_)) | ((with_reducible show wpAny _ _ (exec (Stmt.While _ _ _ _) _) _ _ _); (refine Mark.to ?_)) | ((with_reducible show wpAny _ _ (subscriptTail (Expr.Name _ _) (Expr.BinOp _ _ _ _) (Value.str _ _) (Value.int _ _)) _ _ _); (k_here; (with_reducible show wpAny _ _ (subscriptTail _ _ (Value.str _ _) (Value.int _ _)) _ _ _); k_dflt (refine' item_at ?h1 ?h2 ?h3 ?_ ?h6 ?h7; (case h1 => first | exact idx_neg (by with_reducible assumption) (by with_reducible assumption) (by with_reducible assumption) | exact idx_zero (by with_reducible assumption) (by with_reducible assumption)); (case h2 => omega); (case h3 => omega); (case h6 => (intro _; with_unfolding_all rfl)); (case h7 => (intro _ _; with_unfolding_all rfl))))) | ((with_reducible show wpAny _ _ (subscriptTail (Expr.Name _ _) (Expr.Slice _ _ _ _) (Value.str _ _) (Value.ref _)) _ _ _); ((with_reducible show wpAny _ _ (subscriptTail _ (Expr.Slice none (some _) none _) _ _) _ _ _); (with_reducible rename Fr _ _ _ _ => F'q); (with_reducible rename News _ _ _ _ => N'q); refine slice_strN_nn_len (s := ⟨_, _, _, _, _⟩) F'q N'q ?_; intro _ _ _ _ _ _)) | walk1 | (dsimp only; first | ((with_reducible show wpAny _ _ (eval (Expr.Subscript _ _ _) _) _ _ _); ((with_reducible show wpAny _ _ (eval (Expr.Subscript _ (Expr.Slice none (some _) none _) _) _) _ _ _); (have _ : Halt := by assumption); refine Mark.to ?_)) | ((with_reducible show wpAny _ _ (call (Value.ref _) _ _) _ _ _); (k_here; (with_reducible show wpAny _ _ (call (Value.ref 45) _) _ _ _); k_dflt (refine' sub_claim _ _ _ _ _ _ _ _ _ _ ?hx ?hy _ _ _ _ _ _ _ ?hX ?hT ?hd ?hu ?_; (case hX => (with_unfolding_all exact Frag.In.keeps (by k_asm) (Fr.keep (by k_asm)))); (case hT => (with_unfolding_all exact Top.keeps (by k_asm) (Fr.keep (by k_asm)))); (case hd => ((try dsimp only); omega)); (case hu => ((try dsimp only); omega)); (case hx => exact item_le); (case hy => exact item_le)); intro v9q h9q tk9q K9q O9q; obtain ⟨t9q, ev9q⟩ := O9q; subst ev9q; (try dsimp only at K9q); (rename Fr _ _ _ _ => F8q); (rename News _ _ _ _ => N8q); (have F9q := after_fr F8q K9q); (have N9q := after_news N8q K9q); clear F8q N8q)) | ((with_reducible show wpAny _ _ (call (Value.type "list") _ _) _ _ _); (k_here; (with_reducible show wpAny _ _ (call (Value.type _) [Value.ref _]) _ _ _); (rename IsRange _ _ _ _ _ _ _ _ => rgXq); (with_unfolding_all refine' list_range2 ?k0 ?k1 ?k2 ?k3 ?k4 ?k5 ?_; (case k0 => rfl); (case k1 => k_asm); (case k2 => k_asm); (case k3 => exact rgXq); (case k4 => rfl); (case k5 => omega); k_whole); intro D'q vs'q c'q h'q tk'q F'q N'q l1q hI'q; (try k_lt l1q); clear rgXq)) | ((with_reducible show wpAny _ _ (pyIter (Value.ref _)) _ _ _); (refine Mark.to ?_)) | ((with_reducible show wpAny _ _ (exec (Stmt.While _ _ _ _) _) _ _ _); (refine Mark.to ?_)) | ((with_reducible show wpAny _ _ (subscriptTail (Expr.Name _ _) (Expr.BinOp _ _ _ _) (Value.str _ _) (Value.int _ _)) _ _ _); (k_here; (with_reducible show wpAny _ _ (subscriptTail _ _ (Value.str _ _) (Value.int _ _)) _ _ _); k_dflt (refine' item_at ?h1 ?h2 ?h3 ?_ ?h6 ?h7; (case h1 => first | exact idx_neg (by with_reducible assumption) (by with_reducible assumption) (by with_reducible assumption) | exact idx_zero (by with_reducible assumption) (by with_reducible assumption)); (case h2 => omega); (case h3 => omega); (case h6 => (intro _; with_unfolding_all rfl)); (case h7 => (intro _ _; with_unfolding_all rfl))))) | ((with_reducible show wpAny _ _ (subscriptTail (Expr.Name _ _) (Expr.Slice _ _ _ _) (Value.str _ _) (Value.ref _)) _ _ _); ((with_reducible show wpAny _ _ (subscriptTail _ (Expr.Slice none (some _) none _) _ _) _ _ _); (with_reducible rename Fr _ _ _ _ => F'q); (with_reducible rename News _ _ _ _ => N'q); refine slice_strN_nn_len (s := ⟨_, _, _, _, _⟩) F'q N'q ?_; intro _ _ _ _ _ _)) | walk1) | (leave1; walk_say "STEP leave1"; try dsimp only) | fail "no step"))
      refine Mark.mk ?_
      w_strict (k_state (fun pre distance result minimum row => InAt PA (Txt.item PB kN) kPre.length (rows PA PB kPre.length) pre.length distance result minimum row) "distance" "result" "minimum" "row")
      rotate_left
      · w_strict (repeat' (first | (k_unfold; (try dsimp only)) | (dsimp only; k_unfold; (try dsimp only)) | ((with_reducible show wpAny _ _ (eval (Expr.Subscript _ _ _) _) _ _ _); ((with_reducible show wpAny _ _ (eval (Expr.Subscript _ (Expr.Slice none (some _) none _) _) _) _ _ _); (have _ : Halt := by assumption); refine Mark.to ?_)) | ((with_reducible show wpAny _ _ (call (Value.ref _) _ _) _ _ _); (k_here; (with_reducible show wpAny _ _ (call (Value.ref 45) _) _ _ _); k_dflt (refine' sub_claim _ _ _ _ _ _ _ _ _ _ ?hx ?hy _ _ _ _ _ _ _ ?hX ?hT ?hd ?hu ?_; (case hX => (with_unfolding_all exact Frag.In.keeps (by k_asm) (Fr.keep (by k_asm)))); (case hT => (with_unfolding_all exact Top.keeps (by k_asm) (Fr.keep (by k_asm)))); (case hd => ((try dsimp only); omega)); (case hu => ((try dsimp only); omega)); (case hx => exact item_le); (case hy => exact item_le)); intro v9q h9q tk9q K9q O9q; obtain ⟨t9q, ev9q⟩ := O9q; subst ev9q; (try dsimp only at K9q); (rename Fr _ _ _ _ => F8q); (rename News _ _ _ _ => N8q); (have F9q := after_fr F8q K9q); (have N9q := after_news N8q K9q); clear F8q N8q)) | ((with_reducible show wpAny _ _ (call (Value.type "list") _ _) _ _ _); (k_here; (with_reducible show wpAny _ _ (call (Value.type _) [Value.ref _]) _ _ _); (rename IsRange _ _ _ _ _ _ _ _ => rgXq); (with_unfolding_all refine' list_range2 ?k0 ?k1 ?k2 ?k3 ?k4 ?k5 ?_; (case k0 => rfl); (case k1 => k_asm); (case k2 => k_asm); (case k3 => exact rgXq); (case k4 => rfl); (case k5 => omega); k_whole); intro D'q vs'q c'q h'q tk'q F'q N'q l1q hI'q; (try k_lt l1q); clear rgXq)) | ((with_reducible show wpAny _ _ (pyIter (Value.ref _)) _ _ _); (refine Mark.to ?_)) | ((with_reducible show wpAny _ _ (exec (Stmt.While _ _ _ _) _) _ _ _); (refine Mark.to ?_)) | ((with_reducible show wpAny _ _ (subscriptTail (Expr.Name _ _) (Expr.BinOp _ _ _ _) (Value.str _ _) (Value.int _ _)) _ _ _); (k_here; (with_reducible show wpAny _ _ (subscriptTail _ _ (Value.str _ _) (Value.int _ _)) _ _ _); k_dflt (refine' item_at ?h1 ?h2 ?h3 ?_ ?h6 ?h7; (case h1 => first | exact idx_neg (by with_reducible assumption) (by with_reducible assumption) (by with_reducible assumption) | exact idx_zero (by with_reducible assumption) (by with_reducible assumption)); (case h2 => omega); (case h3 => omega); (case h6 => (intro _; with_unfolding_all rfl)); (case h7 => (intro _ _; with_unfolding_all rfl))))) | ((with_reducible show wpAny _ _ (subscriptTail (Expr.Name _ _) (Expr.Slice _ _ _ _) (Value.str _ _) (Value.ref _)) _ _ _); ((with_reducible show wpAny _ _ (subscriptTail _ (Expr.Slice none (some _) none _) _ _) _ _ _); (with_reducible rename Fr _ _ _ _ => F'q); (with_reducible rename News _ _ _ _ => N'q); refine slice_strN_nn_len (s := ⟨_, _, _, _, _⟩) F'q N'q ?_; intro _ _ _ _ _ _)) | walk1 | (dsimp only; first | ((with_reducible show wpAny _ _ (eval (Expr.Subscript _ _ _) _) _ _ _); ((with_reducible show wpAny _ _ (eval (Expr.Subscript _ (Expr.Slice none (some _) none _) _) _) _ _ _); (have _ : Halt := by assumption); refine Mark.to ?_)) | ((with_reducible show wpAny _ _ (call (Value.ref _) _ _) _ _ _); (k_here; (with_reducible show wpAny _ _ (call (Value.ref 45) _) _ _ _); k_dflt (refine' sub_claim _ _ _ _ _ _ _ _ _ _ ?hx ?hy _ _ _ _ _ _ _ ?hX ?hT ?hd ?hu ?_; (case hX => (with_unfolding_all exact Frag.In.keeps (by k_asm) (Fr.keep (by k_asm)))); (case hT => (with_unfolding_all exact Top.keeps (by k_asm) (Fr.keep (by k_asm)))); (case hd => ((try dsimp only); omega)); (case hu => ((try dsimp only); omega)); (case hx => exact item_le); (case hy => exact item_le)); intro v9q h9q tk9q K9q O9q; obtain ⟨t9q, ev9q⟩ := O9q; subst ev9q; (try dsimp only at K9q); (rename Fr _ _ _ _ => F8q); (rename News _ _ _ _ => N8q); (have F9q := after_fr F8q K9q); (have N9q := after_news N8q K9q); clear F8q N8q)) | ((with_reducible show wpAny _ _ (call (Value.type "list") _ _) _ _ _); (k_here; (with_reducible show wpAny _ _ (call (Value.type _) [Value.ref _]) _ _ _); (rename IsRange _ _ _ _ _ _ _ _ => rgXq); (with_unfolding_all refine' list_range2 ?k0 ?k1 ?k2 ?k3 ?k4 ?k5 ?_; (case k0 => rfl); (case k1 => k_asm); (case k2 => k_asm); (case k3 => exact rgXq); (case k4 => rfl); (case k5 => omega); k_whole); intro D'q vs'q c'q h'q tk'q F'q N'q l1q hI'q; (try k_lt l1q); clear rgXq)) | ((with_reducible show wpAny _ _ (pyIter (Value.ref _)) _ _ _); (refine Mark.to ?_)) | ((with_reducible show wpAny _ _ (exec (Stmt.While _ _ _ _) _) _ _ _); (refine Mark.to ?_)) | ((with_reducible show wpAny _ _ (subscriptTail (Expr.Name _ _) (Expr.BinOp _ _ _ _) (Value.str _ _) (Value.int _ _)) _ _ _); (k_here; (with_reducible show wpAny _ _ (subscriptTail _ _ (Value.str _ _) (Value.int _ _)) _ _ _); k_dflt (refine' item_at ?h1 ?h2 ?h3 ?_ ?h6 ?h7; (case h1 => first | exact idx_neg (by with_reducible assumption) (by with_reducible assumption) (by with_reducible assumption) | exact idx_zero (by with_reducible assumption) (by with_reducible assumption)); (case h2 => omega); (case h3 => omega); (case h6 => (intro _; with_unfolding_all rfl)); (case h7 => (intro _ _; with_unfolding_all rfl))))) | ((with_reducible show wpAny _ _ (subscriptTail (Expr.Name _ _) (Expr.Slice _ _ _ _) (Value.str _ _) (Value.ref _)) _ _ _); ((with_reducible show wpAny _ _ (subscriptTail _ (Expr.Slice none (some _) none _) _ _) _ _ _); (with_reducible rename Fr _ _ _ _ => F'q); (with_reducible rename News _ _ _ _ => N'q); refine slice_strN_nn_len (s := ⟨_, _, _, _, _⟩) F'q N'q ?_; intro _ _ _ _ _ _)) | walk1) | (leave1; walk_say "STEP leave1"; try dsimp only) | fail "no step"))
        exfalso
        rename InAt _ _ _ _ _ _ _ _ _ => hI9
        exact low_no hlow hI9 (by with_reducible assumption) ks_len (by omega) (by with_reducible assumption)
      rename InAt _ _ _ _ _ _ _ _ _ => hI9
      have hl9 := InAt.len hI9
      w_strict (repeat' (first | (k_unfold; (try dsimp only)) | (dsimp only; k_unfold; (try dsimp only)) | ((with_reducible show wpAny _ _ (eval (Expr.Subscript _ _ _) _) _ _ _); ((with_reducible show wpAny _ _ (eval (Expr.Subscript _ (Expr.Slice none (some _) none _) _) _) _ _ _); (have _ : Halt := by assumption); refine Mark.to ?_)) | ((with_reducible show wpAny _ _ (call (Value.ref _) _ _) _ _ _); (k_here; (with_reducible show wpAny _ _ (call (Value.ref 45) _) _ _ _); k_dflt (refine' sub_claim _ _ _ _ _ _ _ _ _ _ ?hx ?hy _ _ _ _ _ _ _ ?hX ?hT ?hd ?hu ?_; (case hX => (with_unfolding_all exact Frag.In.keeps (by k_asm) (Fr.keep (by k_asm)))); (case hT => (with_unfolding_all exact Top.keeps (by k_asm) (Fr.keep (by k_asm)))); (case hd => ((try dsimp only); omega)); (case hu => ((try dsimp only); omega)); (case hx => exact item_le); (case hy => exact item_le)); intro v9q h9q tk9q K9q O9q; obtain ⟨t9q, ev9q⟩ := O9q; subst ev9q; (try dsimp only at K9q); (rename Fr _ _ _ _ => F8q); (rename News _ _ _ _ => N8q); (have F9q := after_fr F8q K9q); (have N9q := after_news N8q K9q); clear F8q N8q)) | ((with_reducible show wpAny _ _ (call (Value.type "list") _ _) _ _ _); (k_here; (with_reducible show wpAny _ _ (call (Value.type _) [Value.ref _]) _ _ _); (rename IsRange _ _ _ _ _ _ _ _ => rgXq); (with_unfolding_all refine' list_range2 ?k0 ?k1 ?k2 ?k3 ?k4 ?k5 ?_; (case k0 => rfl); (case k1 => k_asm); (case k2 => k_asm); (case k3 => exact rgXq); (case k4 => rfl); (case k5 => omega); k_whole); intro D'q vs'q c'q h'q tk'q F'q N'q l1q hI'q; (try k_lt l1q); clear rgXq)) | ((with_reducible show wpAny _ _ (pyIter (Value.ref _)) _ _ _); (refine Mark.to ?_)) | ((with_reducible show wpAny _ _ (exec (Stmt.While _ _ _ _) _) _ _ _); (refine Mark.to ?_)) | ((with_reducible show wpAny _ _ (subscriptTail (Expr.Name _ _) (Expr.BinOp _ _ _ _) (Value.str _ _) (Value.int _ _)) _ _ _); (k_here; (with_reducible show wpAny _ _ (subscriptTail _ _ (Value.str _ _) (Value.int _ _)) _ _ _); k_dflt (refine' item_at ?h1 ?h2 ?h3 ?_ ?h6 ?h7; (case h1 => first | exact idx_neg (by with_reducible assumption) (by with_reducible assumption) (by with_reducible assumption) | exact idx_zero (by with_reducible assumption) (by with_reducible assumption)); (case h2 => omega); (case h3 => omega); (case h6 => (intro _; with_unfolding_all rfl)); (case h7 => (intro _ _; with_unfolding_all rfl))))) | ((with_reducible show wpAny _ _ (subscriptTail (Expr.Name _ _) (Expr.Slice _ _ _ _) (Value.str _ _) (Value.ref _)) _ _ _); ((with_reducible show wpAny _ _ (subscriptTail _ (Expr.Slice none (some _) none _) _ _) _ _ _); (with_reducible rename Fr _ _ _ _ => F'q); (with_reducible rename News _ _ _ _ => N'q); refine slice_strN_nn_len (s := ⟨_, _, _, _, _⟩) F'q N'q ?_; intro _ _ _ _ _ _)) | walk1 | (dsimp only; first | ((with_reducible show wpAny _ _ (eval (Expr.Subscript _ _ _) _) _ _ _); ((with_reducible show wpAny _ _ (eval (Expr.Subscript _ (Expr.Slice none (some _) none _) _) _) _ _ _); (have _ : Halt := by assumption); refine Mark.to ?_)) | ((with_reducible show wpAny _ _ (call (Value.ref _) _ _) _ _ _); (k_here; (with_reducible show wpAny _ _ (call (Value.ref 45) _) _ _ _); k_dflt (refine' sub_claim _ _ _ _ _ _ _ _ _ _ ?hx ?hy _ _ _ _ _ _ _ ?hX ?hT ?hd ?hu ?_; (case hX => (with_unfolding_all exact Frag.In.keeps (by k_asm) (Fr.keep (by k_asm)))); (case hT => (with_unfolding_all exact Top.keeps (by k_asm) (Fr.keep (by k_asm)))); (case hd => ((try dsimp only); omega)); (case hu => ((try dsimp only); omega)); (case hx => exact item_le); (case hy => exact item_le)); intro v9q h9q tk9q K9q O9q; obtain ⟨t9q, ev9q⟩ := O9q; subst ev9q; (try dsimp only at K9q); (rename Fr _ _ _ _ => F8q); (rename News _ _ _ _ => N8q); (have F9q := after_fr F8q K9q); (have N9q := after_news N8q K9q); clear F8q N8q)) | ((with_reducible show wpAny _ _ (call (Value.type "list") _ _) _ _ _); (k_here; (with_reducible show wpAny _ _ (call (Value.type _) [Value.ref _]) _ _ _); (rename IsRange _ _ _ _ _ _ _ _ => rgXq); (with_unfolding_all refine' list_range2 ?k0 ?k1 ?k2 ?k3 ?k4 ?k5 ?_; (case k0 => rfl); (case k1 => k_asm); (case k2 => k_asm); (case k3 => exact rgXq); (case k4 => rfl); (case k5 => omega); k_whole); intro D'q vs'q c'q h'q tk'q F'q N'q l1q hI'q; (try k_lt l1q); clear rgXq)) | ((with_reducible show wpAny _ _ (pyIter (Value.ref _)) _ _ _); (refine Mark.to ?_)) | ((with_reducible show wpAny _ _ (exec (Stmt.While _ _ _ _) _) _ _ _); (refine Mark.to ?_)) | ((with_reducible show wpAny _ _ (subscriptTail (Expr.Name _ _) (Expr.BinOp _ _ _ _) (Value.str _ _) (Value.int _ _)) _ _ _); (k_here; (with_reducible show wpAny _ _ (subscriptTail _ _ (Value.str _ _) (Value.int _ _)) _ _ _); k_dflt (refine' item_at ?h1 ?h2 ?h3 ?_ ?h6 ?h7; (case h1 => first | exact idx_neg (by with_reducible assumption) (by with_reducible assumption) (by with_reducible assumption) | exact idx_zero (by with_reducible assumption) (by with_reducible assumption)); (case h2 => omega); (case h3 => omega); (case h6 => (intro _; with_unfolding_all rfl)); (case h7 => (intro _ _; with_unfolding_all rfl))))) | ((with_reducible show wpAny _ _ (subscriptTail (Expr.Name _ _) (Expr.Slice _ _ _ _) (Value.str _ _) (Value.ref _)) _ _ _); ((with_reducible show wpAny _ _ (subscriptTail _ (Expr.Slice none (some _) none _) _ _) _ _ _); (with_reducible rename Fr _ _ _ _ => F'q); (with_reducible rename News _ _ _ _ => N'q); refine slice_strN_nn_len (s := ⟨_, _, _, _, _⟩) F'q N'q ?_; intro _ _ _ _ _ _)) | walk1) | (leave1; walk_say "STEP leave1"; try dsimp only) | fail "no step"))

end Mine
end

section
open PySem PySem.W PyProof.Rows PySem.Calls
set_option maxHeartbeats 8000000
namespace Mine
theorem conv_claim (w : World) (p : Program) (loose : List Str) (mean : ExcName → Option Value) (mg mb : Str → Option Value) (x : Str) (c : Bool) (T : Addr) (tx : Tok) (hx : hitNone (match c with | true => nameCode | false => valueCode) x.cps = true) :
   PureK PySem.Challenge.rw_pg0276_01.row.prog w (Mine.hd.heap_39 w.params) p loose mean mg mb 1 104 [.ref T, .str x tx] [(Str.ofString "name", .bool c)] (OutS x) := by
  w_on
  cases c <;> dsimp only at hx
  all_goals w_strict (
    unfold PureK
    intro dp un gd fl s Q E X T hd hu hret
    refine wpAny_call ?_
    refine' pure_enter ?k1 ?k2 ?k6 ?k7 ?k8 ?k9 ?kB ?_ ?c2 ?c3 ?c4 ?c5
    (case k1 => k_asm)
    (case k2 => k_asm)
    (case k6 => k_is)
    (case k7 => k_is)
    (case k8 => ((try dsimp only); omega))
    (case k9 => (refine' kp_binds ?kx ?ke; (case kx => k_asm); (case ke => exact fun _ => rfl)))
    (case c5 => decide)
    (case kB => exact locs rfl)
    (case c2 => exact rfl)
    (case c3 => exact rfl)
    (case c4 => exact rfl)
    intro g' h' hg' F' N' X' T'
    (try dsimp only)
    (try k_fold)
    repeat' (first | (k_unfold; (try dsimp only)) | (dsimp only; k_unfold; (try dsimp only)) | ((with_reducible show wpAny _ _ (call (Value.builtin "re.Pattern.search") _ _) _ _ _); (k_here; (try dsimp only [List.cons_append, List.nil_append]); k_dflt (refine' call_pat (s := ⟨_, _, _, _, _⟩) ?X ?F ?o ?T ?d ?c ?e ?i ?x ?_; (case X => k_asm); (case F => k_asm); (case x => with_reducible assumption); (case o => k_is); (case T => rfl); (case d => rfl); (case c => k_is); (case e => rfl); (case i => with_unfolding_all rfl)))) | ((with_reducible show wpAny _ _ (getMethod (Value.ref _) _ _) _ _ _); (k_here; (with_reducible show wpAny _ _ (getMethod (Value.ref _) (Str.ofString "search") _) _ _ _); k_dflt (refine' meth_pat ?X ?F ?o ?T ?n ?_; (case X => k_asm); (case F => k_asm); (case o => k_is); (case T => rfl); (case n => rfl)))) | walk1 | (dsimp only; first | ((with_reducible show wpAny _ _ (call (Value.builtin "re.Pattern.search") _ _) _ _ _); (k_here; (try dsimp only [List.cons_append, List.nil_append]); k_dflt (refine' call_pat (s := ⟨_, _, _, _, _⟩) ?X ?F ?o ?T ?d ?c ?e ?i ?x ?_; (case X => k_asm); (case F => k_asm); (case x => with_reducible assumption); (case o => k_is); (case T => rfl); (case d => rfl); (case c => k_is); (case e => rfl); (case i => with_unfolding_all rfl)))) | ((with_reducible show wpAny _ _ (getMethod (Value.ref _) _ _) _ _ _); (k_here; (with_reducible show wpAny _ _ (getMethod (Value.ref _) (Str.ofString "search") _) _ _ _); k_dflt (refine' meth_pat ?X ?F ?o ?T ?n ?_; (case X => k_asm); (case F => k_asm); (case o => k_is); (case T => rfl); (case n => rfl)))) | walk1) | (leave1; walk_say "STEP leave1"; try dsimp only) | fail "no step"))
  all_goals (rename (_ = Shared.heap _) => hgE; subst hgE; rename Fr _ _ _ _ => F'; exact hret _ _ _ F'.keep (outS_of rfl))

end Mine
end

section
open PySem PySem.W PyProof.Rows PySem.Calls
set_option maxHeartbeats 8000000
namespace Mine
section
variable {prog : Program} {w : World} {A : Around} {E : Value → Shared → Prop} {s : Shared} {Q : Value → Shared → Prop} {h₀ : Heap} {L D : Addr} {news : List (Addr × Obj)}
theorem join1 {sep a : Str} {t0 ta : Tok} {n : Nat} (N : News h₀ L s.heap news) (hm : (D, listOf [Value.str a ta].toArray n) ∈ news) (ha : a.length ≤ 40) (hs : sep.length ≤ 40)
    (h : ∀ t' k, Q (.str a t') { s with toks := k }) :
    wpAny (model prog w) A (call (.builtin "str.join") [.str sep t0, .ref D]) Q E s := by
  have e : Txt.join sep [a] = a := beq_iff_eq.mp (join_plain_closes sep [a])
  refine join_list (items := [Value.str a ta].toArray) (ys := [a]) (News.isList N hm) (.cons _ _ .nil) ?_ fun t' k => ?_
  · simp
    omega
  · rw [e]
    exact h t' k
end
theorem add_end {g h h' : Heap} {L H O D a : Addr} {m : Str → Option Value} {news : List (Addr × Obj)} {oO oD oa : Obj} (F : Fr g L h' m) (N : News g L h' news) (hg : g = hideAll h [H, O, D]) (hO : h.get? O = some oO) (hD : h.get? D = some oD) (mO : (O, oO) ∈ news) (mD : (D, oD) ∈ news) (ma : (a, oa) ∈ news)
    (n1 : @Ne Nat a H) (n2 : @Ne Nat a O) (n3 : @Ne Nat a D) : (∀ b o, b ≠ H → h.get? b = some o → h'.get? b = some o) ∧ h.get? a = none ∧ h'.get? a = some oa := by
  refine ⟨fun b o hb q => ?_, ?_, (N _ ma).1⟩
  · by_cases e1 : b = O
    · subst e1
      rw [hO] at q; cases q
      exact (N _ mO).1
    · by_cases e2 : b = D
      · subst e2
        rw [hD] at q; cases q
        exact (N _ mD).1
      · exact mut_keep F hg (by simp [hb, e1, e2]) q
  · cases q : h.get? a with
    | none => rfl
    | some o =>
      have z := (N _ ma).2.2
      rw [hg, hideAll_get [H, O, D] q (by
        simp only [List.mem_cons, List.not_mem_nil, or_false, not_or]
        exact ⟨n1, n2, n3⟩)] at z
      cases z
theorem add_claim (w : World) (p : Program) (loose : List Str) (mean : ExcName → Option Value) (mg mb : Str → Option Value) (x v : Str) (tx tv tk0 : Tok) (hx : hitNone nameCode x.cps = true) (hv : hitNone valueCode v.cps = true)
   (O D H : Addr) (us : List Value) (n : Nat) (hn : us.length ≤ 5) (hvl : v.length ≤ 40) (d1 : @Ne Nat O D) (d2 : @Ne Nat O H) (d3 : @Ne Nat D H)
   (dp un : Nat) (gd : Option (List Code)) (fl : List Env) (s : Shared) (Q E : Value → Shared → Prop)
   (hS : ∀ p ∈ [(H, listOf us.toArray n), (O, instObj 203 D), (D, dictOf [⟨PyData.keyHash w.params (Str.ofString "_headers"), .str (Str.ofString "_headers") tk0, .ref H⟩] 1)], s.heap.get? p.1 = some p.2)
   (X : (Mine.hd.heap_39 w.params).In (hideAll s.heap [H, O, D])) (T : Top p loose mean mg mb (hideAll s.heap [H, O, D])) (hd : dp + 2 < recursionLimit) (hu : un + 8 * 2 < cLine)
   (hret : ∀ h' tk' a n' ta tb, (∀ b o, b ≠ H → s.heap.get? b = some o → h'.get? b = some o) → (∀ b o, s.heap.get? b = some o → b < a) → h'.get? a = some { cls := .type "tuple", data := .seq #[.str x ta, .str v tb] } → h'.get? H = some (listOf (us ++ [Value.ref a]).toArray n') → Q .none { s with heap := h', toks := tk' }) :
   wpAny (model PySem.Challenge.rw_pg0276_01.row.prog w) { handled := none, depth := dp, frames := some fl, guards := gd, units := un } (call (Value.ref 200) [Value.ref O, Value.str x tx, Value.str v tv]) Q E s := by
  w_on
  w_strict (
    refine wpAny_call ?_
    refine' mut_enterM hS X T ?k6 ?k7 ?k8 ?kP ?kG ?kB ?_ ?c2 ?c3 ?c4 ?c5
    (case k6 => k_is)
    (case k7 => k_is)
    (case k8 => ((try dsimp only); omega))
    (case kP => exact rfl)
    (case kG => exact fun _ => rfl)
    (case kB => exact fun _ => locs rfl)
    (case c5 => decide)
    (case c2 => exact rfl)
    (case c3 => exact rfl)
    (case c4 => exact rfl)
    intro g' D' o' L' h' tk' hg' l1 hbig lo' hs' fs' F' N' X' T'
    k_lt l1
    (try dsimp only)
    (try k_fold)
    repeat' (first | (k_unfold; (try dsimp only)) | (dsimp only; k_unfold; (try dsimp only)) | ((with_reducible show wpAny _ _ (call (Value.ref _) _ _) _ _ _); (k_here; (with_reducible show wpAny _ _ (call (Value.ref 104) _ _) _ _ _); k_dflt (refine' conv_claim _ _ _ _ _ _ _ _ _ _ ?hx _ _ _ _ _ _ _ ?hX ?hT ?hd ?hu ?_; (case hX => (with_unfolding_all exact Frag.In.keeps (by k_asm) (Fr.keep (by k_asm)))); (case hT => (with_unfolding_all exact Top.keeps (by k_asm) (Fr.keep (by k_asm)))); (case hd => ((try dsimp only); omega)); (case hu => ((try dsimp only); omega)); (case hx => (dsimp only; with_reducible assumption))); intro v9q h9q tk9q K9q O9q; obtain ⟨t9q, ev9q⟩ := O9q; subst ev9q; (try dsimp only at K9q); (rename Fr _ _ _ _ => F8q); (rename News _ _ _ _ => N8q); (have F9q := after_fr F8q K9q); (have N9q := after_news N8q K9q); clear F8q N8q K9q)) | ((with_reducible show wpAny _ _ (call (Value.builtin "list.append") _ _) _ _ _); (k_here; (dsimp only [List.cons_append, List.nil_append]); k_dflt (refine' append_K ?k1 ?k2 ?k3 ?_ ?z; (case k1 => k_asm); (case k2 => k_asm); (case k3 => k_upd); (case z => size_fits); k_whole); intro h'q F'q N'q; (try k_sweep))) | ((with_reducible show wpAny _ _ (call (Value.builtin "str.join") _ _) _ _ _); (k_here; (dsimp only [List.cons_append, List.nil_append]); k_dflt (refine' join1 ?k1 ?k2 ?k3 ?k4 ?_; (case k1 => k_asm); (case k2 => k_mem); (case k3 => with_reducible assumption); (case k4 => decide)); intro t'q k'q)) | walk1 | (dsimp only; first | ((with_reducible show wpAny _ _ (call (Value.ref _) _ _) _ _ _); (k_here; (with_reducible show wpAny _ _ (call (Value.ref 104) _ _) _ _ _); k_dflt (refine' conv_claim _ _ _ _ _ _ _ _ _ _ ?hx _ _ _ _ _ _ _ ?hX ?hT ?hd ?hu ?_; (case hX => (with_unfolding_all exact Frag.In.keeps (by k_asm) (Fr.keep (by k_asm)))); (case hT => (with_unfolding_all exact Top.keeps (by k_asm) (Fr.keep (by k_asm)))); (case hd => ((try dsimp only); omega)); (case hu => ((try dsimp only); omega)); (case hx => (dsimp only; with_reducible assumption))); intro v9q h9q tk9q K9q O9q; obtain ⟨t9q, ev9q⟩ := O9q; subst ev9q; (try dsimp only at K9q); (rename Fr _ _ _ _ => F8q); (rename News _ _ _ _ => N8q); (have F9q := after_fr F8q K9q); (have N9q := after_news N8q K9q); clear F8q N8q K9q)) | ((with_reducible show wpAny _ _ (call (Value.builtin "list.append") _ _) _ _ _); (k_here; (dsimp only [List.cons_append, List.nil_append]); k_dflt (refine' append_K ?k1 ?k2 ?k3 ?_ ?z; (case k1 => k_asm); (case k2 => k_asm); (case k3 => k_upd); (case z => size_fits); k_whole); intro h'q F'q N'q; (try k_sweep))) | ((with_reducible show wpAny _ _ (call (Value.builtin "str.join") _ _) _ _ _); (k_here; (dsimp only [List.cons_append, List.nil_append]); k_dflt (refine' join1 ?k1 ?k2 ?k3 ?k4 ?_; (case k1 => k_asm); (case k2 => k_mem); (case k3 => with_reducible assumption); (case k4 => decide)); intro t'q k'q)) | walk1) | (leave1; walk_say "STEP leave1"; try dsimp only) | fail "no step"))
  rename Fr _ _ _ _ => F9
  rename News _ _ _ _ => N9
  rename (_ ∧ _) => l9
  obtain ⟨_, e0, e1, e2, e3⟩ := l9
  dsimp only
  have q1 := hS (O, instObj 203 D) (.tail _ (.head _))
  have q2 := hS (D, _) (.tail _ (.tail _ (.head _)))
  obtain ⟨k1, k2, k3⟩ := add_end F9 N9 hg' q1 q2 (by k_mem) (by k_mem) (List.Mem.head _) (Nat.ne_of_gt e1) (Nat.ne_of_gt e2) (Nat.ne_of_gt e3)
  refine hret _ _ _ (n + 1) _ _ k1 (fun b o e => Nat.lt_trans (hbig b o e) e0) k3 ?_
  clear k2
  have q := (N9 (H, _) (.tail _ (.tail _ (.tail _ (.head _))))).1
  rw [List.push_toArray] at q
  exact q

end Mine
end

section
open PySem PySem.W PyProof.Rows PySem.Calls
set_option maxHeartbeats 8000000
namespace Mine
local macro_rules | `(tactic| k_lt $h:ident) => `(tactic| (replace $h := allLt_of $h; (try simp only [AllLt, and_true] at $h:ident); (try replace $h := And.left $h)))
local macro_rules | `(tactic| k_ne) => `(tactic| (refine neN ?_; (try dsimp only); first | with_reducible assumption | omega))
section
variable {prog : Program} {w : World} {A : Around} {E : Value → Shared → Prop} {s : Shared} {Q : Value → Shared → Prop}
theorem mod_pos {a b : Int} {t u : Tok} (hb : 0 < b) (h : ∀ r, r = a.fmod b → 0 ≤ r → r < b → Q (.int r s.toks) { s with toks := s.toks + 1 }) : wpAny (model prog w) A (binaryOp .Mod (.int a t) (.int b u)) Q E s :=
  mod_int' (by omega) (h _ rfl (Int.fmod_nonneg_of_pos _ hb) (Int.fmod_lt_of_pos _ hb))
end
section
variable {prog : Program} {w : World} {A : Around} {E : Value → Shared → Prop} {s : Shared} {Q : Value → Shared → Prop} {h₀ : Heap} {L P : Addr} {news : List (Addr × Obj)}
theorem last_item {pv : List Value} {v : Value} {c : Nat} {u : Tok} {value slice : Expr} (N : News h₀ L s.heap news) (hm : (P, listOf (pv.toArray.push v) c) ∈ news) (hl : pv.length ≤ 40) (h : Q v s)
    (hs : subscripted slice false (.ref P) (.int (-1) u) = operate [.ref P, .int (-1) u] (getItem (.ref P) (.int (-1) u))) (hg : ∀ r, letTemporaryGo value (.ref P) r = pure ()) :
    wpAny (model prog w) A (subscriptTail value slice (.ref P) (.int (-1) u)) Q E s :=
  kim_back (l := pv ++ [v]) (lo := listOf (pv.toArray.push v) c) (n := c) N hm rfl (by rw [List.push_toArray]) (by decide) (by simp; omega) (by decide) (by
    have e : ((-1 : Int) + ((pv ++ [v]).length : Int)).toNat = pv.length := by simp; omega
    rw [e, List.getElem?_append_right (Nat.le_refl _), Nat.sub_self]
    rfl) h hs hg
end
local macro_rules | `(tactic| k_all) => `(tactic| with_reducible assumption)
abbrev tabObj (w : World) (tk0 : Tok) (H : Addr) : Obj := dictOf [⟨PyData.keyHash w.params (Str.ofString "_headers"), .str (Str.ofString "_headers") tk0, .ref H⟩] 1
abbrev turnMap (m : Str → Option Value) (n : Int) (tn : Tok) (D O : Addr) : Str → Option Value := fun y => if y = Str.ofString "number" then some (.int n tn) else if y = Str.ofString "left" then some (.ref D) else if y = Str.ofString "table" then some (.ref O) else m y
theorem turn_claim (w : World) (p : Program) (loose : List Str) (mean : ExcName → Option Value) (mg mb : Str → Option Value) (fa : Addr) (cd : Value) (h₀ : Heap) (L : Addr) (m : Str → Option Value) (rest : List (Addr × Obj)) (n : Int) (tn : Tok) (P D H O d : Addr) (oC : Obj) (us pv hs : List Value) (ls S : List Int) (k c1 c2 c3 : Nat) (tk0 : Tok)
  (hls : ls.length = k + 1) (hk : k + 1 ≤ 12) (hI : IntsAre us ls) (hG : Good ls S) (hpv : pv.length ≤ 4) (hhs : hs.length ≤ 4) (hC : oC.data = .cell (some (.ref P)))
  (o1 : @LT.lt Nat _ (L + 1) D) (o2 : @LT.lt Nat _ D P) (o3 : @LT.lt Nat _ P d) (o4 : @LT.lt Nat _ d O) (o5 : @LT.lt Nat _ O H)
  (r1 : ∀ q ∈ rest, q.1 ≠ H) (r2 : ∀ q ∈ rest, q.1 ≠ P) (r3 : ∀ q ∈ rest, q.1 ≠ D)
  (dp un : Nat) (gd : Option (List Code)) (fl : List Env) (s : Shared) (Q : Flow → Shared → Prop) (E : Value → Shared → Prop)
  (X : (Mine.hd.heap_39 w.params).In h₀) (T : Top p loose mean mg mb h₀) (hd : dp + 3 < recursionLimit) (hu : un + 8 * 3 < cLine)
  (F : Fr h₀ L s.heap (turnMap m n tn D O))
  (N : News h₀ L s.heap ((H, listOf hs.toArray c1) :: (O, instObj 203 d) :: (d, tabObj w tk0 H) :: (P, listOf pv.toArray c2) :: (D, listOf us.toArray c3) :: (L + 1, oC) :: rest))
  (hret : ∀ h' tk' y t a ta tb us' ls' c1', IntsAre us' ls' → Good ls' (y :: S) → ls'.length = k → 0 ≤ y → y < 12 → y ∉ S → AllBelow (H :: O :: d :: P :: D :: (L + 1) :: rest.map (·.1)) a → Fr h₀ L h' (turnMap m n tn D O) →
    News h₀ L h' ((a, { cls := .type "tuple", data := .seq #[.str (nm y) ta, .str (Str.ofString (toString y)) tb] }) :: (H, listOf (hs ++ [Value.ref a]).toArray c1') :: (O, instObj 203 d) :: (d, tabObj w tk0 H) :: (P, listOf (pv ++ [Value.int y t]).toArray (c2 + 1)) :: (D, listOf us'.toArray (c3 + 1)) :: (L + 1, oC) :: rest) → Q .next { s with heap := h', toks := tk' }) :
  wpAny (model PySem.Challenge.rw_pg0276_01.row.prog w) { handled := none, depth := dp, frames := some fl, guards := gd, units := un } (execs loopBody (envOfC (Str.ofString "law") lawScope L fa cd)) Q E s := by
  w_on
  obtain ⟨hp, gens, drawn, tk, os⟩ := s
  dsimp only at F N hret
  have eb : loopBody = loopBody := rfl
  conv at eb => { rhs; whnf }
  rw [eb]
  clear eb
  w_strict (repeat' (first | (k_unfold; (try dsimp only)) | (dsimp only; k_unfold; (try dsimp only)) | ((with_reducible show wpAny _ _ (call (Value.builtin "list.append") _ _) _ _ _); (k_here; (dsimp only [List.cons_append, List.nil_append]); k_dflt (refine' append_K ?k1 ?k2 ?k3 ?_ ?z; (case k1 => k_asm); (case k2 => k_asm); (case k3 => k_upd); (case z => (rw [sizeLine_eq]; simp; omega)); k_whole); intro h'q F'q N'q; (try k_sweep))) | ((with_reducible show wpAny _ _ (subscriptTail (Expr.Name _ _) (Expr.UnaryOp _ _ _) (Value.ref _) (Value.int _ _)) _ _ _); (k_here; k_dflt (refine' last_item ?N ?m ?l ?_ ?s ?g; (case N => k_asm); (case m => k_mem); (case l => omega); (case s => with_unfolding_all rfl); (case g => (intro _; with_unfolding_all rfl))))) | ((with_reducible show wpAny _ _ (call (Value.ref _) _ _) _ _ _); (k_here; (with_reducible show wpAny _ _ (call (Value.ref 200) _) _ _ _); (rename Fr _ _ _ _ => F8q); (rename News _ _ _ _ => N8q); k_dflt (refine' add_claim _ _ _ _ _ _ _ _ _ _ _ ?hx ?hv _ _ _ _ _ ?hn ?hvl ?d1 ?d2 ?d3 _ _ _ _ _ _ _ ?hS ?hX ?hT ?hd ?hu ?_); (case hS => ((k_dflt (refine' three_of N8q ?m1 ?m2 ?m3)); (case m2 => k_dflt k_mem); (case m3 => k_dflt k_mem); (case m1 => k_dflt k_mem))); (case hx => exact (hit_all (by with_reducible assumption) (by with_reducible assumption)).1); (case hv => exact (hit_all (by with_reducible assumption) (by with_reducible assumption)).2.1); (case hvl => exact (hit_all (by with_reducible assumption) (by with_reducible assumption)).2.2); (case hn => omega); (case d1 => k_ne); (case d2 => k_ne); (case d3 => k_ne); (case hX => k_dflt (with_unfolding_all exact Frag.In.keeps (by k_asm) (stays_hidden F8q N8q (by k_mem) (by k_mem) (by k_mem)))); (case hT => k_dflt (with_unfolding_all exact Top.keeps (by k_asm) (stays_hidden F8q N8q (by k_mem) (by k_mem) (by k_mem)))); (case hd => ((try dsimp only); omega)); (case hu => ((try dsimp only); omega)); intro h9q tk9q a9q n9q ta9q tb9q K9q hn9q hg9q hH9q; (try dsimp only at K9q hn9q); (obtain ⟨F9q, N9q, l9q⟩ := after_add F8q N8q K9q hn9q hg9q hH9q (by k_upd)); clear K9q hn9q hg9q hH9q F8q N8q; (try dsimp only [List.nil_append, List.cons_append] at N9q))) | ((with_reducible show wpAny _ _ (call (Value.ref _) _ _) _ _ _); (k_here; (with_reducible show wpAny _ _ (call (Value.ref 212) _) _ _ _); k_dflt (refine' name_claim _ _ _ _ _ _ _ _ _ _ _ _ ?hp ?hq ?hy ?hz _ _ _ _ _ _ _ ?hX ?hT ?hd ?hu ?_; (case hX => (with_unfolding_all exact Frag.In.keeps (by k_asm) (Fr.keep (by k_asm)))); (case hT => (with_unfolding_all exact Top.keeps (by k_asm) (Fr.keep (by k_asm)))); (case hd => ((try dsimp only); omega)); (case hu => ((try dsimp only); omega)); (case hp => with_reducible assumption); (case hq => with_reducible assumption); (case hy => exact quarter (by assumption) (by assumption)); (case hz => exact quarter (by assumption) (by assumption))); intro v9q h9q tk9q K9q O9q; obtain ⟨t9q, ev9q⟩ := O9q; subst ev9q; (try dsimp only at K9q); (rename Fr _ _ _ _ => F8q); (rename News _ _ _ _ => N8q); (have F9q := after_fr F8q K9q); (have N9q := after_news N8q K9q); clear F8q N8q K9q)) | ((with_reducible show wpAny _ _ (call (Value.builtin "list.pop") _ _) _ _ _); (k_here; (try dsimp only [List.cons_append, List.nil_append]); (with_reducible show wpAny _ _ (call (Value.builtin _) [Value.ref _, Value.int _ _]) _ _ _); k_dflt (refine' pop_left ?F ?N ?I ?G ?L ?k ?a ?b ?m ?_; (case F => k_asm); (case N => k_asm); (case m => k_mem); (case I => with_reducible assumption); (case G => with_reducible assumption); (case L => with_reducible assumption); (case k => first | decide | omega); (case a => with_reducible assumption); (case b => with_reducible assumption)); intro us'q ls'q y'q t'q hI'q hG'q hL'q y0'q y1'q yS'q; k_dflt (refine' Exists.intro _ (And.intro ?U ?_); (case U => k_upd)); intro h'q F'q N'q)) | ((with_reducible show wpAny _ _ (call (Value.builtin "len") _ _) _ _ _); (k_here; (with_reducible show wpAny _ _ (call (Value.builtin "len") [Value.ref _]) _ _ _); (rename Good _ _ => hG9q); k_dflt (refine' len_left ?k1 ?k2 ?k3 ?k4 ?k5 ?k6 ?_; (case k1 => k_asm); (case k2 => k_mem); (case k3 => with_reducible assumption); (case k4 => with_reducible assumption); (case k5 => rfl); (case k6 => first | decide | omega)))) | ((with_reducible show wpAny _ _ (binaryOp .Mod (Value.int _ _) (Value.int _ _)) _ _ _); (k_here; k_dflt (refine' mod_pos ?k1 ?_; (case k1 => first | decide | omega)); intro r'q er'q r0'q r1'q; clear er'q)) | walk1 | (dsimp only; first | ((with_reducible show wpAny _ _ (call (Value.builtin "list.append") _ _) _ _ _); (k_here; (dsimp only [List.cons_append, List.nil_append]); k_dflt (refine' append_K ?k1 ?k2 ?k3 ?_ ?z; (case k1 => k_asm); (case k2 => k_asm); (case k3 => k_upd); (case z => (rw [sizeLine_eq]; simp; omega)); k_whole); intro h'q F'q N'q; (try k_sweep))) | ((with_reducible show wpAny _ _ (subscriptTail (Expr.Name _ _) (Expr.UnaryOp _ _ _) (Value.ref _) (Value.int _ _)) _ _ _); (k_here; k_dflt (refine' last_item ?N ?m ?l ?_ ?s ?g; (case N => k_asm); (case m => k_mem); (case l => omega); (case s => with_unfolding_all rfl); (case g => (intro _; with_unfolding_all rfl))))) | ((with_reducible show wpAny _ _ (call (Value.ref _) _ _) _ _ _); (k_here; (with_reducible show wpAny _ _ (call (Value.ref 200) _) _ _ _); (rename Fr _ _ _ _ => F8q); (rename News _ _ _ _ => N8q); k_dflt (refine' add_claim _ _ _ _ _ _ _ _ _ _ _ ?hx ?hv _ _ _ _ _ ?hn ?hvl ?d1 ?d2 ?d3 _ _ _ _ _ _ _ ?hS ?hX ?hT ?hd ?hu ?_); (case hS => ((k_dflt (refine' three_of N8q ?m1 ?m2 ?m3)); (case m2 => k_dflt k_mem); (case m3 => k_dflt k_mem); (case m1 => k_dflt k_mem))); (case hx => exact (hit_all (by with_reducible assumption) (by with_reducible assumption)).1); (case hv => exact (hit_all (by with_reducible assumption) (by with_reducible assumption)).2.1); (case hvl => exact (hit_all (by with_reducible assumption) (by with_reducible assumption)).2.2); (case hn => omega); (case d1 => k_ne); (case d2 => k_ne); (case d3 => k_ne); (case hX => k_dflt (with_unfolding_all exact Frag.In.keeps (by k_asm) (stays_hidden F8q N8q (by k_mem) (by k_mem) (by k_mem)))); (case hT => k_dflt (with_unfolding_all exact Top.keeps (by k_asm) (stays_hidden F8q N8q (by k_mem) (by k_mem) (by k_mem)))); (case hd => ((try dsimp only); omega)); (case hu => ((try dsimp only); omega)); intro h9q tk9q a9q n9q ta9q tb9q K9q hn9q hg9q hH9q; (try dsimp only at K9q hn9q); (obtain ⟨F9q, N9q, l9q⟩ := after_add F8q N8q K9q hn9q hg9q hH9q (by k_upd)); clear K9q hn9q hg9q hH9q F8q N8q; (try dsimp only [List.nil_append, List.cons_append] at N9q))) | ((with_reducible show wpAny _ _ (call (Value.ref _) _ _) _ _ _); (k_here; (with_reducible show wpAny _ _ (call (Value.ref 212) _) _ _ _); k_dflt (refine' name_claim _ _ _ _ _ _ _ _ _ _ _ _ ?hp ?hq ?hy ?hz _ _ _ _ _ _ _ ?hX ?hT ?hd ?hu ?_; (case hX => (with_unfolding_all exact Frag.In.keeps (by k_asm) (Fr.keep (by k_asm)))); (case hT => (with_unfolding_all exact Top.keeps (by k_asm) (Fr.keep (by k_asm)))); (case hd => ((try dsimp only); omega)); (case hu => ((try dsimp only); omega)); (case hp => with_reducible assumption); (case hq => with_reducible assumption); (case hy => exact quarter (by assumption) (by assumption)); (case hz => exact quarter (by assumption) (by assumption))); intro v9q h9q tk9q K9q O9q; obtain ⟨t9q, ev9q⟩ := O9q; subst ev9q; (try dsimp only at K9q); (rename Fr _ _ _ _ => F8q); (rename News _ _ _ _ => N8q); (have F9q := after_fr F8q K9q); (have N9q := after_news N8q K9q); clear F8q N8q K9q)) | ((with_reducible show wpAny _ _ (call (Value.builtin "list.pop") _ _) _ _ _); (k_here; (try dsimp only [List.cons_append, List.nil_append]); (with_reducible show wpAny _ _ (call (Value.builtin _) [Value.ref _, Value.int _ _]) _ _ _); k_dflt (refine' pop_left ?F ?N ?I ?G ?L ?k ?a ?b ?m ?_; (case F => k_asm); (case N => k_asm); (case m => k_mem); (case I => with_reducible assumption); (case G => with_reducible assumption); (case L => with_reducible assumption); (case k => first | decide | omega); (case a => with_reducible assumption); (case b => with_reducible assumption)); intro us'q ls'q y'q t'q hI'q hG'q hL'q y0'q y1'q yS'q; k_dflt (refine' Exists.intro _ (And.intro ?U ?_); (case U => k_upd)); intro h'q F'q N'q)) | ((with_reducible show wpAny _ _ (call (Value.builtin "len") _ _) _ _ _); (k_here; (with_reducible show wpAny _ _ (call (Value.builtin "len") [Value.ref _]) _ _ _); (rename Good _ _ => hG9q); k_dflt (refine' len_left ?k1 ?k2 ?k3 ?k4 ?k5 ?k6 ?_; (case k1 => k_asm); (case k2 => k_mem); (case k3 => with_reducible assumption); (case k4 => with_reducible assumption); (case k5 => rfl); (case k6 => first | decide | omega)))) | ((with_reducible show wpAny _ _ (binaryOp .Mod (Value.int _ _) (Value.int _ _)) _ _ _); (k_here; k_dflt (refine' mod_pos ?k1 ?_; (case k1 => first | decide | omega)); intro r'q er'q r0'q r1'q; clear er'q)) | walk1) | (leave1; walk_say "STEP leave1"; try dsimp only) | fail "no step"))
  rename Good _ (_ :: _) => g9
  rename News _ _ _ _ => N9
  rename Fr _ _ _ _ => F9
  rename (List.length _ = k) => h9
  rename IntsAre _ _ => i9
  rename AllBelow _ _ => l9
  (try dsimp only)
  rw [List.push_toArray] at N9
  exact hret _ _ _ _ _ _ _ _ _ _ i9 g9 h9 (by with_reducible assumption) (by with_reducible assumption) (by with_reducible assumption) l9 F9 N9
theorem turn_map {m : Str → Option Value} {n : Int} {tn : Tok} {D O : Addr} (h1 : m (Str.ofString "number") = some (.int n tn)) (h2 : m (Str.ofString "left") = some (.ref D)) (h3 : m (Str.ofString "table") = some (.ref O)) : turnMap m n tn D O = m := by
  funext y
  unfold turnMap
  split
  · rename_i e; rw [e, h1]
  · split
    · rename_i e; rw [e, h2]
    · split
      · rename_i e; rw [e, h3]
      · rfl
structure Chn (L D P d O H i : Addr) (as rest : List (Addr × Obj)) : Prop where
  o1 : @LT.lt Nat _ (L + 1) D
  o2 : @LT.lt Nat _ D P
  o3 : @LT.lt Nat _ P d
  o4 : @LT.lt Nat _ d O
  o5 : @LT.lt Nat _ O H
  hi : @LT.lt Nat _ H i
  has : ∀ q ∈ as, @LT.lt Nat _ i q.1
  rb : ∀ q ∈ rest, @LT.lt Nat _ q.1 D
theorem Chn.off {L D P d O H i : Addr} {as rest : List (Addr × Obj)} {oH oO od oP oD : Obj} (C : Chn L D P d O H i as rest) : ∀ p ∈ as ++ (H, oH) :: (O, oO) :: (d, od) :: (P, oP) :: (D, oD) :: rest, p.1 ≠ i := fun p hp => by
  obtain ⟨_, o2, o3, o4, o5, hi, has, rb⟩ := C
  simp only [List.mem_append, List.mem_cons] at hp
  have k5 := Nat.lt_trans o5 hi
  have k4 := Nat.lt_trans o4 k5
  have k3 := Nat.lt_trans o3 k4
  have k2 := Nat.lt_trans o2 k3
  rcases hp with h | rfl | rfl | rfl | rfl | rfl | h
  · exact Nat.ne_of_gt (has _ h)
  · exact Nat.ne_of_lt hi
  · exact Nat.ne_of_lt k5
  · exact Nat.ne_of_lt k4
  · exact Nat.ne_of_lt k3
  · exact Nat.ne_of_lt k2
  · exact Nat.ne_of_lt (Nat.lt_trans (rb _ h) k2)
theorem Chn.more {L D P d O H i a : Addr} {as rest : List (Addr × Obj)} {oa : Obj} (C : Chn L D P d O H i as rest) (h : @LT.lt Nat _ i a) : Chn L D P d O H i ((a, oa) :: as) rest :=
  ⟨C.o1, C.o2, C.o3, C.o4, C.o5, C.hi, List.forall_mem_cons.mpr ⟨h, C.has⟩, C.rb⟩
theorem turn_use {w : World} {p : Program} {loose : List Str} {mean : ExcName → Option Value} {mg mb : Str → Option Value} {fa : Addr} {cd : Value} {h₀ : Heap} {L : Addr} {m : Str → Option Value} {as rest : List (Addr × Obj)} {n : Int} {tn : Tok} {i P D H O d : Addr} {oi oC : Obj} {us pv hs : List Value} {ls S : List Int} {k c1 c2 c3 : Nat} {tk0 : Tok}
  {dp un : Nat} {gd : Option (List Code)} {fl : List Env} {s : Shared} {Q : Flow → Shared → Prop} {E : Value → Shared → Prop}
  (F : Fr h₀ L s.heap m) (N : News h₀ L s.heap ((i, oi) :: (as ++ (H, listOf hs.toArray c1) :: (O, instObj 203 d) :: (d, tabObj w tk0 H) :: (P, listOf pv.toArray c2) :: (D, listOf us.toArray c3) :: rest)))
  (mC : (L + 1, oC) ∈ rest) (hC : oC.data = .cell (some (.ref P)))
  (h1 : m (Str.ofString "number") = some (.int n tn)) (h2 : m (Str.ofString "left") = some (.ref D)) (h3 : m (Str.ofString "table") = some (.ref O))
  (hI : IntsAre us ls) (hG : Good ls S) (hls : ls.length = k + 1) (hk : k + 1 ≤ 12) (hpv : pv.length ≤ 4) (hhs : hs.length ≤ 4)
  (C : Chn L D P d O H i as rest)
  (X : (Mine.hd.heap_39 w.params).In h₀) (T : Top p loose mean mg mb h₀) (hd : dp + 3 < recursionLimit) (hu : un + 8 * 3 < cLine)
  (hret : ∀ h' tk' y t a ta tb us' ls' c1', IntsAre us' ls' → Good ls' (y :: S) → ls'.length = k → 0 ≤ y → y < 12 → y ∉ S → Chn L D P d O H i ((a, { cls := .type "tuple", data := .seq #[.str (nm y) ta, .str (Str.ofString (toString y)) tb] }) :: as) rest → (∀ q ∈ as, @LT.lt Nat _ q.1 a) → (∀ p ∈ (a, { cls := .type "tuple", data := .seq #[.str (nm y) ta, .str (Str.ofString (toString y)) tb] }) :: (as ++ (H, listOf (hs ++ [Value.ref a]).toArray c1') :: (O, instObj 203 d) :: (d, tabObj w tk0 H) :: (P, listOf (pv ++ [Value.int y t]).toArray (c2 + 1)) :: (D, listOf us'.toArray (c3 + 1)) :: rest), p.1 ≠ i) → Fr h₀ L h' m →
    News h₀ L h' ((a, { cls := .type "tuple", data := .seq #[.str (nm y) ta, .str (Str.ofString (toString y)) tb] }) :: (i, oi) :: (as ++ (H, listOf (hs ++ [Value.ref a]).toArray c1') :: (O, instObj 203 d) :: (d, tabObj w tk0 H) :: (P, listOf (pv ++ [Value.int y t]).toArray (c2 + 1)) :: (D, listOf us'.toArray (c3 + 1)) :: rest)) → Q .next { s with heap := h', toks := tk' }) :
  wpAny (model PySem.Challenge.rw_pg0276_01.row.prog w) { handled := none, depth := dp, frames := some fl, guards := gd, units := un } (execs loopBody (envOfC (Str.ofString "law") lawScope L fa cd)) Q E s := by
  have e := turn_map h1 h2 h3
  have ra : ∀ q ∈ ((i, oi) :: as), @LT.lt Nat _ H q.1 := List.forall_mem_cons.mpr ⟨C.hi, fun q hq => Nat.lt_trans C.hi (C.has q hq)⟩
  have rb := C.rb
  have o1 := C.o1
  have o2 := C.o2
  have o3 := C.o3
  have o4 := C.o4
  have o5 := C.o5
  refine turn_claim w p loose mean mg mb fa cd h₀ L m ((i, oi) :: (as ++ rest)) n tn P D H O d oC us pv hs ls S k c1 c2 c3 tk0 hls hk hI hG hpv hhs hC o1 o2 o3 o4 o5 ?_ ?_ ?_ dp un gd fl s Q E X T hd hu (by rw [e]; exact F) (fun q hq => N q ?_) ?_
  · intro q hq
    simp only [List.mem_cons, List.mem_append] at hq
    rcases hq with rfl | hq | hq
    · exact Nat.ne_of_gt (ra _ (.head _))
    · exact Nat.ne_of_gt (ra _ (.tail _ hq))
    · have := rb q hq
      refine Nat.ne_of_lt ?_
      omega
  · intro q hq
    simp only [List.mem_cons, List.mem_append] at hq
    rcases hq with rfl | hq | hq
    · have := ra _ (List.Mem.head _)
      refine Nat.ne_of_gt ?_
      omega
    · have := ra _ (List.Mem.tail _ hq)
      refine Nat.ne_of_gt ?_
      omega
    · have := rb q hq
      refine Nat.ne_of_lt ?_
      omega
  · intro q hq
    simp only [List.mem_cons, List.mem_append] at hq
    rcases hq with rfl | hq | hq
    · have := ra _ (List.Mem.head _)
      refine Nat.ne_of_gt ?_
      omega
    · have := ra _ (List.Mem.tail _ hq)
      refine Nat.ne_of_gt ?_
      omega
    · exact Nat.ne_of_lt (rb q hq)
  · simp only [List.mem_cons, List.mem_append] at hq ⊢
    rcases hq with rfl | rfl | rfl | rfl | rfl | rfl | rfl | h | h
    · exact .inr (.inr (.inl rfl))
    · exact .inr (.inr (.inr (.inl rfl)))
    · exact .inr (.inr (.inr (.inr (.inl rfl))))
    · exact .inr (.inr (.inr (.inr (.inr (.inl rfl)))))
    · exact .inr (.inr (.inr (.inr (.inr (.inr (.inl rfl))))))
    · exact .inr (.inr (.inr (.inr (.inr (.inr (.inr mC))))))
    · exact .inl rfl
    · exact .inr (.inl h)
    · exact .inr (.inr (.inr (.inr (.inr (.inr (.inr h))))))
  · intro h' tk' y t a ta tb us' ls' c1' j1 j2 j3 j4 j5 j6 j7 F' N'
    rw [e] at F'
    have lt : ∀ q ∈ (i, oi) :: (as ++ rest), @LT.lt Nat _ q.1 a := fun q hq => j7 q.1 (.tail _ (.tail _ (.tail _ (.tail _ (.tail _ (.tail _ (List.mem_map_of_mem (f := fun (q : Addr × Obj) => q.1) hq)))))))
    have Ca := C.more (oa := { cls := .type "tuple", data := .seq #[.str (nm y) ta, .str (Str.ofString (toString y)) tb] }) (lt _ (List.Mem.head _))
    refine hret h' tk' y t a ta tb us' ls' c1' j1 j2 j3 j4 j5 j6 Ca (fun q hq => lt q (.tail _ (List.mem_append_left _ hq))) Ca.off F' (fun q hq => N' q ?_)
    · simp only [List.mem_cons, List.mem_append] at hq ⊢
      rcases hq with rfl | rfl | h | rfl | rfl | rfl | rfl | rfl | h
      · exact .inl rfl
      · exact .inr (.inr (.inr (.inr (.inr (.inr (.inr (.inl rfl)))))))
      · exact .inr (.inr (.inr (.inr (.inr (.inr (.inr (.inr (.inl h))))))))
      · exact .inr (.inl rfl)
      · exact .inr (.inr (.inl rfl))
      · exact .inr (.inr (.inr (.inl rfl)))
      · exact .inr (.inr (.inr (.inr (.inl rfl))))
      · exact .inr (.inr (.inr (.inr (.inr (.inl rfl)))))
      · exact .inr (.inr (.inr (.inr (.inr (.inr (.inr (.inr (.inr h))))))))

end Mine
end

section
open PySem PySem.W PyProof.Rows PySem.Calls
set_option maxHeartbeats 8000000
namespace Mine
abbrev pairObj (x v : Str) (t u : Tok) : Obj := { cls := .type "tuple", data := .seq #[.str x t, .str v u] }
abbrev tabOf (w : World) (tk0 : Tok) (H : Addr) : Obj := dictOf [⟨PyData.keyHash w.params (Str.ofString "_headers"), .str (Str.ofString "_headers") tk0, .ref H⟩] 1
abbrev led5 (w : World) (tk0 : Tok) (H O d a0 a1 a2 a3 a4 : Addr) (c : Nat) (x0 x1 x2 x3 x4 v0 v1 v2 v3 v4 : Str) (t0 t1 t2 t3 t4 u0 u1 u2 u3 u4 : Tok) : List (Addr × Obj) :=
  [(a4, pairObj x4 v4 t4 u4), (a3, pairObj x3 v3 t3 u3), (a2, pairObj x2 v2 t2 u2), (a1, pairObj x1 v1 t1 u1), (a0, pairObj x0 v0 t0 u0), (H, listOf [Value.ref a0, Value.ref a1, Value.ref a2, Value.ref a3, Value.ref a4].toArray c), (O, instObj 203 d), (d, tabOf w tk0 H)]
theorem mut_end {g h h' : Heap} {L a : Addr} {m : Str → Option Value} {news : List (Addr × Obj)} {news0 : List (Addr × Obj)} {oa : Obj} (F : Fr g L h' m) (N : News g L h' news) (hg : g = hideAll h (news0.map (·.1))) (hS : ∀ p ∈ news0, h.get? p.1 = some p.2) (sub : ∀ p ∈ news0, p ∈ news) (ma : (a, oa) ∈ news) (na : ∀ p ∈ news0, p.1 ≠ a) :
    (∀ b o, h.get? b = some o → h'.get? b = some o) ∧ h.get? a = none ∧ h'.get? a = some oa := by
  refine ⟨fun b o q => ?_, ?_, (N _ ma).1⟩
  · by_cases hb : b ∈ news0.map (·.1)
    · obtain ⟨p, hp, rfl⟩ := List.mem_map.mp hb
      rw [hS p hp] at q
      cases q
      exact (N _ (sub p hp)).1
    · exact mut_keep F hg hb q
  · cases q : h.get? a with
    | none => rfl
    | some o =>
      have z := (N _ ma).2.2
      rw [hg, hideAll_get _ q (fun hm => by
        obtain ⟨p, hp, e⟩ := List.mem_map.mp hm
        exact na p hp e)] at z
      cases z
theorem keys_claim (w : World) (p : Program) (loose : List Str) (mean : ExcName → Option Value) (mg mb : Str → Option Value) (tk0 : Tok) (H O d a0 a1 a2 a3 a4 : Addr) (c : Nat) (x0 x1 x2 x3 x4 v0 v1 v2 v3 v4 : Str) (t0 t1 t2 t3 t4 u0 u1 u2 u3 u4 : Tok)
   (o1 : @LT.lt Nat _ d O) (o2 : @LT.lt Nat _ O H) (o3 : @LT.lt Nat _ H a0) (o4 : @LT.lt Nat _ a0 a1) (o5 : @LT.lt Nat _ a1 a2) (o6 : @LT.lt Nat _ a2 a3) (o7 : @LT.lt Nat _ a3 a4)
   (dp un : Nat) (gd : Option (List Code)) (fl : List Env) (s : Shared) (Q E : Value → Shared → Prop)
   (hS : ∀ p ∈ led5 w tk0 H O d a0 a1 a2 a3 a4 c x0 x1 x2 x3 x4 v0 v1 v2 v3 v4 t0 t1 t2 t3 t4 u0 u1 u2 u3 u4, s.heap.get? p.1 = some p.2)
   (X : (Mine.hd.heap_39 w.params).In (hideAll s.heap [a4, a3, a2, a1, a0, H, O, d])) (T : Top p loose mean mg mb (hideAll s.heap [a4, a3, a2, a1, a0, H, O, d])) (hd : dp + 2 < recursionLimit) (hu : un + 8 * 2 < cLine)
   (hret : ∀ h' tk' a n' s0 s1 s2 s3 s4, (∀ b o, s.heap.get? b = some o → h'.get? b = some o) → s.heap.get? a = none → h'.get? a = some (listOf [Value.str x0 s0, Value.str x1 s1, Value.str x2 s2, Value.str x3 s3, Value.str x4 s4].toArray n') → Q (.ref a) { s with heap := h', toks := tk' }) :
   wpAny (model PySem.Challenge.rw_pg0276_01.row.prog w) { handled := none, depth := dp, frames := some fl, guards := gd, units := un } (call (Value.ref 155) [Value.ref O]) Q E s := by
  w_on
  w_strict (
    refine wpAny_call ?_
    refine' mut_enter hS X T ?k6 ?k7 ?k8 ?k9 ?kB ?_ ?c2 ?c3 ?c4 ?c5
    (case k6 => k_is)
    (case k7 => k_is)
    (case k8 => ((try dsimp only); omega))
    (case k9 => exact BindsTo.of_eq rfl)
    (case kB => exact locs rfl)
    (case c5 => decide)
    (case c2 => exact rfl)
    (case c3 => exact rfl)
    (case c4 => exact rfl)
    intro g' L' h' hg' F' N' X' T'
    (try dsimp only)
    (try k_fold)
    repeat' (first | (rename (_ ∧ _) => h9; obtain ⟨_, _⟩ := h9) | ((with_reducible show wpAny _ _ (eval _ _) _ _ _); k_fold) | (k_unfold; (try dsimp only)) | (dsimp only; k_unfold; (try dsimp only)) | walk1 | (dsimp only; first | walk1) | (leave1; walk_say "STEP leave1"; try dsimp only) | fail "no step"))
  rename News _ _ _ _ => N9
  rename Fr _ _ _ _ => F9
  have z := mut_end F9 N9 hg' hS (fun p hp => .tail _ hp) (List.Mem.head _) (by
    simp only [List.forall_mem_cons, List.not_mem_nil, false_implies, implies_true, and_true]
    repeat' (refine And.intro ?_ ?_)
    all_goals assumption)
  exact hret _ _ _ _ _ _ _ _ _ z.1 z.2.1 z.2.2
section
variable {prog : Program} {w : World} {A : Around} {E : Value → Shared → Prop} {s : Shared} {Q : Value → Shared → Prop}
theorem lower_is {x y : Str} {t : Tok} (hl : x.length ≤ 40) (e : Txt.lower x = y) (h : ∀ t', Q (.str y t') { s with toks := s.toks + 1 }) : wpAny (model prog w) A (call (.builtin "str.lower") [.str x t]) Q E s := by
  subst e
  exact SCL.lower (by omega) (fun _ => h _)
end
section
variable {prog : Program} {w : World} {A : Around} {E : Value → Shared → Prop} {s : Shared} {Q : Value → Shared → Prop}
theorem eq_same {y : Str} {t u : Tok} (h : Q (.bool true) s) : wpAny (model prog w) A (compareOp .Eq (.str y t) (.str y u)) Q E s :=
  eq_str (by rw [beq_self_eq_true]; exact h)
end
abbrev frMap {h₀ h : Heap} {L : Addr} {m : Str → Option Value} (_ : Fr h₀ L h m) : Str → Option Value := m
inductive SA : List Value → List Str → Prop
  | nil : SA [] []
  | cons {ys : List Value} {xs : List Str} (x : Str) (t : Tok) : SA ys xs → SA (.str x t :: ys) (x :: xs)
theorem SA.append : ∀ {ys ys' : List Value} {xs xs' : List Str}, SA ys xs → SA ys' xs' → SA (ys ++ ys') (xs ++ xs')
  | _, _, _, _, .nil, h => h
  | _, _, _, _, .cons x t r, h => .cons x t (r.append h)
theorem SA.five {ys : List Value} {a b c d e : Str} (h : SA ys [a, b, c, d, e]) : ∃ s0 s1 s2 s3 s4, ys = [Value.str a s0, Value.str b s1, Value.str c s2, Value.str d s3, Value.str e s4] := by
  cases h with | cons _ s0 h => cases h with | cons _ s1 h => cases h with | cons _ s2 h => cases h with | cons _ s3 h => cases h with | cons _ s4 h => cases h with | nil => exact ⟨s0, s1, s2, s3, s4, rfl⟩
theorem add_new {h₀ h : Heap} {L a : Addr} {o : Obj} {news : List (Addr × Obj)} (N : News h₀ L h news) (e : h.get? a = some o) (hL : a ≠ L) (e0 : h₀.get? a = none) : News h₀ L h ((a, o) :: news) := fun p hp => by
  rcases List.mem_cons.mp hp with rfl | hp
  · exact ⟨e, hL, e0⟩
  · exact N p hp
theorem none_new {h₀ h : Heap} {L a : Addr} {m : Str → Option Value} (F : Fr h₀ L h m) (e : h.get? a = none) : h₀.get? a = none := by
  cases q : h₀.get? a with
  | none => rfl
  | some o => rw [F.keep _ _ q] at e; cases e
def tupO (x v : Str) (t u : Tok) : Obj := { cls := .type "tuple", data := .seq #[.str x t, .str v u] }
def PairIn (led : List (Addr × Obj)) (vs : List Str) (i : Nat) (v : Value) : Prop := ∃ (a : Addr) (x z : Str) (t u : Tok), v = .ref a ∧ (a, tupO x z t u) ∈ led ∧ x.length ≤ 40 ∧ Txt.lower x = Str.ofString "abcdef" ∧ vs[i]? = some z
theorem pairs_in {a0 a1 a2 a3 a4 : Addr} {x0 x1 x2 x3 x4 v0 v1 v2 v3 v4 : Str} {t0 t1 t2 t3 t4 u0 u1 u2 u3 u4 : Tok} {c : Addr × Obj} {rest : List (Addr × Obj)}
    (lx0 : x0.length ≤ 40) (lx1 : x1.length ≤ 40) (lx2 : x2.length ≤ 40) (lx3 : x3.length ≤ 40) (lx4 : x4.length ≤ 40) (hx0 : Txt.lower x0 = Str.ofString "abcdef") (hx1 : Txt.lower x1 = Str.ofString "abcdef") (hx2 : Txt.lower x2 = Str.ofString "abcdef") (hx3 : Txt.lower x3 = Str.ofString "abcdef") (hx4 : Txt.lower x4 = Str.ofString "abcdef") :
    ∀ (i : Nat) (v : Value), [Value.ref a0, .ref a1, .ref a2, .ref a3, .ref a4].toArray[i]? = some v → PairIn (c :: (a4, tupO x4 v4 t4 u4) :: (a3, tupO x3 v3 t3 u3) :: (a2, tupO x2 v2 t2 u2) :: (a1, tupO x1 v1 t1 u1) :: (a0, tupO x0 v0 t0 u0) :: rest) [v0, v1, v2, v3, v4] i v
  | 0, _, h => ⟨a0, x0, v0, t0, u0, (Option.some.inj h).symm, .tail _ (.tail _ (.tail _ (.tail _ (.tail _ (.head _))))), lx0, hx0, rfl⟩
  | 1, _, h => ⟨a1, x1, v1, t1, u1, (Option.some.inj h).symm, .tail _ (.tail _ (.tail _ (.tail _ (.head _)))), lx1, hx1, rfl⟩
  | 2, _, h => ⟨a2, x2, v2, t2, u2, (Option.some.inj h).symm, .tail _ (.tail _ (.tail _ (.head _))), lx2, hx2, rfl⟩
  | 3, _, h => ⟨a3, x3, v3, t3, u3, (Option.some.inj h).symm, .tail _ (.tail _ (.head _)), lx3, hx3, rfl⟩
  | 4, _, h => ⟨a4, x4, v4, t4, u4, (Option.some.inj h).symm, .tail _ (.head _), lx4, hx4, rfl⟩
  | _ + 5, _, h => by cases h
theorem getall_claim (w : World) (p : Program) (loose : List Str) (mean : ExcName → Option Value) (mg mb : Str → Option Value) (tk0 : Tok) (H O d a0 a1 a2 a3 a4 : Addr) (c : Nat) (q x0 x1 x2 x3 x4 v0 v1 v2 v3 v4 : Str) (tq t0 t1 t2 t3 t4 u0 u1 u2 u3 u4 : Tok)
   (lq : q.length ≤ 40) (lx0 : x0.length ≤ 40) (lx1 : x1.length ≤ 40) (lx2 : x2.length ≤ 40) (lx3 : x3.length ≤ 40) (lx4 : x4.length ≤ 40) (hq : Txt.lower q = Str.ofString "abcdef") (hx0 : Txt.lower x0 = Str.ofString "abcdef") (hx1 : Txt.lower x1 = Str.ofString "abcdef") (hx2 : Txt.lower x2 = Str.ofString "abcdef") (hx3 : Txt.lower x3 = Str.ofString "abcdef") (hx4 : Txt.lower x4 = Str.ofString "abcdef")
   (o1 : @LT.lt Nat _ d O) (o2 : @LT.lt Nat _ O H) (o3 : @LT.lt Nat _ H a0) (o4 : @LT.lt Nat _ a0 a1) (o5 : @LT.lt Nat _ a1 a2) (o6 : @LT.lt Nat _ a2 a3) (o7 : @LT.lt Nat _ a3 a4)
   (dp un : Nat) (gd : Option (List Code)) (fl : List Env) (s : Shared) (Q E : Value → Shared → Prop)
   (hS : ∀ p ∈ led5 w tk0 H O d a0 a1 a2 a3 a4 c x0 x1 x2 x3 x4 v0 v1 v2 v3 v4 t0 t1 t2 t3 t4 u0 u1 u2 u3 u4, s.heap.get? p.1 = some p.2)
   (X : (Mine.hd.heap_39 w.params).In (hideAll s.heap [a4, a3, a2, a1, a0, H, O, d])) (T : Top p loose mean mg mb (hideAll s.heap [a4, a3, a2, a1, a0, H, O, d])) (hd : dp + 2 < recursionLimit) (hu : un + 8 * 2 < cLine)
   (hret : ∀ h' tk' a n' s0 s1 s2 s3 s4, (∀ b o, s.heap.get? b = some o → h'.get? b = some o) → s.heap.get? a = none → h'.get? a = some (listOf [Value.str v0 s0, Value.str v1 s1, Value.str v2 s2, Value.str v3 s3, Value.str v4 s4].toArray n') → Q (.ref a) { s with heap := h', toks := tk' }) :
   wpAny (model PySem.Challenge.rw_pg0276_01.row.prog w) { handled := none, depth := dp, frames := some fl, guards := gd, units := un } (call (Value.ref 142) [Value.ref O, Value.str q tq]) Q E s := by
  have hhit : hitNone nameCode (Str.ofString "abcdef").cps = true := by decide +kernel
  w_on
  w_strict (
    refine wpAny_call ?_
    refine' mut_enterC hS X T ?k6 ?k7 ?k8 ?k9 ?kB ?kD ?_ ?c2 ?c3 ?c4
    (case k6 => k_is)
    (case k7 => k_is)
    (case k8 => ((try dsimp only); omega))
    (case k9 => exact BindsTo.of_eq rfl)
    (case kB => exact rfl)
    (case kD => decide +kernel)
    (case c2 => exact rfl)
    (case c3 => exact rfl)
    (case c4 => exact rfl)
    intro g' L' h' tk' cells' hg' l1 F' N' Y' X' T'
    k_lt l1
    k_cells Y'
    (try simp only [List.cons_append, List.nil_append, led5, pairObj, tabOf] at N')
    (try dsimp only)
    (try k_fold)
    repeat' (first | (rename (_ ∧ _) => h9; obtain ⟨_, _⟩ := h9) | (k_unfold; (try dsimp only)) | (dsimp only; k_unfold; (try dsimp only)) | ((with_reducible show wpAny _ _ (eval (Expr.ListComp _ _ _ _) _) _ _ _); (refine Mark.to ?_)) | ((with_reducible show wpAny _ _ (eval (Expr.Name _ _) _) _ _ _); ((with_reducible show wpAny _ _ (eval (Expr.Name (Str.ofString "name") _) (compEnvC _ _ _ _)) _ _ _); k_dflt (refine' lcf_cell ?N ?c ?m ?d ?_ ?a ?b; (case a => rfl); (case b => rfl); (case N => k_asm); (case c => rfl); (case m => k_mem); (case d => with_reducible assumption)))) | ((with_reducible show wpAny _ _ (subscriptTail (Expr.Name _ _) (Expr.Constant _ _ _) (Value.ref _) (Value.int _ _)) _ _ _); (k_here; k_dflt (refine' kim_tup ?N ?m ?c ?d ?lo ?hi ?hj ?x ?_; (case N => k_asm); (case m => k_mem); (case c => rfl); (case d => exact rfl); (case lo => decide); (case hi => decide); (case hj => rfl); (case x => rfl)))) | ((with_reducible show wpAny _ _ (eval (Expr.Name _ _) _) _ _ _); ((with_reducible show wpAny _ _ (eval (Expr.Name (Str.ofString "kv") _) (compEnvC _ _ _ _)) _ _ _); k_dflt (refine LCgL.ld_own (by k_asm) (by k_mem) (by with_reducible assumption) (by with_reducible assumption) ?_))) | ((with_reducible show wpAny _ _ (eval (Expr.Subscript _ _ _) _) _ _ _); (refine Subscript_ ?_)) | ((with_reducible show wpAny _ _ (compareOp .Eq (Value.str _ _) (Value.str _ _)) _ _ _); (k_here; with_reducible refine eq_same ?_)) | ((with_reducible show wpAny _ _ (call (Value.builtin "str.lower") _ _) _ _ _); (k_here; (try dsimp only [List.cons_append, List.nil_append]); k_dflt (refine' lower_is ?l ?e ?_; (case l => with_reducible assumption); (case e => with_reducible assumption)); intro t'q)) | ((with_reducible show wpAny _ _ (call (Value.ref _) _ _) _ _ _); (k_here; (with_reducible show wpAny _ _ (call (Value.ref 104) _ _) _ _ _); k_dflt (refine' conv_claim _ _ _ _ _ _ _ _ _ _ ?hx _ _ _ _ _ _ _ ?hX ?hT ?hd ?hu ?_; (case hX => (with_unfolding_all exact Frag.In.keeps (by k_asm) (Fr.keep (by k_asm)))); (case hT => (with_unfolding_all exact Top.keeps (by k_asm) (Fr.keep (by k_asm)))); (case hd => ((try dsimp only); omega)); (case hu => ((try dsimp only); omega)); (case hx => (dsimp only; with_reducible assumption))); intro v9q h9q tk9q K9q O9q; obtain ⟨t9q, ev9q⟩ := O9q; subst ev9q; (try dsimp only at K9q); (rename Fr _ _ _ _ => F8q); (rename News _ _ _ _ => N8q); (have F9q := after_fr F8q K9q); (have N9q := after_news N8q K9q); clear F8q N8q K9q)) | walk1 | (dsimp only; first | ((with_reducible show wpAny _ _ (eval (Expr.ListComp _ _ _ _) _) _ _ _); (refine Mark.to ?_)) | ((with_reducible show wpAny _ _ (eval (Expr.Name _ _) _) _ _ _); ((with_reducible show wpAny _ _ (eval (Expr.Name (Str.ofString "name") _) (compEnvC _ _ _ _)) _ _ _); k_dflt (refine' lcf_cell ?N ?c ?m ?d ?_ ?a ?b; (case a => rfl); (case b => rfl); (case N => k_asm); (case c => rfl); (case m => k_mem); (case d => with_reducible assumption)))) | ((with_reducible show wpAny _ _ (subscriptTail (Expr.Name _ _) (Expr.Constant _ _ _) (Value.ref _) (Value.int _ _)) _ _ _); (k_here; k_dflt (refine' kim_tup ?N ?m ?c ?d ?lo ?hi ?hj ?x ?_; (case N => k_asm); (case m => k_mem); (case c => rfl); (case d => exact rfl); (case lo => decide); (case hi => decide); (case hj => rfl); (case x => rfl)))) | ((with_reducible show wpAny _ _ (eval (Expr.Name _ _) _) _ _ _); ((with_reducible show wpAny _ _ (eval (Expr.Name (Str.ofString "kv") _) (compEnvC _ _ _ _)) _ _ _); k_dflt (refine LCgL.ld_own (by k_asm) (by k_mem) (by with_reducible assumption) (by with_reducible assumption) ?_))) | ((with_reducible show wpAny _ _ (eval (Expr.Subscript _ _ _) _) _ _ _); (refine Subscript_ ?_)) | ((with_reducible show wpAny _ _ (compareOp .Eq (Value.str _ _) (Value.str _ _)) _ _ _); (k_here; with_reducible refine eq_same ?_)) | ((with_reducible show wpAny _ _ (call (Value.builtin "str.lower") _ _) _ _ _); (k_here; (try dsimp only [List.cons_append, List.nil_append]); k_dflt (refine' lower_is ?l ?e ?_; (case l => with_reducible assumption); (case e => with_reducible assumption)); intro t'q)) | ((with_reducible show wpAny _ _ (call (Value.ref _) _ _) _ _ _); (k_here; (with_reducible show wpAny _ _ (call (Value.ref 104) _ _) _ _ _); k_dflt (refine' conv_claim _ _ _ _ _ _ _ _ _ _ ?hx _ _ _ _ _ _ _ ?hX ?hT ?hd ?hu ?_; (case hX => (with_unfolding_all exact Frag.In.keeps (by k_asm) (Fr.keep (by k_asm)))); (case hT => (with_unfolding_all exact Top.keeps (by k_asm) (Fr.keep (by k_asm)))); (case hd => ((try dsimp only); omega)); (case hu => ((try dsimp only); omega)); (case hx => (dsimp only; with_reducible assumption))); intro v9q h9q tk9q K9q O9q; obtain ⟨t9q, ev9q⟩ := O9q; subst ev9q; (try dsimp only at K9q); (rename Fr _ _ _ _ => F8q); (rename News _ _ _ _ => N8q); (have F9q := after_fr F8q K9q); (have N9q := after_news N8q K9q); clear F8q N8q K9q)) | walk1) | (leave1; walk_say "STEP leave1"; try dsimp only) | fail "no step"))
  refine Mark.mk ?_
  rename Fr _ _ _ _ => F1
  rename News _ _ _ _ => N1
  rename Heap => h1
  rename Obj => oN
  rename (Obj.data _ = Data.cell (some (Value.str _ _))) => hcl
  have at5 := pairs_in (v0 := v0) (v1 := v1) (v2 := v2) (v3 := v3) (v4 := v4) (t0 := t0) (t1 := t1) (t2 := t2) (t3 := t3) (t4 := t4) (u0 := u0) (u1 := u1) (u2 := u2) (u3 := u3) (u4 := u4) (a0 := a0) (a1 := a1) (a2 := a2) (a3 := a3) (a4 := a4) (c := (L' + 1, oN)) (rest := [(H, listOf [Value.ref a0, Value.ref a1, Value.ref a2, Value.ref a3, Value.ref a4].toArray c), (O, instObj 203 d), (d, tabOf w tk0 H)]) lx0 lx1 lx2 lx3 lx4 hx0 hx1 hx2 hx3 hx4
  refine wpAny_mono (Q := fun v s' => Leaf <| ∃ D h' tk' dv c m', v = .ref D ∧ s' = { heap := h', gens := s.gens, drawn := s.drawn, toks := tk', os := s.os } ∧ SA dv [v0, v1, v2, v3, v4] ∧ (∀ b o, b ≠ L' → h1.get? b = some o → h'.get? b = some o) ∧ h'.Ns L' m' ∧ h'.get? D = some (listOf dv.toArray c) ∧ D ≠ L' ∧ h1.get? D = none) ?_ ?_ fun _ _ e => e
  · refine eval_list (h₀ := g') (L := L') (m := frMap F1) (by first | exact .inl rfl | exact .inr ⟨_, _, _, rfl⟩) (by with_unfolding_all rfl) (by decide) rfl (by decide) (by rfl) rfl
      (fun i _ ys Pr => Pr = [] ∧ ys.length ≤ i ∧ SA ys ([v0, v1, v2, v3, v4].take i)) ?_
    w_strict (repeat' (first | (rename (_ ∧ _) => h9; obtain ⟨_, _⟩ := h9) | (k_unfold; (try dsimp only)) | (dsimp only; k_unfold; (try dsimp only)) | ((with_reducible show wpAny _ _ (eval (Expr.ListComp _ _ _ _) _) _ _ _); (refine Mark.to ?_)) | ((with_reducible show wpAny _ _ (eval (Expr.Name _ _) _) _ _ _); ((with_reducible show wpAny _ _ (eval (Expr.Name (Str.ofString "name") _) (compEnvC _ _ _ _)) _ _ _); k_dflt (refine' lcf_cell ?N ?c ?m ?d ?_ ?a ?b; (case a => rfl); (case b => rfl); (case N => k_asm); (case c => rfl); (case m => k_mem); (case d => with_reducible assumption)))) | ((with_reducible show wpAny _ _ (subscriptTail (Expr.Name _ _) (Expr.Constant _ _ _) (Value.ref _) (Value.int _ _)) _ _ _); (k_here; k_dflt (refine' kim_tup ?N ?m ?c ?d ?lo ?hi ?hj ?x ?_; (case N => k_asm); (case m => k_mem); (case c => rfl); (case d => exact rfl); (case lo => decide); (case hi => decide); (case hj => rfl); (case x => rfl)))) | ((with_reducible show wpAny _ _ (eval (Expr.Name _ _) _) _ _ _); ((with_reducible show wpAny _ _ (eval (Expr.Name (Str.ofString "kv") _) (compEnvC _ _ _ _)) _ _ _); k_dflt (refine LCgL.ld_own (by k_asm) (by k_mem) (by with_reducible assumption) (by with_reducible assumption) ?_))) | ((with_reducible show wpAny _ _ (eval (Expr.Subscript _ _ _) _) _ _ _); (refine Subscript_ ?_)) | ((with_reducible show wpAny _ _ (compareOp .Eq (Value.str _ _) (Value.str _ _)) _ _ _); (k_here; with_reducible refine eq_same ?_)) | ((with_reducible show wpAny _ _ (call (Value.builtin "str.lower") _ _) _ _ _); (k_here; (try dsimp only [List.cons_append, List.nil_append]); k_dflt (refine' lower_is ?l ?e ?_; (case l => with_reducible assumption); (case e => with_reducible assumption)); intro t'q)) | ((with_reducible show wpAny _ _ (call (Value.ref _) _ _) _ _ _); (k_here; (with_reducible show wpAny _ _ (call (Value.ref 104) _ _) _ _ _); k_dflt (refine' conv_claim _ _ _ _ _ _ _ _ _ _ ?hx _ _ _ _ _ _ _ ?hX ?hT ?hd ?hu ?_; (case hX => (with_unfolding_all exact Frag.In.keeps (by k_asm) (Fr.keep (by k_asm)))); (case hT => (with_unfolding_all exact Top.keeps (by k_asm) (Fr.keep (by k_asm)))); (case hd => ((try dsimp only); omega)); (case hu => ((try dsimp only); omega)); (case hx => (dsimp only; with_reducible assumption))); intro v9q h9q tk9q K9q O9q; obtain ⟨t9q, ev9q⟩ := O9q; subst ev9q; (try dsimp only at K9q); (rename Fr _ _ _ _ => F8q); (rename News _ _ _ _ => N8q); (have F9q := after_fr F8q K9q); (have N9q := after_news N8q K9q); clear F8q N8q K9q)) | walk1 | (dsimp only; first | ((with_reducible show wpAny _ _ (eval (Expr.ListComp _ _ _ _) _) _ _ _); (refine Mark.to ?_)) | ((with_reducible show wpAny _ _ (eval (Expr.Name _ _) _) _ _ _); ((with_reducible show wpAny _ _ (eval (Expr.Name (Str.ofString "name") _) (compEnvC _ _ _ _)) _ _ _); k_dflt (refine' lcf_cell ?N ?c ?m ?d ?_ ?a ?b; (case a => rfl); (case b => rfl); (case N => k_asm); (case c => rfl); (case m => k_mem); (case d => with_reducible assumption)))) | ((with_reducible show wpAny _ _ (subscriptTail (Expr.Name _ _) (Expr.Constant _ _ _) (Value.ref _) (Value.int _ _)) _ _ _); (k_here; k_dflt (refine' kim_tup ?N ?m ?c ?d ?lo ?hi ?hj ?x ?_; (case N => k_asm); (case m => k_mem); (case c => rfl); (case d => exact rfl); (case lo => decide); (case hi => decide); (case hj => rfl); (case x => rfl)))) | ((with_reducible show wpAny _ _ (eval (Expr.Name _ _) _) _ _ _); ((with_reducible show wpAny _ _ (eval (Expr.Name (Str.ofString "kv") _) (compEnvC _ _ _ _)) _ _ _); k_dflt (refine LCgL.ld_own (by k_asm) (by k_mem) (by with_reducible assumption) (by with_reducible assumption) ?_))) | ((with_reducible show wpAny _ _ (eval (Expr.Subscript _ _ _) _) _ _ _); (refine Subscript_ ?_)) | ((with_reducible show wpAny _ _ (compareOp .Eq (Value.str _ _) (Value.str _ _)) _ _ _); (k_here; with_reducible refine eq_same ?_)) | ((with_reducible show wpAny _ _ (call (Value.builtin "str.lower") _ _) _ _ _); (k_here; (try dsimp only [List.cons_append, List.nil_append]); k_dflt (refine' lower_is ?l ?e ?_; (case l => with_reducible assumption); (case e => with_reducible assumption)); intro t'q)) | ((with_reducible show wpAny _ _ (call (Value.ref _) _ _) _ _ _); (k_here; (with_reducible show wpAny _ _ (call (Value.ref 104) _ _) _ _ _); k_dflt (refine' conv_claim _ _ _ _ _ _ _ _ _ _ ?hx _ _ _ _ _ _ _ ?hX ?hT ?hd ?hu ?_; (case hX => (with_unfolding_all exact Frag.In.keeps (by k_asm) (Fr.keep (by k_asm)))); (case hT => (with_unfolding_all exact Top.keeps (by k_asm) (Fr.keep (by k_asm)))); (case hd => ((try dsimp only); omega)); (case hu => ((try dsimp only); omega)); (case hx => (dsimp only; with_reducible assumption))); intro v9q h9q tk9q K9q O9q; obtain ⟨t9q, ev9q⟩ := O9q; subst ev9q; (try dsimp only at K9q); (rename Fr _ _ _ _ => F8q); (rename News _ _ _ _ => N8q); (have F9q := after_fr F8q K9q); (have N9q := after_news N8q K9q); clear F8q N8q K9q)) | walk1) | (leave1; walk_say "STEP leave1"; try dsimp only) | fail "no step"))
    rename Fr _ _ _ _ => F2
    rename News _ _ _ _ => N2
    have e0 := N2 _ (.tail _ (.tail _ (.tail _ (.tail _ (.tail _ (.tail _ (.head _)))))))
    refine Leaf.mk ⟨H, _, rfl, ⟨_, e0.1, rfl, c, rfl⟩, e0.2.1, F2, ?_, ⟨rfl, Nat.le_refl _, .nil⟩, ?_⟩
    · intro C I D i v oI mC ys Pr h tk2 K hv hY S
      obtain ⟨a, x, z, t, u, rfl, hmem, hxl, hxlow, hz⟩ := at5 i v hv
      obtain ⟨rfl, hl1, hys⟩ := hY
      try dsimp only at S ⊢
      obtain ⟨m₂, em₂⟩ : ∃ m₂, m₂ = (fun y => if y = Str.ofString "kv" then some (Value.ref a) else mC y) := ⟨_, rfl⟩
      have hm₂ : m₂ (Str.ofString "kv") = some (.ref a) := by rw [em₂]; exact if_pos rfl
      rw [← em₂] at S
      have hi5 : i < 5 := (List.getElem?_eq_some_iff.mp hz).1
      have F2m : Fr g' L' h1 (frMap F2) := F2
      generalize frMap F2 = mF at S F2m ⊢
      have eN := N2 _ hmem
      have eC := N2 _ (List.Mem.head _)
      have walkable : ∀ h' : Heap, Stt L' mF h1 (CFp C) [C] D m₂ ys [(I, oI)] h' → ∃ oC, LCg.NsObj oC m₂ ∧ Fr g' L' h' mF ∧ News g' L' h' ((C, oC) :: (a, { cls := .type "tuple", data := .seq #[.str x t, .str z u] }) :: (L' + 1, oN) :: above g' L' h') := fun h' S' => by
        have F3 : Fr g' L' h' mF := fr_kept F2m S'.kb S'.ns
        obtain ⟨oC, eC', hoC⟩ := LCg.ns_obj S'.cf
        obtain ⟨_, cL, cn, _⟩ := S'.fa C (.head _)
        have cn0 := none_new F2m cn
        exact ⟨oC, hoC, F3, news_above (news := [(C, oC), (a, { cls := .type "tuple", data := .seq #[.str x t, .str z u] }), (L' + 1, oN)]) fun q hq => by
          simp only [List.mem_cons, List.not_mem_nil, or_false] at hq
          rcases hq with rfl | rfl | rfl
          · exact ⟨eC', cL, cn0⟩
          · exact ⟨S'.kb _ _ eN.2.1 eN.1, eN.2⟩
          · exact ⟨S'.kb _ _ eC.2.1 eC.1, eC.2⟩⟩
      clear hmem at5 N2 e0 em₂ hret hS
      refine turn_test (s := { heap := h, gens := s.gens, drawn := s.drawn, toks := tk2, os := s.os }) (tk := tk2) K S true (fun E' => ?_) (fun hB h' tk' S' E' => ?_) (fun hB => nomatch hB)
      · obtain ⟨oC, hoC, F3, N3⟩ := walkable h S
        obtain ⟨rest3, er3⟩ : ∃ rest, rest = above g' L' h := ⟨_, rfl⟩
        rw [← er3] at N3
        have F3' : Kp (Fr g' L' h mF) := ⟨F3⟩
        clear walkable S K F2m
        w_strict (repeat' (first | (rename (_ ∧ _) => h9; obtain ⟨_, _⟩ := h9) | (k_unfold; (try dsimp only)) | (dsimp only; k_unfold; (try dsimp only)) | ((with_reducible show wpAny _ _ (eval (Expr.ListComp _ _ _ _) _) _ _ _); (refine Mark.to ?_)) | ((with_reducible show wpAny _ _ (eval (Expr.Name _ _) _) _ _ _); ((with_reducible show wpAny _ _ (eval (Expr.Name (Str.ofString "name") _) (compEnvC _ _ _ _)) _ _ _); k_dflt (refine' lcf_cell ?N ?c ?m ?d ?_ ?a ?b; (case a => rfl); (case b => rfl); (case N => k_asm); (case c => rfl); (case m => k_mem); (case d => with_reducible assumption)))) | ((with_reducible show wpAny _ _ (subscriptTail (Expr.Name _ _) (Expr.Constant _ _ _) (Value.ref _) (Value.int _ _)) _ _ _); (k_here; k_dflt (refine' kim_tup ?N ?m ?c ?d ?lo ?hi ?hj ?x ?_; (case N => k_asm); (case m => k_mem); (case c => rfl); (case d => exact rfl); (case lo => decide); (case hi => decide); (case hj => rfl); (case x => rfl)))) | ((with_reducible show wpAny _ _ (eval (Expr.Name _ _) _) _ _ _); ((with_reducible show wpAny _ _ (eval (Expr.Name (Str.ofString "kv") _) (compEnvC _ _ _ _)) _ _ _); k_dflt (refine LCgL.ld_own (by k_asm) (by k_mem) (by with_reducible assumption) (by with_reducible assumption) ?_))) | ((with_reducible show wpAny _ _ (eval (Expr.Subscript _ _ _) _) _ _ _); (refine Subscript_ ?_)) | ((with_reducible show wpAny _ _ (compareOp .Eq (Value.str _ _) (Value.str _ _)) _ _ _); (k_here; with_reducible refine eq_same ?_)) | ((with_reducible show wpAny _ _ (call (Value.builtin "str.lower") _ _) _ _ _); (k_here; (try dsimp only [List.cons_append, List.nil_append]); k_dflt (refine' lower_is ?l ?e ?_; (case l => with_reducible assumption); (case e => with_reducible assumption)); intro t'q)) | ((with_reducible show wpAny _ _ (call (Value.ref _) _ _) _ _ _); (k_here; (with_reducible show wpAny _ _ (call (Value.ref 104) _ _) _ _ _); k_dflt (refine' conv_claim _ _ _ _ _ _ _ _ _ _ ?hx _ _ _ _ _ _ _ ?hX ?hT ?hd ?hu ?_; (case hX => (with_unfolding_all exact Frag.In.keeps (by k_asm) (Fr.keep (by k_asm)))); (case hT => (with_unfolding_all exact Top.keeps (by k_asm) (Fr.keep (by k_asm)))); (case hd => ((try dsimp only); omega)); (case hu => ((try dsimp only); omega)); (case hx => (dsimp only; with_reducible assumption))); intro v9q h9q tk9q K9q O9q; obtain ⟨t9q, ev9q⟩ := O9q; subst ev9q; (try dsimp only at K9q); (rename Fr _ _ _ _ => F8q); (rename News _ _ _ _ => N8q); (have F9q := after_fr F8q K9q); (have N9q := after_news N8q K9q); clear F8q N8q K9q)) | walk1 | (dsimp only; first | ((with_reducible show wpAny _ _ (eval (Expr.ListComp _ _ _ _) _) _ _ _); (refine Mark.to ?_)) | ((with_reducible show wpAny _ _ (eval (Expr.Name _ _) _) _ _ _); ((with_reducible show wpAny _ _ (eval (Expr.Name (Str.ofString "name") _) (compEnvC _ _ _ _)) _ _ _); k_dflt (refine' lcf_cell ?N ?c ?m ?d ?_ ?a ?b; (case a => rfl); (case b => rfl); (case N => k_asm); (case c => rfl); (case m => k_mem); (case d => with_reducible assumption)))) | ((with_reducible show wpAny _ _ (subscriptTail (Expr.Name _ _) (Expr.Constant _ _ _) (Value.ref _) (Value.int _ _)) _ _ _); (k_here; k_dflt (refine' kim_tup ?N ?m ?c ?d ?lo ?hi ?hj ?x ?_; (case N => k_asm); (case m => k_mem); (case c => rfl); (case d => exact rfl); (case lo => decide); (case hi => decide); (case hj => rfl); (case x => rfl)))) | ((with_reducible show wpAny _ _ (eval (Expr.Name _ _) _) _ _ _); ((with_reducible show wpAny _ _ (eval (Expr.Name (Str.ofString "kv") _) (compEnvC _ _ _ _)) _ _ _); k_dflt (refine LCgL.ld_own (by k_asm) (by k_mem) (by with_reducible assumption) (by with_reducible assumption) ?_))) | ((with_reducible show wpAny _ _ (eval (Expr.Subscript _ _ _) _) _ _ _); (refine Subscript_ ?_)) | ((with_reducible show wpAny _ _ (compareOp .Eq (Value.str _ _) (Value.str _ _)) _ _ _); (k_here; with_reducible refine eq_same ?_)) | ((with_reducible show wpAny _ _ (call (Value.builtin "str.lower") _ _) _ _ _); (k_here; (try dsimp only [List.cons_append, List.nil_append]); k_dflt (refine' lower_is ?l ?e ?_; (case l => with_reducible assumption); (case e => with_reducible assumption)); intro t'q)) | ((with_reducible show wpAny _ _ (call (Value.ref _) _ _) _ _ _); (k_here; (with_reducible show wpAny _ _ (call (Value.ref 104) _ _) _ _ _); k_dflt (refine' conv_claim _ _ _ _ _ _ _ _ _ _ ?hx _ _ _ _ _ _ _ ?hX ?hT ?hd ?hu ?_; (case hX => (with_unfolding_all exact Frag.In.keeps (by k_asm) (Fr.keep (by k_asm)))); (case hT => (with_unfolding_all exact Top.keeps (by k_asm) (Fr.keep (by k_asm)))); (case hd => ((try dsimp only); omega)); (case hu => ((try dsimp only); omega)); (case hx => (dsimp only; with_reducible assumption))); intro v9q h9q tk9q K9q O9q; obtain ⟨t9q, ev9q⟩ := O9q; subst ev9q; (try dsimp only at K9q); (rename Fr _ _ _ _ => F8q); (rename News _ _ _ _ => N8q); (have F9q := after_fr F8q K9q); (have N9q := after_news N8q K9q); clear F8q N8q K9q)) | walk1) | (leave1; walk_say "STEP leave1"; try dsimp only) | fail "no step"))
        (try dsimp only)
        rename Fr _ _ _ _ => F9
        rename News _ _ _ _ => N9
        exact Leaf.mk ⟨rfl, _, _, rfl, F9.ns, kept_of (h₀ := g') (m := mF) F3'.out F9 (fun q hq => (N9 q (by rw [← er3] at hq; simp only [List.mem_cons]; simp only [hq, or_true])).1)⟩
      · obtain ⟨oC, hoC, F3, N3⟩ := walkable h' S'
        obtain ⟨rest3, er3⟩ : ∃ rest, rest = above g' L' h' := ⟨_, rfl⟩
        rw [← er3] at N3
        have F3' : Kp (Fr g' L' h' mF) := ⟨F3⟩
        refine' body_val (s := { heap := h', gens := s.gens, drawn := s.drawn, toks := tk', os := s.os }) (tk := tk') (Z := fun v => ∃ t, v = .str z t) K ?hg S' ?hs ?_ ?_
        case hg => rfl
        case hs => (rw [sizeLine_eq]; omega)
        · clear walkable S S' K F2m
          w_strict (repeat' (first | (rename (_ ∧ _) => h9; obtain ⟨_, _⟩ := h9) | (k_unfold; (try dsimp only)) | (dsimp only; k_unfold; (try dsimp only)) | ((with_reducible show wpAny _ _ (eval (Expr.ListComp _ _ _ _) _) _ _ _); (refine Mark.to ?_)) | ((with_reducible show wpAny _ _ (eval (Expr.Name _ _) _) _ _ _); ((with_reducible show wpAny _ _ (eval (Expr.Name (Str.ofString "name") _) (compEnvC _ _ _ _)) _ _ _); k_dflt (refine' lcf_cell ?N ?c ?m ?d ?_ ?a ?b; (case a => rfl); (case b => rfl); (case N => k_asm); (case c => rfl); (case m => k_mem); (case d => with_reducible assumption)))) | ((with_reducible show wpAny _ _ (subscriptTail (Expr.Name _ _) (Expr.Constant _ _ _) (Value.ref _) (Value.int _ _)) _ _ _); (k_here; k_dflt (refine' kim_tup ?N ?m ?c ?d ?lo ?hi ?hj ?x ?_; (case N => k_asm); (case m => k_mem); (case c => rfl); (case d => exact rfl); (case lo => decide); (case hi => decide); (case hj => rfl); (case x => rfl)))) | ((with_reducible show wpAny _ _ (eval (Expr.Name _ _) _) _ _ _); ((with_reducible show wpAny _ _ (eval (Expr.Name (Str.ofString "kv") _) (compEnvC _ _ _ _)) _ _ _); k_dflt (refine LCgL.ld_own (by k_asm) (by k_mem) (by with_reducible assumption) (by with_reducible assumption) ?_))) | ((with_reducible show wpAny _ _ (eval (Expr.Subscript _ _ _) _) _ _ _); (refine Subscript_ ?_)) | ((with_reducible show wpAny _ _ (compareOp .Eq (Value.str _ _) (Value.str _ _)) _ _ _); (k_here; with_reducible refine eq_same ?_)) | ((with_reducible show wpAny _ _ (call (Value.builtin "str.lower") _ _) _ _ _); (k_here; (try dsimp only [List.cons_append, List.nil_append]); k_dflt (refine' lower_is ?l ?e ?_; (case l => with_reducible assumption); (case e => with_reducible assumption)); intro t'q)) | ((with_reducible show wpAny _ _ (call (Value.ref _) _ _) _ _ _); (k_here; (with_reducible show wpAny _ _ (call (Value.ref 104) _ _) _ _ _); k_dflt (refine' conv_claim _ _ _ _ _ _ _ _ _ _ ?hx _ _ _ _ _ _ _ ?hX ?hT ?hd ?hu ?_; (case hX => (with_unfolding_all exact Frag.In.keeps (by k_asm) (Fr.keep (by k_asm)))); (case hT => (with_unfolding_all exact Top.keeps (by k_asm) (Fr.keep (by k_asm)))); (case hd => ((try dsimp only); omega)); (case hu => ((try dsimp only); omega)); (case hx => (dsimp only; with_reducible assumption))); intro v9q h9q tk9q K9q O9q; obtain ⟨t9q, ev9q⟩ := O9q; subst ev9q; (try dsimp only at K9q); (rename Fr _ _ _ _ => F8q); (rename News _ _ _ _ => N8q); (have F9q := after_fr F8q K9q); (have N9q := after_news N8q K9q); clear F8q N8q K9q)) | walk1 | (dsimp only; first | ((with_reducible show wpAny _ _ (eval (Expr.ListComp _ _ _ _) _) _ _ _); (refine Mark.to ?_)) | ((with_reducible show wpAny _ _ (eval (Expr.Name _ _) _) _ _ _); ((with_reducible show wpAny _ _ (eval (Expr.Name (Str.ofString "name") _) (compEnvC _ _ _ _)) _ _ _); k_dflt (refine' lcf_cell ?N ?c ?m ?d ?_ ?a ?b; (case a => rfl); (case b => rfl); (case N => k_asm); (case c => rfl); (case m => k_mem); (case d => with_reducible assumption)))) | ((with_reducible show wpAny _ _ (subscriptTail (Expr.Name _ _) (Expr.Constant _ _ _) (Value.ref _) (Value.int _ _)) _ _ _); (k_here; k_dflt (refine' kim_tup ?N ?m ?c ?d ?lo ?hi ?hj ?x ?_; (case N => k_asm); (case m => k_mem); (case c => rfl); (case d => exact rfl); (case lo => decide); (case hi => decide); (case hj => rfl); (case x => rfl)))) | ((with_reducible show wpAny _ _ (eval (Expr.Name _ _) _) _ _ _); ((with_reducible show wpAny _ _ (eval (Expr.Name (Str.ofString "kv") _) (compEnvC _ _ _ _)) _ _ _); k_dflt (refine LCgL.ld_own (by k_asm) (by k_mem) (by with_reducible assumption) (by with_reducible assumption) ?_))) | ((with_reducible show wpAny _ _ (eval (Expr.Subscript _ _ _) _) _ _ _); (refine Subscript_ ?_)) | ((with_reducible show wpAny _ _ (compareOp .Eq (Value.str _ _) (Value.str _ _)) _ _ _); (k_here; with_reducible refine eq_same ?_)) | ((with_reducible show wpAny _ _ (call (Value.builtin "str.lower") _ _) _ _ _); (k_here; (try dsimp only [List.cons_append, List.nil_append]); k_dflt (refine' lower_is ?l ?e ?_; (case l => with_reducible assumption); (case e => with_reducible assumption)); intro t'q)) | ((with_reducible show wpAny _ _ (call (Value.ref _) _ _) _ _ _); (k_here; (with_reducible show wpAny _ _ (call (Value.ref 104) _ _) _ _ _); k_dflt (refine' conv_claim _ _ _ _ _ _ _ _ _ _ ?hx _ _ _ _ _ _ _ ?hX ?hT ?hd ?hu ?_; (case hX => (with_unfolding_all exact Frag.In.keeps (by k_asm) (Fr.keep (by k_asm)))); (case hT => (with_unfolding_all exact Top.keeps (by k_asm) (Fr.keep (by k_asm)))); (case hd => ((try dsimp only); omega)); (case hu => ((try dsimp only); omega)); (case hx => (dsimp only; with_reducible assumption))); intro v9q h9q tk9q K9q O9q; obtain ⟨t9q, ev9q⟩ := O9q; subst ev9q; (try dsimp only at K9q); (rename Fr _ _ _ _ => F8q); (rename News _ _ _ _ => N8q); (have F9q := after_fr F8q K9q); (have N9q := after_news N8q K9q); clear F8q N8q K9q)) | walk1) | (leave1; walk_say "STEP leave1"; try dsimp only) | fail "no step"))
          (try dsimp only)
          rename Fr _ _ _ _ => F9
          rename News _ _ _ _ => N9
          exact Leaf.mk ⟨_, _, rfl, F9.ns, kept_of (h₀ := g') (m := mF) F3'.out F9 (fun q hq => (N9 q (by rw [← er3] at hq; simp only [List.mem_cons]; simp only [hq, or_true])).1), _, rfl⟩
        · intro y h5 tk5 hZ S''
          obtain ⟨t', rfl⟩ := hZ
          refine ⟨h5, tk5, _, _, _, rfl, S'', rfl, by simp; omega, ?_⟩
          rw [take_snoc hz]
          exact hys.append (.cons _ _ .nil)
    · intro C D h tk2 mC ys Pr S hY
      obtain ⟨rfl, hlen, hys⟩ := hY
      exact post_none S fun h' O => Leaf.mk ⟨D, h', tk2, ys, _, _, rfl, rfl, hys, O.kb, O.ns, O.d, O.dd.1, O.dd.2⟩
  · rintro v s' ⟨D, h', tk', dv, c', m', rfl, rfl, hD, kp, hn, hG', dL, hg⟩
    have F2 : Fr g' L' h' m' := fr_kept F1 kp hn
    have g0 := none_new F1 hg
    have N2 := add_new (news_kept N1 kp) hG' dL g0
    have ne : ∀ p ∈ led5 w tk0 H O d a0 a1 a2 a3 a4 c x0 x1 x2 x3 x4 v0 v1 v2 v3 v4 t0 t1 t2 t3 t4 u0 u1 u2 u3 u4, p.1 ≠ D := fun p hp e => by
      have := (N1 p (.tail _ hp)).1
      rw [e, hg] at this
      cases this
    obtain ⟨s0, s1, s2, s3, s4, rfl⟩ := hD.five
    clear F1 N1 kp hn hG' dL hg at5
    w_strict (repeat' (first | (rename (_ ∧ _) => h9; obtain ⟨_, _⟩ := h9) | (k_unfold; (try dsimp only)) | (dsimp only; k_unfold; (try dsimp only)) | ((with_reducible show wpAny _ _ (eval (Expr.ListComp _ _ _ _) _) _ _ _); (refine Mark.to ?_)) | ((with_reducible show wpAny _ _ (eval (Expr.Name _ _) _) _ _ _); ((with_reducible show wpAny _ _ (eval (Expr.Name (Str.ofString "name") _) (compEnvC _ _ _ _)) _ _ _); k_dflt (refine' lcf_cell ?N ?c ?m ?d ?_ ?a ?b; (case a => rfl); (case b => rfl); (case N => k_asm); (case c => rfl); (case m => k_mem); (case d => with_reducible assumption)))) | ((with_reducible show wpAny _ _ (subscriptTail (Expr.Name _ _) (Expr.Constant _ _ _) (Value.ref _) (Value.int _ _)) _ _ _); (k_here; k_dflt (refine' kim_tup ?N ?m ?c ?d ?lo ?hi ?hj ?x ?_; (case N => k_asm); (case m => k_mem); (case c => rfl); (case d => exact rfl); (case lo => decide); (case hi => decide); (case hj => rfl); (case x => rfl)))) | ((with_reducible show wpAny _ _ (eval (Expr.Name _ _) _) _ _ _); ((with_reducible show wpAny _ _ (eval (Expr.Name (Str.ofString "kv") _) (compEnvC _ _ _ _)) _ _ _); k_dflt (refine LCgL.ld_own (by k_asm) (by k_mem) (by with_reducible assumption) (by with_reducible assumption) ?_))) | ((with_reducible show wpAny _ _ (eval (Expr.Subscript _ _ _) _) _ _ _); (refine Subscript_ ?_)) | ((with_reducible show wpAny _ _ (compareOp .Eq (Value.str _ _) (Value.str _ _)) _ _ _); (k_here; with_reducible refine eq_same ?_)) | ((with_reducible show wpAny _ _ (call (Value.builtin "str.lower") _ _) _ _ _); (k_here; (try dsimp only [List.cons_append, List.nil_append]); k_dflt (refine' lower_is ?l ?e ?_; (case l => with_reducible assumption); (case e => with_reducible assumption)); intro t'q)) | ((with_reducible show wpAny _ _ (call (Value.ref _) _ _) _ _ _); (k_here; (with_reducible show wpAny _ _ (call (Value.ref 104) _ _) _ _ _); k_dflt (refine' conv_claim _ _ _ _ _ _ _ _ _ _ ?hx _ _ _ _ _ _ _ ?hX ?hT ?hd ?hu ?_; (case hX => (with_unfolding_all exact Frag.In.keeps (by k_asm) (Fr.keep (by k_asm)))); (case hT => (with_unfolding_all exact Top.keeps (by k_asm) (Fr.keep (by k_asm)))); (case hd => ((try dsimp only); omega)); (case hu => ((try dsimp only); omega)); (case hx => (dsimp only; with_reducible assumption))); intro v9q h9q tk9q K9q O9q; obtain ⟨t9q, ev9q⟩ := O9q; subst ev9q; (try dsimp only at K9q); (rename Fr _ _ _ _ => F8q); (rename News _ _ _ _ => N8q); (have F9q := after_fr F8q K9q); (have N9q := after_news N8q K9q); clear F8q N8q K9q)) | walk1 | (dsimp only; first | ((with_reducible show wpAny _ _ (eval (Expr.ListComp _ _ _ _) _) _ _ _); (refine Mark.to ?_)) | ((with_reducible show wpAny _ _ (eval (Expr.Name _ _) _) _ _ _); ((with_reducible show wpAny _ _ (eval (Expr.Name (Str.ofString "name") _) (compEnvC _ _ _ _)) _ _ _); k_dflt (refine' lcf_cell ?N ?c ?m ?d ?_ ?a ?b; (case a => rfl); (case b => rfl); (case N => k_asm); (case c => rfl); (case m => k_mem); (case d => with_reducible assumption)))) | ((with_reducible show wpAny _ _ (subscriptTail (Expr.Name _ _) (Expr.Constant _ _ _) (Value.ref _) (Value.int _ _)) _ _ _); (k_here; k_dflt (refine' kim_tup ?N ?m ?c ?d ?lo ?hi ?hj ?x ?_; (case N => k_asm); (case m => k_mem); (case c => rfl); (case d => exact rfl); (case lo => decide); (case hi => decide); (case hj => rfl); (case x => rfl)))) | ((with_reducible show wpAny _ _ (eval (Expr.Name _ _) _) _ _ _); ((with_reducible show wpAny _ _ (eval (Expr.Name (Str.ofString "kv") _) (compEnvC _ _ _ _)) _ _ _); k_dflt (refine LCgL.ld_own (by k_asm) (by k_mem) (by with_reducible assumption) (by with_reducible assumption) ?_))) | ((with_reducible show wpAny _ _ (eval (Expr.Subscript _ _ _) _) _ _ _); (refine Subscript_ ?_)) | ((with_reducible show wpAny _ _ (compareOp .Eq (Value.str _ _) (Value.str _ _)) _ _ _); (k_here; with_reducible refine eq_same ?_)) | ((with_reducible show wpAny _ _ (call (Value.builtin "str.lower") _ _) _ _ _); (k_here; (try dsimp only [List.cons_append, List.nil_append]); k_dflt (refine' lower_is ?l ?e ?_; (case l => with_reducible assumption); (case e => with_reducible assumption)); intro t'q)) | ((with_reducible show wpAny _ _ (call (Value.ref _) _ _) _ _ _); (k_here; (with_reducible show wpAny _ _ (call (Value.ref 104) _ _) _ _ _); k_dflt (refine' conv_claim _ _ _ _ _ _ _ _ _ _ ?hx _ _ _ _ _ _ _ ?hX ?hT ?hd ?hu ?_; (case hX => (with_unfolding_all exact Frag.In.keeps (by k_asm) (Fr.keep (by k_asm)))); (case hT => (with_unfolding_all exact Top.keeps (by k_asm) (Fr.keep (by k_asm)))); (case hd => ((try dsimp only); omega)); (case hu => ((try dsimp only); omega)); (case hx => (dsimp only; with_reducible assumption))); intro v9q h9q tk9q K9q O9q; obtain ⟨t9q, ev9q⟩ := O9q; subst ev9q; (try dsimp only at K9q); (rename Fr _ _ _ _ => F8q); (rename News _ _ _ _ => N8q); (have F9q := after_fr F8q K9q); (have N9q := after_news N8q K9q); clear F8q N8q K9q)) | walk1) | (leave1; walk_say "STEP leave1"; try dsimp only) | fail "no step"))
    rename News _ _ _ _ => N9
    rename Fr _ _ _ _ => F9
    have z := mut_end F9 N9 hg' hS (fun p hp => .tail _ (.tail _ hp)) (List.Mem.head _) ne
    exact hret _ _ _ _ _ _ _ _ _ z.1 z.2.1 z.2.2

end Mine
end

section
open PySem PySem.W PyProof.Rows PySem.Calls
set_option maxHeartbeats 8000000
namespace Mine
noncomputable def stmts56 : List Stmt := (lawStmts.drop 5).take 2
abbrev tabMap (m : Str → Option Value) (O : Addr) : Str → Option Value := fun y => if y = Str.ofString "table" then some (.ref O) else m y
abbrev cells6 (L : Addr) (o1 o2 o3 o4 o5 o6 : Obj) : List (Addr × Obj) := [(L + 6, o6), (L + 5, o5), (L + 4, o4), (L + 3, o3), (L + 2, o2), (L + 1, o1)]
theorem lows_ok : ((List.range 12).all fun i => Txt.lower (nm (i : Int)) == Str.ofString "abcdef" && Txt.lower (Txt.swapcase (nm (i : Int))) == Str.ofString "abcdef" && decide ((nm (i : Int)).length ≤ 40) && decide ((Txt.swapcase (nm (i : Int))).length ≤ 40)) = true := by decide +kernel
theorem low_all {y : Int} (h0 : 0 ≤ y) (h1 : y < 12) : Txt.lower (nm y) = Str.ofString "abcdef" ∧ Txt.lower (Txt.swapcase (nm y)) = Str.ofString "abcdef" ∧ (nm y).length ≤ 40 ∧ (Txt.swapcase (nm y)).length ≤ 40 := by
  have h := List.all_eq_true.mp lows_ok y.toNat (List.mem_range.mpr (by omega))
  rw [show ((y.toNat : Nat) : Int) = y by omega] at h
  simp only [Bool.and_eq_true, decide_eq_true_eq, beq_iff_eq] at h
  exact ⟨h.1.1.1, h.1.1.2, h.1.2, h.2⟩
theorem led_of {h₀ h : Heap} {L : Addr} {news0 rest : List (Addr × Obj)} (N : News h₀ L h (news0 ++ rest)) : ∀ p ∈ news0, h.get? p.1 = some p.2 := fun p hp => (N p (List.mem_append_left _ hp)).1
theorem stays_led {h₀ h : Heap} {L : Addr} {m : Str → Option Value} {news0 rest : List (Addr × Obj)} (F : Fr h₀ L h m) (N : News h₀ L h (news0 ++ rest)) : ∀ b o, h₀.get? b = some o → (hideAll h (news0.map (·.1))).get? b = some o := by
  intro b o e
  refine hideAll_get _ (F.keep b o e) fun hm => ?_
  obtain ⟨p, hp, rfl⟩ := List.mem_map.mp hm
  have := (N p (List.mem_append_left _ hp)).2.2
  rw [e] at this
  cases this
theorem news_rot {h₀ h : Heap} {L : Addr} {x : Addr × Obj} {a b : List (Addr × Obj)} (N : News h₀ L h (x :: (a ++ b))) : News h₀ L h (a ++ x :: b) := fun p hp => N p (by
  simp only [List.mem_cons, List.mem_append] at hp ⊢
  rcases hp with h | h | h
  · exact .inr (.inl h)
  · exact .inl h
  · exact .inr (.inr h))
local macro_rules | `(tactic| walk_at "CompSrc") => `(tactic| (k_here; k_dflt (refine LCg.CompSrc.ledger (by rfl) (by k_asm) (by k_asm) (by k_mem) (by exact Nat.le_of_ble_eq_true rfl) ?_; intro g'; (show LCg.CompRest _ _ _ _ _ _ _ _ _ _ _ _ _ _ _ 5 _ _ _))))
local macro_rules | `(tactic| lcg_off) => `(tactic| (simp only [LCg.Off3, and_true]; with_reducible assumption))
theorem s1_claim (w : World) (p : Program) (loose : List Str) (mean : ExcName → Option Value) (mg mb : Str → Option Value) (fa : Addr) (cd : Value) (h₀ : Heap) (L : Addr) (m : Str → Option Value) (tk0 : Tok) (H O d a0 a1 a2 a3 a4 P : Addr) (c cP : Nat) (y0 y1 y2 y3 y4 : Int) (t0 t1 t2 t3 t4 u0 u1 u2 u3 u4 k0 k1 k2 k3 k4 : Tok) (oc1 oc2 oc3 oc4 oc5 oc6 : Obj) (v2 : Option Value)
  (b0 : 0 ≤ y0 ∧ y0 < 12) (b1 : 0 ≤ y1 ∧ y1 < 12) (b2 : 0 ≤ y2 ∧ y2 < 12) (b3 : 0 ≤ y3 ∧ y3 < 12) (b4 : 0 ≤ y4 ∧ y4 < 12)
  (hc1 : oc1.data = .cell (some (.ref P))) (hc2 : oc2.data = .cell v2)
  (q1 : @LT.lt Nat _ (L + 6) P) (q2 : @LT.lt Nat _ P d) (o1 : @LT.lt Nat _ d O) (o2 : @LT.lt Nat _ O H) (o3 : @LT.lt Nat _ H a0) (o4 : @LT.lt Nat _ a0 a1) (o5 : @LT.lt Nat _ a1 a2) (o6 : @LT.lt Nat _ a2 a3) (o7 : @LT.lt Nat _ a3 a4)
  (dp un : Nat) (gd : Option (List Code)) (fl : List Env) (s : Shared) (Q : Flow → Shared → Prop) (E : Value → Shared → Prop)
  (X : (Mine.hd.heap_39 w.params).In h₀) (T : Top p loose mean mg mb h₀) (hd : dp + 3 < recursionLimit) (hu : un + 100 < cLine)
  (F : Fr h₀ L s.heap (tabMap m O))
  (N : News h₀ L s.heap (led5 w tk0 H O d a0 a1 a2 a3 a4 c (nm y0) (nm y1) (nm y2) (nm y3) (nm y4) (Str.ofString (toString y0)) (Str.ofString (toString y1)) (Str.ofString (toString y2)) (Str.ofString (toString y3)) (Str.ofString (toString y4)) t0 t1 t2 t3 t4 u0 u1 u2 u3 u4 ++ (P, listOf [Value.int y0 k0, Value.int y1 k1, Value.int y2 k2, Value.int y3 k3, Value.int y4 k4].toArray cP) :: cells6 L oc1 oc2 oc3 oc4 oc5 oc6))
  (hret : ∀ h' tk' Nm n' s0 s1 s2 s3 s4 oc2', oc2'.data = .cell (some (.ref Nm)) → AllNe Nm ((P, oc1) :: cells6 L oc1 oc2 oc3 oc4 oc5 oc6) → Fr h₀ L h' (tabMap m O) →
    News h₀ L h' ((Nm, listOf [Value.str (nm y0) s0, Value.str (nm y1) s1, Value.str (nm y2) s2, Value.str (nm y3) s3, Value.str (nm y4) s4].toArray n') :: (P, listOf [Value.int y0 k0, Value.int y1 k1, Value.int y2 k2, Value.int y3 k3, Value.int y4 k4].toArray cP) :: cells6 L oc1 oc2' oc3 oc4 oc5 oc6) → Q .next { s with heap := h', toks := tk' }) :
  wpAny (model PySem.Challenge.rw_pg0276_01.row.prog w) { handled := none, depth := dp, frames := some fl, guards := gd, units := un } (execs stmts56 (envOfC (Str.ofString "law") lawScope L fa cd)) Q E s := by
  w_on
  obtain ⟨ea0, eb0, ec0, ed0⟩ := low_all b0.1 b0.2
  obtain ⟨ea1, eb1, ec1, ed1⟩ := low_all b1.1 b1.2
  obtain ⟨ea2, eb2, ec2, ed2⟩ := low_all b2.1 b2.2
  obtain ⟨ea3, eb3, ec3, ed3⟩ := low_all b3.1 b3.2
  obtain ⟨ea4, eb4, ec4, ed4⟩ := low_all b4.1 b4.2
  have eo0 := ok_all b0.1 b0.2
  have eo1 := ok_all b1.1 b1.2
  have eo2 := ok_all b2.1 b2.2
  have eo3 := ok_all b3.1 b3.2
  have eo4 := ok_all b4.1 b4.2
  obtain ⟨hp, gens, drawn, tk, os⟩ := s
  dsimp only at F N hret
  simp only [led5, cells6, List.cons_append, List.nil_append] at N
  have eb : stmts56 = stmts56 := rfl
  conv at eb => { rhs; whnf }
  rw [eb]
  clear eb
  w_strict (repeat' (first | (k_unfold; (try dsimp only)) | (dsimp only; k_unfold; (try dsimp only)) | ((with_reducible show wpAny _ _ (compareOp .NotEq (Value.ref _) (Value.ref _)) _ _ _); (k_here; k_dflt (refine' ne_five ?N ?a ?b ?e0 ?e1 ?e2 ?e3 ?e4 ?u ?_; (case N => k_asm); (case a => k_mem); (case b => k_mem)); (case e0 => with_reducible assumption); (case e1 => with_reducible assumption); (case e2 => with_reducible assumption); (case e3 => with_reducible assumption); (case e4 => with_reducible assumption); (case u => ((try dsimp only); omega)))) | ((with_reducible show wpAny _ _ (eval (Expr.ListComp _ _ _ _) _) _ _ _); (k_here; k_dflt (refine LCg.ListComp_U (F₀ := by k_asm) (by with_unfolding_all rfl) (by decide) (by rfl) (by decide) (by rfl) ?_); k_dflt lcg_toSrc)) | ((with_reducible show wpAny _ _ (call (Value.ref _) _ _) _ _ _); ((first | (with_reducible show wpAny _ _ (call (Value.ref 155) _) _ _ _) | (with_reducible show wpAny _ _ (call (Value.ref 142) _) _ _ _)); refine Mark.to ?_)) | walk1 | (dsimp only; first | ((with_reducible show wpAny _ _ (compareOp .NotEq (Value.ref _) (Value.ref _)) _ _ _); (k_here; k_dflt (refine' ne_five ?N ?a ?b ?e0 ?e1 ?e2 ?e3 ?e4 ?u ?_; (case N => k_asm); (case a => k_mem); (case b => k_mem)); (case e0 => with_reducible assumption); (case e1 => with_reducible assumption); (case e2 => with_reducible assumption); (case e3 => with_reducible assumption); (case e4 => with_reducible assumption); (case u => ((try dsimp only); omega)))) | ((with_reducible show wpAny _ _ (eval (Expr.ListComp _ _ _ _) _) _ _ _); (k_here; k_dflt (refine LCg.ListComp_U (F₀ := by k_asm) (by with_unfolding_all rfl) (by decide) (by rfl) (by decide) (by rfl) ?_); k_dflt lcg_toSrc)) | ((with_reducible show wpAny _ _ (call (Value.ref _) _ _) _ _ _); ((first | (with_reducible show wpAny _ _ (call (Value.ref 155) _) _ _ _) | (with_reducible show wpAny _ _ (call (Value.ref 142) _) _ _ _)); refine Mark.to ?_)) | walk1) | (leave1; walk_say "STEP leave1"; try dsimp only) | fail "no step"))
  refine Mark.mk ?_
  dsimp only [List.cons_append, List.nil_append]
  rename Fr _ _ _ _ => F8
  rename News _ _ _ _ => N8
  have S8 := led_of (news0 := led5 w tk0 H O d a0 a1 a2 a3 a4 c (nm y0) (nm y1) (nm y2) (nm y3) (nm y4) (Str.ofString (toString y0)) (Str.ofString (toString y1)) (Str.ofString (toString y2)) (Str.ofString (toString y3)) (Str.ofString (toString y4)) t0 t1 t2 t3 t4 u0 u1 u2 u3 u4) (rest := _) N8
  have st8 := stays_led (news0 := led5 w tk0 H O d a0 a1 a2 a3 a4 c (nm y0) (nm y1) (nm y2) (nm y3) (nm y4) (Str.ofString (toString y0)) (Str.ofString (toString y1)) (Str.ofString (toString y2)) (Str.ofString (toString y3)) (Str.ofString (toString y4)) t0 t1 t2 t3 t4 u0 u1 u2 u3 u4) (rest := _) F8 N8
  k_dflt (refine' keys_claim w p loose mean mg mb tk0 H O d a0 a1 a2 a3 a4 c (nm y0) (nm y1) (nm y2) (nm y3) (nm y4) (Str.ofString (toString y0)) (Str.ofString (toString y1)) (Str.ofString (toString y2)) (Str.ofString (toString y3)) (Str.ofString (toString y4)) t0 t1 t2 t3 t4 u0 u1 u2 u3 u4 o1 o2 o3 o4 o5 o6 o7 _ _ _ _ _ _ _ S8 (Frag.In.keeps X st8) (Top.keeps T st8) ?hd ?hu ?_)
  case hd => ((try dsimp only); omega)
  case hu => ((try dsimp only); omega)
  intro h9 tk9 a9 n9 s0 s1 s2 s3 s4 K9 hn9 hg9
  (try dsimp only at K9 hn9)
  have F9 := after_fr F8 K9
  have N9 := after_more F8 N8 K9 hn9 hg9
  have ne9 := after_ne N8 hn9
  simp only [AllNe, and_true] at ne9
  clear K9 hn9 hg9 F8 S8 st8
  w_strict (repeat' (first | (k_unfold; (try dsimp only)) | (dsimp only; k_unfold; (try dsimp only)) | ((with_reducible show wpAny _ _ (compareOp .NotEq (Value.ref _) (Value.ref _)) _ _ _); (k_here; k_dflt (refine' ne_five ?N ?a ?b ?e0 ?e1 ?e2 ?e3 ?e4 ?u ?_; (case N => k_asm); (case a => k_mem); (case b => k_mem)); (case e0 => with_reducible assumption); (case e1 => with_reducible assumption); (case e2 => with_reducible assumption); (case e3 => with_reducible assumption); (case e4 => with_reducible assumption); (case u => ((try dsimp only); omega)))) | ((with_reducible show wpAny _ _ (eval (Expr.ListComp _ _ _ _) _) _ _ _); (k_here; k_dflt (refine LCg.ListComp_U (F₀ := by k_asm) (by with_unfolding_all rfl) (by decide) (by rfl) (by decide) (by rfl) ?_); k_dflt lcg_toSrc)) | ((with_reducible show wpAny _ _ (call (Value.ref _) _ _) _ _ _); ((first | (with_reducible show wpAny _ _ (call (Value.ref 155) _) _ _ _) | (with_reducible show wpAny _ _ (call (Value.ref 142) _) _ _ _)); refine Mark.to ?_)) | walk1 | (dsimp only; first | ((with_reducible show wpAny _ _ (compareOp .NotEq (Value.ref _) (Value.ref _)) _ _ _); (k_here; k_dflt (refine' ne_five ?N ?a ?b ?e0 ?e1 ?e2 ?e3 ?e4 ?u ?_; (case N => k_asm); (case a => k_mem); (case b => k_mem)); (case e0 => with_reducible assumption); (case e1 => with_reducible assumption); (case e2 => with_reducible assumption); (case e3 => with_reducible assumption); (case e4 => with_reducible assumption); (case u => ((try dsimp only); omega)))) | ((with_reducible show wpAny _ _ (eval (Expr.ListComp _ _ _ _) _) _ _ _); (k_here; k_dflt (refine LCg.ListComp_U (F₀ := by k_asm) (by with_unfolding_all rfl) (by decide) (by rfl) (by decide) (by rfl) ?_); k_dflt lcg_toSrc)) | ((with_reducible show wpAny _ _ (call (Value.ref _) _ _) _ _ _); ((first | (with_reducible show wpAny _ _ (call (Value.ref 155) _) _ _ _) | (with_reducible show wpAny _ _ (call (Value.ref 142) _) _ _ _)); refine Mark.to ?_)) | walk1) | (leave1; walk_say "STEP leave1"; try dsimp only) | fail "no step"))
  refine Mark.mk ?_
  rename Fr _ _ _ _ => F8
  rename News _ _ _ _ => N8
  have N7 := news_rot (a := led5 w tk0 H O d a0 a1 a2 a3 a4 c (nm y0) (nm y1) (nm y2) (nm y3) (nm y4) (Str.ofString (toString y0)) (Str.ofString (toString y1)) (Str.ofString (toString y2)) (Str.ofString (toString y3)) (Str.ofString (toString y4)) t0 t1 t2 t3 t4 u0 u1 u2 u3 u4) (b := _) N8
  have S8 := led_of N7
  have st8 := stays_led F8 N7
  k_dflt (refine' getall_claim w p loose mean mg mb tk0 H O d a0 a1 a2 a3 a4 c (Txt.swapcase (nm y0)) (nm y0) (nm y1) (nm y2) (nm y3) (nm y4) (Str.ofString (toString y0)) (Str.ofString (toString y1)) (Str.ofString (toString y2)) (Str.ofString (toString y3)) (Str.ofString (toString y4)) _ t0 t1 t2 t3 t4 u0 u1 u2 u3 u4 ed0 ec0 ec1 ec2 ec3 ec4 eb0 ea0 ea1 ea2 ea3 ea4 o1 o2 o3 o4 o5 o6 o7 _ _ _ _ _ _ _ S8 (Frag.In.keeps X st8) (Top.keeps T st8) ?hd ?hu ?_)
  case hd => ((try dsimp only); omega)
  case hu => ((try dsimp only); omega)
  intro h8 tk8 a8 n8 r0 r1 r2 r3 r4 K8 hn8 hg8
  (try dsimp only at K8 hn8)
  have F9 := after_fr F8 K8
  have N9 := after_more F8 N8 K8 hn8 hg8
  have ne8 := after_ne N8 hn8
  simp only [AllNe, and_true] at ne8
  clear K8 hn8 hg8 F8 S8 st8 N8 N7
  w_strict (repeat' (first | (k_unfold; (try dsimp only)) | (dsimp only; k_unfold; (try dsimp only)) | ((with_reducible show wpAny _ _ (compareOp .NotEq (Value.ref _) (Value.ref _)) _ _ _); (k_here; k_dflt (refine' ne_five ?N ?a ?b ?e0 ?e1 ?e2 ?e3 ?e4 ?u ?_; (case N => k_asm); (case a => k_mem); (case b => k_mem)); (case e0 => with_reducible assumption); (case e1 => with_reducible assumption); (case e2 => with_reducible assumption); (case e3 => with_reducible assumption); (case e4 => with_reducible assumption); (case u => ((try dsimp only); omega)))) | ((with_reducible show wpAny _ _ (eval (Expr.ListComp _ _ _ _) _) _ _ _); (k_here; k_dflt (refine LCg.ListComp_U (F₀ := by k_asm) (by with_unfolding_all rfl) (by decide) (by rfl) (by decide) (by rfl) ?_); k_dflt lcg_toSrc)) | ((with_reducible show wpAny _ _ (call (Value.ref _) _ _) _ _ _); ((first | (with_reducible show wpAny _ _ (call (Value.ref 155) _) _ _ _) | (with_reducible show wpAny _ _ (call (Value.ref 142) _) _ _ _)); refine Mark.to ?_)) | walk1 | (dsimp only; first | ((with_reducible show wpAny _ _ (compareOp .NotEq (Value.ref _) (Value.ref _)) _ _ _); (k_here; k_dflt (refine' ne_five ?N ?a ?b ?e0 ?e1 ?e2 ?e3 ?e4 ?u ?_; (case N => k_asm); (case a => k_mem); (case b => k_mem)); (case e0 => with_reducible assumption); (case e1 => with_reducible assumption); (case e2 => with_reducible assumption); (case e3 => with_reducible assumption); (case e4 => with_reducible assumption); (case u => ((try dsimp only); omega)))) | ((with_reducible show wpAny _ _ (eval (Expr.ListComp _ _ _ _) _) _ _ _); (k_here; k_dflt (refine LCg.ListComp_U (F₀ := by k_asm) (by with_unfolding_all rfl) (by decide) (by rfl) (by decide) (by rfl) ?_); k_dflt lcg_toSrc)) | ((with_reducible show wpAny _ _ (call (Value.ref _) _ _) _ _ _); ((first | (with_reducible show wpAny _ _ (call (Value.ref 155) _) _ _ _) | (with_reducible show wpAny _ _ (call (Value.ref 142) _) _ _ _)); refine Mark.to ?_)) | walk1) | (leave1; walk_say "STEP leave1"; try dsimp only) | fail "no step"))
  dsimp only
  w_strict (repeat' (first | (k_unfold; (try dsimp only)) | (dsimp only; k_unfold; (try dsimp only)) | ((with_reducible show wpAny _ _ (compareOp .NotEq (Value.ref _) (Value.ref _)) _ _ _); (k_here; k_dflt (refine' ne_five ?N ?a ?b ?e0 ?e1 ?e2 ?e3 ?e4 ?u ?_; (case N => k_asm); (case a => k_mem); (case b => k_mem)); (case e0 => with_reducible assumption); (case e1 => with_reducible assumption); (case e2 => with_reducible assumption); (case e3 => with_reducible assumption); (case e4 => with_reducible assumption); (case u => ((try dsimp only); omega)))) | ((with_reducible show wpAny _ _ (eval (Expr.ListComp _ _ _ _) _) _ _ _); (k_here; k_dflt (refine LCg.ListComp_U (F₀ := by k_asm) (by with_unfolding_all rfl) (by decide) (by rfl) (by decide) (by rfl) ?_); k_dflt lcg_toSrc)) | ((with_reducible show wpAny _ _ (call (Value.ref _) _ _) _ _ _); ((first | (with_reducible show wpAny _ _ (call (Value.ref 155) _) _ _ _) | (with_reducible show wpAny _ _ (call (Value.ref 142) _) _ _ _)); refine Mark.to ?_)) | walk1 | (dsimp only; first | ((with_reducible show wpAny _ _ (compareOp .NotEq (Value.ref _) (Value.ref _)) _ _ _); (k_here; k_dflt (refine' ne_five ?N ?a ?b ?e0 ?e1 ?e2 ?e3 ?e4 ?u ?_; (case N => k_asm); (case a => k_mem); (case b => k_mem)); (case e0 => with_reducible assumption); (case e1 => with_reducible assumption); (case e2 => with_reducible assumption); (case e3 => with_reducible assumption); (case e4 => with_reducible assumption); (case u => ((try dsimp only); omega)))) | ((with_reducible show wpAny _ _ (eval (Expr.ListComp _ _ _ _) _) _ _ _); (k_here; k_dflt (refine LCg.ListComp_U (F₀ := by k_asm) (by with_unfolding_all rfl) (by decide) (by rfl) (by decide) (by rfl) ?_); k_dflt lcg_toSrc)) | ((with_reducible show wpAny _ _ (call (Value.ref _) _ _) _ _ _); ((first | (with_reducible show wpAny _ _ (call (Value.ref 155) _) _ _ _) | (with_reducible show wpAny _ _ (call (Value.ref 142) _) _ _ _)); refine Mark.to ?_)) | walk1) | (leave1; walk_say "STEP leave1"; try dsimp only) | fail "no step"))
  rename Fr _ _ _ _ => F7
  rename News _ _ _ _ => N7
  refine wpAny_execs_nil ?_
  obtain ⟨_, _, _, _, _, _, _, _, ne1⟩ := ne9
  refine hret _ _ a9 n9 s0 s1 s2 s3 s4 _ (by with_reducible assumption) ?_ F7 (fun p hp => N7 p ?_)
  · simp only [AllNe, and_true]
    exact ne1
  · simp only [List.mem_cons, List.not_mem_nil, or_false] at hp
    rcases hp with h | h | h | h | h | h | h | h
    all_goals (subst h; k_dflt k_mem)

end Mine
end

section
open PySem PySem.W PyProof.Rows PySem.Calls
set_option maxHeartbeats 8000000
namespace Mine
noncomputable def stmts7 : List Stmt := (lawStmts.drop 7).take 1
def RowOk (ys : List Int) (j : Int) (l : List Value) : Prop := l.length = 5 ∧ ∀ k : Int, 0 ≤ k → k < 5 → ∃ t, l[k.toNat]? = some (.int (farv ys j k) t)
abbrev far5 (P Nm : Addr) (cP cN : Nat) (y0 y1 y2 y3 y4 : Int) (k0 k1 k2 k3 k4 s0 s1 s2 s3 s4 : Tok) (L : Addr) (oc1 oc2 oc3 oc4 oc5 oc6 : Obj) : List (Addr × Obj) := (Nm, listOf [Value.str (nm y0) s0, Value.str (nm y1) s1, Value.str (nm y2) s2, Value.str (nm y3) s3, Value.str (nm y4) s4].toArray cN) :: (P, listOf [Value.int y0 k0, Value.int y1 k1, Value.int y2 k2, Value.int y3 k3, Value.int y4 k4].toArray cP) :: cells6 L oc1 oc2 oc3 oc4 oc5 oc6
section
variable {prog : Program} {w : World} {A : Around} {E : Value → Shared → Prop} {s : Shared} {Q : Value → Shared → Prop} {a b : Int} {t u : Tok}
theorem lt_yes (h : a < b) (hq : Q (.bool true) s) : wpAny (model prog w) A (compareOp .Lt (.int a t) (.int b u)) Q E s := PyProof.Rows.lt_int (by rw [decide_eq_true h]; exact hq)
theorem lt_no (h : ¬ a < b) (hq : Q (.bool false) s) : wpAny (model prog w) A (compareOp .Lt (.int a t) (.int b u)) Q E s := PyProof.Rows.lt_int (by rw [decide_eq_false h]; exact hq)
end
theorem news_add {h₀ h : Heap} {L a : Addr} {o : Obj} {news : List (Addr × Obj)} (N : News h₀ L h news) (e : h.get? a = some o) (hL : a ≠ L) (e0 : h₀.get? a = none) : News h₀ L h ((a, o) :: news) := fun q hq => by
  rcases List.mem_cons.mp hq with rfl | hq
  · exact ⟨e, hL, e0⟩
  · exact N q hq
theorem new_none {h₀ h : Heap} {L a : Addr} {m : Str → Option Value} (F : Fr h₀ L h m) (e : h.get? a = none) : h₀.get? a = none := by
  cases q : h₀.get? a with
  | none => rfl
  | some o => have := F.keep a o q; rw [e] at this; cases this
theorem back_none {h h' : Heap} {L a : Addr} (k : ∀ b o, b ≠ L → h.get? b = some o → h'.get? b = some o) (hL : a ≠ L) (e : h'.get? a = none) : h.get? a = none := by
  cases q : h.get? a with
  | none => rfl
  | some o => have := k a o hL q; rw [e] at this; cases this
theorem snoc_get {α : Type} {l : List α} {y : α} {n k : Nat} (hl : l.length = n) (P : Nat → α → Prop) (h : ∀ k, k < n → ∃ x, l[k]? = some x ∧ P k x) (hy : P n y) (hk : k < n + 1) : ∃ x, (l ++ [y])[k]? = some x ∧ P k x := by
  by_cases e : k < n
  · obtain ⟨x, e1, e2⟩ := h k e
    exact ⟨x, by rw [List.getElem?_append_left (by omega)]; exact e1, e2⟩
  · have : k = n := by omega
    subst this
    exact ⟨y, by rw [List.getElem?_append_right (by omega), hl, Nat.sub_self]; rfl, hy⟩
theorem five_ok {y0 y1 y2 y3 y4 : Int} {s0 s1 s2 s3 s4 : Tok} {P : Int → Prop} (p0 : P y0) (p1 : P y1) (p2 : P y2) (p3 : P y3) (p4 : P y4) {j : Int} (h0 : 0 ≤ j) (h1 : j < 5) :
    P (nthI [y0, y1, y2, y3, y4] j) ∧ ∃ t, [Value.str (nm y0) s0, Value.str (nm y1) s1, Value.str (nm y2) s2, Value.str (nm y3) s3, Value.str (nm y4) s4][j.toNat]? = some (.str (nm (nthI [y0, y1, y2, y3, y4] j)) t) := by
  rcases five_cases h0 h1 with rfl | rfl | rfl | rfl | rfl
  · exact ⟨p0, _, rfl⟩
  · exact ⟨p1, _, rfl⟩
  · exact ⟨p2, _, rfl⟩
  · exact ⟨p3, _, rfl⟩
  · exact ⟨p4, _, rfl⟩
theorem nth_ne {l : List Int} (hl : l.length = 5) (ds : l.Nodup) {j k : Int} (h0 : 0 ≤ j) (h1 : j < k) (h2 : k < 5) : nthI l j ≠ nthI l k := by
  have a1 : j.toNat < l.length := by omega
  have a2 : k.toNat < l.length := by omega
  intro e
  have e' : l[j.toNat] = l[k.toNat] := by
    have := e
    simp only [nthI, List.getD_eq_getElem?_getD, List.getElem?_eq_getElem a1, List.getElem?_eq_getElem a2, Option.getD_some] at this
    exact this
  exact List.pairwise_iff_getElem.mp ds _ _ a1 a2 (by omega) e'
theorem s2_claim (w : World) (p : Program) (loose : List Str) (mean : ExcName → Option Value) (mg mb : Str → Option Value) (fa : Addr) (cd : Value) (h₀ : Heap) (L : Addr) (m : Str → Option Value) (P Nm : Addr) (cP cN : Nat) (y0 y1 y2 y3 y4 : Int) (k0 k1 k2 k3 k4 s0 s1 s2 s3 s4 : Tok) (oc1 oc2 oc3 oc4 oc5 oc6 : Obj) (v3 : Option Value)
  (b0 : 0 ≤ y0 ∧ y0 < 12) (b1 : 0 ≤ y1 ∧ y1 < 12) (b2 : 0 ≤ y2 ∧ y2 < 12) (b3 : 0 ≤ y3 ∧ y3 < 12) (b4 : 0 ≤ y4 ∧ y4 < 12)
  (ds : [y0, y1, y2, y3, y4].Nodup)
  (hc2 : oc2.data = .cell (some (.ref Nm))) (hc3 : oc3.data = .cell v3)
  (q1 : @LT.lt Nat _ (L + 6) P) (qn : AllNe Nm ((P, oc1) :: cells6 L oc1 oc2 oc3 oc4 oc5 oc6))
  (dp un : Nat) (gd : Option (List Code)) (fl : List Env) (s : Shared) (Q : Flow → Shared → Prop) (E : Value → Shared → Prop)
  (X : (Mine.hd.heap_39 w.params).In h₀) (T : Top p loose mean mg mb h₀) (hd : dp + 3 < recursionLimit) (hu : un + 100 < cLine)
  (F : Fr h₀ L s.heap m)
  (N : News h₀ L s.heap (far5 P Nm cP cN y0 y1 y2 y3 y4 k0 k1 k2 k3 k4 s0 s1 s2 s3 s4 L oc1 oc2 oc3 oc4 oc5 oc6))
  (hret : ∀ h' tk' Fa cF r0 r1 r2 r3 r4 l0 l1 l2 l3 l4 c0 c1 c2 c3 c4 oc3', oc3'.data = .cell (some (.ref Fa)) → RowOk [y0, y1, y2, y3, y4] 0 l0 → RowOk [y0, y1, y2, y3, y4] 1 l1 → RowOk [y0, y1, y2, y3, y4] 2 l2 → RowOk [y0, y1, y2, y3, y4] 3 l3 → RowOk [y0, y1, y2, y3, y4] 4 l4 →
    (∀ a ∈ [Fa, r0, r1, r2, r3, r4], AllNe a (cells6 L oc1 oc2 oc3 oc4 oc5 oc6)) → Fr h₀ L h' m →
    News h₀ L h' ((Fa, listOf [Value.ref r0, Value.ref r1, Value.ref r2, Value.ref r3, Value.ref r4].toArray cF) :: (r0, listOf l0.toArray c0) :: (r1, listOf l1.toArray c1) :: (r2, listOf l2.toArray c2) :: (r3, listOf l3.toArray c3) :: (r4, listOf l4.toArray c4) :: far5 P Nm cP cN y0 y1 y2 y3 y4 k0 k1 k2 k3 k4 s0 s1 s2 s3 s4 L oc1 oc2 oc3' oc4 oc5 oc6) → Q .next { s with heap := h', toks := tk' }) :
  wpAny (model PySem.Challenge.rw_pg0276_01.row.prog w) { handled := none, depth := dp, frames := some fl, guards := gd, units := un } (execs stmts7 (envOfC (Str.ofString "law") lawScope L fa cd)) Q E s := by
  w_on
  obtain ⟨hp, gens, drawn, tk, os⟩ := s
  dsimp only at F N hret
  simp only [far5, cells6, List.cons_append, List.nil_append] at N
  simp only [AllNe, and_true] at qn
  obtain ⟨nP, n6, n5, n4, n3, n2, n1⟩ := qn
  have eb : stmts7 = stmts7 := rfl
  conv at eb => { rhs; whnf }
  rw [eb]
  clear eb
  w_strict (repeat' (first | (k_unfold; (try dsimp only)) | (dsimp only; k_unfold; (try dsimp only)) | ((with_reducible show wpAny _ _ (truthy (Value.bool _)) _ _ _); (refine wpAny_truthy_bool ?_; first | rw [if_pos rfl] | rw [if_neg (by decide)])) | ((with_reducible show wpAny _ _ (eval (Expr.IfExp _ _ _ _) _) _ _ _); (refine wpAny_IfExp ?_)) | ((with_reducible show wpAny _ _ (call (Value.ref _) _ _) _ _ _); (k_here; (with_reducible show wpAny _ _ (call (Value.ref 52) _) _ _ _); k_dflt (refine' lev_claim _ _ _ _ _ _ _ _ _ _ _ ?hG _ _ _ _ _ _ _ ?hX ?hT ?hd ?hu ?_; (case hG => with_reducible assumption); (case hX => (with_unfolding_all exact Frag.In.keeps (by k_asm) (Fr.keep (by k_asm)))); (case hT => (with_unfolding_all exact Top.keeps (by k_asm) (Fr.keep (by k_asm)))); (case hd => ((try dsimp only); omega)); (case hu => ((try dsimp only); omega))); intro v9q h9q tk9q K9q O9q; obtain ⟨t9q, ev9q⟩ := O9q; subst ev9q; (try dsimp only at K9q); (rename Fr _ _ _ _ => F8q); (rename News _ _ _ _ => N8q); (have F9q := after_fr F8q K9q); (have N9q := after_news N8q K9q); clear F8q N8q K9q)) | ((with_reducible show wpAny _ _ (compareOp .Lt (Value.int _ _) (Value.int _ _)) _ _ _); (k_here; first | (refine' lt_yes ?h ?_; (case h => with_reducible assumption)) | (refine' lt_no ?h ?_; (case h => with_reducible assumption)))) | ((with_reducible show wpAny _ _ (subscriptTail (Expr.Name _ _) (Expr.Name _ _) (Value.ref _) (Value.int _ _)) _ _ _); (k_here; k_dflt (refine' kim_list ?N ?m ?c ?d ?h0 ?hf ?x ?_; (case N => k_asm); (case m => k_mem); (case c => rfl); (case d => exact rfl); (case h0 => with_reducible assumption); (case hf => omega); (case x => with_reducible assumption)))) | ((with_reducible show wpAny _ _ (eval (Expr.Subscript _ _ _) _) _ _ _); (refine Subscript_ ?_)) | ((with_reducible show wpAny _ _ (eval (Expr.Name _ _) _) _ _ _); ((with_reducible show wpAny _ _ (eval (Expr.Name (Str.ofString "_levenshtein_distance") _) (compEnvC _ _ _ _)) _ _ _); k_dflt (refine LCgL.ld_global (by k_asm) (by k_asm) (by k_asm) (by k_is) ?_))) | ((with_reducible show wpAny _ _ (eval (Expr.Name _ _) _) _ _ _); ((with_reducible show wpAny _ _ (eval (Expr.Name (Str.ofString "k") _) (compEnvC _ _ _ _)) _ _ _); k_dflt (refine LCgL.ld_own (by k_asm) (by k_mem) (by with_reducible assumption) (by with_reducible assumption) ?_))) | ((with_reducible show wpAny _ _ (eval (Expr.Name _ _) _) _ _ _); ((with_reducible show wpAny _ _ (eval (Expr.Name (Str.ofString "names") _) (compEnvC _ _ _ _)) _ _ _); k_dflt (refine' lcf_cell ?N ?c ?m ?d ?_ ?a ?b; (case a => rfl); (case b => rfl); (case N => k_asm); (case c => rfl); (case m => k_mem); (case d => with_reducible assumption)))) | ((with_reducible show wpAny _ _ (eval (Expr.Name _ _) _) _ _ _); ((with_reducible show wpAny _ _ (eval (Expr.Name (Str.ofString "j") _) (compEnvC _ _ _ _)) _ _ _); k_dflt (refine' lcf_cell ?N ?c ?m ?d ?_ ?a ?b; (case a => rfl); (case b => rfl); (case N => k_asm); (case c => rfl); (case m => k_mem); (case d => with_reducible assumption)))) | walk1 | (dsimp only; first | ((with_reducible show wpAny _ _ (truthy (Value.bool _)) _ _ _); (refine wpAny_truthy_bool ?_; first | rw [if_pos rfl] | rw [if_neg (by decide)])) | ((with_reducible show wpAny _ _ (eval (Expr.IfExp _ _ _ _) _) _ _ _); (refine wpAny_IfExp ?_)) | ((with_reducible show wpAny _ _ (call (Value.ref _) _ _) _ _ _); (k_here; (with_reducible show wpAny _ _ (call (Value.ref 52) _) _ _ _); k_dflt (refine' lev_claim _ _ _ _ _ _ _ _ _ _ _ ?hG _ _ _ _ _ _ _ ?hX ?hT ?hd ?hu ?_; (case hG => with_reducible assumption); (case hX => (with_unfolding_all exact Frag.In.keeps (by k_asm) (Fr.keep (by k_asm)))); (case hT => (with_unfolding_all exact Top.keeps (by k_asm) (Fr.keep (by k_asm)))); (case hd => ((try dsimp only); omega)); (case hu => ((try dsimp only); omega))); intro v9q h9q tk9q K9q O9q; obtain ⟨t9q, ev9q⟩ := O9q; subst ev9q; (try dsimp only at K9q); (rename Fr _ _ _ _ => F8q); (rename News _ _ _ _ => N8q); (have F9q := after_fr F8q K9q); (have N9q := after_news N8q K9q); clear F8q N8q K9q)) | ((with_reducible show wpAny _ _ (compareOp .Lt (Value.int _ _) (Value.int _ _)) _ _ _); (k_here; first | (refine' lt_yes ?h ?_; (case h => with_reducible assumption)) | (refine' lt_no ?h ?_; (case h => with_reducible assumption)))) | ((with_reducible show wpAny _ _ (subscriptTail (Expr.Name _ _) (Expr.Name _ _) (Value.ref _) (Value.int _ _)) _ _ _); (k_here; k_dflt (refine' kim_list ?N ?m ?c ?d ?h0 ?hf ?x ?_; (case N => k_asm); (case m => k_mem); (case c => rfl); (case d => exact rfl); (case h0 => with_reducible assumption); (case hf => omega); (case x => with_reducible assumption)))) | ((with_reducible show wpAny _ _ (eval (Expr.Subscript _ _ _) _) _ _ _); (refine Subscript_ ?_)) | ((with_reducible show wpAny _ _ (eval (Expr.Name _ _) _) _ _ _); ((with_reducible show wpAny _ _ (eval (Expr.Name (Str.ofString "_levenshtein_distance") _) (compEnvC _ _ _ _)) _ _ _); k_dflt (refine LCgL.ld_global (by k_asm) (by k_asm) (by k_asm) (by k_is) ?_))) | ((with_reducible show wpAny _ _ (eval (Expr.Name _ _) _) _ _ _); ((with_reducible show wpAny _ _ (eval (Expr.Name (Str.ofString "k") _) (compEnvC _ _ _ _)) _ _ _); k_dflt (refine LCgL.ld_own (by k_asm) (by k_mem) (by with_reducible assumption) (by with_reducible assumption) ?_))) | ((with_reducible show wpAny _ _ (eval (Expr.Name _ _) _) _ _ _); ((with_reducible show wpAny _ _ (eval (Expr.Name (Str.ofString "names") _) (compEnvC _ _ _ _)) _ _ _); k_dflt (refine' lcf_cell ?N ?c ?m ?d ?_ ?a ?b; (case a => rfl); (case b => rfl); (case N => k_asm); (case c => rfl); (case m => k_mem); (case d => with_reducible assumption)))) | ((with_reducible show wpAny _ _ (eval (Expr.Name _ _) _) _ _ _); ((with_reducible show wpAny _ _ (eval (Expr.Name (Str.ofString "j") _) (compEnvC _ _ _ _)) _ _ _); k_dflt (refine' lcf_cell ?N ?c ?m ?d ?_ ?a ?b; (case a => rfl); (case b => rfl); (case N => k_asm); (case c => rfl); (case m => k_mem); (case d => with_reducible assumption)))) | walk1) | (leave1; walk_say "STEP leave1"; try dsimp only) | fail "no step"))
  refine wpAny_mono (E := E) (Q := fun v s' => ∃ Fa h' tk' r0 r1 r2 r3 r4 l0 l1 l2 l3 l4 c0 c1 c2 c3 c4 cF, v = .ref Fa ∧ s' = { heap := h', gens := gens, drawn := drawn, toks := tk', os := os } ∧ RowOk [y0, y1, y2, y3, y4] 0 l0 ∧ RowOk [y0, y1, y2, y3, y4] 1 l1 ∧ RowOk [y0, y1, y2, y3, y4] 2 l2 ∧ RowOk [y0, y1, y2, y3, y4] 3 l3 ∧ RowOk [y0, y1, y2, y3, y4] 4 l4 ∧
    (∀ b o, b ≠ L → hp.get? b = some o → h'.get? b = some o) ∧ h'.Ns L m ∧ (∀ q ∈ [(Fa, listOf [Value.ref r0, Value.ref r1, Value.ref r2, Value.ref r3, Value.ref r4].toArray cF), (r0, listOf l0.toArray c0), (r1, listOf l1.toArray c1), (r2, listOf l2.toArray c2), (r3, listOf l3.toArray c3), (r4, listOf l4.toArray c4)], h'.get? q.1 = some q.2 ∧ q.1 ≠ L ∧ hp.get? q.1 = none)) ?_ ?_ fun _ _ e => e
  · have hyb : ∀ j : Int, 0 ≤ j → j < 5 → (0 ≤ nthI [y0, y1, y2, y3, y4] j ∧ nthI [y0, y1, y2, y3, y4] j < 12) ∧ ∃ t, [Value.str (nm y0) s0, Value.str (nm y1) s1, Value.str (nm y2) s2, Value.str (nm y3) s3, Value.str (nm y4) s4][j.toNat]? = some (.str (nm (nthI [y0, y1, y2, y3, y4] j)) t) := fun j h0 h1 => five_ok (P := fun y => 0 ≤ y ∧ y < 12) b0 b1 b2 b3 b4 h0 h1
    have F0 : Kp (Fr h₀ L hp m) := ⟨F⟩
    have N0 : Kp (News h₀ L hp _) := ⟨N⟩
    have Na := news_above N
    obtain ⟨rest, er⟩ : ∃ rest, rest = above h₀ L hp := ⟨_, rfl⟩
    rw [← er] at Na
    simp only [List.cons_append, List.nil_append] at Na
    clear N
    refine eval_range_cell (h₀ := h₀) (L := L) (m := m) (by first | exact .inl rfl | exact .inr ⟨_, _, _, rfl⟩) (by with_unfolding_all rfl) (fun _ _ => rfl) (fun _ => rfl) rfl (by decide) (by rfl) rfl
      (fun i _ ys Pr => ∃ rows : List (Addr × List Value × Nat), rows.length = i ∧ ys = rows.map (fun q => Value.ref q.1) ∧ Pr = rows.map (fun q => (q.1, listOf q.2.1.toArray q.2.2)) ∧ ∀ (j : Nat) q, rows[j]? = some q → RowOk [y0, y1, y2, y3, y4] j q.2.1) ?_
    w_strict (repeat' (first | (k_unfold; (try dsimp only)) | (dsimp only; k_unfold; (try dsimp only)) | ((with_reducible show wpAny _ _ (truthy (Value.bool _)) _ _ _); (refine wpAny_truthy_bool ?_; first | rw [if_pos rfl] | rw [if_neg (by decide)])) | ((with_reducible show wpAny _ _ (eval (Expr.IfExp _ _ _ _) _) _ _ _); (refine wpAny_IfExp ?_)) | ((with_reducible show wpAny _ _ (call (Value.ref _) _ _) _ _ _); (k_here; (with_reducible show wpAny _ _ (call (Value.ref 52) _) _ _ _); k_dflt (refine' lev_claim _ _ _ _ _ _ _ _ _ _ _ ?hG _ _ _ _ _ _ _ ?hX ?hT ?hd ?hu ?_; (case hG => with_reducible assumption); (case hX => (with_unfolding_all exact Frag.In.keeps (by k_asm) (Fr.keep (by k_asm)))); (case hT => (with_unfolding_all exact Top.keeps (by k_asm) (Fr.keep (by k_asm)))); (case hd => ((try dsimp only); omega)); (case hu => ((try dsimp only); omega))); intro v9q h9q tk9q K9q O9q; obtain ⟨t9q, ev9q⟩ := O9q; subst ev9q; (try dsimp only at K9q); (rename Fr _ _ _ _ => F8q); (rename News _ _ _ _ => N8q); (have F9q := after_fr F8q K9q); (have N9q := after_news N8q K9q); clear F8q N8q K9q)) | ((with_reducible show wpAny _ _ (compareOp .Lt (Value.int _ _) (Value.int _ _)) _ _ _); (k_here; first | (refine' lt_yes ?h ?_; (case h => with_reducible assumption)) | (refine' lt_no ?h ?_; (case h => with_reducible assumption)))) | ((with_reducible show wpAny _ _ (subscriptTail (Expr.Name _ _) (Expr.Name _ _) (Value.ref _) (Value.int _ _)) _ _ _); (k_here; k_dflt (refine' kim_list ?N ?m ?c ?d ?h0 ?hf ?x ?_; (case N => k_asm); (case m => k_mem); (case c => rfl); (case d => exact rfl); (case h0 => with_reducible assumption); (case hf => omega); (case x => with_reducible assumption)))) | ((with_reducible show wpAny _ _ (eval (Expr.Subscript _ _ _) _) _ _ _); (refine Subscript_ ?_)) | ((with_reducible show wpAny _ _ (eval (Expr.Name _ _) _) _ _ _); ((with_reducible show wpAny _ _ (eval (Expr.Name (Str.ofString "_levenshtein_distance") _) (compEnvC _ _ _ _)) _ _ _); k_dflt (refine LCgL.ld_global (by k_asm) (by k_asm) (by k_asm) (by k_is) ?_))) | ((with_reducible show wpAny _ _ (eval (Expr.Name _ _) _) _ _ _); ((with_reducible show wpAny _ _ (eval (Expr.Name (Str.ofString "k") _) (compEnvC _ _ _ _)) _ _ _); k_dflt (refine LCgL.ld_own (by k_asm) (by k_mem) (by with_reducible assumption) (by with_reducible assumption) ?_))) | ((with_reducible show wpAny _ _ (eval (Expr.Name _ _) _) _ _ _); ((with_reducible show wpAny _ _ (eval (Expr.Name (Str.ofString "names") _) (compEnvC _ _ _ _)) _ _ _); k_dflt (refine' lcf_cell ?N ?c ?m ?d ?_ ?a ?b; (case a => rfl); (case b => rfl); (case N => k_asm); (case c => rfl); (case m => k_mem); (case d => with_reducible assumption)))) | ((with_reducible show wpAny _ _ (eval (Expr.Name _ _) _) _ _ _); ((with_reducible show wpAny _ _ (eval (Expr.Name (Str.ofString "j") _) (compEnvC _ _ _ _)) _ _ _); k_dflt (refine' lcf_cell ?N ?c ?m ?d ?_ ?a ?b; (case a => rfl); (case b => rfl); (case N => k_asm); (case c => rfl); (case m => k_mem); (case d => with_reducible assumption)))) | walk1 | (dsimp only; first | ((with_reducible show wpAny _ _ (truthy (Value.bool _)) _ _ _); (refine wpAny_truthy_bool ?_; first | rw [if_pos rfl] | rw [if_neg (by decide)])) | ((with_reducible show wpAny _ _ (eval (Expr.IfExp _ _ _ _) _) _ _ _); (refine wpAny_IfExp ?_)) | ((with_reducible show wpAny _ _ (call (Value.ref _) _ _) _ _ _); (k_here; (with_reducible show wpAny _ _ (call (Value.ref 52) _) _ _ _); k_dflt (refine' lev_claim _ _ _ _ _ _ _ _ _ _ _ ?hG _ _ _ _ _ _ _ ?hX ?hT ?hd ?hu ?_; (case hG => with_reducible assumption); (case hX => (with_unfolding_all exact Frag.In.keeps (by k_asm) (Fr.keep (by k_asm)))); (case hT => (with_unfolding_all exact Top.keeps (by k_asm) (Fr.keep (by k_asm)))); (case hd => ((try dsimp only); omega)); (case hu => ((try dsimp only); omega))); intro v9q h9q tk9q K9q O9q; obtain ⟨t9q, ev9q⟩ := O9q; subst ev9q; (try dsimp only at K9q); (rename Fr _ _ _ _ => F8q); (rename News _ _ _ _ => N8q); (have F9q := after_fr F8q K9q); (have N9q := after_news N8q K9q); clear F8q N8q K9q)) | ((with_reducible show wpAny _ _ (compareOp .Lt (Value.int _ _) (Value.int _ _)) _ _ _); (k_here; first | (refine' lt_yes ?h ?_; (case h => with_reducible assumption)) | (refine' lt_no ?h ?_; (case h => with_reducible assumption)))) | ((with_reducible show wpAny _ _ (subscriptTail (Expr.Name _ _) (Expr.Name _ _) (Value.ref _) (Value.int _ _)) _ _ _); (k_here; k_dflt (refine' kim_list ?N ?m ?c ?d ?h0 ?hf ?x ?_; (case N => k_asm); (case m => k_mem); (case c => rfl); (case d => exact rfl); (case h0 => with_reducible assumption); (case hf => omega); (case x => with_reducible assumption)))) | ((with_reducible show wpAny _ _ (eval (Expr.Subscript _ _ _) _) _ _ _); (refine Subscript_ ?_)) | ((with_reducible show wpAny _ _ (eval (Expr.Name _ _) _) _ _ _); ((with_reducible show wpAny _ _ (eval (Expr.Name (Str.ofString "_levenshtein_distance") _) (compEnvC _ _ _ _)) _ _ _); k_dflt (refine LCgL.ld_global (by k_asm) (by k_asm) (by k_asm) (by k_is) ?_))) | ((with_reducible show wpAny _ _ (eval (Expr.Name _ _) _) _ _ _); ((with_reducible show wpAny _ _ (eval (Expr.Name (Str.ofString "k") _) (compEnvC _ _ _ _)) _ _ _); k_dflt (refine LCgL.ld_own (by k_asm) (by k_mem) (by with_reducible assumption) (by with_reducible assumption) ?_))) | ((with_reducible show wpAny _ _ (eval (Expr.Name _ _) _) _ _ _); ((with_reducible show wpAny _ _ (eval (Expr.Name (Str.ofString "names") _) (compEnvC _ _ _ _)) _ _ _); k_dflt (refine' lcf_cell ?N ?c ?m ?d ?_ ?a ?b; (case a => rfl); (case b => rfl); (case N => k_asm); (case c => rfl); (case m => k_mem); (case d => with_reducible assumption)))) | ((with_reducible show wpAny _ _ (eval (Expr.Name _ _) _) _ _ _); ((with_reducible show wpAny _ _ (eval (Expr.Name (Str.ofString "j") _) (compEnvC _ _ _ _)) _ _ _); k_dflt (refine' lcf_cell ?N ?c ?m ?d ?_ ?a ?b; (case a => rfl); (case b => rfl); (case N => k_asm); (case c => rfl); (case m => k_mem); (case d => with_reducible assumption)))) | walk1) | (leave1; walk_say "STEP leave1"; try dsimp only) | fail "no step"))
    rename IsRange _ _ _ _ _ _ _ _ => hr
    rename Fr _ _ _ _ => F1
    rename News _ _ _ _ => N1
    (try dsimp only at F1 N1)
    have kb1 := kept_of (h₀ := h₀) (m := m) F0.out F1 (fun q hq => (N1 q (by rw [← er] at hq; simp only [List.mem_cons]; simp only [hq, or_true])).1)
    refine Leaf.mk ⟨_, _, _, _, _, _, 5, rfl, hr, by first | decide | rfl, by first | rfl | decide, F1, ?_, ⟨[], rfl, rfl, rfl, fun _ _ e => by cases e⟩, ?_⟩
    · intro C cj I D i v oI mC ys Pr h tk2 K hv hY S
      obtain ⟨hi, tj, rfl⟩ := hv
      dsimp only at S ⊢
      obtain ⟨rows, hlen, rfl, rfl, hrows⟩ := hY
      intro E'
      refine wpAny_tests_nil ?_
      rw [if_pos rfl]
      refine' body_ref (s := { heap := h, gens := gens, drawn := drawn, toks := tk2, os := os }) (tk := tk2) (Z := fun o => ∃ l c, o = listOf l.toArray c ∧ RowOk [y0, y1, y2, y3, y4] i l) K ?hg S ?hs ?_ ?_
      case hg => rfl
      case hs => (rw [List.length_map, hlen, sizeLine_eq]; omega)
      · have F2 : Fr h₀ L h m := fr_kept F1 S.kb S.ns
        have N2 := news_kept N1 S.kb
        obtain ⟨ocj, ecj, hcj⟩ := S.cf.2
        obtain ⟨j, ej⟩ : ∃ j : Int, j = 0 + (i : Int) := ⟨_, rfl⟩
        dsimp only at hcj
        rw [if_pos rfl, ← ej] at hcj
        obtain ⟨_, jL, jn, _⟩ := S.fa cj (.tail _ (.head _))
        have jn0 := new_none F1 jn
        have hj0 : 0 ≤ j := by omega
        have hj5 : j < 5 := by omega
        have N3 := news_above (news := [(cj, ocj), (Nm, listOf [Value.str (nm y0) s0, Value.str (nm y1) s1, Value.str (nm y2) s2, Value.str (nm y3) s3, Value.str (nm y4) s4].toArray cN), (L + 2, oc2)]) (h₀ := h₀) (L := L) (h := h) (fun q hq => by
          simp only [List.mem_cons, List.not_mem_nil, or_false] at hq
          rcases hq with rfl | rfl | rfl
          · exact ⟨ecj, jL, jn0⟩
          · exact N2 _ (by k_mem)
          · exact N2 _ (by k_mem))
        obtain ⟨rest3, er3⟩ : ∃ rest, rest = above h₀ L h := ⟨_, rfl⟩
        rw [← er3] at N3
        simp only [List.cons_append, List.nil_append] at N3
        have F2' : Kp (Fr h₀ L h m) := ⟨F2⟩
        clear N2 N1 hr S jn jL jn0 ecj K
        refine eval_range (h₀ := h₀) (L := L) (m := m) (by first | exact .inl rfl | exact .inr ⟨_, _, _, rfl⟩) (by with_unfolding_all rfl) (by decide) rfl (by decide) (by rfl) rfl
          (fun n _ ys Pr => Pr = [] ∧ ys.length = n ∧ ∀ k : Nat, k < n → ∃ v, ys[k]? = some v ∧ ∃ t, v = .int (farv [y0, y1, y2, y3, y4] i k) t) ?_
        w_strict (repeat' (first | (k_unfold; (try dsimp only)) | (dsimp only; k_unfold; (try dsimp only)) | ((with_reducible show wpAny _ _ (truthy (Value.bool _)) _ _ _); (refine wpAny_truthy_bool ?_; first | rw [if_pos rfl] | rw [if_neg (by decide)])) | ((with_reducible show wpAny _ _ (eval (Expr.IfExp _ _ _ _) _) _ _ _); (refine wpAny_IfExp ?_)) | ((with_reducible show wpAny _ _ (call (Value.ref _) _ _) _ _ _); (k_here; (with_reducible show wpAny _ _ (call (Value.ref 52) _) _ _ _); k_dflt (refine' lev_claim _ _ _ _ _ _ _ _ _ _ _ ?hG _ _ _ _ _ _ _ ?hX ?hT ?hd ?hu ?_; (case hG => with_reducible assumption); (case hX => (with_unfolding_all exact Frag.In.keeps (by k_asm) (Fr.keep (by k_asm)))); (case hT => (with_unfolding_all exact Top.keeps (by k_asm) (Fr.keep (by k_asm)))); (case hd => ((try dsimp only); omega)); (case hu => ((try dsimp only); omega))); intro v9q h9q tk9q K9q O9q; obtain ⟨t9q, ev9q⟩ := O9q; subst ev9q; (try dsimp only at K9q); (rename Fr _ _ _ _ => F8q); (rename News _ _ _ _ => N8q); (have F9q := after_fr F8q K9q); (have N9q := after_news N8q K9q); clear F8q N8q K9q)) | ((with_reducible show wpAny _ _ (compareOp .Lt (Value.int _ _) (Value.int _ _)) _ _ _); (k_here; first | (refine' lt_yes ?h ?_; (case h => with_reducible assumption)) | (refine' lt_no ?h ?_; (case h => with_reducible assumption)))) | ((with_reducible show wpAny _ _ (subscriptTail (Expr.Name _ _) (Expr.Name _ _) (Value.ref _) (Value.int _ _)) _ _ _); (k_here; k_dflt (refine' kim_list ?N ?m ?c ?d ?h0 ?hf ?x ?_; (case N => k_asm); (case m => k_mem); (case c => rfl); (case d => exact rfl); (case h0 => with_reducible assumption); (case hf => omega); (case x => with_reducible assumption)))) | ((with_reducible show wpAny _ _ (eval (Expr.Subscript _ _ _) _) _ _ _); (refine Subscript_ ?_)) | ((with_reducible show wpAny _ _ (eval (Expr.Name _ _) _) _ _ _); ((with_reducible show wpAny _ _ (eval (Expr.Name (Str.ofString "_levenshtein_distance") _) (compEnvC _ _ _ _)) _ _ _); k_dflt (refine LCgL.ld_global (by k_asm) (by k_asm) (by k_asm) (by k_is) ?_))) | ((with_reducible show wpAny _ _ (eval (Expr.Name _ _) _) _ _ _); ((with_reducible show wpAny _ _ (eval (Expr.Name (Str.ofString "k") _) (compEnvC _ _ _ _)) _ _ _); k_dflt (refine LCgL.ld_own (by k_asm) (by k_mem) (by with_reducible assumption) (by with_reducible assumption) ?_))) | ((with_reducible show wpAny _ _ (eval (Expr.Name _ _) _) _ _ _); ((with_reducible show wpAny _ _ (eval (Expr.Name (Str.ofString "names") _) (compEnvC _ _ _ _)) _ _ _); k_dflt (refine' lcf_cell ?N ?c ?m ?d ?_ ?a ?b; (case a => rfl); (case b => rfl); (case N => k_asm); (case c => rfl); (case m => k_mem); (case d => with_reducible assumption)))) | ((with_reducible show wpAny _ _ (eval (Expr.Name _ _) _) _ _ _); ((with_reducible show wpAny _ _ (eval (Expr.Name (Str.ofString "j") _) (compEnvC _ _ _ _)) _ _ _); k_dflt (refine' lcf_cell ?N ?c ?m ?d ?_ ?a ?b; (case a => rfl); (case b => rfl); (case N => k_asm); (case c => rfl); (case m => k_mem); (case d => with_reducible assumption)))) | walk1 | (dsimp only; first | ((with_reducible show wpAny _ _ (truthy (Value.bool _)) _ _ _); (refine wpAny_truthy_bool ?_; first | rw [if_pos rfl] | rw [if_neg (by decide)])) | ((with_reducible show wpAny _ _ (eval (Expr.IfExp _ _ _ _) _) _ _ _); (refine wpAny_IfExp ?_)) | ((with_reducible show wpAny _ _ (call (Value.ref _) _ _) _ _ _); (k_here; (with_reducible show wpAny _ _ (call (Value.ref 52) _) _ _ _); k_dflt (refine' lev_claim _ _ _ _ _ _ _ _ _ _ _ ?hG _ _ _ _ _ _ _ ?hX ?hT ?hd ?hu ?_; (case hG => with_reducible assumption); (case hX => (with_unfolding_all exact Frag.In.keeps (by k_asm) (Fr.keep (by k_asm)))); (case hT => (with_unfolding_all exact Top.keeps (by k_asm) (Fr.keep (by k_asm)))); (case hd => ((try dsimp only); omega)); (case hu => ((try dsimp only); omega))); intro v9q h9q tk9q K9q O9q; obtain ⟨t9q, ev9q⟩ := O9q; subst ev9q; (try dsimp only at K9q); (rename Fr _ _ _ _ => F8q); (rename News _ _ _ _ => N8q); (have F9q := after_fr F8q K9q); (have N9q := after_news N8q K9q); clear F8q N8q K9q)) | ((with_reducible show wpAny _ _ (compareOp .Lt (Value.int _ _) (Value.int _ _)) _ _ _); (k_here; first | (refine' lt_yes ?h ?_; (case h => with_reducible assumption)) | (refine' lt_no ?h ?_; (case h => with_reducible assumption)))) | ((with_reducible show wpAny _ _ (subscriptTail (Expr.Name _ _) (Expr.Name _ _) (Value.ref _) (Value.int _ _)) _ _ _); (k_here; k_dflt (refine' kim_list ?N ?m ?c ?d ?h0 ?hf ?x ?_; (case N => k_asm); (case m => k_mem); (case c => rfl); (case d => exact rfl); (case h0 => with_reducible assumption); (case hf => omega); (case x => with_reducible assumption)))) | ((with_reducible show wpAny _ _ (eval (Expr.Subscript _ _ _) _) _ _ _); (refine Subscript_ ?_)) | ((with_reducible show wpAny _ _ (eval (Expr.Name _ _) _) _ _ _); ((with_reducible show wpAny _ _ (eval (Expr.Name (Str.ofString "_levenshtein_distance") _) (compEnvC _ _ _ _)) _ _ _); k_dflt (refine LCgL.ld_global (by k_asm) (by k_asm) (by k_asm) (by k_is) ?_))) | ((with_reducible show wpAny _ _ (eval (Expr.Name _ _) _) _ _ _); ((with_reducible show wpAny _ _ (eval (Expr.Name (Str.ofString "k") _) (compEnvC _ _ _ _)) _ _ _); k_dflt (refine LCgL.ld_own (by k_asm) (by k_mem) (by with_reducible assumption) (by with_reducible assumption) ?_))) | ((with_reducible show wpAny _ _ (eval (Expr.Name _ _) _) _ _ _); ((with_reducible show wpAny _ _ (eval (Expr.Name (Str.ofString "names") _) (compEnvC _ _ _ _)) _ _ _); k_dflt (refine' lcf_cell ?N ?c ?m ?d ?_ ?a ?b; (case a => rfl); (case b => rfl); (case N => k_asm); (case c => rfl); (case m => k_mem); (case d => with_reducible assumption)))) | ((with_reducible show wpAny _ _ (eval (Expr.Name _ _) _) _ _ _); ((with_reducible show wpAny _ _ (eval (Expr.Name (Str.ofString "j") _) (compEnvC _ _ _ _)) _ _ _); k_dflt (refine' lcf_cell ?N ?c ?m ?d ?_ ?a ?b; (case a => rfl); (case b => rfl); (case N => k_asm); (case c => rfl); (case m => k_mem); (case d => with_reducible assumption)))) | walk1) | (leave1; walk_say "STEP leave1"; try dsimp only) | fail "no step"))
        rename IsRange _ _ _ _ _ _ _ _ => hr
        rename Fr _ _ _ _ => F4
        rename News _ _ _ _ => N4
        (try dsimp only at F4 N4)
        have kb4 := kept_of (h₀ := h₀) (m := m) F2'.out F4 (fun q hq => (N4 q (by rw [← er3] at hq; simp only [List.mem_cons]; simp only [hq, or_true])).1)
        refine Leaf.mk ⟨_, _, _, _, _, _, 5, rfl, hr, by first | decide | rfl, by first | rfl | decide, F4, ?_, ⟨rfl, rfl, fun _ hk => absurd hk (Nat.not_lt_zero _)⟩, ?_⟩
        · intro C' I' D' n v' oI' mC' ys' Pr' h5 tk5 K' hv' hY' S'
          obtain ⟨hn5, tn, rfl⟩ := hv'
          obtain ⟨rfl, hlen', hys'⟩ := hY'
          dsimp only at S' ⊢
          intro E''
          refine wpAny_tests_nil ?_
          rw [if_pos rfl]
          refine' body_val (s := { heap := h5, gens := gens, drawn := drawn, toks := tk5, os := os }) (tk := tk5) (Z := fun v => ∃ t, v = .int (farv [y0, y1, y2, y3, y4] i n) t) K' ?hg S' ?hs ?_ ?_
          case hg => rfl
          case hs => (rw [hlen', sizeLine_eq]; omega)
          · dsimp only
            have F6 : Fr h₀ L h5 m := fr_kept F4 S'.kb S'.ns
            have N6 := news_kept N4 S'.kb
            obtain ⟨oC, eC, hoC⟩ := LCg.ns_obj S'.cf
            obtain ⟨_, cL, cn, _⟩ := S'.fa C' (.head _)
            have cn0 := new_none F4 cn
            obtain ⟨k, ek⟩ : ∃ k : Int, k = 0 + (n : Int) := ⟨_, rfl⟩
            rw [← ek] at hoC
            obtain ⟨m₂, em₂⟩ : ∃ m₂, m₂ = (fun y => if y = Str.ofString "k" then some (Value.int k tn) else mC' y) := ⟨_, rfl⟩
            have hm₂ : m₂ (Str.ofString "k") = some (.int k tn) := by rw [em₂]; exact if_pos rfl
            rw [← em₂] at hoC
            have ei : (i : Int) = j := by omega
            have en : (n : Int) = k := by omega
            have hk0 : 0 ≤ k := by omega
            have hk5 : k < 5 := by omega
            rw [ei, en]
            have N7 := news_above (news := [(C', oC), (cj, ocj), (Nm, listOf [Value.str (nm y0) s0, Value.str (nm y1) s1, Value.str (nm y2) s2, Value.str (nm y3) s3, Value.str (nm y4) s4].toArray cN), (L + 2, oc2)]) (h₀ := h₀) (L := L) (h := h5) (fun q hq => by
              simp only [List.mem_cons, List.not_mem_nil, or_false] at hq
              rcases hq with rfl | rfl | rfl | rfl
              · exact ⟨eC, cL, cn0⟩
              · exact N6 _ (by k_mem)
              · exact N6 _ (by k_mem)
              · exact N6 _ (by k_mem))
            obtain ⟨rest5, er5⟩ : ∃ rest, rest = above h₀ L h5 := ⟨_, rfl⟩
            rw [← er5] at N7
            simp only [List.cons_append, List.nil_append] at N7
            have F6' : Kp (Fr h₀ L h5 m) := ⟨F6⟩
            clear N6 N4 hr S' K' eC cL cn cn0 hlen' hys' kb4
            obtain ⟨hyj, sj, gj⟩ := hyb j hj0 hj5
            obtain ⟨hyk, sk, gk⟩ := hyb k hk0 hk5
            by_cases hjk : j < k
            · obtain ⟨hG, hL⟩ := pair_ok hyj.1 hyj.2 hyk.1 hyk.2 (nth_ne rfl ds hj0 hjk hk5)
              have hf : farv [y0, y1, y2, y3, y4] j k = levD (nm (nthI [y0, y1, y2, y3, y4] j)) (nm (nthI [y0, y1, y2, y3, y4] k)) := by rw [hL]; exact if_pos hjk
              rw [hf]
              clear hf hL hyb hyj hyk hret ds
              w_strict (repeat' (first | (k_unfold; (try dsimp only)) | (dsimp only; k_unfold; (try dsimp only)) | ((with_reducible show wpAny _ _ (truthy (Value.bool _)) _ _ _); (refine wpAny_truthy_bool ?_; first | rw [if_pos rfl] | rw [if_neg (by decide)])) | ((with_reducible show wpAny _ _ (eval (Expr.IfExp _ _ _ _) _) _ _ _); (refine wpAny_IfExp ?_)) | ((with_reducible show wpAny _ _ (call (Value.ref _) _ _) _ _ _); (k_here; (with_reducible show wpAny _ _ (call (Value.ref 52) _) _ _ _); k_dflt (refine' lev_claim _ _ _ _ _ _ _ _ _ _ _ ?hG _ _ _ _ _ _ _ ?hX ?hT ?hd ?hu ?_; (case hG => with_reducible assumption); (case hX => (with_unfolding_all exact Frag.In.keeps (by k_asm) (Fr.keep (by k_asm)))); (case hT => (with_unfolding_all exact Top.keeps (by k_asm) (Fr.keep (by k_asm)))); (case hd => ((try dsimp only); omega)); (case hu => ((try dsimp only); omega))); intro v9q h9q tk9q K9q O9q; obtain ⟨t9q, ev9q⟩ := O9q; subst ev9q; (try dsimp only at K9q); (rename Fr _ _ _ _ => F8q); (rename News _ _ _ _ => N8q); (have F9q := after_fr F8q K9q); (have N9q := after_news N8q K9q); clear F8q N8q K9q)) | ((with_reducible show wpAny _ _ (compareOp .Lt (Value.int _ _) (Value.int _ _)) _ _ _); (k_here; first | (refine' lt_yes ?h ?_; (case h => with_reducible assumption)) | (refine' lt_no ?h ?_; (case h => with_reducible assumption)))) | ((with_reducible show wpAny _ _ (subscriptTail (Expr.Name _ _) (Expr.Name _ _) (Value.ref _) (Value.int _ _)) _ _ _); (k_here; k_dflt (refine' kim_list ?N ?m ?c ?d ?h0 ?hf ?x ?_; (case N => k_asm); (case m => k_mem); (case c => rfl); (case d => exact rfl); (case h0 => with_reducible assumption); (case hf => omega); (case x => with_reducible assumption)))) | ((with_reducible show wpAny _ _ (eval (Expr.Subscript _ _ _) _) _ _ _); (refine Subscript_ ?_)) | ((with_reducible show wpAny _ _ (eval (Expr.Name _ _) _) _ _ _); ((with_reducible show wpAny _ _ (eval (Expr.Name (Str.ofString "_levenshtein_distance") _) (compEnvC _ _ _ _)) _ _ _); k_dflt (refine LCgL.ld_global (by k_asm) (by k_asm) (by k_asm) (by k_is) ?_))) | ((with_reducible show wpAny _ _ (eval (Expr.Name _ _) _) _ _ _); ((with_reducible show wpAny _ _ (eval (Expr.Name (Str.ofString "k") _) (compEnvC _ _ _ _)) _ _ _); k_dflt (refine LCgL.ld_own (by k_asm) (by k_mem) (by with_reducible assumption) (by with_reducible assumption) ?_))) | ((with_reducible show wpAny _ _ (eval (Expr.Name _ _) _) _ _ _); ((with_reducible show wpAny _ _ (eval (Expr.Name (Str.ofString "names") _) (compEnvC _ _ _ _)) _ _ _); k_dflt (refine' lcf_cell ?N ?c ?m ?d ?_ ?a ?b; (case a => rfl); (case b => rfl); (case N => k_asm); (case c => rfl); (case m => k_mem); (case d => with_reducible assumption)))) | ((with_reducible show wpAny _ _ (eval (Expr.Name _ _) _) _ _ _); ((with_reducible show wpAny _ _ (eval (Expr.Name (Str.ofString "j") _) (compEnvC _ _ _ _)) _ _ _); k_dflt (refine' lcf_cell ?N ?c ?m ?d ?_ ?a ?b; (case a => rfl); (case b => rfl); (case N => k_asm); (case c => rfl); (case m => k_mem); (case d => with_reducible assumption)))) | walk1 | (dsimp only; first | ((with_reducible show wpAny _ _ (truthy (Value.bool _)) _ _ _); (refine wpAny_truthy_bool ?_; first | rw [if_pos rfl] | rw [if_neg (by decide)])) | ((with_reducible show wpAny _ _ (eval (Expr.IfExp _ _ _ _) _) _ _ _); (refine wpAny_IfExp ?_)) | ((with_reducible show wpAny _ _ (call (Value.ref _) _ _) _ _ _); (k_here; (with_reducible show wpAny _ _ (call (Value.ref 52) _) _ _ _); k_dflt (refine' lev_claim _ _ _ _ _ _ _ _ _ _ _ ?hG _ _ _ _ _ _ _ ?hX ?hT ?hd ?hu ?_; (case hG => with_reducible assumption); (case hX => (with_unfolding_all exact Frag.In.keeps (by k_asm) (Fr.keep (by k_asm)))); (case hT => (with_unfolding_all exact Top.keeps (by k_asm) (Fr.keep (by k_asm)))); (case hd => ((try dsimp only); omega)); (case hu => ((try dsimp only); omega))); intro v9q h9q tk9q K9q O9q; obtain ⟨t9q, ev9q⟩ := O9q; subst ev9q; (try dsimp only at K9q); (rename Fr _ _ _ _ => F8q); (rename News _ _ _ _ => N8q); (have F9q := after_fr F8q K9q); (have N9q := after_news N8q K9q); clear F8q N8q K9q)) | ((with_reducible show wpAny _ _ (compareOp .Lt (Value.int _ _) (Value.int _ _)) _ _ _); (k_here; first | (refine' lt_yes ?h ?_; (case h => with_reducible assumption)) | (refine' lt_no ?h ?_; (case h => with_reducible assumption)))) | ((with_reducible show wpAny _ _ (subscriptTail (Expr.Name _ _) (Expr.Name _ _) (Value.ref _) (Value.int _ _)) _ _ _); (k_here; k_dflt (refine' kim_list ?N ?m ?c ?d ?h0 ?hf ?x ?_; (case N => k_asm); (case m => k_mem); (case c => rfl); (case d => exact rfl); (case h0 => with_reducible assumption); (case hf => omega); (case x => with_reducible assumption)))) | ((with_reducible show wpAny _ _ (eval (Expr.Subscript _ _ _) _) _ _ _); (refine Subscript_ ?_)) | ((with_reducible show wpAny _ _ (eval (Expr.Name _ _) _) _ _ _); ((with_reducible show wpAny _ _ (eval (Expr.Name (Str.ofString "_levenshtein_distance") _) (compEnvC _ _ _ _)) _ _ _); k_dflt (refine LCgL.ld_global (by k_asm) (by k_asm) (by k_asm) (by k_is) ?_))) | ((with_reducible show wpAny _ _ (eval (Expr.Name _ _) _) _ _ _); ((with_reducible show wpAny _ _ (eval (Expr.Name (Str.ofString "k") _) (compEnvC _ _ _ _)) _ _ _); k_dflt (refine LCgL.ld_own (by k_asm) (by k_mem) (by with_reducible assumption) (by with_reducible assumption) ?_))) | ((with_reducible show wpAny _ _ (eval (Expr.Name _ _) _) _ _ _); ((with_reducible show wpAny _ _ (eval (Expr.Name (Str.ofString "names") _) (compEnvC _ _ _ _)) _ _ _); k_dflt (refine' lcf_cell ?N ?c ?m ?d ?_ ?a ?b; (case a => rfl); (case b => rfl); (case N => k_asm); (case c => rfl); (case m => k_mem); (case d => with_reducible assumption)))) | ((with_reducible show wpAny _ _ (eval (Expr.Name _ _) _) _ _ _); ((with_reducible show wpAny _ _ (eval (Expr.Name (Str.ofString "j") _) (compEnvC _ _ _ _)) _ _ _); k_dflt (refine' lcf_cell ?N ?c ?m ?d ?_ ?a ?b; (case a => rfl); (case b => rfl); (case N => k_asm); (case c => rfl); (case m => k_mem); (case d => with_reducible assumption)))) | walk1) | (leave1; walk_say "STEP leave1"; try dsimp only) | fail "no step"))
              (try dsimp only)
              rename Fr _ _ _ _ => F9
              rename News _ _ _ _ => N9
              (try dsimp only at F9 N9)
              refine Leaf.mk ⟨_, _, rfl, F9.ns, kept_of (h₀ := h₀) (m := m) F6'.out F9 (fun q hq => (N9 q (by rw [← er5] at hq; simp only [List.mem_cons]; simp only [hq, or_true])).1), _, rfl⟩
            · have hf : farv [y0, y1, y2, y3, y4] j k = 0 := if_neg hjk
              rw [hf]
              clear hf hyb hyj hyk hret ds
              w_strict (repeat' (first | (k_unfold; (try dsimp only)) | (dsimp only; k_unfold; (try dsimp only)) | ((with_reducible show wpAny _ _ (truthy (Value.bool _)) _ _ _); (refine wpAny_truthy_bool ?_; first | rw [if_pos rfl] | rw [if_neg (by decide)])) | ((with_reducible show wpAny _ _ (eval (Expr.IfExp _ _ _ _) _) _ _ _); (refine wpAny_IfExp ?_)) | ((with_reducible show wpAny _ _ (call (Value.ref _) _ _) _ _ _); (k_here; (with_reducible show wpAny _ _ (call (Value.ref 52) _) _ _ _); k_dflt (refine' lev_claim _ _ _ _ _ _ _ _ _ _ _ ?hG _ _ _ _ _ _ _ ?hX ?hT ?hd ?hu ?_; (case hG => with_reducible assumption); (case hX => (with_unfolding_all exact Frag.In.keeps (by k_asm) (Fr.keep (by k_asm)))); (case hT => (with_unfolding_all exact Top.keeps (by k_asm) (Fr.keep (by k_asm)))); (case hd => ((try dsimp only); omega)); (case hu => ((try dsimp only); omega))); intro v9q h9q tk9q K9q O9q; obtain ⟨t9q, ev9q⟩ := O9q; subst ev9q; (try dsimp only at K9q); (rename Fr _ _ _ _ => F8q); (rename News _ _ _ _ => N8q); (have F9q := after_fr F8q K9q); (have N9q := after_news N8q K9q); clear F8q N8q K9q)) | ((with_reducible show wpAny _ _ (compareOp .Lt (Value.int _ _) (Value.int _ _)) _ _ _); (k_here; first | (refine' lt_yes ?h ?_; (case h => with_reducible assumption)) | (refine' lt_no ?h ?_; (case h => with_reducible assumption)))) | ((with_reducible show wpAny _ _ (subscriptTail (Expr.Name _ _) (Expr.Name _ _) (Value.ref _) (Value.int _ _)) _ _ _); (k_here; k_dflt (refine' kim_list ?N ?m ?c ?d ?h0 ?hf ?x ?_; (case N => k_asm); (case m => k_mem); (case c => rfl); (case d => exact rfl); (case h0 => with_reducible assumption); (case hf => omega); (case x => with_reducible assumption)))) | ((with_reducible show wpAny _ _ (eval (Expr.Subscript _ _ _) _) _ _ _); (refine Subscript_ ?_)) | ((with_reducible show wpAny _ _ (eval (Expr.Name _ _) _) _ _ _); ((with_reducible show wpAny _ _ (eval (Expr.Name (Str.ofString "_levenshtein_distance") _) (compEnvC _ _ _ _)) _ _ _); k_dflt (refine LCgL.ld_global (by k_asm) (by k_asm) (by k_asm) (by k_is) ?_))) | ((with_reducible show wpAny _ _ (eval (Expr.Name _ _) _) _ _ _); ((with_reducible show wpAny _ _ (eval (Expr.Name (Str.ofString "k") _) (compEnvC _ _ _ _)) _ _ _); k_dflt (refine LCgL.ld_own (by k_asm) (by k_mem) (by with_reducible assumption) (by with_reducible assumption) ?_))) | ((with_reducible show wpAny _ _ (eval (Expr.Name _ _) _) _ _ _); ((with_reducible show wpAny _ _ (eval (Expr.Name (Str.ofString "names") _) (compEnvC _ _ _ _)) _ _ _); k_dflt (refine' lcf_cell ?N ?c ?m ?d ?_ ?a ?b; (case a => rfl); (case b => rfl); (case N => k_asm); (case c => rfl); (case m => k_mem); (case d => with_reducible assumption)))) | ((with_reducible show wpAny _ _ (eval (Expr.Name _ _) _) _ _ _); ((with_reducible show wpAny _ _ (eval (Expr.Name (Str.ofString "j") _) (compEnvC _ _ _ _)) _ _ _); k_dflt (refine' lcf_cell ?N ?c ?m ?d ?_ ?a ?b; (case a => rfl); (case b => rfl); (case N => k_asm); (case c => rfl); (case m => k_mem); (case d => with_reducible assumption)))) | walk1 | (dsimp only; first | ((with_reducible show wpAny _ _ (truthy (Value.bool _)) _ _ _); (refine wpAny_truthy_bool ?_; first | rw [if_pos rfl] | rw [if_neg (by decide)])) | ((with_reducible show wpAny _ _ (eval (Expr.IfExp _ _ _ _) _) _ _ _); (refine wpAny_IfExp ?_)) | ((with_reducible show wpAny _ _ (call (Value.ref _) _ _) _ _ _); (k_here; (with_reducible show wpAny _ _ (call (Value.ref 52) _) _ _ _); k_dflt (refine' lev_claim _ _ _ _ _ _ _ _ _ _ _ ?hG _ _ _ _ _ _ _ ?hX ?hT ?hd ?hu ?_; (case hG => with_reducible assumption); (case hX => (with_unfolding_all exact Frag.In.keeps (by k_asm) (Fr.keep (by k_asm)))); (case hT => (with_unfolding_all exact Top.keeps (by k_asm) (Fr.keep (by k_asm)))); (case hd => ((try dsimp only); omega)); (case hu => ((try dsimp only); omega))); intro v9q h9q tk9q K9q O9q; obtain ⟨t9q, ev9q⟩ := O9q; subst ev9q; (try dsimp only at K9q); (rename Fr _ _ _ _ => F8q); (rename News _ _ _ _ => N8q); (have F9q := after_fr F8q K9q); (have N9q := after_news N8q K9q); clear F8q N8q K9q)) | ((with_reducible show wpAny _ _ (compareOp .Lt (Value.int _ _) (Value.int _ _)) _ _ _); (k_here; first | (refine' lt_yes ?h ?_; (case h => with_reducible assumption)) | (refine' lt_no ?h ?_; (case h => with_reducible assumption)))) | ((with_reducible show wpAny _ _ (subscriptTail (Expr.Name _ _) (Expr.Name _ _) (Value.ref _) (Value.int _ _)) _ _ _); (k_here; k_dflt (refine' kim_list ?N ?m ?c ?d ?h0 ?hf ?x ?_; (case N => k_asm); (case m => k_mem); (case c => rfl); (case d => exact rfl); (case h0 => with_reducible assumption); (case hf => omega); (case x => with_reducible assumption)))) | ((with_reducible show wpAny _ _ (eval (Expr.Subscript _ _ _) _) _ _ _); (refine Subscript_ ?_)) | ((with_reducible show wpAny _ _ (eval (Expr.Name _ _) _) _ _ _); ((with_reducible show wpAny _ _ (eval (Expr.Name (Str.ofString "_levenshtein_distance") _) (compEnvC _ _ _ _)) _ _ _); k_dflt (refine LCgL.ld_global (by k_asm) (by k_asm) (by k_asm) (by k_is) ?_))) | ((with_reducible show wpAny _ _ (eval (Expr.Name _ _) _) _ _ _); ((with_reducible show wpAny _ _ (eval (Expr.Name (Str.ofString "k") _) (compEnvC _ _ _ _)) _ _ _); k_dflt (refine LCgL.ld_own (by k_asm) (by k_mem) (by with_reducible assumption) (by with_reducible assumption) ?_))) | ((with_reducible show wpAny _ _ (eval (Expr.Name _ _) _) _ _ _); ((with_reducible show wpAny _ _ (eval (Expr.Name (Str.ofString "names") _) (compEnvC _ _ _ _)) _ _ _); k_dflt (refine' lcf_cell ?N ?c ?m ?d ?_ ?a ?b; (case a => rfl); (case b => rfl); (case N => k_asm); (case c => rfl); (case m => k_mem); (case d => with_reducible assumption)))) | ((with_reducible show wpAny _ _ (eval (Expr.Name _ _) _) _ _ _); ((with_reducible show wpAny _ _ (eval (Expr.Name (Str.ofString "j") _) (compEnvC _ _ _ _)) _ _ _); k_dflt (refine' lcf_cell ?N ?c ?m ?d ?_ ?a ?b; (case a => rfl); (case b => rfl); (case N => k_asm); (case c => rfl); (case m => k_mem); (case d => with_reducible assumption)))) | walk1) | (leave1; walk_say "STEP leave1"; try dsimp only) | fail "no step"))
              (try dsimp only)
              rename Fr _ _ _ _ => F9
              rename News _ _ _ _ => N9
              (try dsimp only at F9 N9)
              refine Leaf.mk ⟨_, _, rfl, F9.ns, kept_of (h₀ := h₀) (m := m) F6'.out F9 (fun q hq => (N9 q (by rw [← er5] at hq; simp only [List.mem_cons]; simp only [hq, or_true])).1), _, rfl⟩
          · intro y h' tk' hZ S''
            exact ⟨h', tk', _, _, _, rfl, S'', rfl, by simp [hlen'], fun k hk => snoc_get (P := fun k v => ∃ t, v = .int (farv [y0, y1, y2, y3, y4] i k) t) hlen' hys' hZ hk⟩
        · intro C' D' h6 tk6 mC' ys' Pr' S' hY'
          obtain ⟨rfl, hlen', hys'⟩ := hY'
          dsimp only at S'
          refine post_none S' fun h7 O => Leaf.mk ⟨h7, tk6, D', _, rfl, O.ns, fun b o hb e => O.kb b o hb (kb4 b o hb e), rfl, back_none kb4 O.dd.1 O.dd.2, O.dd.1, O.d, ys', _, rfl, hlen', fun k hk0 hk5 => ?_⟩
          obtain ⟨v, e1, t, e2⟩ := hys' k.toNat (by omega)
          rw [show ((k.toNat : Nat) : Int) = k by omega] at e2
          exact ⟨t, by rw [e1, e2]⟩
      · intro a o h' tk' hZ S'
        obtain ⟨l, c, rfl, hl⟩ := hZ
        refine ⟨h', tk', _, _, _, rfl, S', rows ++ [(a, l, c)], by simp [hlen], by simp, by simp, fun j q hq => ?_⟩
        by_cases hji : j < i
        · exact hrows j q (by rw [List.getElem?_append_left (by omega)] at hq; exact hq)
        · have : j = i := by
            have := (List.getElem?_eq_some_iff.mp hq).1
            rw [List.length_append, List.length_singleton] at this
            omega
          subst this
          rw [List.getElem?_append_right (by omega), hlen, Nat.sub_self] at hq
          cases hq
          exact hl
    · intro C cj D h tk2 mC ys Pr S hY
      obtain ⟨rows, hlen, rfl, rfl, hrows⟩ := hY
      dsimp only at S
      refine post_cell S fun h' O => ?_
      match rows, hlen, hrows, O with
      | [(r0, l0, c0), (r1, l1, c1), (r2, l2, c2), (r3, l3, c3), (r4, l4, c4)], _, hrows, O =>
        refine ⟨D, h', tk2, r0, r1, r2, r3, r4, l0, l1, l2, l3, l4, c0, c1, c2, c3, c4, 5, rfl, rfl, hrows 0 _ rfl, hrows 1 _ rfl, hrows 2 _ rfl, hrows 3 _ rfl, hrows 4 _ rfl, fun b o hb e => O.kb b o hb (kb1 b o hb e), O.ns, fun q hq => ?_⟩
        simp only [List.mem_cons, List.not_mem_nil, or_false] at hq
        have hpr := O.pr
        simp only [List.map_cons, List.map_nil, List.forall_mem_cons] at hpr
        rcases hq with rfl | rfl | rfl | rfl | rfl | rfl
        · exact ⟨O.d, O.dd.1, back_none kb1 O.dd.1 O.dd.2⟩
        · exact ⟨hpr.1.1, hpr.1.2.1, back_none kb1 hpr.1.2.1 hpr.1.2.2.1⟩
        · exact ⟨hpr.2.1.1, hpr.2.1.2.1, back_none kb1 hpr.2.1.2.1 hpr.2.1.2.2.1⟩
        · exact ⟨hpr.2.2.1.1, hpr.2.2.1.2.1, back_none kb1 hpr.2.2.1.2.1 hpr.2.2.1.2.2.1⟩
        · exact ⟨hpr.2.2.2.1.1, hpr.2.2.2.1.2.1, back_none kb1 hpr.2.2.2.1.2.1 hpr.2.2.2.1.2.2.1⟩
        · exact ⟨hpr.2.2.2.2.1.1, hpr.2.2.2.2.1.2.1, back_none kb1 hpr.2.2.2.2.1.2.1 hpr.2.2.2.2.1.2.2.1⟩
  · rintro v s' ⟨Fa, h', tk', r0, r1, r2, r3, r4, l0, l1, l2, l3, l4, c0, c1, c2, c3, c4, cF, rfl, rfl, R0, R1, R2, R3, R4, kp, hn, hm⟩
    simp only [List.forall_mem_cons, List.not_mem_nil, false_implies, implies_true, and_true] at hm
    obtain ⟨mF, m0, m1, m2, m3, m4⟩ := hm
    have aF := after_ne N mF.2.2
    have a0 := after_ne N m0.2.2
    have a1 := after_ne N m1.2.2
    have a2 := after_ne N m2.2.2
    have a3 := after_ne N m3.2.2
    have a4 := after_ne N m4.2.2
    have gF : ∀ {a : Addr}, hp.get? a = none → h₀.get? a = none := fun e => new_none F e
    have F' : Fr h₀ L h' m := fr_kept F kp hn
    have N' := news_add (news_add (news_add (news_add (news_add (news_add (news_kept N kp) m4.1 m4.2.1 (gF m4.2.2)) m3.1 m3.2.1 (gF m3.2.2)) m2.1 m2.2.1 (gF m2.2.2)) m1.1 m1.2.1 (gF m1.2.2)) m0.1 m0.2.1 (gF m0.2.2)) mF.1 mF.2.1 (gF mF.2.2)
    clear mF m0 m1 m2 m3 m4 kp hn F N gF
    have hall : ∀ a ∈ [Fa, r0, r1, r2, r3, r4], AllNe a (cells6 L oc1 oc2 oc3 oc4 oc5 oc6) := by
      simp only [List.forall_mem_cons, List.not_mem_nil, false_implies, implies_true, and_true]
      simp only [AllNe, and_true] at aF a0 a1 a2 a3 a4 ⊢
      exact ⟨aF.2.2, a0.2.2, a1.2.2, a2.2.2, a3.2.2, a4.2.2⟩
    have hK : Kp (∀ a ∈ [Fa, r0, r1, r2, r3, r4], AllNe a (cells6 L oc1 oc2 oc3 oc4 oc5 oc6)) := ⟨hall⟩
    clear hall
    simp only [AllNe, and_true] at aF a0 a1 a2 a3 a4
    obtain ⟨_, _, _, _, _, _, _, _⟩ := aF
    obtain ⟨_, _, _, _, _, _, _, _⟩ := a0
    obtain ⟨_, _, _, _, _, _, _, _⟩ := a1
    obtain ⟨_, _, _, _, _, _, _, _⟩ := a2
    obtain ⟨_, _, _, _, _, _, _, _⟩ := a3
    obtain ⟨_, _, _, _, _, _, _, _⟩ := a4
    w_strict (repeat' (first | (k_unfold; (try dsimp only)) | (dsimp only; k_unfold; (try dsimp only)) | ((with_reducible show wpAny _ _ (truthy (Value.bool _)) _ _ _); (refine wpAny_truthy_bool ?_; first | rw [if_pos rfl] | rw [if_neg (by decide)])) | ((with_reducible show wpAny _ _ (eval (Expr.IfExp _ _ _ _) _) _ _ _); (refine wpAny_IfExp ?_)) | ((with_reducible show wpAny _ _ (call (Value.ref _) _ _) _ _ _); (k_here; (with_reducible show wpAny _ _ (call (Value.ref 52) _) _ _ _); k_dflt (refine' lev_claim _ _ _ _ _ _ _ _ _ _ _ ?hG _ _ _ _ _ _ _ ?hX ?hT ?hd ?hu ?_; (case hG => with_reducible assumption); (case hX => (with_unfolding_all exact Frag.In.keeps (by k_asm) (Fr.keep (by k_asm)))); (case hT => (with_unfolding_all exact Top.keeps (by k_asm) (Fr.keep (by k_asm)))); (case hd => ((try dsimp only); omega)); (case hu => ((try dsimp only); omega))); intro v9q h9q tk9q K9q O9q; obtain ⟨t9q, ev9q⟩ := O9q; subst ev9q; (try dsimp only at K9q); (rename Fr _ _ _ _ => F8q); (rename News _ _ _ _ => N8q); (have F9q := after_fr F8q K9q); (have N9q := after_news N8q K9q); clear F8q N8q K9q)) | ((with_reducible show wpAny _ _ (compareOp .Lt (Value.int _ _) (Value.int _ _)) _ _ _); (k_here; first | (refine' lt_yes ?h ?_; (case h => with_reducible assumption)) | (refine' lt_no ?h ?_; (case h => with_reducible assumption)))) | ((with_reducible show wpAny _ _ (subscriptTail (Expr.Name _ _) (Expr.Name _ _) (Value.ref _) (Value.int _ _)) _ _ _); (k_here; k_dflt (refine' kim_list ?N ?m ?c ?d ?h0 ?hf ?x ?_; (case N => k_asm); (case m => k_mem); (case c => rfl); (case d => exact rfl); (case h0 => with_reducible assumption); (case hf => omega); (case x => with_reducible assumption)))) | ((with_reducible show wpAny _ _ (eval (Expr.Subscript _ _ _) _) _ _ _); (refine Subscript_ ?_)) | ((with_reducible show wpAny _ _ (eval (Expr.Name _ _) _) _ _ _); ((with_reducible show wpAny _ _ (eval (Expr.Name (Str.ofString "_levenshtein_distance") _) (compEnvC _ _ _ _)) _ _ _); k_dflt (refine LCgL.ld_global (by k_asm) (by k_asm) (by k_asm) (by k_is) ?_))) | ((with_reducible show wpAny _ _ (eval (Expr.Name _ _) _) _ _ _); ((with_reducible show wpAny _ _ (eval (Expr.Name (Str.ofString "k") _) (compEnvC _ _ _ _)) _ _ _); k_dflt (refine LCgL.ld_own (by k_asm) (by k_mem) (by with_reducible assumption) (by with_reducible assumption) ?_))) | ((with_reducible show wpAny _ _ (eval (Expr.Name _ _) _) _ _ _); ((with_reducible show wpAny _ _ (eval (Expr.Name (Str.ofString "names") _) (compEnvC _ _ _ _)) _ _ _); k_dflt (refine' lcf_cell ?N ?c ?m ?d ?_ ?a ?b; (case a => rfl); (case b => rfl); (case N => k_asm); (case c => rfl); (case m => k_mem); (case d => with_reducible assumption)))) | ((with_reducible show wpAny _ _ (eval (Expr.Name _ _) _) _ _ _); ((with_reducible show wpAny _ _ (eval (Expr.Name (Str.ofString "j") _) (compEnvC _ _ _ _)) _ _ _); k_dflt (refine' lcf_cell ?N ?c ?m ?d ?_ ?a ?b; (case a => rfl); (case b => rfl); (case N => k_asm); (case c => rfl); (case m => k_mem); (case d => with_reducible assumption)))) | walk1 | (dsimp only; first | ((with_reducible show wpAny _ _ (truthy (Value.bool _)) _ _ _); (refine wpAny_truthy_bool ?_; first | rw [if_pos rfl] | rw [if_neg (by decide)])) | ((with_reducible show wpAny _ _ (eval (Expr.IfExp _ _ _ _) _) _ _ _); (refine wpAny_IfExp ?_)) | ((with_reducible show wpAny _ _ (call (Value.ref _) _ _) _ _ _); (k_here; (with_reducible show wpAny _ _ (call (Value.ref 52) _) _ _ _); k_dflt (refine' lev_claim _ _ _ _ _ _ _ _ _ _ _ ?hG _ _ _ _ _ _ _ ?hX ?hT ?hd ?hu ?_; (case hG => with_reducible assumption); (case hX => (with_unfolding_all exact Frag.In.keeps (by k_asm) (Fr.keep (by k_asm)))); (case hT => (with_unfolding_all exact Top.keeps (by k_asm) (Fr.keep (by k_asm)))); (case hd => ((try dsimp only); omega)); (case hu => ((try dsimp only); omega))); intro v9q h9q tk9q K9q O9q; obtain ⟨t9q, ev9q⟩ := O9q; subst ev9q; (try dsimp only at K9q); (rename Fr _ _ _ _ => F8q); (rename News _ _ _ _ => N8q); (have F9q := after_fr F8q K9q); (have N9q := after_news N8q K9q); clear F8q N8q K9q)) | ((with_reducible show wpAny _ _ (compareOp .Lt (Value.int _ _) (Value.int _ _)) _ _ _); (k_here; first | (refine' lt_yes ?h ?_; (case h => with_reducible assumption)) | (refine' lt_no ?h ?_; (case h => with_reducible assumption)))) | ((with_reducible show wpAny _ _ (subscriptTail (Expr.Name _ _) (Expr.Name _ _) (Value.ref _) (Value.int _ _)) _ _ _); (k_here; k_dflt (refine' kim_list ?N ?m ?c ?d ?h0 ?hf ?x ?_; (case N => k_asm); (case m => k_mem); (case c => rfl); (case d => exact rfl); (case h0 => with_reducible assumption); (case hf => omega); (case x => with_reducible assumption)))) | ((with_reducible show wpAny _ _ (eval (Expr.Subscript _ _ _) _) _ _ _); (refine Subscript_ ?_)) | ((with_reducible show wpAny _ _ (eval (Expr.Name _ _) _) _ _ _); ((with_reducible show wpAny _ _ (eval (Expr.Name (Str.ofString "_levenshtein_distance") _) (compEnvC _ _ _ _)) _ _ _); k_dflt (refine LCgL.ld_global (by k_asm) (by k_asm) (by k_asm) (by k_is) ?_))) | ((with_reducible show wpAny _ _ (eval (Expr.Name _ _) _) _ _ _); ((with_reducible show wpAny _ _ (eval (Expr.Name (Str.ofString "k") _) (compEnvC _ _ _ _)) _ _ _); k_dflt (refine LCgL.ld_own (by k_asm) (by k_mem) (by with_reducible assumption) (by with_reducible assumption) ?_))) | ((with_reducible show wpAny _ _ (eval (Expr.Name _ _) _) _ _ _); ((with_reducible show wpAny _ _ (eval (Expr.Name (Str.ofString "names") _) (compEnvC _ _ _ _)) _ _ _); k_dflt (refine' lcf_cell ?N ?c ?m ?d ?_ ?a ?b; (case a => rfl); (case b => rfl); (case N => k_asm); (case c => rfl); (case m => k_mem); (case d => with_reducible assumption)))) | ((with_reducible show wpAny _ _ (eval (Expr.Name _ _) _) _ _ _); ((with_reducible show wpAny _ _ (eval (Expr.Name (Str.ofString "j") _) (compEnvC _ _ _ _)) _ _ _); k_dflt (refine' lcf_cell ?N ?c ?m ?d ?_ ?a ?b; (case a => rfl); (case b => rfl); (case N => k_asm); (case c => rfl); (case m => k_mem); (case d => with_reducible assumption)))) | walk1) | (leave1; walk_say "STEP leave1"; try dsimp only) | fail "no step"))
    dsimp only
    w_strict (repeat' (first | (k_unfold; (try dsimp only)) | (dsimp only; k_unfold; (try dsimp only)) | ((with_reducible show wpAny _ _ (truthy (Value.bool _)) _ _ _); (refine wpAny_truthy_bool ?_; first | rw [if_pos rfl] | rw [if_neg (by decide)])) | ((with_reducible show wpAny _ _ (eval (Expr.IfExp _ _ _ _) _) _ _ _); (refine wpAny_IfExp ?_)) | ((with_reducible show wpAny _ _ (call (Value.ref _) _ _) _ _ _); (k_here; (with_reducible show wpAny _ _ (call (Value.ref 52) _) _ _ _); k_dflt (refine' lev_claim _ _ _ _ _ _ _ _ _ _ _ ?hG _ _ _ _ _ _ _ ?hX ?hT ?hd ?hu ?_; (case hG => with_reducible assumption); (case hX => (with_unfolding_all exact Frag.In.keeps (by k_asm) (Fr.keep (by k_asm)))); (case hT => (with_unfolding_all exact Top.keeps (by k_asm) (Fr.keep (by k_asm)))); (case hd => ((try dsimp only); omega)); (case hu => ((try dsimp only); omega))); intro v9q h9q tk9q K9q O9q; obtain ⟨t9q, ev9q⟩ := O9q; subst ev9q; (try dsimp only at K9q); (rename Fr _ _ _ _ => F8q); (rename News _ _ _ _ => N8q); (have F9q := after_fr F8q K9q); (have N9q := after_news N8q K9q); clear F8q N8q K9q)) | ((with_reducible show wpAny _ _ (compareOp .Lt (Value.int _ _) (Value.int _ _)) _ _ _); (k_here; first | (refine' lt_yes ?h ?_; (case h => with_reducible assumption)) | (refine' lt_no ?h ?_; (case h => with_reducible assumption)))) | ((with_reducible show wpAny _ _ (subscriptTail (Expr.Name _ _) (Expr.Name _ _) (Value.ref _) (Value.int _ _)) _ _ _); (k_here; k_dflt (refine' kim_list ?N ?m ?c ?d ?h0 ?hf ?x ?_; (case N => k_asm); (case m => k_mem); (case c => rfl); (case d => exact rfl); (case h0 => with_reducible assumption); (case hf => omega); (case x => with_reducible assumption)))) | ((with_reducible show wpAny _ _ (eval (Expr.Subscript _ _ _) _) _ _ _); (refine Subscript_ ?_)) | ((with_reducible show wpAny _ _ (eval (Expr.Name _ _) _) _ _ _); ((with_reducible show wpAny _ _ (eval (Expr.Name (Str.ofString "_levenshtein_distance") _) (compEnvC _ _ _ _)) _ _ _); k_dflt (refine LCgL.ld_global (by k_asm) (by k_asm) (by k_asm) (by k_is) ?_))) | ((with_reducible show wpAny _ _ (eval (Expr.Name _ _) _) _ _ _); ((with_reducible show wpAny _ _ (eval (Expr.Name (Str.ofString "k") _) (compEnvC _ _ _ _)) _ _ _); k_dflt (refine LCgL.ld_own (by k_asm) (by k_mem) (by with_reducible assumption) (by with_reducible assumption) ?_))) | ((with_reducible show wpAny _ _ (eval (Expr.Name _ _) _) _ _ _); ((with_reducible show wpAny _ _ (eval (Expr.Name (Str.ofString "names") _) (compEnvC _ _ _ _)) _ _ _); k_dflt (refine' lcf_cell ?N ?c ?m ?d ?_ ?a ?b; (case a => rfl); (case b => rfl); (case N => k_asm); (case c => rfl); (case m => k_mem); (case d => with_reducible assumption)))) | ((with_reducible show wpAny _ _ (eval (Expr.Name _ _) _) _ _ _); ((with_reducible show wpAny _ _ (eval (Expr.Name (Str.ofString "j") _) (compEnvC _ _ _ _)) _ _ _); k_dflt (refine' lcf_cell ?N ?c ?m ?d ?_ ?a ?b; (case a => rfl); (case b => rfl); (case N => k_asm); (case c => rfl); (case m => k_mem); (case d => with_reducible assumption)))) | walk1 | (dsimp only; first | ((with_reducible show wpAny _ _ (truthy (Value.bool _)) _ _ _); (refine wpAny_truthy_bool ?_; first | rw [if_pos rfl] | rw [if_neg (by decide)])) | ((with_reducible show wpAny _ _ (eval (Expr.IfExp _ _ _ _) _) _ _ _); (refine wpAny_IfExp ?_)) | ((with_reducible show wpAny _ _ (call (Value.ref _) _ _) _ _ _); (k_here; (with_reducible show wpAny _ _ (call (Value.ref 52) _) _ _ _); k_dflt (refine' lev_claim _ _ _ _ _ _ _ _ _ _ _ ?hG _ _ _ _ _ _ _ ?hX ?hT ?hd ?hu ?_; (case hG => with_reducible assumption); (case hX => (with_unfolding_all exact Frag.In.keeps (by k_asm) (Fr.keep (by k_asm)))); (case hT => (with_unfolding_all exact Top.keeps (by k_asm) (Fr.keep (by k_asm)))); (case hd => ((try dsimp only); omega)); (case hu => ((try dsimp only); omega))); intro v9q h9q tk9q K9q O9q; obtain ⟨t9q, ev9q⟩ := O9q; subst ev9q; (try dsimp only at K9q); (rename Fr _ _ _ _ => F8q); (rename News _ _ _ _ => N8q); (have F9q := after_fr F8q K9q); (have N9q := after_news N8q K9q); clear F8q N8q K9q)) | ((with_reducible show wpAny _ _ (compareOp .Lt (Value.int _ _) (Value.int _ _)) _ _ _); (k_here; first | (refine' lt_yes ?h ?_; (case h => with_reducible assumption)) | (refine' lt_no ?h ?_; (case h => with_reducible assumption)))) | ((with_reducible show wpAny _ _ (subscriptTail (Expr.Name _ _) (Expr.Name _ _) (Value.ref _) (Value.int _ _)) _ _ _); (k_here; k_dflt (refine' kim_list ?N ?m ?c ?d ?h0 ?hf ?x ?_; (case N => k_asm); (case m => k_mem); (case c => rfl); (case d => exact rfl); (case h0 => with_reducible assumption); (case hf => omega); (case x => with_reducible assumption)))) | ((with_reducible show wpAny _ _ (eval (Expr.Subscript _ _ _) _) _ _ _); (refine Subscript_ ?_)) | ((with_reducible show wpAny _ _ (eval (Expr.Name _ _) _) _ _ _); ((with_reducible show wpAny _ _ (eval (Expr.Name (Str.ofString "_levenshtein_distance") _) (compEnvC _ _ _ _)) _ _ _); k_dflt (refine LCgL.ld_global (by k_asm) (by k_asm) (by k_asm) (by k_is) ?_))) | ((with_reducible show wpAny _ _ (eval (Expr.Name _ _) _) _ _ _); ((with_reducible show wpAny _ _ (eval (Expr.Name (Str.ofString "k") _) (compEnvC _ _ _ _)) _ _ _); k_dflt (refine LCgL.ld_own (by k_asm) (by k_mem) (by with_reducible assumption) (by with_reducible assumption) ?_))) | ((with_reducible show wpAny _ _ (eval (Expr.Name _ _) _) _ _ _); ((with_reducible show wpAny _ _ (eval (Expr.Name (Str.ofString "names") _) (compEnvC _ _ _ _)) _ _ _); k_dflt (refine' lcf_cell ?N ?c ?m ?d ?_ ?a ?b; (case a => rfl); (case b => rfl); (case N => k_asm); (case c => rfl); (case m => k_mem); (case d => with_reducible assumption)))) | ((with_reducible show wpAny _ _ (eval (Expr.Name _ _) _) _ _ _); ((with_reducible show wpAny _ _ (eval (Expr.Name (Str.ofString "j") _) (compEnvC _ _ _ _)) _ _ _); k_dflt (refine' lcf_cell ?N ?c ?m ?d ?_ ?a ?b; (case a => rfl); (case b => rfl); (case N => k_asm); (case c => rfl); (case m => k_mem); (case d => with_reducible assumption)))) | walk1) | (leave1; walk_say "STEP leave1"; try dsimp only) | fail "no step"))
    refine wpAny_execs_nil ?_
    rename Fr _ _ _ _ => F7
    rename News _ _ _ _ => N7
    refine hret _ _ Fa cF r0 r1 r2 r3 r4 l0 l1 l2 l3 l4 c0 c1 c2 c3 c4 _ (by with_reducible assumption) R0 R1 R2 R3 R4 hK.out F7 (fun p hp => N7 p ?_)
    simp only [far5, cells6, List.mem_cons, List.not_mem_nil, or_false] at hp ⊢
    exact hp

end Mine
end

section
open PySem PySem.W PyProof.Rows PySem.Calls
set_option maxHeartbeats 8000000
namespace Mine
noncomputable def outStmt (i : Nat) : List Stmt := (outBody.drop i).take 1
def grp (o : Int) : List Int := [0, 1, 2, 3, 4].filter fun k => decide (k ≠ o)
def L5 : List Int := [0, 1, 2, 3, 4]
theorem at5 {i : Nat} (h : i < 5) : L5[i]? = some (i : Int) := by
  rcases i with _ | _ | _ | _ | _ | i
  · rfl
  · rfl
  · rfl
  · rfl
  · rfl
  · omega
section
variable {prog : Program} {w : World} {A : Around} {E : Value → Shared → Prop} {s : Shared} {Q : Value → Shared → Prop} {a b : Int} {t u : Tok}
theorem ne_yes (h : a ≠ b) (hq : Q (.bool true) s) : wpAny (model prog w) A (compareOp .NotEq (.int a t) (.int b u)) Q E s := ne_int (by rw [bne_iff_ne.mpr h]; exact hq)
theorem ne_no (h : a = b) (hq : Q (.bool false) s) : wpAny (model prog w) A (compareOp .NotEq (.int a t) (.int b u)) Q E s := ne_int (by rw [h, bne_self_eq_false]; exact hq)
end
local macro_rules | `(tactic| k_all) => `(tactic| with_reducible assumption)
theorem ga_claim (w : World) (p : Program) (loose : List Str) (mean : ExcName → Option Value) (mg mb : Str → Option Value) (fa : Addr) (cd : Value) (h₀ : Heap) (L : Addr) (m : Str → Option Value) (o : Int) (to : Tok) (oc4 oc5 : Obj) (v5 : Option Value) (rest : List (Addr × Obj))
  (hc4 : oc4.data = .cell (some (.int o to))) (hc5 : oc5.data = .cell v5) (r5 : ∀ q ∈ rest, q.1 ≠ L + 5)
  (dp un : Nat) (gd : Option (List Code)) (fl : List Env) (s : Shared) (Q : Flow → Shared → Prop) (E : Value → Shared → Prop)
  (X : (Mine.hd.heap_39 w.params).In h₀) (T : Top p loose mean mg mb h₀) (hd : dp + 3 < recursionLimit) (hu : un + 100 < cLine)
  (F : Fr h₀ L s.heap m)
  (N : News h₀ L s.heap ((L + 5, oc5) :: (L + 4, oc4) :: rest))
  (hret : ∀ h' tk' G gv c oc5', oc5'.data = .cell (some (.ref G)) → IntsAre gv (grp o) → s.heap.get? G = none → Fr h₀ L h' m → News h₀ L h' ((G, listOf gv.toArray c) :: (L + 5, oc5') :: (L + 4, oc4) :: rest) → Q .next { s with heap := h', toks := tk' }) :
  wpAny (model PySem.Challenge.rw_pg0276_01.row.prog w) { handled := none, depth := dp, frames := some fl, guards := gd, units := un } (execs (outStmt 0) (envOfC (Str.ofString "law") lawScope L fa cd)) Q E s := by
  w_on
  obtain ⟨hp, gens, drawn, tk, os⟩ := s
  dsimp only at F N hret
  have eb : outStmt 0 = outStmt 0 := rfl
  conv at eb => { rhs; whnf }
  rw [eb]
  clear eb
  w_strict (repeat' (first | (k_unfold; (try dsimp only)) | (dsimp only; k_unfold; (try dsimp only)) | ((with_reducible show wpAny _ _ (eval (Expr.ListComp _ _ _ _) _) _ _ _); (refine Mark.to ?_)) | ((with_reducible show wpAny _ _ (truthy (Value.bool _)) _ _ _); (refine wpAny_truthy_bool ?_; try first | rw [if_pos rfl] | rw [if_neg (by decide)])) | ((with_reducible show wpAny _ _ (compareOp .NotEq (Value.int _ _) (Value.int _ _)) _ _ _); (k_here; first | (refine' ne_yes ?h ?_; (case h => with_reducible assumption)) | (refine' ne_no ?h ?_; (case h => with_reducible assumption)))) | ((with_reducible show wpAny _ _ (eval (Expr.Name _ _) _) _ _ _); ((with_reducible show wpAny _ _ (eval (Expr.Name (Str.ofString "k") _) (compEnvC _ _ _ _)) _ _ _); k_dflt (refine LCgL.ld_own (by k_asm) (by k_mem) (by with_reducible assumption) (by with_reducible assumption) ?_))) | ((with_reducible show wpAny _ _ (eval (Expr.Name _ _) _) _ _ _); ((with_reducible show wpAny _ _ (eval (Expr.Name (Str.ofString "out") _) (compEnvC _ _ _ _)) _ _ _); k_dflt (refine' lcf_cell ?N ?c ?m ?d ?_ ?a ?b; (case a => rfl); (case b => rfl); (case N => k_asm); (case c => rfl); (case m => k_mem); (case d => with_reducible assumption)))) | walk1 | (dsimp only; first | ((with_reducible show wpAny _ _ (eval (Expr.ListComp _ _ _ _) _) _ _ _); (refine Mark.to ?_)) | ((with_reducible show wpAny _ _ (truthy (Value.bool _)) _ _ _); (refine wpAny_truthy_bool ?_; try first | rw [if_pos rfl] | rw [if_neg (by decide)])) | ((with_reducible show wpAny _ _ (compareOp .NotEq (Value.int _ _) (Value.int _ _)) _ _ _); (k_here; first | (refine' ne_yes ?h ?_; (case h => with_reducible assumption)) | (refine' ne_no ?h ?_; (case h => with_reducible assumption)))) | ((with_reducible show wpAny _ _ (eval (Expr.Name _ _) _) _ _ _); ((with_reducible show wpAny _ _ (eval (Expr.Name (Str.ofString "k") _) (compEnvC _ _ _ _)) _ _ _); k_dflt (refine LCgL.ld_own (by k_asm) (by k_mem) (by with_reducible assumption) (by with_reducible assumption) ?_))) | ((with_reducible show wpAny _ _ (eval (Expr.Name _ _) _) _ _ _); ((with_reducible show wpAny _ _ (eval (Expr.Name (Str.ofString "out") _) (compEnvC _ _ _ _)) _ _ _); k_dflt (refine' lcf_cell ?N ?c ?m ?d ?_ ?a ?b; (case a => rfl); (case b => rfl); (case N => k_asm); (case c => rfl); (case m => k_mem); (case d => with_reducible assumption)))) | walk1) | (leave1; walk_say "STEP leave1"; try dsimp only) | fail "no step"))
  refine Mark.mk ?_
  refine wpAny_mono (E := E) (Q := fun v s' => Leaf <| ∃ G h' tk' gv c, v = .ref G ∧ s' = { heap := h', gens := gens, drawn := drawn, toks := tk', os := os } ∧ IntsAre gv (grp o) ∧ (∀ b o, b ≠ L → hp.get? b = some o → h'.get? b = some o) ∧ h'.Ns L m ∧ h'.get? G = some (listOf gv.toArray c) ∧ G ≠ L ∧ hp.get? G = none) ?_ ?_ fun _ _ e => e
  · have F0 : Kp (Fr h₀ L hp m) := ⟨F⟩
    have Na := news_above N
    obtain ⟨rest1, er⟩ : ∃ rest, rest = above h₀ L hp := ⟨_, rfl⟩
    rw [← er] at Na
    simp only [List.cons_append] at Na
    clear N
    refine eval_range (h₀ := h₀) (L := L) (m := m) (by first | exact .inl rfl | exact .inr ⟨_, _, _, rfl⟩) (by with_unfolding_all rfl) (by decide) rfl (by decide) (by rfl) rfl
      (fun i _ ys Pr => Pr = [] ∧ ys.length ≤ i ∧ IntsAre ys ((L5.take i).filter fun k => decide (k ≠ o))) ?_
    w_strict (repeat' (first | (k_unfold; (try dsimp only)) | (dsimp only; k_unfold; (try dsimp only)) | ((with_reducible show wpAny _ _ (eval (Expr.ListComp _ _ _ _) _) _ _ _); (refine Mark.to ?_)) | ((with_reducible show wpAny _ _ (truthy (Value.bool _)) _ _ _); (refine wpAny_truthy_bool ?_; try first | rw [if_pos rfl] | rw [if_neg (by decide)])) | ((with_reducible show wpAny _ _ (compareOp .NotEq (Value.int _ _) (Value.int _ _)) _ _ _); (k_here; first | (refine' ne_yes ?h ?_; (case h => with_reducible assumption)) | (refine' ne_no ?h ?_; (case h => with_reducible assumption)))) | ((with_reducible show wpAny _ _ (eval (Expr.Name _ _) _) _ _ _); ((with_reducible show wpAny _ _ (eval (Expr.Name (Str.ofString "k") _) (compEnvC _ _ _ _)) _ _ _); k_dflt (refine LCgL.ld_own (by k_asm) (by k_mem) (by with_reducible assumption) (by with_reducible assumption) ?_))) | ((with_reducible show wpAny _ _ (eval (Expr.Name _ _) _) _ _ _); ((with_reducible show wpAny _ _ (eval (Expr.Name (Str.ofString "out") _) (compEnvC _ _ _ _)) _ _ _); k_dflt (refine' lcf_cell ?N ?c ?m ?d ?_ ?a ?b; (case a => rfl); (case b => rfl); (case N => k_asm); (case c => rfl); (case m => k_mem); (case d => with_reducible assumption)))) | walk1 | (dsimp only; first | ((with_reducible show wpAny _ _ (eval (Expr.ListComp _ _ _ _) _) _ _ _); (refine Mark.to ?_)) | ((with_reducible show wpAny _ _ (truthy (Value.bool _)) _ _ _); (refine wpAny_truthy_bool ?_; try first | rw [if_pos rfl] | rw [if_neg (by decide)])) | ((with_reducible show wpAny _ _ (compareOp .NotEq (Value.int _ _) (Value.int _ _)) _ _ _); (k_here; first | (refine' ne_yes ?h ?_; (case h => with_reducible assumption)) | (refine' ne_no ?h ?_; (case h => with_reducible assumption)))) | ((with_reducible show wpAny _ _ (eval (Expr.Name _ _) _) _ _ _); ((with_reducible show wpAny _ _ (eval (Expr.Name (Str.ofString "k") _) (compEnvC _ _ _ _)) _ _ _); k_dflt (refine LCgL.ld_own (by k_asm) (by k_mem) (by with_reducible assumption) (by with_reducible assumption) ?_))) | ((with_reducible show wpAny _ _ (eval (Expr.Name _ _) _) _ _ _); ((with_reducible show wpAny _ _ (eval (Expr.Name (Str.ofString "out") _) (compEnvC _ _ _ _)) _ _ _); k_dflt (refine' lcf_cell ?N ?c ?m ?d ?_ ?a ?b; (case a => rfl); (case b => rfl); (case N => k_asm); (case c => rfl); (case m => k_mem); (case d => with_reducible assumption)))) | walk1) | (leave1; walk_say "STEP leave1"; try dsimp only) | fail "no step"))
    rename IsRange _ _ _ _ _ _ _ _ => hr
    rename Fr _ _ _ _ => F1
    rename News _ _ _ _ => N1
    (try dsimp only at F1 N1)
    have kb1 := kept_of (h₀ := h₀) (m := m) F0.out F1 (fun q hq => (N1 q (by rw [← er] at hq; simp only [List.mem_cons, List.mem_append]; simp only [hq, or_true])).1)
    refine Leaf.mk ⟨_, _, _, _, _, _, 5, rfl, hr, by first | decide | rfl, by first | rfl | decide, F1, ?_, ⟨rfl, Nat.le_refl _, .nil⟩, ?_⟩
    · intro C I D i v oI mC ys Pr h tk2 K hv hY S
      obtain ⟨hi, tj, rfl⟩ := hv
      dsimp only at S ⊢
      obtain ⟨rfl, hlen, hys⟩ := hY
      obtain ⟨k, ek⟩ : ∃ k : Int, k = 0 + (i : Int) := ⟨_, rfl⟩
      rw [← ek] at S
      have e5 : L5[i]? = some k := by rw [at5 hi, ek, Int.zero_add]
      obtain ⟨m₂, em₂⟩ : ∃ m₂, m₂ = (fun y => if y = Str.ofString "k" then some (Value.int k tj) else mC y) := ⟨_, rfl⟩
      have hm₂ : m₂ (Str.ofString "k") = some (.int k tj) := by rw [em₂]; exact if_pos rfl
      rw [← em₂] at S
      have walkable : ∀ h' : Heap, Stt L m _ (CFp C) [C] D m₂ ys [(I, oI)] h' → ∃ oC, LCg.NsObj oC m₂ ∧ Fr h₀ L h' m ∧ News h₀ L h' ((C, oC) :: (L + 4, oc4) :: above h₀ L h') := fun h' S' => by
        have F2 : Fr h₀ L h' m := fr_kept F1 S'.kb S'.ns
        have N2 := news_kept N1 S'.kb
        obtain ⟨oC, eC, hoC⟩ := LCg.ns_obj S'.cf
        obtain ⟨_, cL, cn, _⟩ := S'.fa C (.head _)
        have cn0 := new_none F1 cn
        exact ⟨oC, hoC, F2, news_above (news := [(C, oC), (L + 4, oc4)]) fun q hq => by
          simp only [List.mem_cons, List.not_mem_nil, or_false] at hq
          rcases hq with rfl | rfl
          · exact ⟨eC, cL, cn0⟩
          · exact N2 _ (by k_mem)⟩
      refine turn_test (s := { heap := h, gens := gens, drawn := drawn, toks := tk2, os := os }) (tk := tk2) K S (decide (k ≠ o)) (fun E' => ?_) (fun hB h' tk' S' E' => ?_) (fun hB h' tk' S' => ?_)
      · obtain ⟨oC, hoC, F2, N2⟩ := walkable h S
        obtain ⟨rest3, er3⟩ : ∃ rest, rest = above h₀ L h := ⟨_, rfl⟩
        rw [← er3] at N2
        have F2' : Kp (Fr h₀ L h m) := ⟨F2⟩
        clear walkable S K N1 F1 hret hr
        by_cases hko : k = o
        · rw [decide_eq_false (fun q => q hko)]
          w_strict (repeat' (first | (k_unfold; (try dsimp only)) | (dsimp only; k_unfold; (try dsimp only)) | ((with_reducible show wpAny _ _ (eval (Expr.ListComp _ _ _ _) _) _ _ _); (refine Mark.to ?_)) | ((with_reducible show wpAny _ _ (truthy (Value.bool _)) _ _ _); (refine wpAny_truthy_bool ?_; try first | rw [if_pos rfl] | rw [if_neg (by decide)])) | ((with_reducible show wpAny _ _ (compareOp .NotEq (Value.int _ _) (Value.int _ _)) _ _ _); (k_here; first | (refine' ne_yes ?h ?_; (case h => with_reducible assumption)) | (refine' ne_no ?h ?_; (case h => with_reducible assumption)))) | ((with_reducible show wpAny _ _ (eval (Expr.Name _ _) _) _ _ _); ((with_reducible show wpAny _ _ (eval (Expr.Name (Str.ofString "k") _) (compEnvC _ _ _ _)) _ _ _); k_dflt (refine LCgL.ld_own (by k_asm) (by k_mem) (by with_reducible assumption) (by with_reducible assumption) ?_))) | ((with_reducible show wpAny _ _ (eval (Expr.Name _ _) _) _ _ _); ((with_reducible show wpAny _ _ (eval (Expr.Name (Str.ofString "out") _) (compEnvC _ _ _ _)) _ _ _); k_dflt (refine' lcf_cell ?N ?c ?m ?d ?_ ?a ?b; (case a => rfl); (case b => rfl); (case N => k_asm); (case c => rfl); (case m => k_mem); (case d => with_reducible assumption)))) | walk1 | (dsimp only; first | ((with_reducible show wpAny _ _ (eval (Expr.ListComp _ _ _ _) _) _ _ _); (refine Mark.to ?_)) | ((with_reducible show wpAny _ _ (truthy (Value.bool _)) _ _ _); (refine wpAny_truthy_bool ?_; try first | rw [if_pos rfl] | rw [if_neg (by decide)])) | ((with_reducible show wpAny _ _ (compareOp .NotEq (Value.int _ _) (Value.int _ _)) _ _ _); (k_here; first | (refine' ne_yes ?h ?_; (case h => with_reducible assumption)) | (refine' ne_no ?h ?_; (case h => with_reducible assumption)))) | ((with_reducible show wpAny _ _ (eval (Expr.Name _ _) _) _ _ _); ((with_reducible show wpAny _ _ (eval (Expr.Name (Str.ofString "k") _) (compEnvC _ _ _ _)) _ _ _); k_dflt (refine LCgL.ld_own (by k_asm) (by k_mem) (by with_reducible assumption) (by with_reducible assumption) ?_))) | ((with_reducible show wpAny _ _ (eval (Expr.Name _ _) _) _ _ _); ((with_reducible show wpAny _ _ (eval (Expr.Name (Str.ofString "out") _) (compEnvC _ _ _ _)) _ _ _); k_dflt (refine' lcf_cell ?N ?c ?m ?d ?_ ?a ?b; (case a => rfl); (case b => rfl); (case N => k_asm); (case c => rfl); (case m => k_mem); (case d => with_reducible assumption)))) | walk1) | (leave1; walk_say "STEP leave1"; try dsimp only) | fail "no step"))
          (try dsimp only)
          rename Fr _ _ _ _ => F9
          rename News _ _ _ _ => N9
          (try dsimp only at F9 N9)
          exact Leaf.mk ⟨rfl, _, _, rfl, F9.ns, kept_of (h₀ := h₀) (m := m) F2'.out F9 (fun q hq => (N9 q (by rw [← er3] at hq; simp only [List.mem_cons]; simp only [hq, or_true])).1)⟩
        · rw [decide_eq_true hko]
          have hko' : k ≠ o := hko
          clear hko
          w_strict (repeat' (first | (k_unfold; (try dsimp only)) | (dsimp only; k_unfold; (try dsimp only)) | ((with_reducible show wpAny _ _ (eval (Expr.ListComp _ _ _ _) _) _ _ _); (refine Mark.to ?_)) | ((with_reducible show wpAny _ _ (truthy (Value.bool _)) _ _ _); (refine wpAny_truthy_bool ?_; try first | rw [if_pos rfl] | rw [if_neg (by decide)])) | ((with_reducible show wpAny _ _ (compareOp .NotEq (Value.int _ _) (Value.int _ _)) _ _ _); (k_here; first | (refine' ne_yes ?h ?_; (case h => with_reducible assumption)) | (refine' ne_no ?h ?_; (case h => with_reducible assumption)))) | ((with_reducible show wpAny _ _ (eval (Expr.Name _ _) _) _ _ _); ((with_reducible show wpAny _ _ (eval (Expr.Name (Str.ofString "k") _) (compEnvC _ _ _ _)) _ _ _); k_dflt (refine LCgL.ld_own (by k_asm) (by k_mem) (by with_reducible assumption) (by with_reducible assumption) ?_))) | ((with_reducible show wpAny _ _ (eval (Expr.Name _ _) _) _ _ _); ((with_reducible show wpAny _ _ (eval (Expr.Name (Str.ofString "out") _) (compEnvC _ _ _ _)) _ _ _); k_dflt (refine' lcf_cell ?N ?c ?m ?d ?_ ?a ?b; (case a => rfl); (case b => rfl); (case N => k_asm); (case c => rfl); (case m => k_mem); (case d => with_reducible assumption)))) | walk1 | (dsimp only; first | ((with_reducible show wpAny _ _ (eval (Expr.ListComp _ _ _ _) _) _ _ _); (refine Mark.to ?_)) | ((with_reducible show wpAny _ _ (truthy (Value.bool _)) _ _ _); (refine wpAny_truthy_bool ?_; try first | rw [if_pos rfl] | rw [if_neg (by decide)])) | ((with_reducible show wpAny _ _ (compareOp .NotEq (Value.int _ _) (Value.int _ _)) _ _ _); (k_here; first | (refine' ne_yes ?h ?_; (case h => with_reducible assumption)) | (refine' ne_no ?h ?_; (case h => with_reducible assumption)))) | ((with_reducible show wpAny _ _ (eval (Expr.Name _ _) _) _ _ _); ((with_reducible show wpAny _ _ (eval (Expr.Name (Str.ofString "k") _) (compEnvC _ _ _ _)) _ _ _); k_dflt (refine LCgL.ld_own (by k_asm) (by k_mem) (by with_reducible assumption) (by with_reducible assumption) ?_))) | ((with_reducible show wpAny _ _ (eval (Expr.Name _ _) _) _ _ _); ((with_reducible show wpAny _ _ (eval (Expr.Name (Str.ofString "out") _) (compEnvC _ _ _ _)) _ _ _); k_dflt (refine' lcf_cell ?N ?c ?m ?d ?_ ?a ?b; (case a => rfl); (case b => rfl); (case N => k_asm); (case c => rfl); (case m => k_mem); (case d => with_reducible assumption)))) | walk1) | (leave1; walk_say "STEP leave1"; try dsimp only) | fail "no step"))
          (try dsimp only)
          rename Fr _ _ _ _ => F9
          rename News _ _ _ _ => N9
          (try dsimp only at F9 N9)
          exact Leaf.mk ⟨rfl, _, _, rfl, F9.ns, kept_of (h₀ := h₀) (m := m) F2'.out F9 (fun q hq => (N9 q (by rw [← er3] at hq; simp only [List.mem_cons]; simp only [hq, or_true])).1)⟩
      · obtain ⟨oC, hoC, F2, N2⟩ := walkable h' S'
        obtain ⟨rest3, er3⟩ : ∃ rest, rest = above h₀ L h' := ⟨_, rfl⟩
        rw [← er3] at N2
        have F2' : Kp (Fr h₀ L h' m) := ⟨F2⟩
        have hko : k ≠ o := of_decide_eq_true hB
        refine' body_val (s := { heap := h', gens := gens, drawn := drawn, toks := tk', os := os }) (tk := tk') (Z := fun v => ∃ t, v = .int k t) K ?hg S' ?hs ?_ ?_
        case hg => rfl
        case hs => (rw [sizeLine_eq]; omega)
        · clear walkable S S' K N1 F1 hret hr hB
          w_strict (repeat' (first | (k_unfold; (try dsimp only)) | (dsimp only; k_unfold; (try dsimp only)) | ((with_reducible show wpAny _ _ (eval (Expr.ListComp _ _ _ _) _) _ _ _); (refine Mark.to ?_)) | ((with_reducible show wpAny _ _ (truthy (Value.bool _)) _ _ _); (refine wpAny_truthy_bool ?_; try first | rw [if_pos rfl] | rw [if_neg (by decide)])) | ((with_reducible show wpAny _ _ (compareOp .NotEq (Value.int _ _) (Value.int _ _)) _ _ _); (k_here; first | (refine' ne_yes ?h ?_; (case h => with_reducible assumption)) | (refine' ne_no ?h ?_; (case h => with_reducible assumption)))) | ((with_reducible show wpAny _ _ (eval (Expr.Name _ _) _) _ _ _); ((with_reducible show wpAny _ _ (eval (Expr.Name (Str.ofString "k") _) (compEnvC _ _ _ _)) _ _ _); k_dflt (refine LCgL.ld_own (by k_asm) (by k_mem) (by with_reducible assumption) (by with_reducible assumption) ?_))) | ((with_reducible show wpAny _ _ (eval (Expr.Name _ _) _) _ _ _); ((with_reducible show wpAny _ _ (eval (Expr.Name (Str.ofString "out") _) (compEnvC _ _ _ _)) _ _ _); k_dflt (refine' lcf_cell ?N ?c ?m ?d ?_ ?a ?b; (case a => rfl); (case b => rfl); (case N => k_asm); (case c => rfl); (case m => k_mem); (case d => with_reducible assumption)))) | walk1 | (dsimp only; first | ((with_reducible show wpAny _ _ (eval (Expr.ListComp _ _ _ _) _) _ _ _); (refine Mark.to ?_)) | ((with_reducible show wpAny _ _ (truthy (Value.bool _)) _ _ _); (refine wpAny_truthy_bool ?_; try first | rw [if_pos rfl] | rw [if_neg (by decide)])) | ((with_reducible show wpAny _ _ (compareOp .NotEq (Value.int _ _) (Value.int _ _)) _ _ _); (k_here; first | (refine' ne_yes ?h ?_; (case h => with_reducible assumption)) | (refine' ne_no ?h ?_; (case h => with_reducible assumption)))) | ((with_reducible show wpAny _ _ (eval (Expr.Name _ _) _) _ _ _); ((with_reducible show wpAny _ _ (eval (Expr.Name (Str.ofString "k") _) (compEnvC _ _ _ _)) _ _ _); k_dflt (refine LCgL.ld_own (by k_asm) (by k_mem) (by with_reducible assumption) (by with_reducible assumption) ?_))) | ((with_reducible show wpAny _ _ (eval (Expr.Name _ _) _) _ _ _); ((with_reducible show wpAny _ _ (eval (Expr.Name (Str.ofString "out") _) (compEnvC _ _ _ _)) _ _ _); k_dflt (refine' lcf_cell ?N ?c ?m ?d ?_ ?a ?b; (case a => rfl); (case b => rfl); (case N => k_asm); (case c => rfl); (case m => k_mem); (case d => with_reducible assumption)))) | walk1) | (leave1; walk_say "STEP leave1"; try dsimp only) | fail "no step"))
          (try dsimp only)
          rename Fr _ _ _ _ => F9
          rename News _ _ _ _ => N9
          (try dsimp only at F9 N9)
          exact Leaf.mk ⟨_, _, rfl, F9.ns, kept_of (h₀ := h₀) (m := m) F2'.out F9 (fun q hq => (N9 q (by rw [← er3] at hq; simp only [List.mem_cons]; simp only [hq, or_true])).1), _, rfl⟩
        · intro y h5 tk5 hZ S''
          obtain ⟨t, rfl⟩ := hZ
          refine ⟨h5, tk5, _, _, _, rfl, S'', rfl, by simp; omega, ?_⟩
          rw [take_snoc e5, List.filter_append]
          have e6 : [k].filter (fun k => decide (k ≠ o)) = [k] := by simp [hko]
          rw [e6]
          exact hys.append (.cons _ _ .nil)
      · have hko : k = o := by simpa using hB
        refine ⟨h', tk', _, _, _, rfl, S', rfl, by omega, ?_⟩
        rw [take_snoc e5, List.filter_append]
        have e6 : [k].filter (fun k => decide (k ≠ o)) = [] := by simp [hko]
        rw [e6, List.append_nil]
        exact hys
    · intro C D h tk2 mC ys Pr S hY
      obtain ⟨rfl, hlen, hys⟩ := hY
      dsimp only at S
      exact post_none S fun h' O => Leaf.mk ⟨D, h', tk2, ys, _, rfl, rfl, hys, fun b o hb e => O.kb b o hb (kb1 b o hb e), O.ns, O.d, O.dd.1, back_none kb1 O.dd.1 O.dd.2⟩
  · rintro v s' ⟨G, h', tk', gv, c, rfl, rfl, hI, kp, hn, hG, gL, hg⟩
    have aG := after_ne N hg
    have g0 := new_none F hg
    have F' : Fr h₀ L h' m := fr_kept F kp hn
    have N' := news_add (news_kept N kp) hG gL g0
    clear hG gL g0 kp hn F N
    simp only [AllNe] at aG
    obtain ⟨_, _, _⟩ := aG
    w_strict (repeat' (first | (k_unfold; (try dsimp only)) | (dsimp only; k_unfold; (try dsimp only)) | ((with_reducible show wpAny _ _ (eval (Expr.ListComp _ _ _ _) _) _ _ _); (refine Mark.to ?_)) | ((with_reducible show wpAny _ _ (truthy (Value.bool _)) _ _ _); (refine wpAny_truthy_bool ?_; try first | rw [if_pos rfl] | rw [if_neg (by decide)])) | ((with_reducible show wpAny _ _ (compareOp .NotEq (Value.int _ _) (Value.int _ _)) _ _ _); (k_here; first | (refine' ne_yes ?h ?_; (case h => with_reducible assumption)) | (refine' ne_no ?h ?_; (case h => with_reducible assumption)))) | ((with_reducible show wpAny _ _ (eval (Expr.Name _ _) _) _ _ _); ((with_reducible show wpAny _ _ (eval (Expr.Name (Str.ofString "k") _) (compEnvC _ _ _ _)) _ _ _); k_dflt (refine LCgL.ld_own (by k_asm) (by k_mem) (by with_reducible assumption) (by with_reducible assumption) ?_))) | ((with_reducible show wpAny _ _ (eval (Expr.Name _ _) _) _ _ _); ((with_reducible show wpAny _ _ (eval (Expr.Name (Str.ofString "out") _) (compEnvC _ _ _ _)) _ _ _); k_dflt (refine' lcf_cell ?N ?c ?m ?d ?_ ?a ?b; (case a => rfl); (case b => rfl); (case N => k_asm); (case c => rfl); (case m => k_mem); (case d => with_reducible assumption)))) | walk1 | (dsimp only; first | ((with_reducible show wpAny _ _ (eval (Expr.ListComp _ _ _ _) _) _ _ _); (refine Mark.to ?_)) | ((with_reducible show wpAny _ _ (truthy (Value.bool _)) _ _ _); (refine wpAny_truthy_bool ?_; try first | rw [if_pos rfl] | rw [if_neg (by decide)])) | ((with_reducible show wpAny _ _ (compareOp .NotEq (Value.int _ _) (Value.int _ _)) _ _ _); (k_here; first | (refine' ne_yes ?h ?_; (case h => with_reducible assumption)) | (refine' ne_no ?h ?_; (case h => with_reducible assumption)))) | ((with_reducible show wpAny _ _ (eval (Expr.Name _ _) _) _ _ _); ((with_reducible show wpAny _ _ (eval (Expr.Name (Str.ofString "k") _) (compEnvC _ _ _ _)) _ _ _); k_dflt (refine LCgL.ld_own (by k_asm) (by k_mem) (by with_reducible assumption) (by with_reducible assumption) ?_))) | ((with_reducible show wpAny _ _ (eval (Expr.Name _ _) _) _ _ _); ((with_reducible show wpAny _ _ (eval (Expr.Name (Str.ofString "out") _) (compEnvC _ _ _ _)) _ _ _); k_dflt (refine' lcf_cell ?N ?c ?m ?d ?_ ?a ?b; (case a => rfl); (case b => rfl); (case N => k_asm); (case c => rfl); (case m => k_mem); (case d => with_reducible assumption)))) | walk1) | (leave1; walk_say "STEP leave1"; try dsimp only) | fail "no step"))
    dsimp only
    w_strict (repeat' (first | (k_unfold; (try dsimp only)) | (dsimp only; k_unfold; (try dsimp only)) | ((with_reducible show wpAny _ _ (eval (Expr.ListComp _ _ _ _) _) _ _ _); (refine Mark.to ?_)) | ((with_reducible show wpAny _ _ (truthy (Value.bool _)) _ _ _); (refine wpAny_truthy_bool ?_; try first | rw [if_pos rfl] | rw [if_neg (by decide)])) | ((with_reducible show wpAny _ _ (compareOp .NotEq (Value.int _ _) (Value.int _ _)) _ _ _); (k_here; first | (refine' ne_yes ?h ?_; (case h => with_reducible assumption)) | (refine' ne_no ?h ?_; (case h => with_reducible assumption)))) | ((with_reducible show wpAny _ _ (eval (Expr.Name _ _) _) _ _ _); ((with_reducible show wpAny _ _ (eval (Expr.Name (Str.ofString "k") _) (compEnvC _ _ _ _)) _ _ _); k_dflt (refine LCgL.ld_own (by k_asm) (by k_mem) (by with_reducible assumption) (by with_reducible assumption) ?_))) | ((with_reducible show wpAny _ _ (eval (Expr.Name _ _) _) _ _ _); ((with_reducible show wpAny _ _ (eval (Expr.Name (Str.ofString "out") _) (compEnvC _ _ _ _)) _ _ _); k_dflt (refine' lcf_cell ?N ?c ?m ?d ?_ ?a ?b; (case a => rfl); (case b => rfl); (case N => k_asm); (case c => rfl); (case m => k_mem); (case d => with_reducible assumption)))) | walk1 | (dsimp only; first | ((with_reducible show wpAny _ _ (eval (Expr.ListComp _ _ _ _) _) _ _ _); (refine Mark.to ?_)) | ((with_reducible show wpAny _ _ (truthy (Value.bool _)) _ _ _); (refine wpAny_truthy_bool ?_; try first | rw [if_pos rfl] | rw [if_neg (by decide)])) | ((with_reducible show wpAny _ _ (compareOp .NotEq (Value.int _ _) (Value.int _ _)) _ _ _); (k_here; first | (refine' ne_yes ?h ?_; (case h => with_reducible assumption)) | (refine' ne_no ?h ?_; (case h => with_reducible assumption)))) | ((with_reducible show wpAny _ _ (eval (Expr.Name _ _) _) _ _ _); ((with_reducible show wpAny _ _ (eval (Expr.Name (Str.ofString "k") _) (compEnvC _ _ _ _)) _ _ _); k_dflt (refine LCgL.ld_own (by k_asm) (by k_mem) (by with_reducible assumption) (by with_reducible assumption) ?_))) | ((with_reducible show wpAny _ _ (eval (Expr.Name _ _) _) _ _ _); ((with_reducible show wpAny _ _ (eval (Expr.Name (Str.ofString "out") _) (compEnvC _ _ _ _)) _ _ _); k_dflt (refine' lcf_cell ?N ?c ?m ?d ?_ ?a ?b; (case a => rfl); (case b => rfl); (case N => k_asm); (case c => rfl); (case m => k_mem); (case d => with_reducible assumption)))) | walk1) | (leave1; walk_say "STEP leave1"; try dsimp only) | fail "no step"))
    refine wpAny_execs_nil ?_
    rename Fr _ _ _ _ => F7
    rename News _ _ _ _ => N7
    exact hret _ _ G gv c _ (by with_reducible assumption) hI hg F7 N7

end Mine
end

section
open PySem PySem.W PyProof.Rows PySem.Calls
set_option maxHeartbeats 8000000
namespace Mine
local macro_rules | `(tactic| k_all) => `(tactic| with_reducible assumption)
local macro_rules | `(tactic| k_lt $h:ident) => `(tactic| skip)
theorem row_at {yl : List Int} {r0 r1 r2 r3 r4 : Addr} {l0 l1 l2 l3 l4 : List Value} {c0 c1 c2 c3 c4 : Nat} (R0 : RowOk yl 0 l0) (R1 : RowOk yl 1 l1) (R2 : RowOk yl 2 l2) (R3 : RowOk yl 3 l3) (R4 : RowOk yl 4 l4) {j : Int} (h0 : 0 ≤ j) (h1 : j < 5) :
    ∃ r l c, [Value.ref r0, Value.ref r1, Value.ref r2, Value.ref r3, Value.ref r4][j.toNat]? = some (.ref r) ∧ (r, listOf l.toArray c) ∈ [(r0, listOf l0.toArray c0), (r1, listOf l1.toArray c1), (r2, listOf l2.toArray c2), (r3, listOf l3.toArray c3), (r4, listOf l4.toArray c4)] ∧ RowOk yl j l := by
  rcases five_cases h0 h1 with rfl | rfl | rfl | rfl | rfl
  · exact ⟨_, _, _, rfl, .head _, R0⟩
  · exact ⟨_, _, _, rfl, .tail _ (.head _), R1⟩
  · exact ⟨_, _, _, rfl, .tail _ (.tail _ (.head _)), R2⟩
  · exact ⟨_, _, _, rfl, .tail _ (.tail _ (.tail _ (.head _))), R3⟩
  · exact ⟨_, _, _, rfl, .tail _ (.tail _ (.tail _ (.tail _ (.head _)))), R4⟩
theorem fresh_new {h₀ h h' : Heap} {L a : Addr} {o : Obj} {news : List (Addr × Obj)} (N : News h₀ L h' news) (hm : (a, o) ∈ news) (hl : ∀ q ∈ above h₀ L h, q.1 < a) : h.get? a = none ∧ a ≠ L := by
  refine ⟨?_, (N _ hm).2.1⟩
  cases q : h.get? a with
  | none => rfl
  | some o' => exact absurd (hl (a, o') (mem_above.mpr ⟨q, (N _ hm).2.1, (N _ hm).2.2⟩)) (Nat.lt_irrefl _)
theorem gb_claim (w : World) (p : Program) (loose : List Str) (mean : ExcName → Option Value) (mg mb : Str → Option Value) (fa : Addr) (cd : Value) (h₀ : Heap) (L : Addr) (m : Str → Option Value) (yl gl : List Int) (gv : List Value) (G Fa r0 r1 r2 r3 r4 : Addr) (cG cF c0 c1 c2 c3 c4 : Nat) (l0 l1 l2 l3 l4 : List Value) (oc3 oc5 : Obj) (rest : List (Addr × Obj))
  (hc3 : oc3.data = .cell (some (.ref Fa))) (hc5 : oc5.data = .cell (some (.ref G))) (hI : IntsAre gv gl) (hgl : ∀ g ∈ gl, 0 ≤ g ∧ g < 5) (hg5 : gl.length ≤ 5)
  (R0 : RowOk yl 0 l0) (R1 : RowOk yl 1 l1) (R2 : RowOk yl 2 l2) (R3 : RowOk yl 3 l3) (R4 : RowOk yl 4 l4)
  (dp un : Nat) (gd : Option (List Code)) (fl : List Env) (s : Shared) (Q : Flow → Shared → Prop) (E : Value → Shared → Prop)
  (X : (Mine.hd.heap_39 w.params).In h₀) (T : Top p loose mean mg mb h₀) (hd : dp + 3 < recursionLimit) (hu : un + 100 < cLine)
  (F : Fr h₀ L s.heap m)
  (N : News h₀ L s.heap ((G, listOf gv.toArray cG) :: (L + 5, oc5) :: (L + 3, oc3) :: (Fa, listOf [Value.ref r0, Value.ref r1, Value.ref r2, Value.ref r3, Value.ref r4].toArray cF) :: (r0, listOf l0.toArray c0) :: (r1, listOf l1.toArray c1) :: (r2, listOf l2.toArray c2) :: (r3, listOf l3.toArray c3) :: (r4, listOf l4.toArray c4) :: rest))
  (hret : ∀ h' tk' Sd els c, Tris (farv yl) els (T0 gl gl) → (∀ b o, b ≠ L → s.heap.get? b = some o → h'.get? b = some o) → (∀ q ∈ (Sd, listOf (els.map fun q => Value.ref q.1).toArray c) :: els, h'.get? q.1 = some q.2 ∧ q.1 ≠ L ∧ s.heap.get? q.1 = none) → Fr h₀ L h' (fun y => if y = Str.ofString "sides" then some (.ref Sd) else m y) → Q .next { s with heap := h', toks := tk' }) :
  wpAny (model PySem.Challenge.rw_pg0276_01.row.prog w) { handled := none, depth := dp, frames := some fl, guards := gd, units := un } (execs (outStmt 1) (envOfC (Str.ofString "law") lawScope L fa cd)) Q E s := by
  w_on
  obtain ⟨hp, gens, drawn, tk, os⟩ := s
  dsimp only at F N hret
  have eb : outStmt 1 = outStmt 1 := rfl
  conv at eb => { rhs; whnf }
  rw [eb]
  clear eb
  w_strict (repeat' (first | (k_unfold; (try dsimp only)) | (dsimp only; k_unfold; (try dsimp only)) | ((with_reducible show wpAny _ _ (exec (Stmt.Assign _ (Expr.ListComp _ _ _ _) _) _) _ _ _); (refine Mark.to ?_)) | ((with_reducible show wpAny _ _ (truthy (Value.bool _)) _ _ _); (refine wpAny_truthy_bool ?_; try first | rw [if_pos rfl] | rw [if_neg (by decide)])) | ((with_reducible show wpAny _ _ (compareOp .Lt (Value.int _ _) (Value.int _ _)) _ _ _); (k_here; first | (refine' lt_yes ?h ?_; (case h => with_reducible assumption)) | (refine' lt_no ?h ?_; (case h => with_reducible assumption)))) | ((with_reducible show wpAny _ _ (subscriptTail (Expr.Subscript _ _ _) (Expr.Name _ _) (Value.ref _) (Value.int _ _)) _ _ _); (k_here; k_dflt (refine' kim_list ?N ?m ?c ?d ?h0 ?hf ?x ?_; (case N => k_asm); (case m => k_mem); (case c => rfl); (case d => exact rfl); (case h0 => with_reducible assumption); (case hf => omega); (case x => with_reducible assumption)))) | ((with_reducible show wpAny _ _ (subscriptTail (Expr.Name _ _) (Expr.Name _ _) (Value.ref _) (Value.int _ _)) _ _ _); (k_here; k_dflt (refine' kim_list ?N ?m ?c ?d ?h0 ?hf ?x ?_; (case N => k_asm); (case m => k_mem); (case c => rfl); (case d => exact rfl); (case h0 => with_reducible assumption); (case hf => omega); (case x => with_reducible assumption)))) | ((with_reducible show wpAny _ _ (eval (Expr.Subscript _ _ _) _) _ _ _); (refine Subscript_ ?_)) | ((with_reducible show wpAny _ _ (eval (Expr.Name _ _) _) _ _ _); ((with_reducible show wpAny _ _ (eval (Expr.Name (Str.ofString "m") _) (compEnvC _ _ _ _)) _ _ _); k_dflt (refine LCgL.ld_own (by k_asm) (by k_mem) (by with_reducible assumption) (by with_reducible assumption) ?_))) | ((with_reducible show wpAny _ _ (eval (Expr.Name _ _) _) _ _ _); ((with_reducible show wpAny _ _ (eval (Expr.Name (Str.ofString "k") _) (compEnvC _ _ _ _)) _ _ _); k_dflt (refine LCgL.ld_own (by k_asm) (by k_mem) (by with_reducible assumption) (by with_reducible assumption) ?_))) | ((with_reducible show wpAny _ _ (eval (Expr.Name _ _) _) _ _ _); ((with_reducible show wpAny _ _ (eval (Expr.Name (Str.ofString "j") _) (compEnvC _ _ _ _)) _ _ _); k_dflt (refine LCgL.ld_own (by k_asm) (by k_mem) (by with_reducible assumption) (by with_reducible assumption) ?_))) | ((with_reducible show wpAny _ _ (eval (Expr.Name _ _) _) _ _ _); ((with_reducible show wpAny _ _ (eval (Expr.Name (Str.ofString "far") _) (compEnvC _ _ _ _)) _ _ _); k_dflt (refine' lcf_cell ?N ?c ?m ?d ?_ ?a ?b; (case a => rfl); (case b => rfl); (case N => k_asm); (case c => rfl); (case m => k_mem); (case d => with_reducible assumption)))) | walk1 | (dsimp only; first | ((with_reducible show wpAny _ _ (exec (Stmt.Assign _ (Expr.ListComp _ _ _ _) _) _) _ _ _); (refine Mark.to ?_)) | ((with_reducible show wpAny _ _ (truthy (Value.bool _)) _ _ _); (refine wpAny_truthy_bool ?_; try first | rw [if_pos rfl] | rw [if_neg (by decide)])) | ((with_reducible show wpAny _ _ (compareOp .Lt (Value.int _ _) (Value.int _ _)) _ _ _); (k_here; first | (refine' lt_yes ?h ?_; (case h => with_reducible assumption)) | (refine' lt_no ?h ?_; (case h => with_reducible assumption)))) | ((with_reducible show wpAny _ _ (subscriptTail (Expr.Subscript _ _ _) (Expr.Name _ _) (Value.ref _) (Value.int _ _)) _ _ _); (k_here; k_dflt (refine' kim_list ?N ?m ?c ?d ?h0 ?hf ?x ?_; (case N => k_asm); (case m => k_mem); (case c => rfl); (case d => exact rfl); (case h0 => with_reducible assumption); (case hf => omega); (case x => with_reducible assumption)))) | ((with_reducible show wpAny _ _ (subscriptTail (Expr.Name _ _) (Expr.Name _ _) (Value.ref _) (Value.int _ _)) _ _ _); (k_here; k_dflt (refine' kim_list ?N ?m ?c ?d ?h0 ?hf ?x ?_; (case N => k_asm); (case m => k_mem); (case c => rfl); (case d => exact rfl); (case h0 => with_reducible assumption); (case hf => omega); (case x => with_reducible assumption)))) | ((with_reducible show wpAny _ _ (eval (Expr.Subscript _ _ _) _) _ _ _); (refine Subscript_ ?_)) | ((with_reducible show wpAny _ _ (eval (Expr.Name _ _) _) _ _ _); ((with_reducible show wpAny _ _ (eval (Expr.Name (Str.ofString "m") _) (compEnvC _ _ _ _)) _ _ _); k_dflt (refine LCgL.ld_own (by k_asm) (by k_mem) (by with_reducible assumption) (by with_reducible assumption) ?_))) | ((with_reducible show wpAny _ _ (eval (Expr.Name _ _) _) _ _ _); ((with_reducible show wpAny _ _ (eval (Expr.Name (Str.ofString "k") _) (compEnvC _ _ _ _)) _ _ _); k_dflt (refine LCgL.ld_own (by k_asm) (by k_mem) (by with_reducible assumption) (by with_reducible assumption) ?_))) | ((with_reducible show wpAny _ _ (eval (Expr.Name _ _) _) _ _ _); ((with_reducible show wpAny _ _ (eval (Expr.Name (Str.ofString "j") _) (compEnvC _ _ _ _)) _ _ _); k_dflt (refine LCgL.ld_own (by k_asm) (by k_mem) (by with_reducible assumption) (by with_reducible assumption) ?_))) | ((with_reducible show wpAny _ _ (eval (Expr.Name _ _) _) _ _ _); ((with_reducible show wpAny _ _ (eval (Expr.Name (Str.ofString "far") _) (compEnvC _ _ _ _)) _ _ _); k_dflt (refine' lcf_cell ?N ?c ?m ?d ?_ ?a ?b; (case a => rfl); (case b => rfl); (case N => k_asm); (case c => rfl); (case m => k_mem); (case d => with_reducible assumption)))) | walk1) | (leave1; walk_say "STEP leave1"; try dsimp only) | fail "no step"))
  refine Mark.mk ?_
  have gL : G ≠ L := (N _ (.head _)).2.1
  have hGl : hp.IsList G gv.toArray := ⟨_, (N _ (.head _)).1, rfl, cG, rfl⟩
  have F0 : Kp (Fr h₀ L hp m) := ⟨F⟩
  have N0 := N
  have hlen := hI.length
  have Y0' : ∀ (Pr : List (Addr × Obj)) (k : List (Int × Int × Int)), Tris (farv yl) Pr k → Tris (farv yl) Pr (k ++ []) := fun Pr k h => by rw [List.append_nil]; exact h
  refine assign_list (h₀ := h₀) (L := L) (m := m) (by with_unfolding_all rfl) (by first | exact .inl rfl | exact .inr ⟨_, _, _, rfl⟩) (by with_unfolding_all rfl) (by decide) rfl (by decide) (by rfl) rfl
    (fun i _ ys Pr => ys.length ≤ 25 * i ∧ ys = Pr.map (fun q => Value.ref q.1) ∧ Tris (farv yl) Pr (T0 gl (gl.take i))) ?_
  w_strict (repeat' (first | (k_unfold; (try dsimp only)) | (dsimp only; k_unfold; (try dsimp only)) | ((with_reducible show wpAny _ _ (exec (Stmt.Assign _ (Expr.ListComp _ _ _ _) _) _) _ _ _); (refine Mark.to ?_)) | ((with_reducible show wpAny _ _ (truthy (Value.bool _)) _ _ _); (refine wpAny_truthy_bool ?_; try first | rw [if_pos rfl] | rw [if_neg (by decide)])) | ((with_reducible show wpAny _ _ (compareOp .Lt (Value.int _ _) (Value.int _ _)) _ _ _); (k_here; first | (refine' lt_yes ?h ?_; (case h => with_reducible assumption)) | (refine' lt_no ?h ?_; (case h => with_reducible assumption)))) | ((with_reducible show wpAny _ _ (subscriptTail (Expr.Subscript _ _ _) (Expr.Name _ _) (Value.ref _) (Value.int _ _)) _ _ _); (k_here; k_dflt (refine' kim_list ?N ?m ?c ?d ?h0 ?hf ?x ?_; (case N => k_asm); (case m => k_mem); (case c => rfl); (case d => exact rfl); (case h0 => with_reducible assumption); (case hf => omega); (case x => with_reducible assumption)))) | ((with_reducible show wpAny _ _ (subscriptTail (Expr.Name _ _) (Expr.Name _ _) (Value.ref _) (Value.int _ _)) _ _ _); (k_here; k_dflt (refine' kim_list ?N ?m ?c ?d ?h0 ?hf ?x ?_; (case N => k_asm); (case m => k_mem); (case c => rfl); (case d => exact rfl); (case h0 => with_reducible assumption); (case hf => omega); (case x => with_reducible assumption)))) | ((with_reducible show wpAny _ _ (eval (Expr.Subscript _ _ _) _) _ _ _); (refine Subscript_ ?_)) | ((with_reducible show wpAny _ _ (eval (Expr.Name _ _) _) _ _ _); ((with_reducible show wpAny _ _ (eval (Expr.Name (Str.ofString "m") _) (compEnvC _ _ _ _)) _ _ _); k_dflt (refine LCgL.ld_own (by k_asm) (by k_mem) (by with_reducible assumption) (by with_reducible assumption) ?_))) | ((with_reducible show wpAny _ _ (eval (Expr.Name _ _) _) _ _ _); ((with_reducible show wpAny _ _ (eval (Expr.Name (Str.ofString "k") _) (compEnvC _ _ _ _)) _ _ _); k_dflt (refine LCgL.ld_own (by k_asm) (by k_mem) (by with_reducible assumption) (by with_reducible assumption) ?_))) | ((with_reducible show wpAny _ _ (eval (Expr.Name _ _) _) _ _ _); ((with_reducible show wpAny _ _ (eval (Expr.Name (Str.ofString "j") _) (compEnvC _ _ _ _)) _ _ _); k_dflt (refine LCgL.ld_own (by k_asm) (by k_mem) (by with_reducible assumption) (by with_reducible assumption) ?_))) | ((with_reducible show wpAny _ _ (eval (Expr.Name _ _) _) _ _ _); ((with_reducible show wpAny _ _ (eval (Expr.Name (Str.ofString "far") _) (compEnvC _ _ _ _)) _ _ _); k_dflt (refine' lcf_cell ?N ?c ?m ?d ?_ ?a ?b; (case a => rfl); (case b => rfl); (case N => k_asm); (case c => rfl); (case m => k_mem); (case d => with_reducible assumption)))) | walk1 | (dsimp only; first | ((with_reducible show wpAny _ _ (exec (Stmt.Assign _ (Expr.ListComp _ _ _ _) _) _) _ _ _); (refine Mark.to ?_)) | ((with_reducible show wpAny _ _ (truthy (Value.bool _)) _ _ _); (refine wpAny_truthy_bool ?_; try first | rw [if_pos rfl] | rw [if_neg (by decide)])) | ((with_reducible show wpAny _ _ (compareOp .Lt (Value.int _ _) (Value.int _ _)) _ _ _); (k_here; first | (refine' lt_yes ?h ?_; (case h => with_reducible assumption)) | (refine' lt_no ?h ?_; (case h => with_reducible assumption)))) | ((with_reducible show wpAny _ _ (subscriptTail (Expr.Subscript _ _ _) (Expr.Name _ _) (Value.ref _) (Value.int _ _)) _ _ _); (k_here; k_dflt (refine' kim_list ?N ?m ?c ?d ?h0 ?hf ?x ?_; (case N => k_asm); (case m => k_mem); (case c => rfl); (case d => exact rfl); (case h0 => with_reducible assumption); (case hf => omega); (case x => with_reducible assumption)))) | ((with_reducible show wpAny _ _ (subscriptTail (Expr.Name _ _) (Expr.Name _ _) (Value.ref _) (Value.int _ _)) _ _ _); (k_here; k_dflt (refine' kim_list ?N ?m ?c ?d ?h0 ?hf ?x ?_; (case N => k_asm); (case m => k_mem); (case c => rfl); (case d => exact rfl); (case h0 => with_reducible assumption); (case hf => omega); (case x => with_reducible assumption)))) | ((with_reducible show wpAny _ _ (eval (Expr.Subscript _ _ _) _) _ _ _); (refine Subscript_ ?_)) | ((with_reducible show wpAny _ _ (eval (Expr.Name _ _) _) _ _ _); ((with_reducible show wpAny _ _ (eval (Expr.Name (Str.ofString "m") _) (compEnvC _ _ _ _)) _ _ _); k_dflt (refine LCgL.ld_own (by k_asm) (by k_mem) (by with_reducible assumption) (by with_reducible assumption) ?_))) | ((with_reducible show wpAny _ _ (eval (Expr.Name _ _) _) _ _ _); ((with_reducible show wpAny _ _ (eval (Expr.Name (Str.ofString "k") _) (compEnvC _ _ _ _)) _ _ _); k_dflt (refine LCgL.ld_own (by k_asm) (by k_mem) (by with_reducible assumption) (by with_reducible assumption) ?_))) | ((with_reducible show wpAny _ _ (eval (Expr.Name _ _) _) _ _ _); ((with_reducible show wpAny _ _ (eval (Expr.Name (Str.ofString "j") _) (compEnvC _ _ _ _)) _ _ _); k_dflt (refine LCgL.ld_own (by k_asm) (by k_mem) (by with_reducible assumption) (by with_reducible assumption) ?_))) | ((with_reducible show wpAny _ _ (eval (Expr.Name _ _) _) _ _ _); ((with_reducible show wpAny _ _ (eval (Expr.Name (Str.ofString "far") _) (compEnvC _ _ _ _)) _ _ _); k_dflt (refine' lcf_cell ?N ?c ?m ?d ?_ ?a ?b; (case a => rfl); (case b => rfl); (case N => k_asm); (case c => rfl); (case m => k_mem); (case d => with_reducible assumption)))) | walk1) | (leave1; walk_say "STEP leave1"; try dsimp only) | fail "no step"))
  refine Leaf.mk ⟨G, gv.toArray, rfl, hGl, gL, F0.out, ?_, ⟨Nat.zero_le _, rfl, .nil⟩, ?_⟩
  · intro C I0 D a v oI0 mC ys Pr h tk2 K hv hY S
    obtain ⟨j, tj, rfl, ej⟩ := hI.at a v (by simpa using hv)
    obtain ⟨hj0, hj5⟩ := hgl j (List.mem_of_getElem? ej)
    obtain ⟨hlen0, hys0, htr0⟩ := hY
    have ha : a < gl.length := (List.getElem?_eq_some_iff.mp ej).1
    intro E'
    refine wpAny_tests_nil ?_
    rw [if_pos rfl]
    refine' body_list (s := { heap := h, gens := gens, drawn := drawn, toks := tk2, os := os }) (tk := tk2) (x' := Str.ofString "k") ?hg ?hn ?hs (cfp_ok ?kd ?kx) S rfl hGl gL ?he (fun i mC ys Pr => mC (Str.ofString "j") = some (.int j tj) ∧ ∃ els, Pr = (I0, oI0) :: els ∧ ys.length ≤ 25 * a + 5 * i ∧ ys = els.map (fun q => Value.ref q.1) ∧ Tris (farv yl) els (T0 gl (gl.take a) ++ T1 gl j (gl.take i))) ?turn ?y0 ?fin
    case hg => rfl
    case hn => exact .inr ⟨_, _, _, rfl⟩
    case hs => exact fun _ => rfl
    case kd => rfl
    case kx => rfl
    case y0 => exact ⟨if_pos rfl, Pr, rfl, by omega, hys0, Y0' _ _ htr0⟩
    case he =>
      refine lcf_cell (news_kept N0 S.kb) (by rfl) (.tail _ (.head _)) hc5 (Leaf.mk ⟨rfl, _, rfl⟩) ?_ ?_
      · rfl
      · rfl
    case fin =>
      intro mC ys Pr h tk S hY
      obtain ⟨_, els, rfl, hl, hys, htr⟩ := hY
      refine ⟨h, tk, _, _, els, rfl, S, ?_, hys, ?_⟩
      · have : gv.toArray.size = gl.length := by rw [List.size_toArray]; exact hlen
        omega
      · rw [take_snoc ej]
        have e1 : gl.take gv.toArray.size = gl := by rw [List.size_toArray, hlen, List.take_length]
        rw [e1] at htr
        have e2 : T0 gl (gl.take a ++ [j]) = T0 gl (gl.take a) ++ T1 gl j gl := by simp [T0]
        rw [e2]
        exact htr
    case turn =>
      intro I1 b v oI1 mC ys Pr h1 tk3 hv hY S1
      obtain ⟨k, tk', rfl, ek⟩ := hI.at b v (by simpa using hv)
      obtain ⟨hk0, hk5⟩ := hgl k (List.mem_of_getElem? ek)
      obtain ⟨hmj, els, rfl, hlen1, hys1, htr1⟩ := hY
      have hb : b < gl.length := (List.getElem?_eq_some_iff.mp ek).1
      intro E''
      refine wpAny_tests_nil ?_
      rw [if_pos rfl]
      dsimp only
      refine' body_list (s := { heap := h1, gens := gens, drawn := drawn, toks := tk3, os := os }) (tk := tk3) (x' := Str.ofString "m") ?hg ?hn ?hs (cfp_ok ?kd ?kx) S1 rfl hGl gL ?he (fun i mC ys Pr => mC (Str.ofString "j") = some (.int j tj) ∧ mC (Str.ofString "k") = some (.int k tk') ∧ ∃ els, Pr = (I1, oI1) :: (I0, oI0) :: els ∧ ys.length ≤ 25 * a + 5 * b + i ∧ ys = els.map (fun q => Value.ref q.1) ∧ Tris (farv yl) els (T0 gl (gl.take a) ++ T1 gl j (gl.take b) ++ T2 j k (gl.take i))) ?turn ?y0 ?fin
      case hg => rfl
      case hn => exact .inl rfl
      case hs => exact fun _ => rfl
      case kd => rfl
      case kx => rfl
      case y0 => exact ⟨(if_neg (by decide)).trans hmj, if_pos rfl, els, rfl, by omega, hys1, Y0' _ _ htr1⟩
      case he =>
        refine lcf_cell (news_kept N0 S1.kb) (by rfl) (.tail _ (.head _)) hc5 (Leaf.mk ⟨rfl, _, rfl⟩) ?_ ?_
        · rfl
        · rfl
      case fin =>
        intro mC ys Pr h tk S hY
        obtain ⟨h1j, _, els, rfl, hl, hys, htr⟩ := hY
        have e0 : gv.toArray.size = gl.length := by rw [List.size_toArray]; exact hlen
        refine ⟨h, tk, _, _, (I0, oI0) :: els, rfl, S, h1j, els, rfl, by omega, hys, ?_⟩
        have e1 : gl.take gv.toArray.size = gl := by rw [e0, List.take_length]
        rw [e1] at htr
        have e2 : T1 gl j (gl.take b ++ [k]) = T1 gl j (gl.take b) ++ T2 j k gl := by simp [T1]
        rw [take_snoc ek, e2, ← List.append_assoc]
        exact htr
      case turn =>
        intro I2 c v oI2 mC ys Pr h2 tk4 hv hY S2
        obtain ⟨mm, tm, rfl, em⟩ := hI.at c v (by simpa using hv)
        obtain ⟨hm0, hm5⟩ := hgl mm (List.mem_of_getElem? em)
        obtain ⟨hmj2, hmk2, els, rfl, hlen2, hys2, htr2⟩ := hY
        have hc : c < gl.length := (List.getElem?_eq_some_iff.mp em).1
        obtain ⟨rj, lj, cj, fj, mj, Rj⟩ := row_at (r0 := r0) (r1 := r1) (r2 := r2) (r3 := r3) (r4 := r4) (c0 := c0) (c1 := c1) (c2 := c2) (c3 := c3) (c4 := c4) R0 R1 R2 R3 R4 hj0 hj5
        obtain ⟨rk, lk, ck, fk, mk, Rk⟩ := row_at (r0 := r0) (r1 := r1) (r2 := r2) (r3 := r3) (r4 := r4) (c0 := c0) (c1 := c1) (c2 := c2) (c3 := c3) (c4 := c4) R0 R1 R2 R3 R4 hk0 hk5
        obtain ⟨ta, ga⟩ := Rj.2 k hk0 hk5
        obtain ⟨tb, gb⟩ := Rj.2 mm hm0 hm5
        obtain ⟨tc, gc⟩ := Rk.2 mm hm0 hm5
        obtain ⟨m₂, em₂⟩ : ∃ m₂, m₂ = (fun y => if y = Str.ofString "m" then some (Value.int mm tm) else mC y) := ⟨_, rfl⟩
        have hm₂ : m₂ (Str.ofString "m") = some (.int mm tm) := by rw [em₂]; exact if_pos rfl
        have hm₂j : m₂ (Str.ofString "j") = some (.int j tj) := by rw [em₂]; exact (if_neg (by decide)).trans hmj2
        have hm₂k : m₂ (Str.ofString "k") = some (.int k tk') := by rw [em₂]; exact (if_neg (by decide)).trans hmk2
        dsimp only at S2 ⊢
        rw [← em₂] at S2
        have walkable : ∀ (ys : List Value) (Pr : List (Addr × Obj)) (h' : Heap), Stt L m hp (CFp C) [C] D m₂ ys Pr h' → ∃ oC, LCg.NsObj oC m₂ ∧ Fr h₀ L h' m ∧ News h₀ L h' ((C, oC) :: (L + 3, oc3) :: (Fa, listOf [Value.ref r0, Value.ref r1, Value.ref r2, Value.ref r3, Value.ref r4].toArray cF) :: (rj, listOf lj.toArray cj) :: (rk, listOf lk.toArray ck) :: above h₀ L h') := fun ys Pr h' S' => by
          have F2 : Fr h₀ L h' m := fr_kept F0.out S'.kb S'.ns
          have N2 := news_kept N0 S'.kb
          obtain ⟨oC, eC, hoC⟩ := LCg.ns_obj S'.cf
          obtain ⟨_, cL, cn, _⟩ := S'.fa C (.head _)
          have cn0 := new_none F0.out cn
          exact ⟨oC, hoC, F2, news_above (news := [(C, oC), (L + 3, oc3), (Fa, listOf [Value.ref r0, Value.ref r1, Value.ref r2, Value.ref r3, Value.ref r4].toArray cF), (rj, listOf lj.toArray cj), (rk, listOf lk.toArray ck)]) fun q hq => by
            simp only [List.mem_cons, List.not_mem_nil, or_false] at hq
            rcases hq with rfl | rfl | rfl | rfl | rfl
            · exact ⟨eC, cL, cn0⟩
            · exact N2 _ (.tail _ (.tail _ (.head _)))
            · exact N2 _ (.tail _ (.tail _ (.tail _ (.head _))))
            · exact N2 _ (.tail _ (.tail _ (.tail _ (.tail _ (List.mem_append_left rest mj)))))
            · exact N2 _ (.tail _ (.tail _ (.tail _ (.tail _ (List.mem_append_left rest mk)))))⟩
        have K2 : CFok PySem.Challenge.rw_pg0276_01.row.prog w { handled := none, depth := dp, frames := some fl, guards := gd, units := un } (compEnvC _ _ C (envOfC (Str.ofString "law") lawScope L fa cd)) (Str.ofString "j") _ (CFp C) [C] := K
        refine turn_test (s := { heap := h2, gens := gens, drawn := drawn, toks := tk4, os := os }) (tk := tk4) K2 S2 (decide (j < k) && decide (k < mm)) (fun E' => ?_) (fun hB h' tk' S' E' => ?_) (fun hB h' tk' S' => ?_)
        · obtain ⟨oC, hoC, F2, N2⟩ := walkable _ _ h2 S2
          obtain ⟨rest3, er3⟩ : ∃ rest, rest = above h₀ L h2 := ⟨_, rfl⟩
          rw [← er3] at N2
          have F2' : Kp (Fr h₀ L h2 m) := ⟨F2⟩
          clear walkable S S1 S2 K K2 N N0 F hret
          by_cases hjk : j < k
          · by_cases hkm : k < mm
            · rw [show (decide (j < k) && decide (k < mm)) = true by simp [hjk, hkm]]
              w_strict (repeat' (first | (k_unfold; (try dsimp only)) | (dsimp only; k_unfold; (try dsimp only)) | ((with_reducible show wpAny _ _ (exec (Stmt.Assign _ (Expr.ListComp _ _ _ _) _) _) _ _ _); (refine Mark.to ?_)) | ((with_reducible show wpAny _ _ (truthy (Value.bool _)) _ _ _); (refine wpAny_truthy_bool ?_; try first | rw [if_pos rfl] | rw [if_neg (by decide)])) | ((with_reducible show wpAny _ _ (compareOp .Lt (Value.int _ _) (Value.int _ _)) _ _ _); (k_here; first | (refine' lt_yes ?h ?_; (case h => with_reducible assumption)) | (refine' lt_no ?h ?_; (case h => with_reducible assumption)))) | ((with_reducible show wpAny _ _ (subscriptTail (Expr.Subscript _ _ _) (Expr.Name _ _) (Value.ref _) (Value.int _ _)) _ _ _); (k_here; k_dflt (refine' kim_list ?N ?m ?c ?d ?h0 ?hf ?x ?_; (case N => k_asm); (case m => k_mem); (case c => rfl); (case d => exact rfl); (case h0 => with_reducible assumption); (case hf => omega); (case x => with_reducible assumption)))) | ((with_reducible show wpAny _ _ (subscriptTail (Expr.Name _ _) (Expr.Name _ _) (Value.ref _) (Value.int _ _)) _ _ _); (k_here; k_dflt (refine' kim_list ?N ?m ?c ?d ?h0 ?hf ?x ?_; (case N => k_asm); (case m => k_mem); (case c => rfl); (case d => exact rfl); (case h0 => with_reducible assumption); (case hf => omega); (case x => with_reducible assumption)))) | ((with_reducible show wpAny _ _ (eval (Expr.Subscript _ _ _) _) _ _ _); (refine Subscript_ ?_)) | ((with_reducible show wpAny _ _ (eval (Expr.Name _ _) _) _ _ _); ((with_reducible show wpAny _ _ (eval (Expr.Name (Str.ofString "m") _) (compEnvC _ _ _ _)) _ _ _); k_dflt (refine LCgL.ld_own (by k_asm) (by k_mem) (by with_reducible assumption) (by with_reducible assumption) ?_))) | ((with_reducible show wpAny _ _ (eval (Expr.Name _ _) _) _ _ _); ((with_reducible show wpAny _ _ (eval (Expr.Name (Str.ofString "k") _) (compEnvC _ _ _ _)) _ _ _); k_dflt (refine LCgL.ld_own (by k_asm) (by k_mem) (by with_reducible assumption) (by with_reducible assumption) ?_))) | ((with_reducible show wpAny _ _ (eval (Expr.Name _ _) _) _ _ _); ((with_reducible show wpAny _ _ (eval (Expr.Name (Str.ofString "j") _) (compEnvC _ _ _ _)) _ _ _); k_dflt (refine LCgL.ld_own (by k_asm) (by k_mem) (by with_reducible assumption) (by with_reducible assumption) ?_))) | ((with_reducible show wpAny _ _ (eval (Expr.Name _ _) _) _ _ _); ((with_reducible show wpAny _ _ (eval (Expr.Name (Str.ofString "far") _) (compEnvC _ _ _ _)) _ _ _); k_dflt (refine' lcf_cell ?N ?c ?m ?d ?_ ?a ?b; (case a => rfl); (case b => rfl); (case N => k_asm); (case c => rfl); (case m => k_mem); (case d => with_reducible assumption)))) | walk1 | (dsimp only; first | ((with_reducible show wpAny _ _ (exec (Stmt.Assign _ (Expr.ListComp _ _ _ _) _) _) _ _ _); (refine Mark.to ?_)) | ((with_reducible show wpAny _ _ (truthy (Value.bool _)) _ _ _); (refine wpAny_truthy_bool ?_; try first | rw [if_pos rfl] | rw [if_neg (by decide)])) | ((with_reducible show wpAny _ _ (compareOp .Lt (Value.int _ _) (Value.int _ _)) _ _ _); (k_here; first | (refine' lt_yes ?h ?_; (case h => with_reducible assumption)) | (refine' lt_no ?h ?_; (case h => with_reducible assumption)))) | ((with_reducible show wpAny _ _ (subscriptTail (Expr.Subscript _ _ _) (Expr.Name _ _) (Value.ref _) (Value.int _ _)) _ _ _); (k_here; k_dflt (refine' kim_list ?N ?m ?c ?d ?h0 ?hf ?x ?_; (case N => k_asm); (case m => k_mem); (case c => rfl); (case d => exact rfl); (case h0 => with_reducible assumption); (case hf => omega); (case x => with_reducible assumption)))) | ((with_reducible show wpAny _ _ (subscriptTail (Expr.Name _ _) (Expr.Name _ _) (Value.ref _) (Value.int _ _)) _ _ _); (k_here; k_dflt (refine' kim_list ?N ?m ?c ?d ?h0 ?hf ?x ?_; (case N => k_asm); (case m => k_mem); (case c => rfl); (case d => exact rfl); (case h0 => with_reducible assumption); (case hf => omega); (case x => with_reducible assumption)))) | ((with_reducible show wpAny _ _ (eval (Expr.Subscript _ _ _) _) _ _ _); (refine Subscript_ ?_)) | ((with_reducible show wpAny _ _ (eval (Expr.Name _ _) _) _ _ _); ((with_reducible show wpAny _ _ (eval (Expr.Name (Str.ofString "m") _) (compEnvC _ _ _ _)) _ _ _); k_dflt (refine LCgL.ld_own (by k_asm) (by k_mem) (by with_reducible assumption) (by with_reducible assumption) ?_))) | ((with_reducible show wpAny _ _ (eval (Expr.Name _ _) _) _ _ _); ((with_reducible show wpAny _ _ (eval (Expr.Name (Str.ofString "k") _) (compEnvC _ _ _ _)) _ _ _); k_dflt (refine LCgL.ld_own (by k_asm) (by k_mem) (by with_reducible assumption) (by with_reducible assumption) ?_))) | ((with_reducible show wpAny _ _ (eval (Expr.Name _ _) _) _ _ _); ((with_reducible show wpAny _ _ (eval (Expr.Name (Str.ofString "j") _) (compEnvC _ _ _ _)) _ _ _); k_dflt (refine LCgL.ld_own (by k_asm) (by k_mem) (by with_reducible assumption) (by with_reducible assumption) ?_))) | ((with_reducible show wpAny _ _ (eval (Expr.Name _ _) _) _ _ _); ((with_reducible show wpAny _ _ (eval (Expr.Name (Str.ofString "far") _) (compEnvC _ _ _ _)) _ _ _); k_dflt (refine' lcf_cell ?N ?c ?m ?d ?_ ?a ?b; (case a => rfl); (case b => rfl); (case N => k_asm); (case c => rfl); (case m => k_mem); (case d => with_reducible assumption)))) | walk1) | (leave1; walk_say "STEP leave1"; try dsimp only) | fail "no step"))
              (try dsimp only)
              (rename Fr _ _ _ _ => F9)
              exact Leaf.mk ⟨rfl, _, _, rfl, F9.ns, fun _ _ _ e => e⟩
            · rw [show (decide (j < k) && decide (k < mm)) = false by simp [hkm]]
              w_strict (repeat' (first | (k_unfold; (try dsimp only)) | (dsimp only; k_unfold; (try dsimp only)) | ((with_reducible show wpAny _ _ (exec (Stmt.Assign _ (Expr.ListComp _ _ _ _) _) _) _ _ _); (refine Mark.to ?_)) | ((with_reducible show wpAny _ _ (truthy (Value.bool _)) _ _ _); (refine wpAny_truthy_bool ?_; try first | rw [if_pos rfl] | rw [if_neg (by decide)])) | ((with_reducible show wpAny _ _ (compareOp .Lt (Value.int _ _) (Value.int _ _)) _ _ _); (k_here; first | (refine' lt_yes ?h ?_; (case h => with_reducible assumption)) | (refine' lt_no ?h ?_; (case h => with_reducible assumption)))) | ((with_reducible show wpAny _ _ (subscriptTail (Expr.Subscript _ _ _) (Expr.Name _ _) (Value.ref _) (Value.int _ _)) _ _ _); (k_here; k_dflt (refine' kim_list ?N ?m ?c ?d ?h0 ?hf ?x ?_; (case N => k_asm); (case m => k_mem); (case c => rfl); (case d => exact rfl); (case h0 => with_reducible assumption); (case hf => omega); (case x => with_reducible assumption)))) | ((with_reducible show wpAny _ _ (subscriptTail (Expr.Name _ _) (Expr.Name _ _) (Value.ref _) (Value.int _ _)) _ _ _); (k_here; k_dflt (refine' kim_list ?N ?m ?c ?d ?h0 ?hf ?x ?_; (case N => k_asm); (case m => k_mem); (case c => rfl); (case d => exact rfl); (case h0 => with_reducible assumption); (case hf => omega); (case x => with_reducible assumption)))) | ((with_reducible show wpAny _ _ (eval (Expr.Subscript _ _ _) _) _ _ _); (refine Subscript_ ?_)) | ((with_reducible show wpAny _ _ (eval (Expr.Name _ _) _) _ _ _); ((with_reducible show wpAny _ _ (eval (Expr.Name (Str.ofString "m") _) (compEnvC _ _ _ _)) _ _ _); k_dflt (refine LCgL.ld_own (by k_asm) (by k_mem) (by with_reducible assumption) (by with_reducible assumption) ?_))) | ((with_reducible show wpAny _ _ (eval (Expr.Name _ _) _) _ _ _); ((with_reducible show wpAny _ _ (eval (Expr.Name (Str.ofString "k") _) (compEnvC _ _ _ _)) _ _ _); k_dflt (refine LCgL.ld_own (by k_asm) (by k_mem) (by with_reducible assumption) (by with_reducible assumption) ?_))) | ((with_reducible show wpAny _ _ (eval (Expr.Name _ _) _) _ _ _); ((with_reducible show wpAny _ _ (eval (Expr.Name (Str.ofString "j") _) (compEnvC _ _ _ _)) _ _ _); k_dflt (refine LCgL.ld_own (by k_asm) (by k_mem) (by with_reducible assumption) (by with_reducible assumption) ?_))) | ((with_reducible show wpAny _ _ (eval (Expr.Name _ _) _) _ _ _); ((with_reducible show wpAny _ _ (eval (Expr.Name (Str.ofString "far") _) (compEnvC _ _ _ _)) _ _ _); k_dflt (refine' lcf_cell ?N ?c ?m ?d ?_ ?a ?b; (case a => rfl); (case b => rfl); (case N => k_asm); (case c => rfl); (case m => k_mem); (case d => with_reducible assumption)))) | walk1 | (dsimp only; first | ((with_reducible show wpAny _ _ (exec (Stmt.Assign _ (Expr.ListComp _ _ _ _) _) _) _ _ _); (refine Mark.to ?_)) | ((with_reducible show wpAny _ _ (truthy (Value.bool _)) _ _ _); (refine wpAny_truthy_bool ?_; try first | rw [if_pos rfl] | rw [if_neg (by decide)])) | ((with_reducible show wpAny _ _ (compareOp .Lt (Value.int _ _) (Value.int _ _)) _ _ _); (k_here; first | (refine' lt_yes ?h ?_; (case h => with_reducible assumption)) | (refine' lt_no ?h ?_; (case h => with_reducible assumption)))) | ((with_reducible show wpAny _ _ (subscriptTail (Expr.Subscript _ _ _) (Expr.Name _ _) (Value.ref _) (Value.int _ _)) _ _ _); (k_here; k_dflt (refine' kim_list ?N ?m ?c ?d ?h0 ?hf ?x ?_; (case N => k_asm); (case m => k_mem); (case c => rfl); (case d => exact rfl); (case h0 => with_reducible assumption); (case hf => omega); (case x => with_reducible assumption)))) | ((with_reducible show wpAny _ _ (subscriptTail (Expr.Name _ _) (Expr.Name _ _) (Value.ref _) (Value.int _ _)) _ _ _); (k_here; k_dflt (refine' kim_list ?N ?m ?c ?d ?h0 ?hf ?x ?_; (case N => k_asm); (case m => k_mem); (case c => rfl); (case d => exact rfl); (case h0 => with_reducible assumption); (case hf => omega); (case x => with_reducible assumption)))) | ((with_reducible show wpAny _ _ (eval (Expr.Subscript _ _ _) _) _ _ _); (refine Subscript_ ?_)) | ((with_reducible show wpAny _ _ (eval (Expr.Name _ _) _) _ _ _); ((with_reducible show wpAny _ _ (eval (Expr.Name (Str.ofString "m") _) (compEnvC _ _ _ _)) _ _ _); k_dflt (refine LCgL.ld_own (by k_asm) (by k_mem) (by with_reducible assumption) (by with_reducible assumption) ?_))) | ((with_reducible show wpAny _ _ (eval (Expr.Name _ _) _) _ _ _); ((with_reducible show wpAny _ _ (eval (Expr.Name (Str.ofString "k") _) (compEnvC _ _ _ _)) _ _ _); k_dflt (refine LCgL.ld_own (by k_asm) (by k_mem) (by with_reducible assumption) (by with_reducible assumption) ?_))) | ((with_reducible show wpAny _ _ (eval (Expr.Name _ _) _) _ _ _); ((with_reducible show wpAny _ _ (eval (Expr.Name (Str.ofString "j") _) (compEnvC _ _ _ _)) _ _ _); k_dflt (refine LCgL.ld_own (by k_asm) (by k_mem) (by with_reducible assumption) (by with_reducible assumption) ?_))) | ((with_reducible show wpAny _ _ (eval (Expr.Name _ _) _) _ _ _); ((with_reducible show wpAny _ _ (eval (Expr.Name (Str.ofString "far") _) (compEnvC _ _ _ _)) _ _ _); k_dflt (refine' lcf_cell ?N ?c ?m ?d ?_ ?a ?b; (case a => rfl); (case b => rfl); (case N => k_asm); (case c => rfl); (case m => k_mem); (case d => with_reducible assumption)))) | walk1) | (leave1; walk_say "STEP leave1"; try dsimp only) | fail "no step"))
              (try dsimp only)
              (rename Fr _ _ _ _ => F9)
              exact Leaf.mk ⟨rfl, _, _, rfl, F9.ns, fun _ _ _ e => e⟩
          · rw [show (decide (j < k) && decide (k < mm)) = false by simp [hjk]]
            w_strict (repeat' (first | (k_unfold; (try dsimp only)) | (dsimp only; k_unfold; (try dsimp only)) | ((with_reducible show wpAny _ _ (exec (Stmt.Assign _ (Expr.ListComp _ _ _ _) _) _) _ _ _); (refine Mark.to ?_)) | ((with_reducible show wpAny _ _ (truthy (Value.bool _)) _ _ _); (refine wpAny_truthy_bool ?_; try first | rw [if_pos rfl] | rw [if_neg (by decide)])) | ((with_reducible show wpAny _ _ (compareOp .Lt (Value.int _ _) (Value.int _ _)) _ _ _); (k_here; first | (refine' lt_yes ?h ?_; (case h => with_reducible assumption)) | (refine' lt_no ?h ?_; (case h => with_reducible assumption)))) | ((with_reducible show wpAny _ _ (subscriptTail (Expr.Subscript _ _ _) (Expr.Name _ _) (Value.ref _) (Value.int _ _)) _ _ _); (k_here; k_dflt (refine' kim_list ?N ?m ?c ?d ?h0 ?hf ?x ?_; (case N => k_asm); (case m => k_mem); (case c => rfl); (case d => exact rfl); (case h0 => with_reducible assumption); (case hf => omega); (case x => with_reducible assumption)))) | ((with_reducible show wpAny _ _ (subscriptTail (Expr.Name _ _) (Expr.Name _ _) (Value.ref _) (Value.int _ _)) _ _ _); (k_here; k_dflt (refine' kim_list ?N ?m ?c ?d ?h0 ?hf ?x ?_; (case N => k_asm); (case m => k_mem); (case c => rfl); (case d => exact rfl); (case h0 => with_reducible assumption); (case hf => omega); (case x => with_reducible assumption)))) | ((with_reducible show wpAny _ _ (eval (Expr.Subscript _ _ _) _) _ _ _); (refine Subscript_ ?_)) | ((with_reducible show wpAny _ _ (eval (Expr.Name _ _) _) _ _ _); ((with_reducible show wpAny _ _ (eval (Expr.Name (Str.ofString "m") _) (compEnvC _ _ _ _)) _ _ _); k_dflt (refine LCgL.ld_own (by k_asm) (by k_mem) (by with_reducible assumption) (by with_reducible assumption) ?_))) | ((with_reducible show wpAny _ _ (eval (Expr.Name _ _) _) _ _ _); ((with_reducible show wpAny _ _ (eval (Expr.Name (Str.ofString "k") _) (compEnvC _ _ _ _)) _ _ _); k_dflt (refine LCgL.ld_own (by k_asm) (by k_mem) (by with_reducible assumption) (by with_reducible assumption) ?_))) | ((with_reducible show wpAny _ _ (eval (Expr.Name _ _) _) _ _ _); ((with_reducible show wpAny _ _ (eval (Expr.Name (Str.ofString "j") _) (compEnvC _ _ _ _)) _ _ _); k_dflt (refine LCgL.ld_own (by k_asm) (by k_mem) (by with_reducible assumption) (by with_reducible assumption) ?_))) | ((with_reducible show wpAny _ _ (eval (Expr.Name _ _) _) _ _ _); ((with_reducible show wpAny _ _ (eval (Expr.Name (Str.ofString "far") _) (compEnvC _ _ _ _)) _ _ _); k_dflt (refine' lcf_cell ?N ?c ?m ?d ?_ ?a ?b; (case a => rfl); (case b => rfl); (case N => k_asm); (case c => rfl); (case m => k_mem); (case d => with_reducible assumption)))) | walk1 | (dsimp only; first | ((with_reducible show wpAny _ _ (exec (Stmt.Assign _ (Expr.ListComp _ _ _ _) _) _) _ _ _); (refine Mark.to ?_)) | ((with_reducible show wpAny _ _ (truthy (Value.bool _)) _ _ _); (refine wpAny_truthy_bool ?_; try first | rw [if_pos rfl] | rw [if_neg (by decide)])) | ((with_reducible show wpAny _ _ (compareOp .Lt (Value.int _ _) (Value.int _ _)) _ _ _); (k_here; first | (refine' lt_yes ?h ?_; (case h => with_reducible assumption)) | (refine' lt_no ?h ?_; (case h => with_reducible assumption)))) | ((with_reducible show wpAny _ _ (subscriptTail (Expr.Subscript _ _ _) (Expr.Name _ _) (Value.ref _) (Value.int _ _)) _ _ _); (k_here; k_dflt (refine' kim_list ?N ?m ?c ?d ?h0 ?hf ?x ?_; (case N => k_asm); (case m => k_mem); (case c => rfl); (case d => exact rfl); (case h0 => with_reducible assumption); (case hf => omega); (case x => with_reducible assumption)))) | ((with_reducible show wpAny _ _ (subscriptTail (Expr.Name _ _) (Expr.Name _ _) (Value.ref _) (Value.int _ _)) _ _ _); (k_here; k_dflt (refine' kim_list ?N ?m ?c ?d ?h0 ?hf ?x ?_; (case N => k_asm); (case m => k_mem); (case c => rfl); (case d => exact rfl); (case h0 => with_reducible assumption); (case hf => omega); (case x => with_reducible assumption)))) | ((with_reducible show wpAny _ _ (eval (Expr.Subscript _ _ _) _) _ _ _); (refine Subscript_ ?_)) | ((with_reducible show wpAny _ _ (eval (Expr.Name _ _) _) _ _ _); ((with_reducible show wpAny _ _ (eval (Expr.Name (Str.ofString "m") _) (compEnvC _ _ _ _)) _ _ _); k_dflt (refine LCgL.ld_own (by k_asm) (by k_mem) (by with_reducible assumption) (by with_reducible assumption) ?_))) | ((with_reducible show wpAny _ _ (eval (Expr.Name _ _) _) _ _ _); ((with_reducible show wpAny _ _ (eval (Expr.Name (Str.ofString "k") _) (compEnvC _ _ _ _)) _ _ _); k_dflt (refine LCgL.ld_own (by k_asm) (by k_mem) (by with_reducible assumption) (by with_reducible assumption) ?_))) | ((with_reducible show wpAny _ _ (eval (Expr.Name _ _) _) _ _ _); ((with_reducible show wpAny _ _ (eval (Expr.Name (Str.ofString "j") _) (compEnvC _ _ _ _)) _ _ _); k_dflt (refine LCgL.ld_own (by k_asm) (by k_mem) (by with_reducible assumption) (by with_reducible assumption) ?_))) | ((with_reducible show wpAny _ _ (eval (Expr.Name _ _) _) _ _ _); ((with_reducible show wpAny _ _ (eval (Expr.Name (Str.ofString "far") _) (compEnvC _ _ _ _)) _ _ _); k_dflt (refine' lcf_cell ?N ?c ?m ?d ?_ ?a ?b; (case a => rfl); (case b => rfl); (case N => k_asm); (case c => rfl); (case m => k_mem); (case d => with_reducible assumption)))) | walk1) | (leave1; walk_say "STEP leave1"; try dsimp only) | fail "no step"))
            (try dsimp only)
            (rename Fr _ _ _ _ => F9)
            exact Leaf.mk ⟨rfl, _, _, rfl, F9.ns, fun _ _ _ e => e⟩
        · obtain ⟨oC, hoC, F2, N2⟩ := walkable _ _ h' S'
          obtain ⟨rest3, er3⟩ : ∃ rest, rest = above h₀ L h' := ⟨_, rfl⟩
          rw [← er3] at N2
          have F2' : Kp (Fr h₀ L h' m) := ⟨F2⟩
          have hB' := hB
          rw [Bool.and_eq_true, decide_eq_true_eq, decide_eq_true_eq] at hB'
          obtain ⟨hjk, hkm⟩ := hB'
          refine' body_ref (s := { heap := h', gens := gens, drawn := drawn, toks := tk', os := os }) (tk := tk') (Z := triObj (farv yl) (j, k, mm)) K2 ?hg S' ?hs ?_ ?_
          case hg => rfl
          case hs => (rw [sizeLine_eq]; omega)
          · clear walkable S S1 S2 S' K K2 N N0 F hret
            w_strict (repeat' (first | (k_unfold; (try dsimp only)) | (dsimp only; k_unfold; (try dsimp only)) | ((with_reducible show wpAny _ _ (exec (Stmt.Assign _ (Expr.ListComp _ _ _ _) _) _) _ _ _); (refine Mark.to ?_)) | ((with_reducible show wpAny _ _ (truthy (Value.bool _)) _ _ _); (refine wpAny_truthy_bool ?_; try first | rw [if_pos rfl] | rw [if_neg (by decide)])) | ((with_reducible show wpAny _ _ (compareOp .Lt (Value.int _ _) (Value.int _ _)) _ _ _); (k_here; first | (refine' lt_yes ?h ?_; (case h => with_reducible assumption)) | (refine' lt_no ?h ?_; (case h => with_reducible assumption)))) | ((with_reducible show wpAny _ _ (subscriptTail (Expr.Subscript _ _ _) (Expr.Name _ _) (Value.ref _) (Value.int _ _)) _ _ _); (k_here; k_dflt (refine' kim_list ?N ?m ?c ?d ?h0 ?hf ?x ?_; (case N => k_asm); (case m => k_mem); (case c => rfl); (case d => exact rfl); (case h0 => with_reducible assumption); (case hf => omega); (case x => with_reducible assumption)))) | ((with_reducible show wpAny _ _ (subscriptTail (Expr.Name _ _) (Expr.Name _ _) (Value.ref _) (Value.int _ _)) _ _ _); (k_here; k_dflt (refine' kim_list ?N ?m ?c ?d ?h0 ?hf ?x ?_; (case N => k_asm); (case m => k_mem); (case c => rfl); (case d => exact rfl); (case h0 => with_reducible assumption); (case hf => omega); (case x => with_reducible assumption)))) | ((with_reducible show wpAny _ _ (eval (Expr.Subscript _ _ _) _) _ _ _); (refine Subscript_ ?_)) | ((with_reducible show wpAny _ _ (eval (Expr.Name _ _) _) _ _ _); ((with_reducible show wpAny _ _ (eval (Expr.Name (Str.ofString "m") _) (compEnvC _ _ _ _)) _ _ _); k_dflt (refine LCgL.ld_own (by k_asm) (by k_mem) (by with_reducible assumption) (by with_reducible assumption) ?_))) | ((with_reducible show wpAny _ _ (eval (Expr.Name _ _) _) _ _ _); ((with_reducible show wpAny _ _ (eval (Expr.Name (Str.ofString "k") _) (compEnvC _ _ _ _)) _ _ _); k_dflt (refine LCgL.ld_own (by k_asm) (by k_mem) (by with_reducible assumption) (by with_reducible assumption) ?_))) | ((with_reducible show wpAny _ _ (eval (Expr.Name _ _) _) _ _ _); ((with_reducible show wpAny _ _ (eval (Expr.Name (Str.ofString "j") _) (compEnvC _ _ _ _)) _ _ _); k_dflt (refine LCgL.ld_own (by k_asm) (by k_mem) (by with_reducible assumption) (by with_reducible assumption) ?_))) | ((with_reducible show wpAny _ _ (eval (Expr.Name _ _) _) _ _ _); ((with_reducible show wpAny _ _ (eval (Expr.Name (Str.ofString "far") _) (compEnvC _ _ _ _)) _ _ _); k_dflt (refine' lcf_cell ?N ?c ?m ?d ?_ ?a ?b; (case a => rfl); (case b => rfl); (case N => k_asm); (case c => rfl); (case m => k_mem); (case d => with_reducible assumption)))) | walk1 | (dsimp only; first | ((with_reducible show wpAny _ _ (exec (Stmt.Assign _ (Expr.ListComp _ _ _ _) _) _) _ _ _); (refine Mark.to ?_)) | ((with_reducible show wpAny _ _ (truthy (Value.bool _)) _ _ _); (refine wpAny_truthy_bool ?_; try first | rw [if_pos rfl] | rw [if_neg (by decide)])) | ((with_reducible show wpAny _ _ (compareOp .Lt (Value.int _ _) (Value.int _ _)) _ _ _); (k_here; first | (refine' lt_yes ?h ?_; (case h => with_reducible assumption)) | (refine' lt_no ?h ?_; (case h => with_reducible assumption)))) | ((with_reducible show wpAny _ _ (subscriptTail (Expr.Subscript _ _ _) (Expr.Name _ _) (Value.ref _) (Value.int _ _)) _ _ _); (k_here; k_dflt (refine' kim_list ?N ?m ?c ?d ?h0 ?hf ?x ?_; (case N => k_asm); (case m => k_mem); (case c => rfl); (case d => exact rfl); (case h0 => with_reducible assumption); (case hf => omega); (case x => with_reducible assumption)))) | ((with_reducible show wpAny _ _ (subscriptTail (Expr.Name _ _) (Expr.Name _ _) (Value.ref _) (Value.int _ _)) _ _ _); (k_here; k_dflt (refine' kim_list ?N ?m ?c ?d ?h0 ?hf ?x ?_; (case N => k_asm); (case m => k_mem); (case c => rfl); (case d => exact rfl); (case h0 => with_reducible assumption); (case hf => omega); (case x => with_reducible assumption)))) | ((with_reducible show wpAny _ _ (eval (Expr.Subscript _ _ _) _) _ _ _); (refine Subscript_ ?_)) | ((with_reducible show wpAny _ _ (eval (Expr.Name _ _) _) _ _ _); ((with_reducible show wpAny _ _ (eval (Expr.Name (Str.ofString "m") _) (compEnvC _ _ _ _)) _ _ _); k_dflt (refine LCgL.ld_own (by k_asm) (by k_mem) (by with_reducible assumption) (by with_reducible assumption) ?_))) | ((with_reducible show wpAny _ _ (eval (Expr.Name _ _) _) _ _ _); ((with_reducible show wpAny _ _ (eval (Expr.Name (Str.ofString "k") _) (compEnvC _ _ _ _)) _ _ _); k_dflt (refine LCgL.ld_own (by k_asm) (by k_mem) (by with_reducible assumption) (by with_reducible assumption) ?_))) | ((with_reducible show wpAny _ _ (eval (Expr.Name _ _) _) _ _ _); ((with_reducible show wpAny _ _ (eval (Expr.Name (Str.ofString "j") _) (compEnvC _ _ _ _)) _ _ _); k_dflt (refine LCgL.ld_own (by k_asm) (by k_mem) (by with_reducible assumption) (by with_reducible assumption) ?_))) | ((with_reducible show wpAny _ _ (eval (Expr.Name _ _) _) _ _ _); ((with_reducible show wpAny _ _ (eval (Expr.Name (Str.ofString "far") _) (compEnvC _ _ _ _)) _ _ _); k_dflt (refine' lcf_cell ?N ?c ?m ?d ?_ ?a ?b; (case a => rfl); (case b => rfl); (case N => k_asm); (case c => rfl); (case m => k_mem); (case d => with_reducible assumption)))) | walk1) | (leave1; walk_say "STEP leave1"; try dsimp only) | fail "no step"))
            (try dsimp only)
            rename Fr _ _ _ _ => F9
            rename News _ _ _ _ => N9
            rename (∀ p ∈ (C, oC) :: _, _) => l9
            have z := fresh_new (h := h') N9 (.head _) (fun q hq => l9 q (by rw [← er3] at hq; simp only [List.mem_cons]; simp only [hq, or_true]))
            exact Leaf.mk ⟨_, _, _, _, rfl, F9.ns, kept_of (h₀ := h₀) (m := m) F2'.out F9 (fun q hq => (N9 q (by rw [← er3] at hq; simp only [List.mem_cons]; simp only [hq, or_true])).1), rfl, z.1, z.2, (N9 _ (.head _)).1, ta, tb, tc, _, rfl⟩
          · intro a o h5 tk5 hZ S5
            have e6 : T2 j k [mm] = [(j, k, mm)] := by simp only [T2, List.filter_cons, hB, List.filter_nil]; rfl
            have e7 : T2 j k (gl.take c ++ [mm]) = T2 j k (gl.take c) ++ T2 j k [mm] := by simp [T2]
            refine ⟨h5, tk5, _, _, _, rfl, S5, hm₂j, hm₂k, els ++ [(a, o)], rfl, by rw [List.length_append, List.length_singleton]; omega, by rw [hys2, List.map_append]; rfl, ?_⟩
            rw [take_snoc em, e7, e6, ← List.append_assoc]
            exact htr2.snoc hZ
        · have e6 : T2 j k [mm] = [] := by simp only [T2, List.filter_cons, hB, List.filter_nil]; rfl
          have e7 : T2 j k (gl.take c ++ [mm]) = T2 j k (gl.take c) ++ T2 j k [mm] := by simp [T2]
          refine ⟨h', tk', _, _, _, rfl, S', hm₂j, hm₂k, els, rfl, by omega, hys2, ?_⟩
          rw [take_snoc em, e7, e6, List.append_nil]
          exact htr2
  · intro C D h tk2 mC ys Pr S hY
    obtain ⟨hl, hys, htr⟩ := hY
    subst hys
    dsimp only at S
    have e1 : gl.take gv.toArray.size = gl := by rw [List.size_toArray, hlen, List.take_length]
    rw [e1] at htr
    refine post_use rfl (by rfl) (by rfl) S fun h' tk' O => ?_
    refine wpAny_execs_nil (hret h' tk' D Pr (Pr.map (fun q => Value.ref q.1)).length htr O.kb (fun q hq => ?_) (fr_kept F0.out O.kb O.ns))
    rcases List.mem_cons.mp hq with rfl | hq
    · exact ⟨O.d, O.dd.1, O.dd.2⟩
    · obtain ⟨a1, a2, a3, _⟩ := O.pr q hq
      exact ⟨a1, a2, a3⟩

end Mine
end

section
open PySem PySem.W PyProof.Rows PySem.Calls
set_option maxHeartbeats 8000000
namespace Mine
local macro_rules | `(tactic| k_all) => `(tactic| with_reducible assumption)
local macro_rules | `(tactic| k_lt $h:ident) => `(tactic| skip)
theorem five_int {y0 y1 y2 y3 y4 : Int} {k0 k1 k2 k3 k4 : Tok} {j : Int} (h0 : 0 ≤ j) (h1 : j < 5) : ∃ t, [Value.int y0 k0, Value.int y1 k1, Value.int y2 k2, Value.int y3 k3, Value.int y4 k4][j.toNat]? = some (.int (nthI [y0, y1, y2, y3, y4] j) t) := by
  rcases five_cases h0 h1 with rfl | rfl | rfl | rfl | rfl
  · exact ⟨_, rfl⟩
  · exact ⟨_, rfl⟩
  · exact ⟨_, rfl⟩
  · exact ⟨_, rfl⟩
  · exact ⟨_, rfl⟩
theorem gc_claim (w : World) (p : Program) (loose : List Str) (mean : ExcName → Option Value) (mg mb : Str → Option Value) (fa : Addr) (cd : Value) (h₀ : Heap) (L : Addr) (m : Str → Option Value) (y0 y1 y2 y3 y4 : Int) (k0 k1 k2 k3 k4 : Tok) (gl : List Int) (gv : List Value) (G P : Addr) (cG cP : Nat) (oc1 oc5 oc6 : Obj) (v6 : Option Value) (rest : List (Addr × Obj))
  (hc1 : oc1.data = .cell (some (.ref P))) (hc5 : oc5.data = .cell (some (.ref G))) (hc6 : oc6.data = .cell v6) (hI : IntsAre gv gl) (hgl : ∀ g ∈ gl, 0 ≤ g ∧ g < 5) (hg5 : gl.length ≤ 5)
  (nG : @Ne Nat G (L + 6)) (nP : @Ne Nat P (L + 6)) (r6 : ∀ q ∈ rest, q.1 ≠ L + 6)
  (dp un : Nat) (gd : Option (List Code)) (fl : List Env) (s : Shared) (Q : Flow → Shared → Prop) (E : Value → Shared → Prop)
  (X : (Mine.hd.heap_39 w.params).In h₀) (T : Top p loose mean mg mb h₀) (hd : dp + 3 < recursionLimit) (hu : un + 100 < cLine)
  (F : Fr h₀ L s.heap m)
  (N : News h₀ L s.heap ((G, listOf gv.toArray cG) :: (L + 6, oc6) :: (L + 5, oc5) :: (L + 1, oc1) :: (P, listOf [Value.int y0 k0, Value.int y1 k1, Value.int y2 k2, Value.int y3 k3, Value.int y4 k4].toArray cP) :: rest))
  (hret : ∀ h' tk' Sp sv sl c oc6', oc6'.data = .cell (some (.ref Sp)) → IntsAre sv sl → sl.Perm (gl.map (nthI [y0, y1, y2, y3, y4])) → sl.Pairwise (· ≤ ·) → s.heap.get? Sp = none → Fr h₀ L h' m →
    News h₀ L h' ((Sp, listOf sv.toArray c) :: (G, listOf gv.toArray cG) :: (L + 6, oc6') :: (L + 5, oc5) :: (L + 1, oc1) :: (P, listOf [Value.int y0 k0, Value.int y1 k1, Value.int y2 k2, Value.int y3 k3, Value.int y4 k4].toArray cP) :: rest) → Q .next { s with heap := h', toks := tk' }) :
  wpAny (model PySem.Challenge.rw_pg0276_01.row.prog w) { handled := none, depth := dp, frames := some fl, guards := gd, units := un } (execs (outStmt 2) (envOfC (Str.ofString "law") lawScope L fa cd)) Q E s := by
  w_on
  obtain ⟨hp, gens, drawn, tk, os⟩ := s
  dsimp only at F N hret
  have eb : outStmt 2 = outStmt 2 := rfl
  conv at eb => { rhs; whnf }
  rw [eb]
  clear eb
  have hstop : StopHere := ⟨⟩
  w_strict (repeat' (first | (k_unfold; (try dsimp only)) | (dsimp only; k_unfold; (try dsimp only)) | ((with_reducible show wpAny _ _ (call (Value.builtin "sorted") _ _) _ _ _); (k_here; (with_reducible show wpAny _ _ (call (Value.builtin _) [Value.ref _]) _ _ _); k_dflt (refine' kso_sorted ?k1 ?k2 ?k3 ?k4 ?k5 ?_; (case k1 => k_asm); (case k2 => k_asm); (case k3 => exact kso_isList (by k_asm) (by k_mem) rfl); (case k4 => with_reducible assumption); (case k5 => omega)); intro D'q v'q n'q c'q h'q F'q N'q l1q i'q e'q p'q o'q b'q)) | ((with_reducible show wpAny _ _ (eval (Expr.Call _ _ _ _) _) _ _ _); (with_reducible rename StopHere => hs9q; refine Mark.to ?_)) | ((with_reducible show wpAny _ _ (eval (Expr.ListComp _ _ _ _) _) _ _ _); (refine Mark.to ?_)) | ((with_reducible show wpAny _ _ (subscriptTail (Expr.Name _ _) (Expr.Name _ _) (Value.ref _) (Value.int _ _)) _ _ _); (k_here; k_dflt (refine' kim_list ?N ?m ?c ?d ?h0 ?hf ?x ?_; (case N => k_asm); (case m => k_mem); (case c => rfl); (case d => exact rfl); (case h0 => with_reducible assumption); (case hf => omega); (case x => with_reducible assumption)))) | ((with_reducible show wpAny _ _ (eval (Expr.Subscript _ _ _) _) _ _ _); (refine Subscript_ ?_)) | ((with_reducible show wpAny _ _ (eval (Expr.Name _ _) _) _ _ _); ((with_reducible show wpAny _ _ (eval (Expr.Name (Str.ofString "k") _) (compEnvC _ _ _ _)) _ _ _); k_dflt (refine LCgL.ld_own (by k_asm) (by k_mem) (by with_reducible assumption) (by with_reducible assumption) ?_))) | ((with_reducible show wpAny _ _ (eval (Expr.Name _ _) _) _ _ _); ((with_reducible show wpAny _ _ (eval (Expr.Name (Str.ofString "places") _) (compEnvC _ _ _ _)) _ _ _); k_dflt (refine' lcf_cell ?N ?c ?m ?d ?_ ?a ?b; (case a => rfl); (case b => rfl); (case N => k_asm); (case c => rfl); (case m => k_mem); (case d => with_reducible assumption)))) | walk1 | (dsimp only; first | ((with_reducible show wpAny _ _ (call (Value.builtin "sorted") _ _) _ _ _); (k_here; (with_reducible show wpAny _ _ (call (Value.builtin _) [Value.ref _]) _ _ _); k_dflt (refine' kso_sorted ?k1 ?k2 ?k3 ?k4 ?k5 ?_; (case k1 => k_asm); (case k2 => k_asm); (case k3 => exact kso_isList (by k_asm) (by k_mem) rfl); (case k4 => with_reducible assumption); (case k5 => omega)); intro D'q v'q n'q c'q h'q F'q N'q l1q i'q e'q p'q o'q b'q)) | ((with_reducible show wpAny _ _ (eval (Expr.Call _ _ _ _) _) _ _ _); (with_reducible rename StopHere => hs9q; refine Mark.to ?_)) | ((with_reducible show wpAny _ _ (eval (Expr.ListComp _ _ _ _) _) _ _ _); (refine Mark.to ?_)) | ((with_reducible show wpAny _ _ (subscriptTail (Expr.Name _ _) (Expr.Name _ _) (Value.ref _) (Value.int _ _)) _ _ _); (k_here; k_dflt (refine' kim_list ?N ?m ?c ?d ?h0 ?hf ?x ?_; (case N => k_asm); (case m => k_mem); (case c => rfl); (case d => exact rfl); (case h0 => with_reducible assumption); (case hf => omega); (case x => with_reducible assumption)))) | ((with_reducible show wpAny _ _ (eval (Expr.Subscript _ _ _) _) _ _ _); (refine Subscript_ ?_)) | ((with_reducible show wpAny _ _ (eval (Expr.Name _ _) _) _ _ _); ((with_reducible show wpAny _ _ (eval (Expr.Name (Str.ofString "k") _) (compEnvC _ _ _ _)) _ _ _); k_dflt (refine LCgL.ld_own (by k_asm) (by k_mem) (by with_reducible assumption) (by with_reducible assumption) ?_))) | ((with_reducible show wpAny _ _ (eval (Expr.Name _ _) _) _ _ _); ((with_reducible show wpAny _ _ (eval (Expr.Name (Str.ofString "places") _) (compEnvC _ _ _ _)) _ _ _); k_dflt (refine' lcf_cell ?N ?c ?m ?d ?_ ?a ?b; (case a => rfl); (case b => rfl); (case N => k_asm); (case c => rfl); (case m => k_mem); (case d => with_reducible assumption)))) | walk1) | (leave1; walk_say "STEP leave1"; try dsimp only) | fail "no step"))
  refine Mark.mk ?_
  rename StopHere => hstop
  clear hstop
  have gL : G ≠ L := (N _ (.head _)).2.1
  have hGl : hp.IsList G gv.toArray := ⟨_, (N _ (.head _)).1, rfl, cG, rfl⟩
  have hlen := hI.length
  refine wpAny_mono (E := E) (Q := fun v s' => Leaf <| ∃ Sp h' tk' sv sl c, v = .ref Sp ∧ s' = { heap := h', gens := gens, drawn := drawn, toks := tk', os := os } ∧ IntsAre sv sl ∧ sl.Perm (gl.map (nthI [y0, y1, y2, y3, y4])) ∧ sl.Pairwise (· ≤ ·) ∧ (∀ b o, b ≠ L → hp.get? b = some o → h'.get? b = some o) ∧ h'.Ns L m ∧ h'.get? Sp = some (listOf sv.toArray c) ∧ Sp ≠ L ∧ hp.get? Sp = none) ?_ ?_ fun _ _ e => e
  · have F0 : Kp (Fr h₀ L hp m) := ⟨F⟩
    have N0 : Kp (News h₀ L hp _) := ⟨N⟩
    have Na := news_above N
    obtain ⟨rest1, er⟩ : ∃ rest, rest = above h₀ L hp := ⟨_, rfl⟩
    rw [← er] at Na
    simp only [List.cons_append] at Na
    clear N
    w_strict (repeat' (first | (k_unfold; (try dsimp only)) | (dsimp only; k_unfold; (try dsimp only)) | ((with_reducible show wpAny _ _ (call (Value.builtin "sorted") _ _) _ _ _); (k_here; (with_reducible show wpAny _ _ (call (Value.builtin _) [Value.ref _]) _ _ _); k_dflt (refine' kso_sorted ?k1 ?k2 ?k3 ?k4 ?k5 ?_; (case k1 => k_asm); (case k2 => k_asm); (case k3 => exact kso_isList (by k_asm) (by k_mem) rfl); (case k4 => with_reducible assumption); (case k5 => omega)); intro D'q v'q n'q c'q h'q F'q N'q l1q i'q e'q p'q o'q b'q)) | ((with_reducible show wpAny _ _ (eval (Expr.Call _ _ _ _) _) _ _ _); (with_reducible rename StopHere => hs9q; refine Mark.to ?_)) | ((with_reducible show wpAny _ _ (eval (Expr.ListComp _ _ _ _) _) _ _ _); (refine Mark.to ?_)) | ((with_reducible show wpAny _ _ (subscriptTail (Expr.Name _ _) (Expr.Name _ _) (Value.ref _) (Value.int _ _)) _ _ _); (k_here; k_dflt (refine' kim_list ?N ?m ?c ?d ?h0 ?hf ?x ?_; (case N => k_asm); (case m => k_mem); (case c => rfl); (case d => exact rfl); (case h0 => with_reducible assumption); (case hf => omega); (case x => with_reducible assumption)))) | ((with_reducible show wpAny _ _ (eval (Expr.Subscript _ _ _) _) _ _ _); (refine Subscript_ ?_)) | ((with_reducible show wpAny _ _ (eval (Expr.Name _ _) _) _ _ _); ((with_reducible show wpAny _ _ (eval (Expr.Name (Str.ofString "k") _) (compEnvC _ _ _ _)) _ _ _); k_dflt (refine LCgL.ld_own (by k_asm) (by k_mem) (by with_reducible assumption) (by with_reducible assumption) ?_))) | ((with_reducible show wpAny _ _ (eval (Expr.Name _ _) _) _ _ _); ((with_reducible show wpAny _ _ (eval (Expr.Name (Str.ofString "places") _) (compEnvC _ _ _ _)) _ _ _); k_dflt (refine' lcf_cell ?N ?c ?m ?d ?_ ?a ?b; (case a => rfl); (case b => rfl); (case N => k_asm); (case c => rfl); (case m => k_mem); (case d => with_reducible assumption)))) | walk1 | (dsimp only; first | ((with_reducible show wpAny _ _ (call (Value.builtin "sorted") _ _) _ _ _); (k_here; (with_reducible show wpAny _ _ (call (Value.builtin _) [Value.ref _]) _ _ _); k_dflt (refine' kso_sorted ?k1 ?k2 ?k3 ?k4 ?k5 ?_; (case k1 => k_asm); (case k2 => k_asm); (case k3 => exact kso_isList (by k_asm) (by k_mem) rfl); (case k4 => with_reducible assumption); (case k5 => omega)); intro D'q v'q n'q c'q h'q F'q N'q l1q i'q e'q p'q o'q b'q)) | ((with_reducible show wpAny _ _ (eval (Expr.Call _ _ _ _) _) _ _ _); (with_reducible rename StopHere => hs9q; refine Mark.to ?_)) | ((with_reducible show wpAny _ _ (eval (Expr.ListComp _ _ _ _) _) _ _ _); (refine Mark.to ?_)) | ((with_reducible show wpAny _ _ (subscriptTail (Expr.Name _ _) (Expr.Name _ _) (Value.ref _) (Value.int _ _)) _ _ _); (k_here; k_dflt (refine' kim_list ?N ?m ?c ?d ?h0 ?hf ?x ?_; (case N => k_asm); (case m => k_mem); (case c => rfl); (case d => exact rfl); (case h0 => with_reducible assumption); (case hf => omega); (case x => with_reducible assumption)))) | ((with_reducible show wpAny _ _ (eval (Expr.Subscript _ _ _) _) _ _ _); (refine Subscript_ ?_)) | ((with_reducible show wpAny _ _ (eval (Expr.Name _ _) _) _ _ _); ((with_reducible show wpAny _ _ (eval (Expr.Name (Str.ofString "k") _) (compEnvC _ _ _ _)) _ _ _); k_dflt (refine LCgL.ld_own (by k_asm) (by k_mem) (by with_reducible assumption) (by with_reducible assumption) ?_))) | ((with_reducible show wpAny _ _ (eval (Expr.Name _ _) _) _ _ _); ((with_reducible show wpAny _ _ (eval (Expr.Name (Str.ofString "places") _) (compEnvC _ _ _ _)) _ _ _); k_dflt (refine' lcf_cell ?N ?c ?m ?d ?_ ?a ?b; (case a => rfl); (case b => rfl); (case N => k_asm); (case c => rfl); (case m => k_mem); (case d => with_reducible assumption)))) | walk1) | (leave1; walk_say "STEP leave1"; try dsimp only) | fail "no step"))
    refine Mark.mk ?_
    rename News _ _ _ _ => N1
    rename Fr _ _ _ _ => F1
    (try dsimp only)
    refine wpAny_mono (Q := fun v s' => Leaf <| ∃ D h' tk' dv c, v = .ref D ∧ s' = { heap := h', gens := gens, drawn := drawn, toks := tk', os := os } ∧ IntsAre dv (gl.map (nthI [y0, y1, y2, y3, y4])) ∧ (∀ b o, b ≠ L → hp.get? b = some o → h'.get? b = some o) ∧ h'.Ns L m ∧ h'.get? D = some (listOf dv.toArray c) ∧ D ≠ L ∧ hp.get? D = none) ?_ ?_ fun _ _ e => e
    · refine eval_list (h₀ := h₀) (L := L) (m := m) (by first | exact .inl rfl | exact .inr ⟨_, _, _, rfl⟩) (by with_unfolding_all rfl) (by decide) rfl (by decide) (by rfl) rfl
        (fun i _ ys Pr => Pr = [] ∧ ys.length ≤ i ∧ IntsAre ys ((gl.take i).map (nthI [y0, y1, y2, y3, y4]))) ?_
      w_strict (repeat' (first | (k_unfold; (try dsimp only)) | (dsimp only; k_unfold; (try dsimp only)) | ((with_reducible show wpAny _ _ (call (Value.builtin "sorted") _ _) _ _ _); (k_here; (with_reducible show wpAny _ _ (call (Value.builtin _) [Value.ref _]) _ _ _); k_dflt (refine' kso_sorted ?k1 ?k2 ?k3 ?k4 ?k5 ?_; (case k1 => k_asm); (case k2 => k_asm); (case k3 => exact kso_isList (by k_asm) (by k_mem) rfl); (case k4 => with_reducible assumption); (case k5 => omega)); intro D'q v'q n'q c'q h'q F'q N'q l1q i'q e'q p'q o'q b'q)) | ((with_reducible show wpAny _ _ (eval (Expr.Call _ _ _ _) _) _ _ _); (with_reducible rename StopHere => hs9q; refine Mark.to ?_)) | ((with_reducible show wpAny _ _ (eval (Expr.ListComp _ _ _ _) _) _ _ _); (refine Mark.to ?_)) | ((with_reducible show wpAny _ _ (subscriptTail (Expr.Name _ _) (Expr.Name _ _) (Value.ref _) (Value.int _ _)) _ _ _); (k_here; k_dflt (refine' kim_list ?N ?m ?c ?d ?h0 ?hf ?x ?_; (case N => k_asm); (case m => k_mem); (case c => rfl); (case d => exact rfl); (case h0 => with_reducible assumption); (case hf => omega); (case x => with_reducible assumption)))) | ((with_reducible show wpAny _ _ (eval (Expr.Subscript _ _ _) _) _ _ _); (refine Subscript_ ?_)) | ((with_reducible show wpAny _ _ (eval (Expr.Name _ _) _) _ _ _); ((with_reducible show wpAny _ _ (eval (Expr.Name (Str.ofString "k") _) (compEnvC _ _ _ _)) _ _ _); k_dflt (refine LCgL.ld_own (by k_asm) (by k_mem) (by with_reducible assumption) (by with_reducible assumption) ?_))) | ((with_reducible show wpAny _ _ (eval (Expr.Name _ _) _) _ _ _); ((with_reducible show wpAny _ _ (eval (Expr.Name (Str.ofString "places") _) (compEnvC _ _ _ _)) _ _ _); k_dflt (refine' lcf_cell ?N ?c ?m ?d ?_ ?a ?b; (case a => rfl); (case b => rfl); (case N => k_asm); (case c => rfl); (case m => k_mem); (case d => with_reducible assumption)))) | walk1 | (dsimp only; first | ((with_reducible show wpAny _ _ (call (Value.builtin "sorted") _ _) _ _ _); (k_here; (with_reducible show wpAny _ _ (call (Value.builtin _) [Value.ref _]) _ _ _); k_dflt (refine' kso_sorted ?k1 ?k2 ?k3 ?k4 ?k5 ?_; (case k1 => k_asm); (case k2 => k_asm); (case k3 => exact kso_isList (by k_asm) (by k_mem) rfl); (case k4 => with_reducible assumption); (case k5 => omega)); intro D'q v'q n'q c'q h'q F'q N'q l1q i'q e'q p'q o'q b'q)) | ((with_reducible show wpAny _ _ (eval (Expr.Call _ _ _ _) _) _ _ _); (with_reducible rename StopHere => hs9q; refine Mark.to ?_)) | ((with_reducible show wpAny _ _ (eval (Expr.ListComp _ _ _ _) _) _ _ _); (refine Mark.to ?_)) | ((with_reducible show wpAny _ _ (subscriptTail (Expr.Name _ _) (Expr.Name _ _) (Value.ref _) (Value.int _ _)) _ _ _); (k_here; k_dflt (refine' kim_list ?N ?m ?c ?d ?h0 ?hf ?x ?_; (case N => k_asm); (case m => k_mem); (case c => rfl); (case d => exact rfl); (case h0 => with_reducible assumption); (case hf => omega); (case x => with_reducible assumption)))) | ((with_reducible show wpAny _ _ (eval (Expr.Subscript _ _ _) _) _ _ _); (refine Subscript_ ?_)) | ((with_reducible show wpAny _ _ (eval (Expr.Name _ _) _) _ _ _); ((with_reducible show wpAny _ _ (eval (Expr.Name (Str.ofString "k") _) (compEnvC _ _ _ _)) _ _ _); k_dflt (refine LCgL.ld_own (by k_asm) (by k_mem) (by with_reducible assumption) (by with_reducible assumption) ?_))) | ((with_reducible show wpAny _ _ (eval (Expr.Name _ _) _) _ _ _); ((with_reducible show wpAny _ _ (eval (Expr.Name (Str.ofString "places") _) (compEnvC _ _ _ _)) _ _ _); k_dflt (refine' lcf_cell ?N ?c ?m ?d ?_ ?a ?b; (case a => rfl); (case b => rfl); (case N => k_asm); (case c => rfl); (case m => k_mem); (case d => with_reducible assumption)))) | walk1) | (leave1; walk_say "STEP leave1"; try dsimp only) | fail "no step"))
      refine Leaf.mk ⟨G, gv.toArray, rfl, hGl, gL, F0.out, ?_, ⟨rfl, Nat.le_refl _, .nil⟩, ?_⟩
      · intro C I D a v oI mC ys Pr h tk2 K hv hY S
        obtain ⟨k, tj, rfl, ek⟩ := hI.at a v (by simpa using hv)
        obtain ⟨hk0, hk5⟩ := hgl k (List.mem_of_getElem? ek)
        obtain ⟨rfl, hl1, hys⟩ := hY
        have ha : a < gl.length := (List.getElem?_eq_some_iff.mp ek).1
        dsimp only at S ⊢
        intro E'
        refine wpAny_tests_nil ?_
        rw [if_pos rfl]
        refine' body_val (s := { heap := h, gens := gens, drawn := drawn, toks := tk2, os := os }) (tk := tk2) (Z := fun v => ∃ t, v = .int (nthI [y0, y1, y2, y3, y4] k) t) K ?hg S ?hs ?_ ?_
        case hg => rfl
        case hs => (rw [sizeLine_eq]; omega)
        · dsimp only
          obtain ⟨m₂, em₂⟩ : ∃ m₂, m₂ = (fun y => if y = Str.ofString "k" then some (Value.int k tj) else mC y) := ⟨_, rfl⟩
          have hm₂ : m₂ (Str.ofString "k") = some (.int k tj) := by rw [em₂]; exact if_pos rfl
          rw [← em₂] at S
          have F2 : Fr h₀ L h m := fr_kept F0.out S.kb S.ns
          have N2 := news_kept N0.out S.kb
          obtain ⟨oC, eC, hoC⟩ := LCg.ns_obj S.cf
          obtain ⟨_, cL, cn, _⟩ := S.fa C (.head _)
          have cn0 := new_none F0.out cn
          have N3 := news_above (h₀ := h₀) (L := L) (h := h) (news := [(C, oC), (L + 1, oc1), (P, listOf [Value.int y0 k0, Value.int y1 k1, Value.int y2 k2, Value.int y3 k3, Value.int y4 k4].toArray cP)]) fun q hq => by
            simp only [List.mem_cons, List.not_mem_nil, or_false] at hq
            rcases hq with rfl | rfl | rfl
            · exact ⟨eC, cL, cn0⟩
            · exact N2 _ (by k_mem)
            · exact N2 _ (by k_mem)
          obtain ⟨rest3, er3⟩ : ∃ rest, rest = above h₀ L h := ⟨_, rfl⟩
          rw [← er3] at N3
          simp only [List.cons_append, List.nil_append] at N3
          have F2' : Kp (Fr h₀ L h m) := ⟨F2⟩
          obtain ⟨tv, gk⟩ := five_int (y0 := y0) (y1 := y1) (y2 := y2) (y3 := y3) (y4 := y4) (k0 := k0) (k1 := k1) (k2 := k2) (k3 := k3) (k4 := k4) hk0 hk5
          clear S K N2 hret eC cL cn cn0
          w_strict (repeat' (first | (k_unfold; (try dsimp only)) | (dsimp only; k_unfold; (try dsimp only)) | ((with_reducible show wpAny _ _ (call (Value.builtin "sorted") _ _) _ _ _); (k_here; (with_reducible show wpAny _ _ (call (Value.builtin _) [Value.ref _]) _ _ _); k_dflt (refine' kso_sorted ?k1 ?k2 ?k3 ?k4 ?k5 ?_; (case k1 => k_asm); (case k2 => k_asm); (case k3 => exact kso_isList (by k_asm) (by k_mem) rfl); (case k4 => with_reducible assumption); (case k5 => omega)); intro D'q v'q n'q c'q h'q F'q N'q l1q i'q e'q p'q o'q b'q)) | ((with_reducible show wpAny _ _ (eval (Expr.Call _ _ _ _) _) _ _ _); (with_reducible rename StopHere => hs9q; refine Mark.to ?_)) | ((with_reducible show wpAny _ _ (eval (Expr.ListComp _ _ _ _) _) _ _ _); (refine Mark.to ?_)) | ((with_reducible show wpAny _ _ (subscriptTail (Expr.Name _ _) (Expr.Name _ _) (Value.ref _) (Value.int _ _)) _ _ _); (k_here; k_dflt (refine' kim_list ?N ?m ?c ?d ?h0 ?hf ?x ?_; (case N => k_asm); (case m => k_mem); (case c => rfl); (case d => exact rfl); (case h0 => with_reducible assumption); (case hf => omega); (case x => with_reducible assumption)))) | ((with_reducible show wpAny _ _ (eval (Expr.Subscript _ _ _) _) _ _ _); (refine Subscript_ ?_)) | ((with_reducible show wpAny _ _ (eval (Expr.Name _ _) _) _ _ _); ((with_reducible show wpAny _ _ (eval (Expr.Name (Str.ofString "k") _) (compEnvC _ _ _ _)) _ _ _); k_dflt (refine LCgL.ld_own (by k_asm) (by k_mem) (by with_reducible assumption) (by with_reducible assumption) ?_))) | ((with_reducible show wpAny _ _ (eval (Expr.Name _ _) _) _ _ _); ((with_reducible show wpAny _ _ (eval (Expr.Name (Str.ofString "places") _) (compEnvC _ _ _ _)) _ _ _); k_dflt (refine' lcf_cell ?N ?c ?m ?d ?_ ?a ?b; (case a => rfl); (case b => rfl); (case N => k_asm); (case c => rfl); (case m => k_mem); (case d => with_reducible assumption)))) | walk1 | (dsimp only; first | ((with_reducible show wpAny _ _ (call (Value.builtin "sorted") _ _) _ _ _); (k_here; (with_reducible show wpAny _ _ (call (Value.builtin _) [Value.ref _]) _ _ _); k_dflt (refine' kso_sorted ?k1 ?k2 ?k3 ?k4 ?k5 ?_; (case k1 => k_asm); (case k2 => k_asm); (case k3 => exact kso_isList (by k_asm) (by k_mem) rfl); (case k4 => with_reducible assumption); (case k5 => omega)); intro D'q v'q n'q c'q h'q F'q N'q l1q i'q e'q p'q o'q b'q)) | ((with_reducible show wpAny _ _ (eval (Expr.Call _ _ _ _) _) _ _ _); (with_reducible rename StopHere => hs9q; refine Mark.to ?_)) | ((with_reducible show wpAny _ _ (eval (Expr.ListComp _ _ _ _) _) _ _ _); (refine Mark.to ?_)) | ((with_reducible show wpAny _ _ (subscriptTail (Expr.Name _ _) (Expr.Name _ _) (Value.ref _) (Value.int _ _)) _ _ _); (k_here; k_dflt (refine' kim_list ?N ?m ?c ?d ?h0 ?hf ?x ?_; (case N => k_asm); (case m => k_mem); (case c => rfl); (case d => exact rfl); (case h0 => with_reducible assumption); (case hf => omega); (case x => with_reducible assumption)))) | ((with_reducible show wpAny _ _ (eval (Expr.Subscript _ _ _) _) _ _ _); (refine Subscript_ ?_)) | ((with_reducible show wpAny _ _ (eval (Expr.Name _ _) _) _ _ _); ((with_reducible show wpAny _ _ (eval (Expr.Name (Str.ofString "k") _) (compEnvC _ _ _ _)) _ _ _); k_dflt (refine LCgL.ld_own (by k_asm) (by k_mem) (by with_reducible assumption) (by with_reducible assumption) ?_))) | ((with_reducible show wpAny _ _ (eval (Expr.Name _ _) _) _ _ _); ((with_reducible show wpAny _ _ (eval (Expr.Name (Str.ofString "places") _) (compEnvC _ _ _ _)) _ _ _); k_dflt (refine' lcf_cell ?N ?c ?m ?d ?_ ?a ?b; (case a => rfl); (case b => rfl); (case N => k_asm); (case c => rfl); (case m => k_mem); (case d => with_reducible assumption)))) | walk1) | (leave1; walk_say "STEP leave1"; try dsimp only) | fail "no step"))
          (try dsimp only)
          rename Fr _ _ _ _ => F9
          rename News _ _ _ _ => N9
          (try dsimp only at F9 N9)
          exact Leaf.mk ⟨_, _, rfl, F9.ns, kept_of (h₀ := h₀) (m := m) F2'.out F9 (fun q hq => (N9 q (by rw [← er3] at hq; simp only [List.mem_cons]; simp only [hq, or_true])).1), _, rfl⟩
        · intro y h5 tk5 hZ S''
          obtain ⟨t, rfl⟩ := hZ
          refine ⟨h5, tk5, _, _, _, rfl, S'', rfl, by simp; omega, ?_⟩
          rw [take_snoc ek, List.map_append]
          exact hys.append (.cons _ _ .nil)
      · intro C D h tk2 mC ys Pr S hY
        obtain ⟨rfl, _, hys⟩ := hY
        dsimp only at S
        rw [show gl.take gv.toArray.size = gl by rw [List.size_toArray, hlen, List.take_length]] at hys
        exact post_none S fun h' O => Leaf.mk ⟨D, h', tk2, ys, _, rfl, rfl, hys, O.kb, O.ns, O.d, O.dd.1, O.dd.2⟩
    · rintro v s' ⟨D, h', tk', dv, c, rfl, rfl, hD, kp, hn, hG, dL, hg⟩
      have F2 : Fr h₀ L h' m := fr_kept F0.out kp hn
      have g0 := new_none F0.out hg
      have N2 := news_add (news_kept N1 kp) hG dL g0
      have hl5 : (gl.map (nthI [y0, y1, y2, y3, y4])).length < 64 := by rw [List.length_map]; omega
      clear N1 F1 hn hG dL hret
      w_strict (repeat' (first | (k_unfold; (try dsimp only)) | (dsimp only; k_unfold; (try dsimp only)) | ((with_reducible show wpAny _ _ (call (Value.builtin "sorted") _ _) _ _ _); (k_here; (with_reducible show wpAny _ _ (call (Value.builtin _) [Value.ref _]) _ _ _); k_dflt (refine' kso_sorted ?k1 ?k2 ?k3 ?k4 ?k5 ?_; (case k1 => k_asm); (case k2 => k_asm); (case k3 => exact kso_isList (by k_asm) (by k_mem) rfl); (case k4 => with_reducible assumption); (case k5 => omega)); intro D'q v'q n'q c'q h'q F'q N'q l1q i'q e'q p'q o'q b'q)) | ((with_reducible show wpAny _ _ (eval (Expr.Call _ _ _ _) _) _ _ _); (with_reducible rename StopHere => hs9q; refine Mark.to ?_)) | ((with_reducible show wpAny _ _ (eval (Expr.ListComp _ _ _ _) _) _ _ _); (refine Mark.to ?_)) | ((with_reducible show wpAny _ _ (subscriptTail (Expr.Name _ _) (Expr.Name _ _) (Value.ref _) (Value.int _ _)) _ _ _); (k_here; k_dflt (refine' kim_list ?N ?m ?c ?d ?h0 ?hf ?x ?_; (case N => k_asm); (case m => k_mem); (case c => rfl); (case d => exact rfl); (case h0 => with_reducible assumption); (case hf => omega); (case x => with_reducible assumption)))) | ((with_reducible show wpAny _ _ (eval (Expr.Subscript _ _ _) _) _ _ _); (refine Subscript_ ?_)) | ((with_reducible show wpAny _ _ (eval (Expr.Name _ _) _) _ _ _); ((with_reducible show wpAny _ _ (eval (Expr.Name (Str.ofString "k") _) (compEnvC _ _ _ _)) _ _ _); k_dflt (refine LCgL.ld_own (by k_asm) (by k_mem) (by with_reducible assumption) (by with_reducible assumption) ?_))) | ((with_reducible show wpAny _ _ (eval (Expr.Name _ _) _) _ _ _); ((with_reducible show wpAny _ _ (eval (Expr.Name (Str.ofString "places") _) (compEnvC _ _ _ _)) _ _ _); k_dflt (refine' lcf_cell ?N ?c ?m ?d ?_ ?a ?b; (case a => rfl); (case b => rfl); (case N => k_asm); (case c => rfl); (case m => k_mem); (case d => with_reducible assumption)))) | walk1 | (dsimp only; first | ((with_reducible show wpAny _ _ (call (Value.builtin "sorted") _ _) _ _ _); (k_here; (with_reducible show wpAny _ _ (call (Value.builtin _) [Value.ref _]) _ _ _); k_dflt (refine' kso_sorted ?k1 ?k2 ?k3 ?k4 ?k5 ?_; (case k1 => k_asm); (case k2 => k_asm); (case k3 => exact kso_isList (by k_asm) (by k_mem) rfl); (case k4 => with_reducible assumption); (case k5 => omega)); intro D'q v'q n'q c'q h'q F'q N'q l1q i'q e'q p'q o'q b'q)) | ((with_reducible show wpAny _ _ (eval (Expr.Call _ _ _ _) _) _ _ _); (with_reducible rename StopHere => hs9q; refine Mark.to ?_)) | ((with_reducible show wpAny _ _ (eval (Expr.ListComp _ _ _ _) _) _ _ _); (refine Mark.to ?_)) | ((with_reducible show wpAny _ _ (subscriptTail (Expr.Name _ _) (Expr.Name _ _) (Value.ref _) (Value.int _ _)) _ _ _); (k_here; k_dflt (refine' kim_list ?N ?m ?c ?d ?h0 ?hf ?x ?_; (case N => k_asm); (case m => k_mem); (case c => rfl); (case d => exact rfl); (case h0 => with_reducible assumption); (case hf => omega); (case x => with_reducible assumption)))) | ((with_reducible show wpAny _ _ (eval (Expr.Subscript _ _ _) _) _ _ _); (refine Subscript_ ?_)) | ((with_reducible show wpAny _ _ (eval (Expr.Name _ _) _) _ _ _); ((with_reducible show wpAny _ _ (eval (Expr.Name (Str.ofString "k") _) (compEnvC _ _ _ _)) _ _ _); k_dflt (refine LCgL.ld_own (by k_asm) (by k_mem) (by with_reducible assumption) (by with_reducible assumption) ?_))) | ((with_reducible show wpAny _ _ (eval (Expr.Name _ _) _) _ _ _); ((with_reducible show wpAny _ _ (eval (Expr.Name (Str.ofString "places") _) (compEnvC _ _ _ _)) _ _ _); k_dflt (refine' lcf_cell ?N ?c ?m ?d ?_ ?a ?b; (case a => rfl); (case b => rfl); (case N => k_asm); (case c => rfl); (case m => k_mem); (case d => with_reducible assumption)))) | walk1) | (leave1; walk_say "STEP leave1"; try dsimp only) | fail "no step"))
      rename Fr _ _ _ _ => F9
      rename News _ _ _ _ => N9
      rename IntsAre _ _ => i9
      rename List.Perm _ _ => p9
      rename List.Pairwise _ _ => o9
      rename (∀ p ∈ (D, _) :: _, _) => l9
      have z := fresh_new (h := hp) N9 (.head _) (fun q hq => l9 q (by rw [← er] at hq; simp only [List.mem_cons, List.mem_append]; simp only [hq, or_true]))
      exact Leaf.mk ⟨_, _, _, _, _, _, rfl, rfl, i9, p9, o9, kept_of (h₀ := h₀) (m := m) F0.out F9 (fun q hq => (N9 q (by rw [← er] at hq; simp only [List.mem_cons, List.mem_append]; simp only [hq, or_true])).1), F9.ns, (N9 _ (.head _)).1, z.2, z.1⟩
  · rintro v s' ⟨Sp, h', tk', sv, sl, c, rfl, rfl, hS, hperm, hpair, kp, hn, hG, sL, hg⟩
    have aG := after_ne N hg
    have g0 := new_none F hg
    have F' : Fr h₀ L h' m := fr_kept F kp hn
    have N' := news_add (news_kept N kp) hG sL g0
    clear hG sL g0 kp hn F N
    simp only [AllNe] at aG
    obtain ⟨_, _, _, _, _, _⟩ := aG
    w_strict (repeat' (first | (k_unfold; (try dsimp only)) | (dsimp only; k_unfold; (try dsimp only)) | ((with_reducible show wpAny _ _ (call (Value.builtin "sorted") _ _) _ _ _); (k_here; (with_reducible show wpAny _ _ (call (Value.builtin _) [Value.ref _]) _ _ _); k_dflt (refine' kso_sorted ?k1 ?k2 ?k3 ?k4 ?k5 ?_; (case k1 => k_asm); (case k2 => k_asm); (case k3 => exact kso_isList (by k_asm) (by k_mem) rfl); (case k4 => with_reducible assumption); (case k5 => omega)); intro D'q v'q n'q c'q h'q F'q N'q l1q i'q e'q p'q o'q b'q)) | ((with_reducible show wpAny _ _ (eval (Expr.Call _ _ _ _) _) _ _ _); (with_reducible rename StopHere => hs9q; refine Mark.to ?_)) | ((with_reducible show wpAny _ _ (eval (Expr.ListComp _ _ _ _) _) _ _ _); (refine Mark.to ?_)) | ((with_reducible show wpAny _ _ (subscriptTail (Expr.Name _ _) (Expr.Name _ _) (Value.ref _) (Value.int _ _)) _ _ _); (k_here; k_dflt (refine' kim_list ?N ?m ?c ?d ?h0 ?hf ?x ?_; (case N => k_asm); (case m => k_mem); (case c => rfl); (case d => exact rfl); (case h0 => with_reducible assumption); (case hf => omega); (case x => with_reducible assumption)))) | ((with_reducible show wpAny _ _ (eval (Expr.Subscript _ _ _) _) _ _ _); (refine Subscript_ ?_)) | ((with_reducible show wpAny _ _ (eval (Expr.Name _ _) _) _ _ _); ((with_reducible show wpAny _ _ (eval (Expr.Name (Str.ofString "k") _) (compEnvC _ _ _ _)) _ _ _); k_dflt (refine LCgL.ld_own (by k_asm) (by k_mem) (by with_reducible assumption) (by with_reducible assumption) ?_))) | ((with_reducible show wpAny _ _ (eval (Expr.Name _ _) _) _ _ _); ((with_reducible show wpAny _ _ (eval (Expr.Name (Str.ofString "places") _) (compEnvC _ _ _ _)) _ _ _); k_dflt (refine' lcf_cell ?N ?c ?m ?d ?_ ?a ?b; (case a => rfl); (case b => rfl); (case N => k_asm); (case c => rfl); (case m => k_mem); (case d => with_reducible assumption)))) | walk1 | (dsimp only; first | ((with_reducible show wpAny _ _ (call (Value.builtin "sorted") _ _) _ _ _); (k_here; (with_reducible show wpAny _ _ (call (Value.builtin _) [Value.ref _]) _ _ _); k_dflt (refine' kso_sorted ?k1 ?k2 ?k3 ?k4 ?k5 ?_; (case k1 => k_asm); (case k2 => k_asm); (case k3 => exact kso_isList (by k_asm) (by k_mem) rfl); (case k4 => with_reducible assumption); (case k5 => omega)); intro D'q v'q n'q c'q h'q F'q N'q l1q i'q e'q p'q o'q b'q)) | ((with_reducible show wpAny _ _ (eval (Expr.Call _ _ _ _) _) _ _ _); (with_reducible rename StopHere => hs9q; refine Mark.to ?_)) | ((with_reducible show wpAny _ _ (eval (Expr.ListComp _ _ _ _) _) _ _ _); (refine Mark.to ?_)) | ((with_reducible show wpAny _ _ (subscriptTail (Expr.Name _ _) (Expr.Name _ _) (Value.ref _) (Value.int _ _)) _ _ _); (k_here; k_dflt (refine' kim_list ?N ?m ?c ?d ?h0 ?hf ?x ?_; (case N => k_asm); (case m => k_mem); (case c => rfl); (case d => exact rfl); (case h0 => with_reducible assumption); (case hf => omega); (case x => with_reducible assumption)))) | ((with_reducible show wpAny _ _ (eval (Expr.Subscript _ _ _) _) _ _ _); (refine Subscript_ ?_)) | ((with_reducible show wpAny _ _ (eval (Expr.Name _ _) _) _ _ _); ((with_reducible show wpAny _ _ (eval (Expr.Name (Str.ofString "k") _) (compEnvC _ _ _ _)) _ _ _); k_dflt (refine LCgL.ld_own (by k_asm) (by k_mem) (by with_reducible assumption) (by with_reducible assumption) ?_))) | ((with_reducible show wpAny _ _ (eval (Expr.Name _ _) _) _ _ _); ((with_reducible show wpAny _ _ (eval (Expr.Name (Str.ofString "places") _) (compEnvC _ _ _ _)) _ _ _); k_dflt (refine' lcf_cell ?N ?c ?m ?d ?_ ?a ?b; (case a => rfl); (case b => rfl); (case N => k_asm); (case c => rfl); (case m => k_mem); (case d => with_reducible assumption)))) | walk1) | (leave1; walk_say "STEP leave1"; try dsimp only) | fail "no step"))
    dsimp only
    w_strict (repeat' (first | (k_unfold; (try dsimp only)) | (dsimp only; k_unfold; (try dsimp only)) | ((with_reducible show wpAny _ _ (call (Value.builtin "sorted") _ _) _ _ _); (k_here; (with_reducible show wpAny _ _ (call (Value.builtin _) [Value.ref _]) _ _ _); k_dflt (refine' kso_sorted ?k1 ?k2 ?k3 ?k4 ?k5 ?_; (case k1 => k_asm); (case k2 => k_asm); (case k3 => exact kso_isList (by k_asm) (by k_mem) rfl); (case k4 => with_reducible assumption); (case k5 => omega)); intro D'q v'q n'q c'q h'q F'q N'q l1q i'q e'q p'q o'q b'q)) | ((with_reducible show wpAny _ _ (eval (Expr.Call _ _ _ _) _) _ _ _); (with_reducible rename StopHere => hs9q; refine Mark.to ?_)) | ((with_reducible show wpAny _ _ (eval (Expr.ListComp _ _ _ _) _) _ _ _); (refine Mark.to ?_)) | ((with_reducible show wpAny _ _ (subscriptTail (Expr.Name _ _) (Expr.Name _ _) (Value.ref _) (Value.int _ _)) _ _ _); (k_here; k_dflt (refine' kim_list ?N ?m ?c ?d ?h0 ?hf ?x ?_; (case N => k_asm); (case m => k_mem); (case c => rfl); (case d => exact rfl); (case h0 => with_reducible assumption); (case hf => omega); (case x => with_reducible assumption)))) | ((with_reducible show wpAny _ _ (eval (Expr.Subscript _ _ _) _) _ _ _); (refine Subscript_ ?_)) | ((with_reducible show wpAny _ _ (eval (Expr.Name _ _) _) _ _ _); ((with_reducible show wpAny _ _ (eval (Expr.Name (Str.ofString "k") _) (compEnvC _ _ _ _)) _ _ _); k_dflt (refine LCgL.ld_own (by k_asm) (by k_mem) (by with_reducible assumption) (by with_reducible assumption) ?_))) | ((with_reducible show wpAny _ _ (eval (Expr.Name _ _) _) _ _ _); ((with_reducible show wpAny _ _ (eval (Expr.Name (Str.ofString "places") _) (compEnvC _ _ _ _)) _ _ _); k_dflt (refine' lcf_cell ?N ?c ?m ?d ?_ ?a ?b; (case a => rfl); (case b => rfl); (case N => k_asm); (case c => rfl); (case m => k_mem); (case d => with_reducible assumption)))) | walk1 | (dsimp only; first | ((with_reducible show wpAny _ _ (call (Value.builtin "sorted") _ _) _ _ _); (k_here; (with_reducible show wpAny _ _ (call (Value.builtin _) [Value.ref _]) _ _ _); k_dflt (refine' kso_sorted ?k1 ?k2 ?k3 ?k4 ?k5 ?_; (case k1 => k_asm); (case k2 => k_asm); (case k3 => exact kso_isList (by k_asm) (by k_mem) rfl); (case k4 => with_reducible assumption); (case k5 => omega)); intro D'q v'q n'q c'q h'q F'q N'q l1q i'q e'q p'q o'q b'q)) | ((with_reducible show wpAny _ _ (eval (Expr.Call _ _ _ _) _) _ _ _); (with_reducible rename StopHere => hs9q; refine Mark.to ?_)) | ((with_reducible show wpAny _ _ (eval (Expr.ListComp _ _ _ _) _) _ _ _); (refine Mark.to ?_)) | ((with_reducible show wpAny _ _ (subscriptTail (Expr.Name _ _) (Expr.Name _ _) (Value.ref _) (Value.int _ _)) _ _ _); (k_here; k_dflt (refine' kim_list ?N ?m ?c ?d ?h0 ?hf ?x ?_; (case N => k_asm); (case m => k_mem); (case c => rfl); (case d => exact rfl); (case h0 => with_reducible assumption); (case hf => omega); (case x => with_reducible assumption)))) | ((with_reducible show wpAny _ _ (eval (Expr.Subscript _ _ _) _) _ _ _); (refine Subscript_ ?_)) | ((with_reducible show wpAny _ _ (eval (Expr.Name _ _) _) _ _ _); ((with_reducible show wpAny _ _ (eval (Expr.Name (Str.ofString "k") _) (compEnvC _ _ _ _)) _ _ _); k_dflt (refine LCgL.ld_own (by k_asm) (by k_mem) (by with_reducible assumption) (by with_reducible assumption) ?_))) | ((with_reducible show wpAny _ _ (eval (Expr.Name _ _) _) _ _ _); ((with_reducible show wpAny _ _ (eval (Expr.Name (Str.ofString "places") _) (compEnvC _ _ _ _)) _ _ _); k_dflt (refine' lcf_cell ?N ?c ?m ?d ?_ ?a ?b; (case a => rfl); (case b => rfl); (case N => k_asm); (case c => rfl); (case m => k_mem); (case d => with_reducible assumption)))) | walk1) | (leave1; walk_say "STEP leave1"; try dsimp only) | fail "no step"))
    refine wpAny_execs_nil ?_
    rename Fr _ _ _ _ => F7
    rename News _ _ _ _ => N7
    exact hret _ _ Sp sv sl c _ (by with_reducible assumption) hS hperm hpair hg F7 N7

end Mine
end

section
open PySem PySem.W PyProof.Rows PySem.Calls
set_option maxHeartbeats 8000000
namespace Mine
local macro_rules | `(tactic| k_all) => `(tactic| with_reducible assumption)
local macro_rules | `(tactic| k_lt $h:ident) => `(tactic| skip)
section
variable {prog : Program} {w : World} {A : Around} {E : Value → Shared → Prop} {s : Shared} {Q : Value → Shared → Prop}
theorem mod_twelve {a : Int} {t u : Tok} (h : Q (.int (a.fmod 12) s.toks) { s with toks := s.toks + 1 }) : wpAny (model prog w) A (binaryOp .Mod (.int a t) (.int 12 u)) Q E s := mod_int' (by omega) h
end
def prv (sl : List Int) (k : Int) : Int := if k = 0 then nthI sl ((sl.length : Int) - 1) else nthI sl (k - 1)
def gapv (sl : List Int) (k : Int) : Int := (nthI sl k - prv sl k).fmod 12
theorem gd_claim (w : World) (p : Program) (loose : List Str) (mean : ExcName → Option Value) (mg mb : Str → Option Value) (fa : Addr) (cd : Value) (h₀ : Heap) (L : Addr) (m : Str → Option Value) (sl : List Int) (sv : List Value) (Sp : Addr) (cS n : Nat) (oc6 : Obj) (rest : List (Addr × Obj))
  (hc6 : oc6.data = .cell (some (.ref Sp))) (hI : IntsAre sv sl) (hn : n = 4 ∨ n = 5) (hsl : sl.length = n)
  (dp un : Nat) (gd : Option (List Code)) (fl : List Env) (s : Shared) (Q : Flow → Shared → Prop) (E : Value → Shared → Prop)
  (X : (Mine.hd.heap_39 w.params).In h₀) (T : Top p loose mean mg mb h₀) (hd : dp + 3 < recursionLimit) (hu : un + 100 < cLine)
  (F : Fr h₀ L s.heap m)
  (N : News h₀ L s.heap ((Sp, listOf sv.toArray cS) :: (L + 6, oc6) :: rest))
  (hret : ∀ h' tk' Gp pv c, IntsAre pv ((List.range n).map fun (i : Nat) => gapv sl (i : Int)) → (∀ b o, b ≠ L → s.heap.get? b = some o → h'.get? b = some o) → h'.get? Gp = some (listOf pv.toArray c) → Gp ≠ L → s.heap.get? Gp = none → Fr h₀ L h' (fun y => if y = Str.ofString "gaps" then some (.ref Gp) else m y) → Q .next { s with heap := h', toks := tk' }) :
  wpAny (model PySem.Challenge.rw_pg0276_01.row.prog w) { handled := none, depth := dp, frames := some fl, guards := gd, units := un } (execs (outStmt 3) (envOfC (Str.ofString "law") lawScope L fa cd)) Q E s := by
  w_on
  obtain ⟨hp, gens, drawn, tk, os⟩ := s
  dsimp only at F N hret
  have eb : outStmt 3 = outStmt 3 := rfl
  conv at eb => { rhs; whnf }
  rw [eb]
  clear eb
  w_strict (repeat' (first | (k_unfold; (try dsimp only)) | (dsimp only; k_unfold; (try dsimp only)) | ((with_reducible show wpAny _ _ (exec (Stmt.Assign _ (Expr.ListComp _ _ _ _) _) _) _ _ _); (refine Mark.to ?_)) | ((with_reducible show wpAny _ _ (call (Value.builtin "len") _ _) _ _ _); (k_here; k_dflt (refine' kun_lenL ?k1 ?k2 ?k3 ?_; (case k1 => exact kso_isList (by k_asm) (by k_mem) rfl); (case k2 => with_reducible assumption); (case k3 => decide)))) | ((with_reducible show wpAny _ _ (subscriptTail (Expr.Name _ _) (Expr.BinOp _ _ _ _) (Value.ref _) (Value.int _ _)) _ _ _); (k_here; k_dflt (refine' kim_list ?N ?m ?c ?d ?h0 ?hf ?x ?_; (case N => k_asm); (case m => k_mem); (case c => rfl); (case d => exact rfl); (case h0 => with_reducible assumption); (case hf => omega); (case x => with_reducible assumption)))) | ((with_reducible show wpAny _ _ (subscriptTail (Expr.Name _ _) (Expr.BinOp _ _ _ _) (Value.ref _) (Value.int _ _)) _ _ _); (k_here; k_dflt (refine' kim_back ?N ?m ?c ?d ?h0 ?h1 ?hf ?x ?_; (case N => k_asm); (case m => k_mem); (case c => rfl); (case d => exact rfl); (case h0 => with_reducible assumption); (case h1 => with_reducible assumption); (case hf => omega); (case x => with_reducible assumption)))) | ((with_reducible show wpAny _ _ (subscriptTail (Expr.Name _ _) (Expr.Name _ _) (Value.ref _) (Value.int _ _)) _ _ _); (k_here; k_dflt (refine' kim_list ?N ?m ?c ?d ?h0 ?hf ?x ?_; (case N => k_asm); (case m => k_mem); (case c => rfl); (case d => exact rfl); (case h0 => with_reducible assumption); (case hf => omega); (case x => with_reducible assumption)))) | ((with_reducible show wpAny _ _ (eval (Expr.Subscript _ _ _) _) _ _ _); (refine Subscript_ ?_)) | ((with_reducible show wpAny _ _ (eval (Expr.Name _ _) _) _ _ _); ((with_reducible show wpAny _ _ (eval (Expr.Name (Str.ofString "k") _) (compEnvC _ _ _ _)) _ _ _); k_dflt (refine LCgL.ld_own (by k_asm) (by k_mem) (by with_reducible assumption) (by with_reducible assumption) ?_))) | ((with_reducible show wpAny _ _ (eval (Expr.Name _ _) _) _ _ _); ((with_reducible show wpAny _ _ (eval (Expr.Name (Str.ofString "spots") _) (compEnvC _ _ _ _)) _ _ _); k_dflt (refine' lcf_cell ?N ?c ?m ?d ?_ ?a ?b; (case a => rfl); (case b => rfl); (case N => k_asm); (case c => rfl); (case m => k_mem); (case d => with_reducible assumption)))) | ((with_reducible show wpAny _ _ (binaryOp .Mod (Value.int _ _) (Value.int _ _)) _ _ _); (k_here; k_dflt (refine mod_twelve ?_))) | walk1 | (dsimp only; first | ((with_reducible show wpAny _ _ (exec (Stmt.Assign _ (Expr.ListComp _ _ _ _) _) _) _ _ _); (refine Mark.to ?_)) | ((with_reducible show wpAny _ _ (call (Value.builtin "len") _ _) _ _ _); (k_here; k_dflt (refine' kun_lenL ?k1 ?k2 ?k3 ?_; (case k1 => exact kso_isList (by k_asm) (by k_mem) rfl); (case k2 => with_reducible assumption); (case k3 => decide)))) | ((with_reducible show wpAny _ _ (subscriptTail (Expr.Name _ _) (Expr.BinOp _ _ _ _) (Value.ref _) (Value.int _ _)) _ _ _); (k_here; k_dflt (refine' kim_list ?N ?m ?c ?d ?h0 ?hf ?x ?_; (case N => k_asm); (case m => k_mem); (case c => rfl); (case d => exact rfl); (case h0 => with_reducible assumption); (case hf => omega); (case x => with_reducible assumption)))) | ((with_reducible show wpAny _ _ (subscriptTail (Expr.Name _ _) (Expr.BinOp _ _ _ _) (Value.ref _) (Value.int _ _)) _ _ _); (k_here; k_dflt (refine' kim_back ?N ?m ?c ?d ?h0 ?h1 ?hf ?x ?_; (case N => k_asm); (case m => k_mem); (case c => rfl); (case d => exact rfl); (case h0 => with_reducible assumption); (case h1 => with_reducible assumption); (case hf => omega); (case x => with_reducible assumption)))) | ((with_reducible show wpAny _ _ (subscriptTail (Expr.Name _ _) (Expr.Name _ _) (Value.ref _) (Value.int _ _)) _ _ _); (k_here; k_dflt (refine' kim_list ?N ?m ?c ?d ?h0 ?hf ?x ?_; (case N => k_asm); (case m => k_mem); (case c => rfl); (case d => exact rfl); (case h0 => with_reducible assumption); (case hf => omega); (case x => with_reducible assumption)))) | ((with_reducible show wpAny _ _ (eval (Expr.Subscript _ _ _) _) _ _ _); (refine Subscript_ ?_)) | ((with_reducible show wpAny _ _ (eval (Expr.Name _ _) _) _ _ _); ((with_reducible show wpAny _ _ (eval (Expr.Name (Str.ofString "k") _) (compEnvC _ _ _ _)) _ _ _); k_dflt (refine LCgL.ld_own (by k_asm) (by k_mem) (by with_reducible assumption) (by with_reducible assumption) ?_))) | ((with_reducible show wpAny _ _ (eval (Expr.Name _ _) _) _ _ _); ((with_reducible show wpAny _ _ (eval (Expr.Name (Str.ofString "spots") _) (compEnvC _ _ _ _)) _ _ _); k_dflt (refine' lcf_cell ?N ?c ?m ?d ?_ ?a ?b; (case a => rfl); (case b => rfl); (case N => k_asm); (case c => rfl); (case m => k_mem); (case d => with_reducible assumption)))) | ((with_reducible show wpAny _ _ (binaryOp .Mod (Value.int _ _) (Value.int _ _)) _ _ _); (k_here; k_dflt (refine mod_twelve ?_))) | walk1) | (leave1; walk_say "STEP leave1"; try dsimp only) | fail "no step"))
  refine Mark.mk ?_
  have hlen := hI.length
  have KI : Kp (IntsAre sv sl) := ⟨hI⟩
  have F0 : Kp (Fr h₀ L hp m) := ⟨F⟩
  have N0 : Kp (News h₀ L hp _) := ⟨N⟩
  have Na := news_above N
  obtain ⟨rest1, er⟩ : ∃ rest, rest = above h₀ L hp := ⟨_, rfl⟩
  rw [← er] at Na
  simp only [List.cons_append] at Na
  clear N
  refine assign_range (h₀ := h₀) (L := L) (m := m) (by with_unfolding_all rfl) (by first | exact .inl rfl | exact .inr ⟨_, _, _, rfl⟩) (by with_unfolding_all rfl) (by decide) rfl (by decide) (by rfl) rfl
    (fun i _ ys Pr => Pr = [] ∧ ys.length ≤ i ∧ IntsAre ys ((List.range i).map fun (i : Nat) => gapv sl (i : Int))) ?_
  rcases hn with rfl | rfl
  · have hsz : ((sv.toArray.size : Nat) : Int) = 4 := by rw [List.size_toArray]; omega
    w_strict (repeat' (first | (k_unfold; (try dsimp only)) | (dsimp only; k_unfold; (try dsimp only)) | ((with_reducible show wpAny _ _ (exec (Stmt.Assign _ (Expr.ListComp _ _ _ _) _) _) _ _ _); (refine Mark.to ?_)) | ((with_reducible show wpAny _ _ (call (Value.builtin "len") _ _) _ _ _); (k_here; k_dflt (refine' kun_lenL ?k1 ?k2 ?k3 ?_; (case k1 => exact kso_isList (by k_asm) (by k_mem) rfl); (case k2 => with_reducible assumption); (case k3 => decide)))) | ((with_reducible show wpAny _ _ (subscriptTail (Expr.Name _ _) (Expr.BinOp _ _ _ _) (Value.ref _) (Value.int _ _)) _ _ _); (k_here; k_dflt (refine' kim_list ?N ?m ?c ?d ?h0 ?hf ?x ?_; (case N => k_asm); (case m => k_mem); (case c => rfl); (case d => exact rfl); (case h0 => with_reducible assumption); (case hf => omega); (case x => with_reducible assumption)))) | ((with_reducible show wpAny _ _ (subscriptTail (Expr.Name _ _) (Expr.BinOp _ _ _ _) (Value.ref _) (Value.int _ _)) _ _ _); (k_here; k_dflt (refine' kim_back ?N ?m ?c ?d ?h0 ?h1 ?hf ?x ?_; (case N => k_asm); (case m => k_mem); (case c => rfl); (case d => exact rfl); (case h0 => with_reducible assumption); (case h1 => with_reducible assumption); (case hf => omega); (case x => with_reducible assumption)))) | ((with_reducible show wpAny _ _ (subscriptTail (Expr.Name _ _) (Expr.Name _ _) (Value.ref _) (Value.int _ _)) _ _ _); (k_here; k_dflt (refine' kim_list ?N ?m ?c ?d ?h0 ?hf ?x ?_; (case N => k_asm); (case m => k_mem); (case c => rfl); (case d => exact rfl); (case h0 => with_reducible assumption); (case hf => omega); (case x => with_reducible assumption)))) | ((with_reducible show wpAny _ _ (eval (Expr.Subscript _ _ _) _) _ _ _); (refine Subscript_ ?_)) | ((with_reducible show wpAny _ _ (eval (Expr.Name _ _) _) _ _ _); ((with_reducible show wpAny _ _ (eval (Expr.Name (Str.ofString "k") _) (compEnvC _ _ _ _)) _ _ _); k_dflt (refine LCgL.ld_own (by k_asm) (by k_mem) (by with_reducible assumption) (by with_reducible assumption) ?_))) | ((with_reducible show wpAny _ _ (eval (Expr.Name _ _) _) _ _ _); ((with_reducible show wpAny _ _ (eval (Expr.Name (Str.ofString "spots") _) (compEnvC _ _ _ _)) _ _ _); k_dflt (refine' lcf_cell ?N ?c ?m ?d ?_ ?a ?b; (case a => rfl); (case b => rfl); (case N => k_asm); (case c => rfl); (case m => k_mem); (case d => with_reducible assumption)))) | ((with_reducible show wpAny _ _ (binaryOp .Mod (Value.int _ _) (Value.int _ _)) _ _ _); (k_here; k_dflt (refine mod_twelve ?_))) | walk1 | (dsimp only; first | ((with_reducible show wpAny _ _ (exec (Stmt.Assign _ (Expr.ListComp _ _ _ _) _) _) _ _ _); (refine Mark.to ?_)) | ((with_reducible show wpAny _ _ (call (Value.builtin "len") _ _) _ _ _); (k_here; k_dflt (refine' kun_lenL ?k1 ?k2 ?k3 ?_; (case k1 => exact kso_isList (by k_asm) (by k_mem) rfl); (case k2 => with_reducible assumption); (case k3 => decide)))) | ((with_reducible show wpAny _ _ (subscriptTail (Expr.Name _ _) (Expr.BinOp _ _ _ _) (Value.ref _) (Value.int _ _)) _ _ _); (k_here; k_dflt (refine' kim_list ?N ?m ?c ?d ?h0 ?hf ?x ?_; (case N => k_asm); (case m => k_mem); (case c => rfl); (case d => exact rfl); (case h0 => with_reducible assumption); (case hf => omega); (case x => with_reducible assumption)))) | ((with_reducible show wpAny _ _ (subscriptTail (Expr.Name _ _) (Expr.BinOp _ _ _ _) (Value.ref _) (Value.int _ _)) _ _ _); (k_here; k_dflt (refine' kim_back ?N ?m ?c ?d ?h0 ?h1 ?hf ?x ?_; (case N => k_asm); (case m => k_mem); (case c => rfl); (case d => exact rfl); (case h0 => with_reducible assumption); (case h1 => with_reducible assumption); (case hf => omega); (case x => with_reducible assumption)))) | ((with_reducible show wpAny _ _ (subscriptTail (Expr.Name _ _) (Expr.Name _ _) (Value.ref _) (Value.int _ _)) _ _ _); (k_here; k_dflt (refine' kim_list ?N ?m ?c ?d ?h0 ?hf ?x ?_; (case N => k_asm); (case m => k_mem); (case c => rfl); (case d => exact rfl); (case h0 => with_reducible assumption); (case hf => omega); (case x => with_reducible assumption)))) | ((with_reducible show wpAny _ _ (eval (Expr.Subscript _ _ _) _) _ _ _); (refine Subscript_ ?_)) | ((with_reducible show wpAny _ _ (eval (Expr.Name _ _) _) _ _ _); ((with_reducible show wpAny _ _ (eval (Expr.Name (Str.ofString "k") _) (compEnvC _ _ _ _)) _ _ _); k_dflt (refine LCgL.ld_own (by k_asm) (by k_mem) (by with_reducible assumption) (by with_reducible assumption) ?_))) | ((with_reducible show wpAny _ _ (eval (Expr.Name _ _) _) _ _ _); ((with_reducible show wpAny _ _ (eval (Expr.Name (Str.ofString "spots") _) (compEnvC _ _ _ _)) _ _ _); k_dflt (refine' lcf_cell ?N ?c ?m ?d ?_ ?a ?b; (case a => rfl); (case b => rfl); (case N => k_asm); (case c => rfl); (case m => k_mem); (case d => with_reducible assumption)))) | ((with_reducible show wpAny _ _ (binaryOp .Mod (Value.int _ _) (Value.int _ _)) _ _ _); (k_here; k_dflt (refine mod_twelve ?_))) | walk1) | (leave1; walk_say "STEP leave1"; try dsimp only) | fail "no step"))
    rename IsRange _ _ _ _ _ _ _ _ => hr
    rename Fr _ _ _ _ => F1
    rename News _ _ _ _ => N1
    (try dsimp only at F1 N1)
    have kb1 := kept_of (h₀ := h₀) (m := m) F0.out F1 (fun q hq => (N1 q (by rw [← er] at hq; simp only [List.mem_cons, List.mem_append]; simp only [hq, or_true])).1)
    refine Leaf.mk ⟨_, _, _, _, _, _, 4, rfl, hr, by first | decide | rfl, by first | rfl | decide, F1, ?_, (by first | exact ⟨rfl, Nat.le_refl _, .nil⟩ | exact ⟨trivial, Nat.le_refl _, .nil⟩ | exact ⟨trivial, trivial, .nil⟩), ?_⟩
    · intro C I D i v oI mC ys Pr h tk2 K hv hY S
      obtain ⟨hi, tj, rfl⟩ := hv
      dsimp only at S ⊢
      obtain ⟨rfl, hl1, hys⟩ := hY
      obtain ⟨k, ek⟩ : ∃ k : Int, k = 0 + (i : Int) := ⟨_, rfl⟩
      rw [← ek] at S
      obtain ⟨m₂, em₂⟩ : ∃ m₂, m₂ = (fun y => if y = Str.ofString "k" then some (Value.int k tj) else mC y) := ⟨_, rfl⟩
      have hm₂ : m₂ (Str.ofString "k") = some (.int k tj) := by rw [em₂]; exact if_pos rfl
      rw [← em₂] at S
      intro E'
      refine wpAny_tests_nil ?_
      rw [if_pos rfl]
      refine' body_val (s := { heap := h, gens := gens, drawn := drawn, toks := tk2, os := os }) (tk := tk2) (Z := fun v => ∃ t, v = .int (gapv sl (i : Int)) t) K ?hg S ?hs ?_ ?_
      case hg => rfl
      case hs => (rw [sizeLine_eq]; omega)
      · dsimp only
        have F2 : Fr h₀ L h m := fr_kept F1 S.kb S.ns
        have N2 := news_kept N1 S.kb
        obtain ⟨oC, eC, hoC⟩ := LCg.ns_obj S.cf
        obtain ⟨_, cL, cn, _⟩ := S.fa C (.head _)
        have cn0 := new_none F1 cn
        have N3 := news_above (h₀ := h₀) (L := L) (h := h) (news := [(C, oC), (L + 6, oc6), (Sp, listOf sv.toArray cS)]) fun q hq => by
          simp only [List.mem_cons, List.not_mem_nil, or_false] at hq
          rcases hq with rfl | rfl | rfl
          · exact ⟨eC, cL, cn0⟩
          · exact N2 _ (by k_mem)
          · exact N2 _ (by k_mem)
        obtain ⟨rest3, er3⟩ : ∃ rest, rest = above h₀ L h := ⟨_, rfl⟩
        rw [← er3] at N3
        simp only [List.cons_append, List.nil_append] at N3
        have F2' : Kp (Fr h₀ L h m) := ⟨F2⟩
        have ei : (i : Int) = k := by omega
        rw [ei]
        have hk0 : 0 ≤ k := by omega
        have hk5 : k < sl.length := by omega
        obtain ⟨ta, ga⟩ := int_at KI.out hk0 hk5
        clear S K N2 N1 F1 hret eC cL cn cn0 kb1 hr hys
        by_cases hkz : k = 0
        · have hneg : k - 1 < 0 := by omega
          have hlow : -(sv.length : Int) ≤ k - 1 := by omega
          obtain ⟨tb, gb⟩ := int_at KI.out (k := (sl.length : Int) - 1) (by omega) (by omega)
          have gb' : sv[((k - 1) + (sv.length : Int)).toNat]? = some (.int (prv sl k) tb) := by
            rw [show prv sl k = nthI sl ((sl.length : Int) - 1) from if_pos hkz, show (k - 1) + (sv.length : Int) = (sl.length : Int) - 1 by omega]; exact gb
          clear gb
          w_strict (repeat' (first | (k_unfold; (try dsimp only)) | (dsimp only; k_unfold; (try dsimp only)) | ((with_reducible show wpAny _ _ (exec (Stmt.Assign _ (Expr.ListComp _ _ _ _) _) _) _ _ _); (refine Mark.to ?_)) | ((with_reducible show wpAny _ _ (call (Value.builtin "len") _ _) _ _ _); (k_here; k_dflt (refine' kun_lenL ?k1 ?k2 ?k3 ?_; (case k1 => exact kso_isList (by k_asm) (by k_mem) rfl); (case k2 => with_reducible assumption); (case k3 => decide)))) | ((with_reducible show wpAny _ _ (subscriptTail (Expr.Name _ _) (Expr.BinOp _ _ _ _) (Value.ref _) (Value.int _ _)) _ _ _); (k_here; k_dflt (refine' kim_list ?N ?m ?c ?d ?h0 ?hf ?x ?_; (case N => k_asm); (case m => k_mem); (case c => rfl); (case d => exact rfl); (case h0 => with_reducible assumption); (case hf => omega); (case x => with_reducible assumption)))) | ((with_reducible show wpAny _ _ (subscriptTail (Expr.Name _ _) (Expr.BinOp _ _ _ _) (Value.ref _) (Value.int _ _)) _ _ _); (k_here; k_dflt (refine' kim_back ?N ?m ?c ?d ?h0 ?h1 ?hf ?x ?_; (case N => k_asm); (case m => k_mem); (case c => rfl); (case d => exact rfl); (case h0 => with_reducible assumption); (case h1 => with_reducible assumption); (case hf => omega); (case x => with_reducible assumption)))) | ((with_reducible show wpAny _ _ (subscriptTail (Expr.Name _ _) (Expr.Name _ _) (Value.ref _) (Value.int _ _)) _ _ _); (k_here; k_dflt (refine' kim_list ?N ?m ?c ?d ?h0 ?hf ?x ?_; (case N => k_asm); (case m => k_mem); (case c => rfl); (case d => exact rfl); (case h0 => with_reducible assumption); (case hf => omega); (case x => with_reducible assumption)))) | ((with_reducible show wpAny _ _ (eval (Expr.Subscript _ _ _) _) _ _ _); (refine Subscript_ ?_)) | ((with_reducible show wpAny _ _ (eval (Expr.Name _ _) _) _ _ _); ((with_reducible show wpAny _ _ (eval (Expr.Name (Str.ofString "k") _) (compEnvC _ _ _ _)) _ _ _); k_dflt (refine LCgL.ld_own (by k_asm) (by k_mem) (by with_reducible assumption) (by with_reducible assumption) ?_))) | ((with_reducible show wpAny _ _ (eval (Expr.Name _ _) _) _ _ _); ((with_reducible show wpAny _ _ (eval (Expr.Name (Str.ofString "spots") _) (compEnvC _ _ _ _)) _ _ _); k_dflt (refine' lcf_cell ?N ?c ?m ?d ?_ ?a ?b; (case a => rfl); (case b => rfl); (case N => k_asm); (case c => rfl); (case m => k_mem); (case d => with_reducible assumption)))) | ((with_reducible show wpAny _ _ (binaryOp .Mod (Value.int _ _) (Value.int _ _)) _ _ _); (k_here; k_dflt (refine mod_twelve ?_))) | walk1 | (dsimp only; first | ((with_reducible show wpAny _ _ (exec (Stmt.Assign _ (Expr.ListComp _ _ _ _) _) _) _ _ _); (refine Mark.to ?_)) | ((with_reducible show wpAny _ _ (call (Value.builtin "len") _ _) _ _ _); (k_here; k_dflt (refine' kun_lenL ?k1 ?k2 ?k3 ?_; (case k1 => exact kso_isList (by k_asm) (by k_mem) rfl); (case k2 => with_reducible assumption); (case k3 => decide)))) | ((with_reducible show wpAny _ _ (subscriptTail (Expr.Name _ _) (Expr.BinOp _ _ _ _) (Value.ref _) (Value.int _ _)) _ _ _); (k_here; k_dflt (refine' kim_list ?N ?m ?c ?d ?h0 ?hf ?x ?_; (case N => k_asm); (case m => k_mem); (case c => rfl); (case d => exact rfl); (case h0 => with_reducible assumption); (case hf => omega); (case x => with_reducible assumption)))) | ((with_reducible show wpAny _ _ (subscriptTail (Expr.Name _ _) (Expr.BinOp _ _ _ _) (Value.ref _) (Value.int _ _)) _ _ _); (k_here; k_dflt (refine' kim_back ?N ?m ?c ?d ?h0 ?h1 ?hf ?x ?_; (case N => k_asm); (case m => k_mem); (case c => rfl); (case d => exact rfl); (case h0 => with_reducible assumption); (case h1 => with_reducible assumption); (case hf => omega); (case x => with_reducible assumption)))) | ((with_reducible show wpAny _ _ (subscriptTail (Expr.Name _ _) (Expr.Name _ _) (Value.ref _) (Value.int _ _)) _ _ _); (k_here; k_dflt (refine' kim_list ?N ?m ?c ?d ?h0 ?hf ?x ?_; (case N => k_asm); (case m => k_mem); (case c => rfl); (case d => exact rfl); (case h0 => with_reducible assumption); (case hf => omega); (case x => with_reducible assumption)))) | ((with_reducible show wpAny _ _ (eval (Expr.Subscript _ _ _) _) _ _ _); (refine Subscript_ ?_)) | ((with_reducible show wpAny _ _ (eval (Expr.Name _ _) _) _ _ _); ((with_reducible show wpAny _ _ (eval (Expr.Name (Str.ofString "k") _) (compEnvC _ _ _ _)) _ _ _); k_dflt (refine LCgL.ld_own (by k_asm) (by k_mem) (by with_reducible assumption) (by with_reducible assumption) ?_))) | ((with_reducible show wpAny _ _ (eval (Expr.Name _ _) _) _ _ _); ((with_reducible show wpAny _ _ (eval (Expr.Name (Str.ofString "spots") _) (compEnvC _ _ _ _)) _ _ _); k_dflt (refine' lcf_cell ?N ?c ?m ?d ?_ ?a ?b; (case a => rfl); (case b => rfl); (case N => k_asm); (case c => rfl); (case m => k_mem); (case d => with_reducible assumption)))) | ((with_reducible show wpAny _ _ (binaryOp .Mod (Value.int _ _) (Value.int _ _)) _ _ _); (k_here; k_dflt (refine mod_twelve ?_))) | walk1) | (leave1; walk_say "STEP leave1"; try dsimp only) | fail "no step"))
          (try dsimp only)
          rename Fr _ _ _ _ => F9
          rename News _ _ _ _ => N9
          (try dsimp only at F9 N9)
          exact Leaf.mk ⟨_, _, rfl, F9.ns, kept_of (h₀ := h₀) (m := m) F2'.out F9 (fun q hq => (N9 q (by rw [← er3] at hq; simp only [List.mem_cons]; simp only [hq, or_true])).1), _, rfl⟩
        · have hpos : 0 ≤ k - 1 := by omega
          obtain ⟨tb, gb⟩ := int_at KI.out (k := k - 1) (by omega) (by omega)
          have gb' : sv[(k - 1).toNat]? = some (.int (prv sl k) tb) := by
            rw [show prv sl k = nthI sl (k - 1) from if_neg hkz]; exact gb
          clear gb
          w_strict (repeat' (first | (k_unfold; (try dsimp only)) | (dsimp only; k_unfold; (try dsimp only)) | ((with_reducible show wpAny _ _ (exec (Stmt.Assign _ (Expr.ListComp _ _ _ _) _) _) _ _ _); (refine Mark.to ?_)) | ((with_reducible show wpAny _ _ (call (Value.builtin "len") _ _) _ _ _); (k_here; k_dflt (refine' kun_lenL ?k1 ?k2 ?k3 ?_; (case k1 => exact kso_isList (by k_asm) (by k_mem) rfl); (case k2 => with_reducible assumption); (case k3 => decide)))) | ((with_reducible show wpAny _ _ (subscriptTail (Expr.Name _ _) (Expr.BinOp _ _ _ _) (Value.ref _) (Value.int _ _)) _ _ _); (k_here; k_dflt (refine' kim_list ?N ?m ?c ?d ?h0 ?hf ?x ?_; (case N => k_asm); (case m => k_mem); (case c => rfl); (case d => exact rfl); (case h0 => with_reducible assumption); (case hf => omega); (case x => with_reducible assumption)))) | ((with_reducible show wpAny _ _ (subscriptTail (Expr.Name _ _) (Expr.BinOp _ _ _ _) (Value.ref _) (Value.int _ _)) _ _ _); (k_here; k_dflt (refine' kim_back ?N ?m ?c ?d ?h0 ?h1 ?hf ?x ?_; (case N => k_asm); (case m => k_mem); (case c => rfl); (case d => exact rfl); (case h0 => with_reducible assumption); (case h1 => with_reducible assumption); (case hf => omega); (case x => with_reducible assumption)))) | ((with_reducible show wpAny _ _ (subscriptTail (Expr.Name _ _) (Expr.Name _ _) (Value.ref _) (Value.int _ _)) _ _ _); (k_here; k_dflt (refine' kim_list ?N ?m ?c ?d ?h0 ?hf ?x ?_; (case N => k_asm); (case m => k_mem); (case c => rfl); (case d => exact rfl); (case h0 => with_reducible assumption); (case hf => omega); (case x => with_reducible assumption)))) | ((with_reducible show wpAny _ _ (eval (Expr.Subscript _ _ _) _) _ _ _); (refine Subscript_ ?_)) | ((with_reducible show wpAny _ _ (eval (Expr.Name _ _) _) _ _ _); ((with_reducible show wpAny _ _ (eval (Expr.Name (Str.ofString "k") _) (compEnvC _ _ _ _)) _ _ _); k_dflt (refine LCgL.ld_own (by k_asm) (by k_mem) (by with_reducible assumption) (by with_reducible assumption) ?_))) | ((with_reducible show wpAny _ _ (eval (Expr.Name _ _) _) _ _ _); ((with_reducible show wpAny _ _ (eval (Expr.Name (Str.ofString "spots") _) (compEnvC _ _ _ _)) _ _ _); k_dflt (refine' lcf_cell ?N ?c ?m ?d ?_ ?a ?b; (case a => rfl); (case b => rfl); (case N => k_asm); (case c => rfl); (case m => k_mem); (case d => with_reducible assumption)))) | ((with_reducible show wpAny _ _ (binaryOp .Mod (Value.int _ _) (Value.int _ _)) _ _ _); (k_here; k_dflt (refine mod_twelve ?_))) | walk1 | (dsimp only; first | ((with_reducible show wpAny _ _ (exec (Stmt.Assign _ (Expr.ListComp _ _ _ _) _) _) _ _ _); (refine Mark.to ?_)) | ((with_reducible show wpAny _ _ (call (Value.builtin "len") _ _) _ _ _); (k_here; k_dflt (refine' kun_lenL ?k1 ?k2 ?k3 ?_; (case k1 => exact kso_isList (by k_asm) (by k_mem) rfl); (case k2 => with_reducible assumption); (case k3 => decide)))) | ((with_reducible show wpAny _ _ (subscriptTail (Expr.Name _ _) (Expr.BinOp _ _ _ _) (Value.ref _) (Value.int _ _)) _ _ _); (k_here; k_dflt (refine' kim_list ?N ?m ?c ?d ?h0 ?hf ?x ?_; (case N => k_asm); (case m => k_mem); (case c => rfl); (case d => exact rfl); (case h0 => with_reducible assumption); (case hf => omega); (case x => with_reducible assumption)))) | ((with_reducible show wpAny _ _ (subscriptTail (Expr.Name _ _) (Expr.BinOp _ _ _ _) (Value.ref _) (Value.int _ _)) _ _ _); (k_here; k_dflt (refine' kim_back ?N ?m ?c ?d ?h0 ?h1 ?hf ?x ?_; (case N => k_asm); (case m => k_mem); (case c => rfl); (case d => exact rfl); (case h0 => with_reducible assumption); (case h1 => with_reducible assumption); (case hf => omega); (case x => with_reducible assumption)))) | ((with_reducible show wpAny _ _ (subscriptTail (Expr.Name _ _) (Expr.Name _ _) (Value.ref _) (Value.int _ _)) _ _ _); (k_here; k_dflt (refine' kim_list ?N ?m ?c ?d ?h0 ?hf ?x ?_; (case N => k_asm); (case m => k_mem); (case c => rfl); (case d => exact rfl); (case h0 => with_reducible assumption); (case hf => omega); (case x => with_reducible assumption)))) | ((with_reducible show wpAny _ _ (eval (Expr.Subscript _ _ _) _) _ _ _); (refine Subscript_ ?_)) | ((with_reducible show wpAny _ _ (eval (Expr.Name _ _) _) _ _ _); ((with_reducible show wpAny _ _ (eval (Expr.Name (Str.ofString "k") _) (compEnvC _ _ _ _)) _ _ _); k_dflt (refine LCgL.ld_own (by k_asm) (by k_mem) (by with_reducible assumption) (by with_reducible assumption) ?_))) | ((with_reducible show wpAny _ _ (eval (Expr.Name _ _) _) _ _ _); ((with_reducible show wpAny _ _ (eval (Expr.Name (Str.ofString "spots") _) (compEnvC _ _ _ _)) _ _ _); k_dflt (refine' lcf_cell ?N ?c ?m ?d ?_ ?a ?b; (case a => rfl); (case b => rfl); (case N => k_asm); (case c => rfl); (case m => k_mem); (case d => with_reducible assumption)))) | ((with_reducible show wpAny _ _ (binaryOp .Mod (Value.int _ _) (Value.int _ _)) _ _ _); (k_here; k_dflt (refine mod_twelve ?_))) | walk1) | (leave1; walk_say "STEP leave1"; try dsimp only) | fail "no step"))
          (try dsimp only)
          rename Fr _ _ _ _ => F9
          rename News _ _ _ _ => N9
          (try dsimp only at F9 N9)
          exact Leaf.mk ⟨_, _, rfl, F9.ns, kept_of (h₀ := h₀) (m := m) F2'.out F9 (fun q hq => (N9 q (by rw [← er3] at hq; simp only [List.mem_cons]; simp only [hq, or_true])).1), _, rfl⟩
      · intro y h5 tk5 hZ S''
        obtain ⟨t, rfl⟩ := hZ
        refine ⟨h5, tk5, _, _, _, rfl, S'', rfl, by simp; omega, ?_⟩
        rw [List.range_succ, List.map_append]
        exact hys.append (.cons _ _ .nil)
    · intro C D h tk2 mC ys Pr S hY
      obtain ⟨rfl, _, hys⟩ := hY
      dsimp only at S
      refine post_use rfl (by rfl) (by rfl) S fun h' tk' O => ?_
      have kk : ∀ b o, b ≠ L → hp.get? b = some o → h'.get? b = some o := fun b o hb e => O.kb b o hb (kb1 b o hb e)
      exact wpAny_execs_nil (hret h' tk' D ys _ hys kk O.d O.dd.1 (back_none kb1 O.dd.1 O.dd.2) (fr_kept F0.out kk O.ns))
  · have hsz : ((sv.toArray.size : Nat) : Int) = 5 := by rw [List.size_toArray]; omega
    w_strict (repeat' (first | (k_unfold; (try dsimp only)) | (dsimp only; k_unfold; (try dsimp only)) | ((with_reducible show wpAny _ _ (exec (Stmt.Assign _ (Expr.ListComp _ _ _ _) _) _) _ _ _); (refine Mark.to ?_)) | ((with_reducible show wpAny _ _ (call (Value.builtin "len") _ _) _ _ _); (k_here; k_dflt (refine' kun_lenL ?k1 ?k2 ?k3 ?_; (case k1 => exact kso_isList (by k_asm) (by k_mem) rfl); (case k2 => with_reducible assumption); (case k3 => decide)))) | ((with_reducible show wpAny _ _ (subscriptTail (Expr.Name _ _) (Expr.BinOp _ _ _ _) (Value.ref _) (Value.int _ _)) _ _ _); (k_here; k_dflt (refine' kim_list ?N ?m ?c ?d ?h0 ?hf ?x ?_; (case N => k_asm); (case m => k_mem); (case c => rfl); (case d => exact rfl); (case h0 => with_reducible assumption); (case hf => omega); (case x => with_reducible assumption)))) | ((with_reducible show wpAny _ _ (subscriptTail (Expr.Name _ _) (Expr.BinOp _ _ _ _) (Value.ref _) (Value.int _ _)) _ _ _); (k_here; k_dflt (refine' kim_back ?N ?m ?c ?d ?h0 ?h1 ?hf ?x ?_; (case N => k_asm); (case m => k_mem); (case c => rfl); (case d => exact rfl); (case h0 => with_reducible assumption); (case h1 => with_reducible assumption); (case hf => omega); (case x => with_reducible assumption)))) | ((with_reducible show wpAny _ _ (subscriptTail (Expr.Name _ _) (Expr.Name _ _) (Value.ref _) (Value.int _ _)) _ _ _); (k_here; k_dflt (refine' kim_list ?N ?m ?c ?d ?h0 ?hf ?x ?_; (case N => k_asm); (case m => k_mem); (case c => rfl); (case d => exact rfl); (case h0 => with_reducible assumption); (case hf => omega); (case x => with_reducible assumption)))) | ((with_reducible show wpAny _ _ (eval (Expr.Subscript _ _ _) _) _ _ _); (refine Subscript_ ?_)) | ((with_reducible show wpAny _ _ (eval (Expr.Name _ _) _) _ _ _); ((with_reducible show wpAny _ _ (eval (Expr.Name (Str.ofString "k") _) (compEnvC _ _ _ _)) _ _ _); k_dflt (refine LCgL.ld_own (by k_asm) (by k_mem) (by with_reducible assumption) (by with_reducible assumption) ?_))) | ((with_reducible show wpAny _ _ (eval (Expr.Name _ _) _) _ _ _); ((with_reducible show wpAny _ _ (eval (Expr.Name (Str.ofString "spots") _) (compEnvC _ _ _ _)) _ _ _); k_dflt (refine' lcf_cell ?N ?c ?m ?d ?_ ?a ?b; (case a => rfl); (case b => rfl); (case N => k_asm); (case c => rfl); (case m => k_mem); (case d => with_reducible assumption)))) | ((with_reducible show wpAny _ _ (binaryOp .Mod (Value.int _ _) (Value.int _ _)) _ _ _); (k_here; k_dflt (refine mod_twelve ?_))) | walk1 | (dsimp only; first | ((with_reducible show wpAny _ _ (exec (Stmt.Assign _ (Expr.ListComp _ _ _ _) _) _) _ _ _); (refine Mark.to ?_)) | ((with_reducible show wpAny _ _ (call (Value.builtin "len") _ _) _ _ _); (k_here; k_dflt (refine' kun_lenL ?k1 ?k2 ?k3 ?_; (case k1 => exact kso_isList (by k_asm) (by k_mem) rfl); (case k2 => with_reducible assumption); (case k3 => decide)))) | ((with_reducible show wpAny _ _ (subscriptTail (Expr.Name _ _) (Expr.BinOp _ _ _ _) (Value.ref _) (Value.int _ _)) _ _ _); (k_here; k_dflt (refine' kim_list ?N ?m ?c ?d ?h0 ?hf ?x ?_; (case N => k_asm); (case m => k_mem); (case c => rfl); (case d => exact rfl); (case h0 => with_reducible assumption); (case hf => omega); (case x => with_reducible assumption)))) | ((with_reducible show wpAny _ _ (subscriptTail (Expr.Name _ _) (Expr.BinOp _ _ _ _) (Value.ref _) (Value.int _ _)) _ _ _); (k_here; k_dflt (refine' kim_back ?N ?m ?c ?d ?h0 ?h1 ?hf ?x ?_; (case N => k_asm); (case m => k_mem); (case c => rfl); (case d => exact rfl); (case h0 => with_reducible assumption); (case h1 => with_reducible assumption); (case hf => omega); (case x => with_reducible assumption)))) | ((with_reducible show wpAny _ _ (subscriptTail (Expr.Name _ _) (Expr.Name _ _) (Value.ref _) (Value.int _ _)) _ _ _); (k_here; k_dflt (refine' kim_list ?N ?m ?c ?d ?h0 ?hf ?x ?_; (case N => k_asm); (case m => k_mem); (case c => rfl); (case d => exact rfl); (case h0 => with_reducible assumption); (case hf => omega); (case x => with_reducible assumption)))) | ((with_reducible show wpAny _ _ (eval (Expr.Subscript _ _ _) _) _ _ _); (refine Subscript_ ?_)) | ((with_reducible show wpAny _ _ (eval (Expr.Name _ _) _) _ _ _); ((with_reducible show wpAny _ _ (eval (Expr.Name (Str.ofString "k") _) (compEnvC _ _ _ _)) _ _ _); k_dflt (refine LCgL.ld_own (by k_asm) (by k_mem) (by with_reducible assumption) (by with_reducible assumption) ?_))) | ((with_reducible show wpAny _ _ (eval (Expr.Name _ _) _) _ _ _); ((with_reducible show wpAny _ _ (eval (Expr.Name (Str.ofString "spots") _) (compEnvC _ _ _ _)) _ _ _); k_dflt (refine' lcf_cell ?N ?c ?m ?d ?_ ?a ?b; (case a => rfl); (case b => rfl); (case N => k_asm); (case c => rfl); (case m => k_mem); (case d => with_reducible assumption)))) | ((with_reducible show wpAny _ _ (binaryOp .Mod (Value.int _ _) (Value.int _ _)) _ _ _); (k_here; k_dflt (refine mod_twelve ?_))) | walk1) | (leave1; walk_say "STEP leave1"; try dsimp only) | fail "no step"))
    rename IsRange _ _ _ _ _ _ _ _ => hr
    rename Fr _ _ _ _ => F1
    rename News _ _ _ _ => N1
    (try dsimp only at F1 N1)
    have kb1 := kept_of (h₀ := h₀) (m := m) F0.out F1 (fun q hq => (N1 q (by rw [← er] at hq; simp only [List.mem_cons, List.mem_append]; simp only [hq, or_true])).1)
    refine Leaf.mk ⟨_, _, _, _, _, _, 5, rfl, hr, by first | decide | rfl, by first | rfl | decide, F1, ?_, (by first | exact ⟨rfl, Nat.le_refl _, .nil⟩ | exact ⟨trivial, Nat.le_refl _, .nil⟩ | exact ⟨trivial, trivial, .nil⟩), ?_⟩
    · intro C I D i v oI mC ys Pr h tk2 K hv hY S
      obtain ⟨hi, tj, rfl⟩ := hv
      dsimp only at S ⊢
      obtain ⟨rfl, hl1, hys⟩ := hY
      obtain ⟨k, ek⟩ : ∃ k : Int, k = 0 + (i : Int) := ⟨_, rfl⟩
      rw [← ek] at S
      obtain ⟨m₂, em₂⟩ : ∃ m₂, m₂ = (fun y => if y = Str.ofString "k" then some (Value.int k tj) else mC y) := ⟨_, rfl⟩
      have hm₂ : m₂ (Str.ofString "k") = some (.int k tj) := by rw [em₂]; exact if_pos rfl
      rw [← em₂] at S
      intro E'
      refine wpAny_tests_nil ?_
      rw [if_pos rfl]
      refine' body_val (s := { heap := h, gens := gens, drawn := drawn, toks := tk2, os := os }) (tk := tk2) (Z := fun v => ∃ t, v = .int (gapv sl (i : Int)) t) K ?hg S ?hs ?_ ?_
      case hg => rfl
      case hs => (rw [sizeLine_eq]; omega)
      · dsimp only
        have F2 : Fr h₀ L h m := fr_kept F1 S.kb S.ns
        have N2 := news_kept N1 S.kb
        obtain ⟨oC, eC, hoC⟩ := LCg.ns_obj S.cf
        obtain ⟨_, cL, cn, _⟩ := S.fa C (.head _)
        have cn0 := new_none F1 cn
        have N3 := news_above (h₀ := h₀) (L := L) (h := h) (news := [(C, oC), (L + 6, oc6), (Sp, listOf sv.toArray cS)]) fun q hq => by
          simp only [List.mem_cons, List.not_mem_nil, or_false] at hq
          rcases hq with rfl | rfl | rfl
          · exact ⟨eC, cL, cn0⟩
          · exact N2 _ (by k_mem)
          · exact N2 _ (by k_mem)
        obtain ⟨rest3, er3⟩ : ∃ rest, rest = above h₀ L h := ⟨_, rfl⟩
        rw [← er3] at N3
        simp only [List.cons_append, List.nil_append] at N3
        have F2' : Kp (Fr h₀ L h m) := ⟨F2⟩
        have ei : (i : Int) = k := by omega
        rw [ei]
        have hk0 : 0 ≤ k := by omega
        have hk5 : k < sl.length := by omega
        obtain ⟨ta, ga⟩ := int_at KI.out hk0 hk5
        clear S K N2 N1 F1 hret eC cL cn cn0 kb1 hr hys
        by_cases hkz : k = 0
        · have hneg : k - 1 < 0 := by omega
          have hlow : -(sv.length : Int) ≤ k - 1 := by omega
          obtain ⟨tb, gb⟩ := int_at KI.out (k := (sl.length : Int) - 1) (by omega) (by omega)
          have gb' : sv[((k - 1) + (sv.length : Int)).toNat]? = some (.int (prv sl k) tb) := by
            rw [show prv sl k = nthI sl ((sl.length : Int) - 1) from if_pos hkz, show (k - 1) + (sv.length : Int) = (sl.length : Int) - 1 by omega]; exact gb
          clear gb
          w_strict (repeat' (first | (k_unfold; (try dsimp only)) | (dsimp only; k_unfold; (try dsimp only)) | ((with_reducible show wpAny _ _ (exec (Stmt.Assign _ (Expr.ListComp _ _ _ _) _) _) _ _ _); (refine Mark.to ?_)) | ((with_reducible show wpAny _ _ (call (Value.builtin "len") _ _) _ _ _); (k_here; k_dflt (refine' kun_lenL ?k1 ?k2 ?k3 ?_; (case k1 => exact kso_isList (by k_asm) (by k_mem) rfl); (case k2 => with_reducible assumption); (case k3 => decide)))) | ((with_reducible show wpAny _ _ (subscriptTail (Expr.Name _ _) (Expr.BinOp _ _ _ _) (Value.ref _) (Value.int _ _)) _ _ _); (k_here; k_dflt (refine' kim_list ?N ?m ?c ?d ?h0 ?hf ?x ?_; (case N => k_asm); (case m => k_mem); (case c => rfl); (case d => exact rfl); (case h0 => with_reducible assumption); (case hf => omega); (case x => with_reducible assumption)))) | ((with_reducible show wpAny _ _ (subscriptTail (Expr.Name _ _) (Expr.BinOp _ _ _ _) (Value.ref _) (Value.int _ _)) _ _ _); (k_here; k_dflt (refine' kim_back ?N ?m ?c ?d ?h0 ?h1 ?hf ?x ?_; (case N => k_asm); (case m => k_mem); (case c => rfl); (case d => exact rfl); (case h0 => with_reducible assumption); (case h1 => with_reducible assumption); (case hf => omega); (case x => with_reducible assumption)))) | ((with_reducible show wpAny _ _ (subscriptTail (Expr.Name _ _) (Expr.Name _ _) (Value.ref _) (Value.int _ _)) _ _ _); (k_here; k_dflt (refine' kim_list ?N ?m ?c ?d ?h0 ?hf ?x ?_; (case N => k_asm); (case m => k_mem); (case c => rfl); (case d => exact rfl); (case h0 => with_reducible assumption); (case hf => omega); (case x => with_reducible assumption)))) | ((with_reducible show wpAny _ _ (eval (Expr.Subscript _ _ _) _) _ _ _); (refine Subscript_ ?_)) | ((with_reducible show wpAny _ _ (eval (Expr.Name _ _) _) _ _ _); ((with_reducible show wpAny _ _ (eval (Expr.Name (Str.ofString "k") _) (compEnvC _ _ _ _)) _ _ _); k_dflt (refine LCgL.ld_own (by k_asm) (by k_mem) (by with_reducible assumption) (by with_reducible assumption) ?_))) | ((with_reducible show wpAny _ _ (eval (Expr.Name _ _) _) _ _ _); ((with_reducible show wpAny _ _ (eval (Expr.Name (Str.ofString "spots") _) (compEnvC _ _ _ _)) _ _ _); k_dflt (refine' lcf_cell ?N ?c ?m ?d ?_ ?a ?b; (case a => rfl); (case b => rfl); (case N => k_asm); (case c => rfl); (case m => k_mem); (case d => with_reducible assumption)))) | ((with_reducible show wpAny _ _ (binaryOp .Mod (Value.int _ _) (Value.int _ _)) _ _ _); (k_here; k_dflt (refine mod_twelve ?_))) | walk1 | (dsimp only; first | ((with_reducible show wpAny _ _ (exec (Stmt.Assign _ (Expr.ListComp _ _ _ _) _) _) _ _ _); (refine Mark.to ?_)) | ((with_reducible show wpAny _ _ (call (Value.builtin "len") _ _) _ _ _); (k_here; k_dflt (refine' kun_lenL ?k1 ?k2 ?k3 ?_; (case k1 => exact kso_isList (by k_asm) (by k_mem) rfl); (case k2 => with_reducible assumption); (case k3 => decide)))) | ((with_reducible show wpAny _ _ (subscriptTail (Expr.Name _ _) (Expr.BinOp _ _ _ _) (Value.ref _) (Value.int _ _)) _ _ _); (k_here; k_dflt (refine' kim_list ?N ?m ?c ?d ?h0 ?hf ?x ?_; (case N => k_asm); (case m => k_mem); (case c => rfl); (case d => exact rfl); (case h0 => with_reducible assumption); (case hf => omega); (case x => with_reducible assumption)))) | ((with_reducible show wpAny _ _ (subscriptTail (Expr.Name _ _) (Expr.BinOp _ _ _ _) (Value.ref _) (Value.int _ _)) _ _ _); (k_here; k_dflt (refine' kim_back ?N ?m ?c ?d ?h0 ?h1 ?hf ?x ?_; (case N => k_asm); (case m => k_mem); (case c => rfl); (case d => exact rfl); (case h0 => with_reducible assumption); (case h1 => with_reducible assumption); (case hf => omega); (case x => with_reducible assumption)))) | ((with_reducible show wpAny _ _ (subscriptTail (Expr.Name _ _) (Expr.Name _ _) (Value.ref _) (Value.int _ _)) _ _ _); (k_here; k_dflt (refine' kim_list ?N ?m ?c ?d ?h0 ?hf ?x ?_; (case N => k_asm); (case m => k_mem); (case c => rfl); (case d => exact rfl); (case h0 => with_reducible assumption); (case hf => omega); (case x => with_reducible assumption)))) | ((with_reducible show wpAny _ _ (eval (Expr.Subscript _ _ _) _) _ _ _); (refine Subscript_ ?_)) | ((with_reducible show wpAny _ _ (eval (Expr.Name _ _) _) _ _ _); ((with_reducible show wpAny _ _ (eval (Expr.Name (Str.ofString "k") _) (compEnvC _ _ _ _)) _ _ _); k_dflt (refine LCgL.ld_own (by k_asm) (by k_mem) (by with_reducible assumption) (by with_reducible assumption) ?_))) | ((with_reducible show wpAny _ _ (eval (Expr.Name _ _) _) _ _ _); ((with_reducible show wpAny _ _ (eval (Expr.Name (Str.ofString "spots") _) (compEnvC _ _ _ _)) _ _ _); k_dflt (refine' lcf_cell ?N ?c ?m ?d ?_ ?a ?b; (case a => rfl); (case b => rfl); (case N => k_asm); (case c => rfl); (case m => k_mem); (case d => with_reducible assumption)))) | ((with_reducible show wpAny _ _ (binaryOp .Mod (Value.int _ _) (Value.int _ _)) _ _ _); (k_here; k_dflt (refine mod_twelve ?_))) | walk1) | (leave1; walk_say "STEP leave1"; try dsimp only) | fail "no step"))
          (try dsimp only)
          rename Fr _ _ _ _ => F9
          rename News _ _ _ _ => N9
          (try dsimp only at F9 N9)
          exact Leaf.mk ⟨_, _, rfl, F9.ns, kept_of (h₀ := h₀) (m := m) F2'.out F9 (fun q hq => (N9 q (by rw [← er3] at hq; simp only [List.mem_cons]; simp only [hq, or_true])).1), _, rfl⟩
        · have hpos : 0 ≤ k - 1 := by omega
          obtain ⟨tb, gb⟩ := int_at KI.out (k := k - 1) (by omega) (by omega)
          have gb' : sv[(k - 1).toNat]? = some (.int (prv sl k) tb) := by
            rw [show prv sl k = nthI sl (k - 1) from if_neg hkz]; exact gb
          clear gb
          w_strict (repeat' (first | (k_unfold; (try dsimp only)) | (dsimp only; k_unfold; (try dsimp only)) | ((with_reducible show wpAny _ _ (exec (Stmt.Assign _ (Expr.ListComp _ _ _ _) _) _) _ _ _); (refine Mark.to ?_)) | ((with_reducible show wpAny _ _ (call (Value.builtin "len") _ _) _ _ _); (k_here; k_dflt (refine' kun_lenL ?k1 ?k2 ?k3 ?_; (case k1 => exact kso_isList (by k_asm) (by k_mem) rfl); (case k2 => with_reducible assumption); (case k3 => decide)))) | ((with_reducible show wpAny _ _ (subscriptTail (Expr.Name _ _) (Expr.BinOp _ _ _ _) (Value.ref _) (Value.int _ _)) _ _ _); (k_here; k_dflt (refine' kim_list ?N ?m ?c ?d ?h0 ?hf ?x ?_; (case N => k_asm); (case m => k_mem); (case c => rfl); (case d => exact rfl); (case h0 => with_reducible assumption); (case hf => omega); (case x => with_reducible assumption)))) | ((with_reducible show wpAny _ _ (subscriptTail (Expr.Name _ _) (Expr.BinOp _ _ _ _) (Value.ref _) (Value.int _ _)) _ _ _); (k_here; k_dflt (refine' kim_back ?N ?m ?c ?d ?h0 ?h1 ?hf ?x ?_; (case N => k_asm); (case m => k_mem); (case c => rfl); (case d => exact rfl); (case h0 => with_reducible assumption); (case h1 => with_reducible assumption); (case hf => omega); (case x => with_reducible assumption)))) | ((with_reducible show wpAny _ _ (subscriptTail (Expr.Name _ _) (Expr.Name _ _) (Value.ref _) (Value.int _ _)) _ _ _); (k_here; k_dflt (refine' kim_list ?N ?m ?c ?d ?h0 ?hf ?x ?_; (case N => k_asm); (case m => k_mem); (case c => rfl); (case d => exact rfl); (case h0 => with_reducible assumption); (case hf => omega); (case x => with_reducible assumption)))) | ((with_reducible show wpAny _ _ (eval (Expr.Subscript _ _ _) _) _ _ _); (refine Subscript_ ?_)) | ((with_reducible show wpAny _ _ (eval (Expr.Name _ _) _) _ _ _); ((with_reducible show wpAny _ _ (eval (Expr.Name (Str.ofString "k") _) (compEnvC _ _ _ _)) _ _ _); k_dflt (refine LCgL.ld_own (by k_asm) (by k_mem) (by with_reducible assumption) (by with_reducible assumption) ?_))) | ((with_reducible show wpAny _ _ (eval (Expr.Name _ _) _) _ _ _); ((with_reducible show wpAny _ _ (eval (Expr.Name (Str.ofString "spots") _) (compEnvC _ _ _ _)) _ _ _); k_dflt (refine' lcf_cell ?N ?c ?m ?d ?_ ?a ?b; (case a => rfl); (case b => rfl); (case N => k_asm); (case c => rfl); (case m => k_mem); (case d => with_reducible assumption)))) | ((with_reducible show wpAny _ _ (binaryOp .Mod (Value.int _ _) (Value.int _ _)) _ _ _); (k_here; k_dflt (refine mod_twelve ?_))) | walk1 | (dsimp only; first | ((with_reducible show wpAny _ _ (exec (Stmt.Assign _ (Expr.ListComp _ _ _ _) _) _) _ _ _); (refine Mark.to ?_)) | ((with_reducible show wpAny _ _ (call (Value.builtin "len") _ _) _ _ _); (k_here; k_dflt (refine' kun_lenL ?k1 ?k2 ?k3 ?_; (case k1 => exact kso_isList (by k_asm) (by k_mem) rfl); (case k2 => with_reducible assumption); (case k3 => decide)))) | ((with_reducible show wpAny _ _ (subscriptTail (Expr.Name _ _) (Expr.BinOp _ _ _ _) (Value.ref _) (Value.int _ _)) _ _ _); (k_here; k_dflt (refine' kim_list ?N ?m ?c ?d ?h0 ?hf ?x ?_; (case N => k_asm); (case m => k_mem); (case c => rfl); (case d => exact rfl); (case h0 => with_reducible assumption); (case hf => omega); (case x => with_reducible assumption)))) | ((with_reducible show wpAny _ _ (subscriptTail (Expr.Name _ _) (Expr.BinOp _ _ _ _) (Value.ref _) (Value.int _ _)) _ _ _); (k_here; k_dflt (refine' kim_back ?N ?m ?c ?d ?h0 ?h1 ?hf ?x ?_; (case N => k_asm); (case m => k_mem); (case c => rfl); (case d => exact rfl); (case h0 => with_reducible assumption); (case h1 => with_reducible assumption); (case hf => omega); (case x => with_reducible assumption)))) | ((with_reducible show wpAny _ _ (subscriptTail (Expr.Name _ _) (Expr.Name _ _) (Value.ref _) (Value.int _ _)) _ _ _); (k_here; k_dflt (refine' kim_list ?N ?m ?c ?d ?h0 ?hf ?x ?_; (case N => k_asm); (case m => k_mem); (case c => rfl); (case d => exact rfl); (case h0 => with_reducible assumption); (case hf => omega); (case x => with_reducible assumption)))) | ((with_reducible show wpAny _ _ (eval (Expr.Subscript _ _ _) _) _ _ _); (refine Subscript_ ?_)) | ((with_reducible show wpAny _ _ (eval (Expr.Name _ _) _) _ _ _); ((with_reducible show wpAny _ _ (eval (Expr.Name (Str.ofString "k") _) (compEnvC _ _ _ _)) _ _ _); k_dflt (refine LCgL.ld_own (by k_asm) (by k_mem) (by with_reducible assumption) (by with_reducible assumption) ?_))) | ((with_reducible show wpAny _ _ (eval (Expr.Name _ _) _) _ _ _); ((with_reducible show wpAny _ _ (eval (Expr.Name (Str.ofString "spots") _) (compEnvC _ _ _ _)) _ _ _); k_dflt (refine' lcf_cell ?N ?c ?m ?d ?_ ?a ?b; (case a => rfl); (case b => rfl); (case N => k_asm); (case c => rfl); (case m => k_mem); (case d => with_reducible assumption)))) | ((with_reducible show wpAny _ _ (binaryOp .Mod (Value.int _ _) (Value.int _ _)) _ _ _); (k_here; k_dflt (refine mod_twelve ?_))) | walk1) | (leave1; walk_say "STEP leave1"; try dsimp only) | fail "no step"))
          (try dsimp only)
          rename Fr _ _ _ _ => F9
          rename News _ _ _ _ => N9
          (try dsimp only at F9 N9)
          exact Leaf.mk ⟨_, _, rfl, F9.ns, kept_of (h₀ := h₀) (m := m) F2'.out F9 (fun q hq => (N9 q (by rw [← er3] at hq; simp only [List.mem_cons]; simp only [hq, or_true])).1), _, rfl⟩
      · intro y h5 tk5 hZ S''
        obtain ⟨t, rfl⟩ := hZ
        refine ⟨h5, tk5, _, _, _, rfl, S'', rfl, by simp; omega, ?_⟩
        rw [List.range_succ, List.map_append]
        exact hys.append (.cons _ _ .nil)
    · intro C D h tk2 mC ys Pr S hY
      obtain ⟨rfl, _, hys⟩ := hY
      dsimp only at S
      refine post_use rfl (by rfl) (by rfl) S fun h' tk' O => ?_
      have kk : ∀ b o, b ≠ L → hp.get? b = some o → h'.get? b = some o := fun b o hb e => O.kb b o hb (kb1 b o hb e)
      exact wpAny_execs_nil (hret h' tk' D ys _ hys kk O.d O.dd.1 (back_none kb1 O.dd.1 O.dd.2) (fr_kept F0.out kk O.ns))

end Mine
end

section
open PySem PySem.W PyProof.Rows PySem.Calls
set_option maxHeartbeats 8000000
namespace Mine
local macro_rules | `(tactic| k_all) => `(tactic| with_reducible assumption)
local macro_rules | `(tactic| k_lt $h:ident) => `(tactic| skip)
def pairsV (sl : List Int) : Bool := decide (sl.length = 4) && decide (nthI sl 2 - nthI sl 0 = 6) && decide (nthI sl 3 - nthI sl 1 = 6)
theorem ge_claim (w : World) (p : Program) (loose : List Str) (mean : ExcName → Option Value) (mg mb : Str → Option Value) (fa : Addr) (cd : Value) (h₀ : Heap) (L : Addr) (m : Str → Option Value) (sl : List Int) (sv : List Value) (Sp : Addr) (cS n : Nat) (oc6 : Obj) (rest : List (Addr × Obj))
  (hc6 : oc6.data = .cell (some (.ref Sp))) (hI : IntsAre sv sl) (hn : n = 4 ∨ n = 5) (hsl : sl.length = n)
  (dp un : Nat) (gd : Option (List Code)) (fl : List Env) (s : Shared) (Q : Flow → Shared → Prop) (E : Value → Shared → Prop)
  (X : (Mine.hd.heap_39 w.params).In h₀) (T : Top p loose mean mg mb h₀) (hd : dp + 3 < recursionLimit) (hu : un + 100 < cLine)
  (F : Fr h₀ L s.heap m)
  (N : News h₀ L s.heap ((Sp, listOf sv.toArray cS) :: (L + 6, oc6) :: rest))
  (hret : ∀ h' tk', Fr h₀ L h' (fun y => if y = Str.ofString "pairs" then some (.bool (pairsV sl)) else m y) → News h₀ L h' ((Sp, listOf sv.toArray cS) :: (L + 6, oc6) :: rest) → Q .next { s with heap := h', toks := tk' }) :
  wpAny (model PySem.Challenge.rw_pg0276_01.row.prog w) { handled := none, depth := dp, frames := some fl, guards := gd, units := un } (execs (outStmt 4) (envOfC (Str.ofString "law") lawScope L fa cd)) Q E s := by
  w_on
  obtain ⟨hp, gens, drawn, tk, os⟩ := s
  dsimp only at F N hret
  have eb : outStmt 4 = outStmt 4 := rfl
  conv at eb => { rhs; whnf }
  rw [eb]
  clear eb
  have hlen := hI.length
  have KI : Kp (IntsAre sv sl) := ⟨hI⟩
  rcases hn with rfl | rfl
  · have hsz : ((sv.toArray.size : Nat) : Int) = 4 := by rw [List.size_toArray]; omega
    obtain ⟨t0, g0⟩ := int_at hI (k := 0) (by omega) (by omega)
    obtain ⟨t1, g1⟩ := int_at hI (k := 1) (by omega) (by omega)
    obtain ⟨t2, g2⟩ := int_at hI (k := 2) (by omega) (by omega)
    obtain ⟨t3, g3⟩ := int_at hI (k := 3) (by omega) (by omega)
    by_cases hA : nthI sl 2 - nthI sl 0 = 6
    · by_cases hB : nthI sl 3 - nthI sl 1 = 6
      · rw [show pairsV sl = true by simp [pairsV, hsl, hA, hB]] at hret
        w_strict (repeat' (first | (k_unfold; (try dsimp only)) | (dsimp only; k_unfold; (try dsimp only)) | ((with_reducible show wpAny _ _ (truthy (Value.bool _)) _ _ _); (refine wpAny_truthy_bool ?_; try first | rw [if_pos rfl] | rw [if_neg (by decide)])) | ((with_reducible show wpAny _ _ (compareOp .Eq (Value.int _ _) (Value.int _ _)) _ _ _); (k_here; first | (refine' eq_yes ?h ?_; (case h => with_reducible assumption)) | (refine' eq_no ?h ?_; (case h => with_reducible assumption)) | (refine' eq_yes ?h ?_; (case h => decide)) | (refine' eq_no ?h ?_; (case h => decide)))) | ((with_reducible show wpAny _ _ (call (Value.builtin "len") _ _) _ _ _); (k_here; k_dflt (refine' kun_lenL ?k1 ?k2 ?k3 ?_; (case k1 => exact kso_isList (by k_asm) (by k_mem) rfl); (case k2 => with_reducible assumption); (case k3 => decide)))) | ((with_reducible show wpAny _ _ (subscriptTail (Expr.Name _ _) (Expr.Constant _ _ _) (Value.ref _) (Value.int _ _)) _ _ _); (k_here; k_dflt (refine' kim_list ?N ?m ?c ?d ?h0 ?hf ?x ?_; (case N => k_asm); (case m => k_mem); (case c => rfl); (case d => exact rfl); (case h0 => decide); (case hf => decide); (case x => with_reducible assumption)))) | ((with_reducible show wpAny _ _ (eval (Expr.Subscript _ _ _) _) _ _ _); (refine Subscript_ ?_)) | walk1 | (dsimp only; first | ((with_reducible show wpAny _ _ (truthy (Value.bool _)) _ _ _); (refine wpAny_truthy_bool ?_; try first | rw [if_pos rfl] | rw [if_neg (by decide)])) | ((with_reducible show wpAny _ _ (compareOp .Eq (Value.int _ _) (Value.int _ _)) _ _ _); (k_here; first | (refine' eq_yes ?h ?_; (case h => with_reducible assumption)) | (refine' eq_no ?h ?_; (case h => with_reducible assumption)) | (refine' eq_yes ?h ?_; (case h => decide)) | (refine' eq_no ?h ?_; (case h => decide)))) | ((with_reducible show wpAny _ _ (call (Value.builtin "len") _ _) _ _ _); (k_here; k_dflt (refine' kun_lenL ?k1 ?k2 ?k3 ?_; (case k1 => exact kso_isList (by k_asm) (by k_mem) rfl); (case k2 => with_reducible assumption); (case k3 => decide)))) | ((with_reducible show wpAny _ _ (subscriptTail (Expr.Name _ _) (Expr.Constant _ _ _) (Value.ref _) (Value.int _ _)) _ _ _); (k_here; k_dflt (refine' kim_list ?N ?m ?c ?d ?h0 ?hf ?x ?_; (case N => k_asm); (case m => k_mem); (case c => rfl); (case d => exact rfl); (case h0 => decide); (case hf => decide); (case x => with_reducible assumption)))) | ((with_reducible show wpAny _ _ (eval (Expr.Subscript _ _ _) _) _ _ _); (refine Subscript_ ?_)) | walk1) | (leave1; walk_say "STEP leave1"; try dsimp only) | fail "no step"))
        dsimp only
        rename Fr _ _ _ _ => F9
        rename News _ _ _ _ => N9
        exact wpAny_execs_nil (hret _ _ F9 N9)
      · rw [show pairsV sl = false by simp [pairsV, hB]] at hret
        w_strict (repeat' (first | (k_unfold; (try dsimp only)) | (dsimp only; k_unfold; (try dsimp only)) | ((with_reducible show wpAny _ _ (truthy (Value.bool _)) _ _ _); (refine wpAny_truthy_bool ?_; try first | rw [if_pos rfl] | rw [if_neg (by decide)])) | ((with_reducible show wpAny _ _ (compareOp .Eq (Value.int _ _) (Value.int _ _)) _ _ _); (k_here; first | (refine' eq_yes ?h ?_; (case h => with_reducible assumption)) | (refine' eq_no ?h ?_; (case h => with_reducible assumption)) | (refine' eq_yes ?h ?_; (case h => decide)) | (refine' eq_no ?h ?_; (case h => decide)))) | ((with_reducible show wpAny _ _ (call (Value.builtin "len") _ _) _ _ _); (k_here; k_dflt (refine' kun_lenL ?k1 ?k2 ?k3 ?_; (case k1 => exact kso_isList (by k_asm) (by k_mem) rfl); (case k2 => with_reducible assumption); (case k3 => decide)))) | ((with_reducible show wpAny _ _ (subscriptTail (Expr.Name _ _) (Expr.Constant _ _ _) (Value.ref _) (Value.int _ _)) _ _ _); (k_here; k_dflt (refine' kim_list ?N ?m ?c ?d ?h0 ?hf ?x ?_; (case N => k_asm); (case m => k_mem); (case c => rfl); (case d => exact rfl); (case h0 => decide); (case hf => decide); (case x => with_reducible assumption)))) | ((with_reducible show wpAny _ _ (eval (Expr.Subscript _ _ _) _) _ _ _); (refine Subscript_ ?_)) | walk1 | (dsimp only; first | ((with_reducible show wpAny _ _ (truthy (Value.bool _)) _ _ _); (refine wpAny_truthy_bool ?_; try first | rw [if_pos rfl] | rw [if_neg (by decide)])) | ((with_reducible show wpAny _ _ (compareOp .Eq (Value.int _ _) (Value.int _ _)) _ _ _); (k_here; first | (refine' eq_yes ?h ?_; (case h => with_reducible assumption)) | (refine' eq_no ?h ?_; (case h => with_reducible assumption)) | (refine' eq_yes ?h ?_; (case h => decide)) | (refine' eq_no ?h ?_; (case h => decide)))) | ((with_reducible show wpAny _ _ (call (Value.builtin "len") _ _) _ _ _); (k_here; k_dflt (refine' kun_lenL ?k1 ?k2 ?k3 ?_; (case k1 => exact kso_isList (by k_asm) (by k_mem) rfl); (case k2 => with_reducible assumption); (case k3 => decide)))) | ((with_reducible show wpAny _ _ (subscriptTail (Expr.Name _ _) (Expr.Constant _ _ _) (Value.ref _) (Value.int _ _)) _ _ _); (k_here; k_dflt (refine' kim_list ?N ?m ?c ?d ?h0 ?hf ?x ?_; (case N => k_asm); (case m => k_mem); (case c => rfl); (case d => exact rfl); (case h0 => decide); (case hf => decide); (case x => with_reducible assumption)))) | ((with_reducible show wpAny _ _ (eval (Expr.Subscript _ _ _) _) _ _ _); (refine Subscript_ ?_)) | walk1) | (leave1; walk_say "STEP leave1"; try dsimp only) | fail "no step"))
        dsimp only
        rename Fr _ _ _ _ => F9
        rename News _ _ _ _ => N9
        exact wpAny_execs_nil (hret _ _ F9 N9)
    · rw [show pairsV sl = false by simp [pairsV, hA]] at hret
      w_strict (repeat' (first | (k_unfold; (try dsimp only)) | (dsimp only; k_unfold; (try dsimp only)) | ((with_reducible show wpAny _ _ (truthy (Value.bool _)) _ _ _); (refine wpAny_truthy_bool ?_; try first | rw [if_pos rfl] | rw [if_neg (by decide)])) | ((with_reducible show wpAny _ _ (compareOp .Eq (Value.int _ _) (Value.int _ _)) _ _ _); (k_here; first | (refine' eq_yes ?h ?_; (case h => with_reducible assumption)) | (refine' eq_no ?h ?_; (case h => with_reducible assumption)) | (refine' eq_yes ?h ?_; (case h => decide)) | (refine' eq_no ?h ?_; (case h => decide)))) | ((with_reducible show wpAny _ _ (call (Value.builtin "len") _ _) _ _ _); (k_here; k_dflt (refine' kun_lenL ?k1 ?k2 ?k3 ?_; (case k1 => exact kso_isList (by k_asm) (by k_mem) rfl); (case k2 => with_reducible assumption); (case k3 => decide)))) | ((with_reducible show wpAny _ _ (subscriptTail (Expr.Name _ _) (Expr.Constant _ _ _) (Value.ref _) (Value.int _ _)) _ _ _); (k_here; k_dflt (refine' kim_list ?N ?m ?c ?d ?h0 ?hf ?x ?_; (case N => k_asm); (case m => k_mem); (case c => rfl); (case d => exact rfl); (case h0 => decide); (case hf => decide); (case x => with_reducible assumption)))) | ((with_reducible show wpAny _ _ (eval (Expr.Subscript _ _ _) _) _ _ _); (refine Subscript_ ?_)) | walk1 | (dsimp only; first | ((with_reducible show wpAny _ _ (truthy (Value.bool _)) _ _ _); (refine wpAny_truthy_bool ?_; try first | rw [if_pos rfl] | rw [if_neg (by decide)])) | ((with_reducible show wpAny _ _ (compareOp .Eq (Value.int _ _) (Value.int _ _)) _ _ _); (k_here; first | (refine' eq_yes ?h ?_; (case h => with_reducible assumption)) | (refine' eq_no ?h ?_; (case h => with_reducible assumption)) | (refine' eq_yes ?h ?_; (case h => decide)) | (refine' eq_no ?h ?_; (case h => decide)))) | ((with_reducible show wpAny _ _ (call (Value.builtin "len") _ _) _ _ _); (k_here; k_dflt (refine' kun_lenL ?k1 ?k2 ?k3 ?_; (case k1 => exact kso_isList (by k_asm) (by k_mem) rfl); (case k2 => with_reducible assumption); (case k3 => decide)))) | ((with_reducible show wpAny _ _ (subscriptTail (Expr.Name _ _) (Expr.Constant _ _ _) (Value.ref _) (Value.int _ _)) _ _ _); (k_here; k_dflt (refine' kim_list ?N ?m ?c ?d ?h0 ?hf ?x ?_; (case N => k_asm); (case m => k_mem); (case c => rfl); (case d => exact rfl); (case h0 => decide); (case hf => decide); (case x => with_reducible assumption)))) | ((with_reducible show wpAny _ _ (eval (Expr.Subscript _ _ _) _) _ _ _); (refine Subscript_ ?_)) | walk1) | (leave1; walk_say "STEP leave1"; try dsimp only) | fail "no step"))
      dsimp only
      rename Fr _ _ _ _ => F9
      rename News _ _ _ _ => N9
      exact wpAny_execs_nil (hret _ _ F9 N9)
  · have hsz : ((sv.toArray.size : Nat) : Int) = 5 := by rw [List.size_toArray]; omega
    rw [show pairsV sl = false by simp [pairsV, hsl]] at hret
    w_strict (repeat' (first | (k_unfold; (try dsimp only)) | (dsimp only; k_unfold; (try dsimp only)) | ((with_reducible show wpAny _ _ (truthy (Value.bool _)) _ _ _); (refine wpAny_truthy_bool ?_; try first | rw [if_pos rfl] | rw [if_neg (by decide)])) | ((with_reducible show wpAny _ _ (compareOp .Eq (Value.int _ _) (Value.int _ _)) _ _ _); (k_here; first | (refine' eq_yes ?h ?_; (case h => with_reducible assumption)) | (refine' eq_no ?h ?_; (case h => with_reducible assumption)) | (refine' eq_yes ?h ?_; (case h => decide)) | (refine' eq_no ?h ?_; (case h => decide)))) | ((with_reducible show wpAny _ _ (call (Value.builtin "len") _ _) _ _ _); (k_here; k_dflt (refine' kun_lenL ?k1 ?k2 ?k3 ?_; (case k1 => exact kso_isList (by k_asm) (by k_mem) rfl); (case k2 => with_reducible assumption); (case k3 => decide)))) | ((with_reducible show wpAny _ _ (subscriptTail (Expr.Name _ _) (Expr.Constant _ _ _) (Value.ref _) (Value.int _ _)) _ _ _); (k_here; k_dflt (refine' kim_list ?N ?m ?c ?d ?h0 ?hf ?x ?_; (case N => k_asm); (case m => k_mem); (case c => rfl); (case d => exact rfl); (case h0 => decide); (case hf => decide); (case x => with_reducible assumption)))) | ((with_reducible show wpAny _ _ (eval (Expr.Subscript _ _ _) _) _ _ _); (refine Subscript_ ?_)) | walk1 | (dsimp only; first | ((with_reducible show wpAny _ _ (truthy (Value.bool _)) _ _ _); (refine wpAny_truthy_bool ?_; try first | rw [if_pos rfl] | rw [if_neg (by decide)])) | ((with_reducible show wpAny _ _ (compareOp .Eq (Value.int _ _) (Value.int _ _)) _ _ _); (k_here; first | (refine' eq_yes ?h ?_; (case h => with_reducible assumption)) | (refine' eq_no ?h ?_; (case h => with_reducible assumption)) | (refine' eq_yes ?h ?_; (case h => decide)) | (refine' eq_no ?h ?_; (case h => decide)))) | ((with_reducible show wpAny _ _ (call (Value.builtin "len") _ _) _ _ _); (k_here; k_dflt (refine' kun_lenL ?k1 ?k2 ?k3 ?_; (case k1 => exact kso_isList (by k_asm) (by k_mem) rfl); (case k2 => with_reducible assumption); (case k3 => decide)))) | ((with_reducible show wpAny _ _ (subscriptTail (Expr.Name _ _) (Expr.Constant _ _ _) (Value.ref _) (Value.int _ _)) _ _ _); (k_here; k_dflt (refine' kim_list ?N ?m ?c ?d ?h0 ?hf ?x ?_; (case N => k_asm); (case m => k_mem); (case c => rfl); (case d => exact rfl); (case h0 => decide); (case hf => decide); (case x => with_reducible assumption)))) | ((with_reducible show wpAny _ _ (eval (Expr.Subscript _ _ _) _) _ _ _); (refine Subscript_ ?_)) | walk1) | (leave1; walk_say "STEP leave1"; try dsimp only) | fail "no step"))
    dsimp only
    rename Fr _ _ _ _ => F9
    rename News _ _ _ _ => N9
    exact wpAny_execs_nil (hret _ _ F9 N9)

end Mine
end

section
open PySem PySem.W PyProof.Rows PySem.Calls
set_option maxHeartbeats 8000000
namespace Mine
local macro_rules | `(tactic| k_all) => `(tactic| with_reducible assumption)
local macro_rules | `(tactic| k_lt $h:ident) => `(tactic| skip)
section
variable {prog : Program} {w : World} {A : Around} {E : Value → Shared → Prop} {s : Shared} {Q : Value → Shared → Prop} {a b : Int} {t u : Tok}
theorem eq_dec (hq : Q (.bool (decide (a = b))) s) : wpAny (model prog w) A (compareOp .Eq (.int a t) (.int b u)) Q E s := PyProof.Rows.eq_int (by
  have e : (a == b) = decide (a = b) := by by_cases h : a = b <;> simp [h]
  rw [e]; exact hq)
theorem ge_split (h1 : b ≤ a → Q (.bool true) s) (h2 : ¬ b ≤ a → Q (.bool false) s) : wpAny (model prog w) A (compareOp .GtE (.int a t) (.int b u)) Q E s := PyProof.Rows.ge_int (by
  by_cases h : b ≤ a
  · rw [decide_eq_true h]; exact h1 h
  · rw [decide_eq_false h]; exact h2 h)
theorem isnot_eq {x y : Bool} (e : x = y) (hq : Q (.bool false) s) : wpAny (model prog w) A (compareOp .IsNot (.bool x) (.bool y)) Q E s := by
  subst e
  exact wpAny_isNot_self (by cases x <;> rfl) hq
end
section
variable {M : Model} {A : Around} {E : Value → Shared → Prop} {s : Shared} {h₀ : Heap} {L : Addr} {m : Str → Option Value}
theorem ld_law {n : Str} {scope : Scope} {fa : Addr} {cd : Value} {x : Str} {pos : Pos} {v : Value} {Q : Value → Shared → Prop} (F : Fr h₀ L s.heap m) (hv : m x = some v) (hk : (envOfC n scope L fa cd).scope.kind = .function) (hl : (envOfC n scope L fa cd).kindOf x = some .local) (hd : (x == ("__debug__" : Str)) = false) (h : Q v s) :
    wpAny M A (eval (.Name x pos) (envOfC n scope L fa cd)) Q E s := wpAny_Name (wpAny_loadName_local hk hl F.ns hv h) hd
end
theorem boolsAre_append : ∀ {vs ws : List Value} {bs cs : List Bool}, LSm.BoolsAre vs bs → LSm.BoolsAre ws cs → LSm.BoolsAre (vs ++ ws) (bs ++ cs)
  | _, _, _, _, .nil, h => h
  | _, _, _, _, .cons b r, h => .cons b (boolsAre_append r h)
theorem Tris.get {f : Int → Int → Int} : ∀ {l : List (Addr × Obj)} {k : List (Int × Int × Int)}, Tris f l k → ∀ {i : Nat} {p : Addr × Obj}, l[i]? = some p → ∃ t, k[i]? = some t ∧ triObj f t p.2
  | _, _, .nil, _, _, h => by cases h
  | _, _, .cons a r, 0, _, h => by cases h; exact ⟨_, rfl, a⟩
  | _, _, .cons a r, i + 1, _, h => Tris.get r h
def max3 (a b c : Int) : Int := max a (max b c)
def triB (f : Int → Int → Int) (t : Int × Int × Int) : Bool := decide (2 * max3 (f t.1 t.2.1) (f t.1 t.2.2) (f t.2.1 t.2.2) = f t.1 t.2.1 + f t.1 t.2.2 + f t.2.1 t.2.2)
theorem max3_of {x y z M : Int} (h : M ∈ [x, y, z]) (h2 : ∀ a, a ∈ [x, y, z] → a ≤ M) : max3 x y z = M := by
  simp only [List.mem_cons, List.not_mem_nil, or_false] at h
  have a1 := h2 x (by simp)
  have a2 := h2 y (by simp)
  have a3 := h2 z (by simp)
  unfold max3
  omega
theorem triB_of {f : Int → Int → Int} {t : Int × Int × Int} {x y z M : Int} (hx : x = f t.1 t.2.1) (hy : y = f t.1 t.2.2) (hz : z = f t.2.1 t.2.2) (h : M ∈ [x, y, z]) (h2 : ∀ a, a ∈ [x, y, z] → a ≤ M) : Value.bool (decide (2 * M = [x, y, z].sum)) = .bool (triB f t) := by
  have e := max3_of h h2
  have e2 : [x, y, z].sum = x + y + z := by simp [List.sum_cons]; omega
  rw [e2, ← e, hx, hy, hz]
  rfl
theorem gf_claim (w : World) (p : Program) (loose : List Str) (mean : ExcName → Option Value) (mg mb : Str → Option Value) (fa : Addr) (cd : Value) (h₀ : Heap) (L : Addr) (m : Str → Option Value) (f : Int → Int → Int) (tr : List (Int × Int × Int)) (gs : List Int) (pv : List Value) (pb : Bool) (els rest : List (Addr × Obj)) (Sd Gp : Addr) (cd' cG : Nat)
  (ms : m (Str.ofString "sides") = some (.ref Sd)) (mp : m (Str.ofString "gaps") = some (.ref Gp)) (mq : m (Str.ofString "pairs") = some (.bool pb))
  (hT : Tris f els tr) (htr : tr.length ≤ 200) (hG : IntsAre pv gs) (hG0 : 0 < gs.length) (hlaw : ∀ M, M ∈ gs → (∀ a, a ∈ gs → a ≤ M) → tr.all (triB f) = (decide (6 ≤ M) || pb))
  (dp un : Nat) (gd : Option (List Code)) (fl : List Env) (s : Shared) (Q : Flow → Shared → Prop) (E : Value → Shared → Prop)
  (X : (Mine.hd.heap_39 w.params).In h₀) (T : Top p loose mean mg mb h₀) (hd : dp + 3 < recursionLimit) (hu : un + 100 < cLine)
  (F : Fr h₀ L s.heap m)
  (N : News h₀ L s.heap ((Sd, listOf (els.map fun q => Value.ref q.1).toArray cd') :: (Gp, listOf pv.toArray cG) :: (els ++ rest)))
  (hret : ∀ h' tk', Fr h₀ L h' m → News h₀ L h' ((Sd, listOf (els.map fun q => Value.ref q.1).toArray cd') :: (Gp, listOf pv.toArray cG) :: (els ++ rest)) → Q .next { s with heap := h', toks := tk' }) :
  wpAny (model PySem.Challenge.rw_pg0276_01.row.prog w) { handled := none, depth := dp, frames := some fl, guards := gd, units := un } (execs (outStmt 5) (envOfC (Str.ofString "law") lawScope L fa cd)) Q E s := by
  w_on
  obtain ⟨hp, gens, drawn, tk, os⟩ := s
  dsimp only at F N hret
  have eb : outStmt 5 = outStmt 5 := rfl
  conv at eb => { rhs; whnf }
  rw [eb]
  clear eb
  have sL : Sd ≠ L := (N _ (.head _)).2.1
  have hSl : hp.IsList Sd (els.map fun q => Value.ref q.1).toArray := ⟨_, (N _ (.head _)).1, rfl, cd', rfl⟩
  have KN : Kp (News h₀ L hp _) := ⟨N⟩
  have KF : Kp (Fr h₀ L hp m) := ⟨F⟩
  have hTl := hT.len
  w_strict (repeat' (first | (k_unfold; (try dsimp only)) | (dsimp only; k_unfold; (try dsimp only)) | ((with_reducible show wpAny _ _ (eval (Expr.Name _ _) _) _ _ _); ((with_reducible show wpAny _ _ (eval (Expr.Name (Str.ofString "pairs") _) (envOfC _ _ _ _ _)) _ _ _); k_dflt (refine' ld_law ?F ?v ?k ?l ?d ?_; (case F => k_asm); (case v => with_reducible assumption); (case k => with_unfolding_all rfl); (case l => with_unfolding_all rfl); (case d => decide)))) | ((with_reducible show wpAny _ _ (eval (Expr.Name _ _) _) _ _ _); ((with_reducible show wpAny _ _ (eval (Expr.Name (Str.ofString "gaps") _) (envOfC _ _ _ _ _)) _ _ _); k_dflt (refine' ld_law ?F ?v ?k ?l ?d ?_; (case F => k_asm); (case v => with_reducible assumption); (case k => with_unfolding_all rfl); (case l => with_unfolding_all rfl); (case d => decide)))) | ((with_reducible show wpAny _ _ (eval (Expr.Name _ _) _) _ _ _); ((with_reducible show wpAny _ _ (eval (Expr.Name (Str.ofString "sides") _) (envOfC _ _ _ _ _)) _ _ _); k_dflt (refine' ld_law ?F ?v ?k ?l ?d ?_; (case F => k_asm); (case v => with_reducible assumption); (case k => with_unfolding_all rfl); (case l => with_unfolding_all rfl); (case d => decide)))) | ((with_reducible show wpAny _ _ (eval (Expr.ListComp _ _ _ _) _) _ _ _); (refine Mark.to ?_)) | ((with_reducible show wpAny _ _ (truthy (Value.bool _)) _ _ _); (refine wpAny_truthy_bool ?_; try first | rw [if_pos rfl] | rw [if_neg (by decide)])) | ((with_reducible show wpAny _ _ (compareOp .IsNot (Value.bool _) (Value.bool _)) _ _ _); (refine Mark.to ?_)) | ((with_reducible show wpAny _ _ (compareOp .GtE (Value.int _ _) (Value.int _ _)) _ _ _); (k_here; (refine ge_split ?_ ?_ <;> intro hge'q))) | ((with_reducible show wpAny _ _ (compareOp .Eq (Value.int _ _) (Value.int _ _)) _ _ _); (k_here; refine eq_dec ?_)) | ((with_reducible show wpAny _ _ (call (Value.builtin "all") _ _) _ _ _); (k_here; (with_reducible show wpAny _ _ (call (Value.builtin _) [Value.ref _]) _ _ _); k_dflt (refine LSm.all_bools (by k_asm) (by k_asm) (by rfl) (kso_isList (by k_asm) (by k_mem) rfl) (by with_reducible assumption) ?_); intro h'q tk'q F'q N'q)) | ((with_reducible show wpAny _ _ (call (Value.builtin "sum") _ _) _ _ _); (k_here; (with_reducible show wpAny _ _ (call (Value.builtin _) [Value.ref _]) _ _ _); k_dflt (refine' sumK ?k0 ?k1 ?k2 ?k3 ?k4 ?_; (case k0 => rfl); (case k1 => k_asm); (case k2 => k_asm); (case k3 => exact kso_isList (by k_asm) (by k_mem) rfl); (case k4 => with_reducible assumption)); intro h'q k'q t'q F'q N'q)) | ((with_reducible show wpAny _ _ (call (Value.builtin "max") _ _) _ _ _); (k_here; (with_reducible show wpAny _ _ (call (Value.builtin _) [Value.ref _]) _ _ _); k_dflt (refine' kso_max ?k1 ?k2 ?k3 ?k4 ?k5 ?k6 ?_; (case k1 => k_asm); (case k2 => k_asm); (case k3 => exact kso_isList (by k_asm) (by k_mem) rfl); (case k4 => with_reducible assumption); (case k5 => first | with_reducible assumption | exact Nat.zero_lt_succ _); (case k6 => rfl)); intro h'q M'q t'q k'q F'q N'q a'q b'q)) | ((with_reducible show wpAny _ _ (eval (Expr.Name _ _) _) _ _ _); ((with_reducible show wpAny _ _ (eval (Expr.Name (Str.ofString "three") _) (compEnvC _ _ _ _)) _ _ _); k_dflt (refine LCgL.ld_own (by k_asm) (by k_mem) (by with_reducible assumption) (by with_reducible assumption) ?_))) | walk1 | (dsimp only; first | ((with_reducible show wpAny _ _ (eval (Expr.Name _ _) _) _ _ _); ((with_reducible show wpAny _ _ (eval (Expr.Name (Str.ofString "pairs") _) (envOfC _ _ _ _ _)) _ _ _); k_dflt (refine' ld_law ?F ?v ?k ?l ?d ?_; (case F => k_asm); (case v => with_reducible assumption); (case k => with_unfolding_all rfl); (case l => with_unfolding_all rfl); (case d => decide)))) | ((with_reducible show wpAny _ _ (eval (Expr.Name _ _) _) _ _ _); ((with_reducible show wpAny _ _ (eval (Expr.Name (Str.ofString "gaps") _) (envOfC _ _ _ _ _)) _ _ _); k_dflt (refine' ld_law ?F ?v ?k ?l ?d ?_; (case F => k_asm); (case v => with_reducible assumption); (case k => with_unfolding_all rfl); (case l => with_unfolding_all rfl); (case d => decide)))) | ((with_reducible show wpAny _ _ (eval (Expr.Name _ _) _) _ _ _); ((with_reducible show wpAny _ _ (eval (Expr.Name (Str.ofString "sides") _) (envOfC _ _ _ _ _)) _ _ _); k_dflt (refine' ld_law ?F ?v ?k ?l ?d ?_; (case F => k_asm); (case v => with_reducible assumption); (case k => with_unfolding_all rfl); (case l => with_unfolding_all rfl); (case d => decide)))) | ((with_reducible show wpAny _ _ (eval (Expr.ListComp _ _ _ _) _) _ _ _); (refine Mark.to ?_)) | ((with_reducible show wpAny _ _ (truthy (Value.bool _)) _ _ _); (refine wpAny_truthy_bool ?_; try first | rw [if_pos rfl] | rw [if_neg (by decide)])) | ((with_reducible show wpAny _ _ (compareOp .IsNot (Value.bool _) (Value.bool _)) _ _ _); (refine Mark.to ?_)) | ((with_reducible show wpAny _ _ (compareOp .GtE (Value.int _ _) (Value.int _ _)) _ _ _); (k_here; (refine ge_split ?_ ?_ <;> intro hge'q))) | ((with_reducible show wpAny _ _ (compareOp .Eq (Value.int _ _) (Value.int _ _)) _ _ _); (k_here; refine eq_dec ?_)) | ((with_reducible show wpAny _ _ (call (Value.builtin "all") _ _) _ _ _); (k_here; (with_reducible show wpAny _ _ (call (Value.builtin _) [Value.ref _]) _ _ _); k_dflt (refine LSm.all_bools (by k_asm) (by k_asm) (by rfl) (kso_isList (by k_asm) (by k_mem) rfl) (by with_reducible assumption) ?_); intro h'q tk'q F'q N'q)) | ((with_reducible show wpAny _ _ (call (Value.builtin "sum") _ _) _ _ _); (k_here; (with_reducible show wpAny _ _ (call (Value.builtin _) [Value.ref _]) _ _ _); k_dflt (refine' sumK ?k0 ?k1 ?k2 ?k3 ?k4 ?_; (case k0 => rfl); (case k1 => k_asm); (case k2 => k_asm); (case k3 => exact kso_isList (by k_asm) (by k_mem) rfl); (case k4 => with_reducible assumption)); intro h'q k'q t'q F'q N'q)) | ((with_reducible show wpAny _ _ (call (Value.builtin "max") _ _) _ _ _); (k_here; (with_reducible show wpAny _ _ (call (Value.builtin _) [Value.ref _]) _ _ _); k_dflt (refine' kso_max ?k1 ?k2 ?k3 ?k4 ?k5 ?k6 ?_; (case k1 => k_asm); (case k2 => k_asm); (case k3 => exact kso_isList (by k_asm) (by k_mem) rfl); (case k4 => with_reducible assumption); (case k5 => first | with_reducible assumption | exact Nat.zero_lt_succ _); (case k6 => rfl)); intro h'q M'q t'q k'q F'q N'q a'q b'q)) | ((with_reducible show wpAny _ _ (eval (Expr.Name _ _) _) _ _ _); ((with_reducible show wpAny _ _ (eval (Expr.Name (Str.ofString "three") _) (compEnvC _ _ _ _)) _ _ _); k_dflt (refine LCgL.ld_own (by k_asm) (by k_mem) (by with_reducible assumption) (by with_reducible assumption) ?_))) | walk1) | (leave1; walk_say "STEP leave1"; try dsimp only) | fail "no step"))
  refine Mark.mk ?_
  rename News _ _ _ _ => N1
  rename Fr _ _ _ _ => F1
  (try dsimp only)
  refine wpAny_mono (Q := fun v s' => Leaf <| ∃ D h' tk' dv c, v = .ref D ∧ s' = { heap := h', gens := gens, drawn := drawn, toks := tk', os := os } ∧ LSm.BoolsAre dv (tr.map (triB f)) ∧ (∀ b o, b ≠ L → hp.get? b = some o → h'.get? b = some o) ∧ h'.Ns L m ∧ h'.get? D = some (listOf dv.toArray c) ∧ D ≠ L ∧ hp.get? D = none) ?_ ?_ fun _ _ e => e
  · refine eval_list (h₀ := h₀) (L := L) (m := m) (by first | exact .inl rfl | exact .inr ⟨_, _, _, rfl⟩) (by with_unfolding_all rfl) (by decide) rfl (by decide) (by rfl) rfl
      (fun i _ ys Pr => Pr = [] ∧ ys.length ≤ i ∧ LSm.BoolsAre ys ((tr.take i).map (triB f))) ?_
    w_strict (repeat' (first | (k_unfold; (try dsimp only)) | (dsimp only; k_unfold; (try dsimp only)) | ((with_reducible show wpAny _ _ (eval (Expr.Name _ _) _) _ _ _); ((with_reducible show wpAny _ _ (eval (Expr.Name (Str.ofString "pairs") _) (envOfC _ _ _ _ _)) _ _ _); k_dflt (refine' ld_law ?F ?v ?k ?l ?d ?_; (case F => k_asm); (case v => with_reducible assumption); (case k => with_unfolding_all rfl); (case l => with_unfolding_all rfl); (case d => decide)))) | ((with_reducible show wpAny _ _ (eval (Expr.Name _ _) _) _ _ _); ((with_reducible show wpAny _ _ (eval (Expr.Name (Str.ofString "gaps") _) (envOfC _ _ _ _ _)) _ _ _); k_dflt (refine' ld_law ?F ?v ?k ?l ?d ?_; (case F => k_asm); (case v => with_reducible assumption); (case k => with_unfolding_all rfl); (case l => with_unfolding_all rfl); (case d => decide)))) | ((with_reducible show wpAny _ _ (eval (Expr.Name _ _) _) _ _ _); ((with_reducible show wpAny _ _ (eval (Expr.Name (Str.ofString "sides") _) (envOfC _ _ _ _ _)) _ _ _); k_dflt (refine' ld_law ?F ?v ?k ?l ?d ?_; (case F => k_asm); (case v => with_reducible assumption); (case k => with_unfolding_all rfl); (case l => with_unfolding_all rfl); (case d => decide)))) | ((with_reducible show wpAny _ _ (eval (Expr.ListComp _ _ _ _) _) _ _ _); (refine Mark.to ?_)) | ((with_reducible show wpAny _ _ (truthy (Value.bool _)) _ _ _); (refine wpAny_truthy_bool ?_; try first | rw [if_pos rfl] | rw [if_neg (by decide)])) | ((with_reducible show wpAny _ _ (compareOp .IsNot (Value.bool _) (Value.bool _)) _ _ _); (refine Mark.to ?_)) | ((with_reducible show wpAny _ _ (compareOp .GtE (Value.int _ _) (Value.int _ _)) _ _ _); (k_here; (refine ge_split ?_ ?_ <;> intro hge'q))) | ((with_reducible show wpAny _ _ (compareOp .Eq (Value.int _ _) (Value.int _ _)) _ _ _); (k_here; refine eq_dec ?_)) | ((with_reducible show wpAny _ _ (call (Value.builtin "all") _ _) _ _ _); (k_here; (with_reducible show wpAny _ _ (call (Value.builtin _) [Value.ref _]) _ _ _); k_dflt (refine LSm.all_bools (by k_asm) (by k_asm) (by rfl) (kso_isList (by k_asm) (by k_mem) rfl) (by with_reducible assumption) ?_); intro h'q tk'q F'q N'q)) | ((with_reducible show wpAny _ _ (call (Value.builtin "sum") _ _) _ _ _); (k_here; (with_reducible show wpAny _ _ (call (Value.builtin _) [Value.ref _]) _ _ _); k_dflt (refine' sumK ?k0 ?k1 ?k2 ?k3 ?k4 ?_; (case k0 => rfl); (case k1 => k_asm); (case k2 => k_asm); (case k3 => exact kso_isList (by k_asm) (by k_mem) rfl); (case k4 => with_reducible assumption)); intro h'q k'q t'q F'q N'q)) | ((with_reducible show wpAny _ _ (call (Value.builtin "max") _ _) _ _ _); (k_here; (with_reducible show wpAny _ _ (call (Value.builtin _) [Value.ref _]) _ _ _); k_dflt (refine' kso_max ?k1 ?k2 ?k3 ?k4 ?k5 ?k6 ?_; (case k1 => k_asm); (case k2 => k_asm); (case k3 => exact kso_isList (by k_asm) (by k_mem) rfl); (case k4 => with_reducible assumption); (case k5 => first | with_reducible assumption | exact Nat.zero_lt_succ _); (case k6 => rfl)); intro h'q M'q t'q k'q F'q N'q a'q b'q)) | ((with_reducible show wpAny _ _ (eval (Expr.Name _ _) _) _ _ _); ((with_reducible show wpAny _ _ (eval (Expr.Name (Str.ofString "three") _) (compEnvC _ _ _ _)) _ _ _); k_dflt (refine LCgL.ld_own (by k_asm) (by k_mem) (by with_reducible assumption) (by with_reducible assumption) ?_))) | walk1 | (dsimp only; first | ((with_reducible show wpAny _ _ (eval (Expr.Name _ _) _) _ _ _); ((with_reducible show wpAny _ _ (eval (Expr.Name (Str.ofString "pairs") _) (envOfC _ _ _ _ _)) _ _ _); k_dflt (refine' ld_law ?F ?v ?k ?l ?d ?_; (case F => k_asm); (case v => with_reducible assumption); (case k => with_unfolding_all rfl); (case l => with_unfolding_all rfl); (case d => decide)))) | ((with_reducible show wpAny _ _ (eval (Expr.Name _ _) _) _ _ _); ((with_reducible show wpAny _ _ (eval (Expr.Name (Str.ofString "gaps") _) (envOfC _ _ _ _ _)) _ _ _); k_dflt (refine' ld_law ?F ?v ?k ?l ?d ?_; (case F => k_asm); (case v => with_reducible assumption); (case k => with_unfolding_all rfl); (case l => with_unfolding_all rfl); (case d => decide)))) | ((with_reducible show wpAny _ _ (eval (Expr.Name _ _) _) _ _ _); ((with_reducible show wpAny _ _ (eval (Expr.Name (Str.ofString "sides") _) (envOfC _ _ _ _ _)) _ _ _); k_dflt (refine' ld_law ?F ?v ?k ?l ?d ?_; (case F => k_asm); (case v => with_reducible assumption); (case k => with_unfolding_all rfl); (case l => with_unfolding_all rfl); (case d => decide)))) | ((with_reducible show wpAny _ _ (eval (Expr.ListComp _ _ _ _) _) _ _ _); (refine Mark.to ?_)) | ((with_reducible show wpAny _ _ (truthy (Value.bool _)) _ _ _); (refine wpAny_truthy_bool ?_; try first | rw [if_pos rfl] | rw [if_neg (by decide)])) | ((with_reducible show wpAny _ _ (compareOp .IsNot (Value.bool _) (Value.bool _)) _ _ _); (refine Mark.to ?_)) | ((with_reducible show wpAny _ _ (compareOp .GtE (Value.int _ _) (Value.int _ _)) _ _ _); (k_here; (refine ge_split ?_ ?_ <;> intro hge'q))) | ((with_reducible show wpAny _ _ (compareOp .Eq (Value.int _ _) (Value.int _ _)) _ _ _); (k_here; refine eq_dec ?_)) | ((with_reducible show wpAny _ _ (call (Value.builtin "all") _ _) _ _ _); (k_here; (with_reducible show wpAny _ _ (call (Value.builtin _) [Value.ref _]) _ _ _); k_dflt (refine LSm.all_bools (by k_asm) (by k_asm) (by rfl) (kso_isList (by k_asm) (by k_mem) rfl) (by with_reducible assumption) ?_); intro h'q tk'q F'q N'q)) | ((with_reducible show wpAny _ _ (call (Value.builtin "sum") _ _) _ _ _); (k_here; (with_reducible show wpAny _ _ (call (Value.builtin _) [Value.ref _]) _ _ _); k_dflt (refine' sumK ?k0 ?k1 ?k2 ?k3 ?k4 ?_; (case k0 => rfl); (case k1 => k_asm); (case k2 => k_asm); (case k3 => exact kso_isList (by k_asm) (by k_mem) rfl); (case k4 => with_reducible assumption)); intro h'q k'q t'q F'q N'q)) | ((with_reducible show wpAny _ _ (call (Value.builtin "max") _ _) _ _ _); (k_here; (with_reducible show wpAny _ _ (call (Value.builtin _) [Value.ref _]) _ _ _); k_dflt (refine' kso_max ?k1 ?k2 ?k3 ?k4 ?k5 ?k6 ?_; (case k1 => k_asm); (case k2 => k_asm); (case k3 => exact kso_isList (by k_asm) (by k_mem) rfl); (case k4 => with_reducible assumption); (case k5 => first | with_reducible assumption | exact Nat.zero_lt_succ _); (case k6 => rfl)); intro h'q M'q t'q k'q F'q N'q a'q b'q)) | ((with_reducible show wpAny _ _ (eval (Expr.Name _ _) _) _ _ _); ((with_reducible show wpAny _ _ (eval (Expr.Name (Str.ofString "three") _) (compEnvC _ _ _ _)) _ _ _); k_dflt (refine LCgL.ld_own (by k_asm) (by k_mem) (by with_reducible assumption) (by with_reducible assumption) ?_))) | walk1) | (leave1; walk_say "STEP leave1"; try dsimp only) | fail "no step"))
    refine Leaf.mk ⟨Sd, _, rfl, hSl, sL, KF.out, ?_, ⟨rfl, Nat.le_refl _, .nil⟩, ?_⟩
    · intro C I D i v oI mC ys Pr h tk2 K hv hY S
      have hv' : (els.map fun q => Value.ref q.1)[i]? = some v := by simpa using hv
      rw [List.getElem?_map] at hv'
      cases hq : els[i]? with
      | none => rw [hq] at hv'; cases hv'
      | some q =>
        rw [hq] at hv'
        obtain ⟨a, o⟩ := q
        cases hv'
        obtain ⟨tq, etq, ta, tb, tc, c9, eo⟩ := hT.get hq
        have eo' : o = _ := eo
        subst eo'
        obtain ⟨x, hx⟩ : ∃ x, x = f tq.1 tq.2.1 := ⟨_, rfl⟩
        obtain ⟨y, hy⟩ : ∃ y, y = f tq.1 tq.2.2 := ⟨_, rfl⟩
        obtain ⟨z, hz⟩ : ∃ z, z = f tq.2.1 tq.2.2 := ⟨_, rfl⟩
        have hil : i < els.length := (List.getElem?_eq_some_iff.mp hq).1
        obtain ⟨rfl, hl1, hys⟩ := hY
        dsimp only at S ⊢
        intro E'
        refine wpAny_tests_nil ?_
        rw [if_pos rfl]
        refine' body_val (s := { heap := h, gens := gens, drawn := drawn, toks := tk2, os := os }) (tk := tk2) (Z := fun v => v = .bool (triB f tq)) K ?hg S ?hs ?_ ?_
        case hg => rfl
        case hs => (rw [sizeLine_eq]; omega)
        · dsimp only
          have eN := KN.out _ (.tail _ (.tail _ (List.mem_append_left rest (List.mem_of_getElem? hq))))
          rw [← hx, ← hy, ← hz] at eN
          obtain ⟨m₂, em₂⟩ : ∃ m₂, m₂ = (fun y => if y = Str.ofString "three" then some (Value.ref a) else mC y) := ⟨_, rfl⟩
          have hm₂ : m₂ (Str.ofString "three") = some (.ref a) := by rw [em₂]; exact if_pos rfl
          rw [← em₂] at S
          have F2 : Fr h₀ L h m := fr_kept KF.out S.kb S.ns
          obtain ⟨oC, eC, hoC⟩ := LCg.ns_obj S.cf
          obtain ⟨_, cL, cn, _⟩ := S.fa C (.head _)
          have cn0 := new_none KF.out cn
          have N3 := news_above (h₀ := h₀) (L := L) (h := h) (news := [(C, oC), (a, listOf [Value.int x ta, Value.int y tb, Value.int z tc].toArray c9)]) fun q hq => by
            simp only [List.mem_cons, List.not_mem_nil, or_false] at hq
            rcases hq with rfl | rfl
            · exact ⟨eC, cL, cn0⟩
            · exact ⟨S.kb _ _ eN.2.1 eN.1, eN.2.1, eN.2.2⟩
          obtain ⟨rest3, er3⟩ : ∃ rest, rest = above h₀ L h := ⟨_, rfl⟩
          rw [← er3] at N3
          simp only [List.cons_append, List.nil_append] at N3
          have F2' : Kp (Fr h₀ L h m) := ⟨F2⟩
          have hI3 : IntsAre [Value.int x ta, Value.int y tb, Value.int z tc] [x, y, z] := .cons _ _ (.cons _ _ (.cons _ _ .nil))
          clear S K hret eC cL cn cn0 N1 F1 hlaw eN
          w_strict (repeat' (first | (k_unfold; (try dsimp only)) | (dsimp only; k_unfold; (try dsimp only)) | ((with_reducible show wpAny _ _ (eval (Expr.Name _ _) _) _ _ _); ((with_reducible show wpAny _ _ (eval (Expr.Name (Str.ofString "pairs") _) (envOfC _ _ _ _ _)) _ _ _); k_dflt (refine' ld_law ?F ?v ?k ?l ?d ?_; (case F => k_asm); (case v => with_reducible assumption); (case k => with_unfolding_all rfl); (case l => with_unfolding_all rfl); (case d => decide)))) | ((with_reducible show wpAny _ _ (eval (Expr.Name _ _) _) _ _ _); ((with_reducible show wpAny _ _ (eval (Expr.Name (Str.ofString "gaps") _) (envOfC _ _ _ _ _)) _ _ _); k_dflt (refine' ld_law ?F ?v ?k ?l ?d ?_; (case F => k_asm); (case v => with_reducible assumption); (case k => with_unfolding_all rfl); (case l => with_unfolding_all rfl); (case d => decide)))) | ((with_reducible show wpAny _ _ (eval (Expr.Name _ _) _) _ _ _); ((with_reducible show wpAny _ _ (eval (Expr.Name (Str.ofString "sides") _) (envOfC _ _ _ _ _)) _ _ _); k_dflt (refine' ld_law ?F ?v ?k ?l ?d ?_; (case F => k_asm); (case v => with_reducible assumption); (case k => with_unfolding_all rfl); (case l => with_unfolding_all rfl); (case d => decide)))) | ((with_reducible show wpAny _ _ (eval (Expr.ListComp _ _ _ _) _) _ _ _); (refine Mark.to ?_)) | ((with_reducible show wpAny _ _ (truthy (Value.bool _)) _ _ _); (refine wpAny_truthy_bool ?_; try first | rw [if_pos rfl] | rw [if_neg (by decide)])) | ((with_reducible show wpAny _ _ (compareOp .IsNot (Value.bool _) (Value.bool _)) _ _ _); (refine Mark.to ?_)) | ((with_reducible show wpAny _ _ (compareOp .GtE (Value.int _ _) (Value.int _ _)) _ _ _); (k_here; (refine ge_split ?_ ?_ <;> intro hge'q))) | ((with_reducible show wpAny _ _ (compareOp .Eq (Value.int _ _) (Value.int _ _)) _ _ _); (k_here; refine eq_dec ?_)) | ((with_reducible show wpAny _ _ (call (Value.builtin "all") _ _) _ _ _); (k_here; (with_reducible show wpAny _ _ (call (Value.builtin _) [Value.ref _]) _ _ _); k_dflt (refine LSm.all_bools (by k_asm) (by k_asm) (by rfl) (kso_isList (by k_asm) (by k_mem) rfl) (by with_reducible assumption) ?_); intro h'q tk'q F'q N'q)) | ((with_reducible show wpAny _ _ (call (Value.builtin "sum") _ _) _ _ _); (k_here; (with_reducible show wpAny _ _ (call (Value.builtin _) [Value.ref _]) _ _ _); k_dflt (refine' sumK ?k0 ?k1 ?k2 ?k3 ?k4 ?_; (case k0 => rfl); (case k1 => k_asm); (case k2 => k_asm); (case k3 => exact kso_isList (by k_asm) (by k_mem) rfl); (case k4 => with_reducible assumption)); intro h'q k'q t'q F'q N'q)) | ((with_reducible show wpAny _ _ (call (Value.builtin "max") _ _) _ _ _); (k_here; (with_reducible show wpAny _ _ (call (Value.builtin _) [Value.ref _]) _ _ _); k_dflt (refine' kso_max ?k1 ?k2 ?k3 ?k4 ?k5 ?k6 ?_; (case k1 => k_asm); (case k2 => k_asm); (case k3 => exact kso_isList (by k_asm) (by k_mem) rfl); (case k4 => with_reducible assumption); (case k5 => first | with_reducible assumption | exact Nat.zero_lt_succ _); (case k6 => rfl)); intro h'q M'q t'q k'q F'q N'q a'q b'q)) | ((with_reducible show wpAny _ _ (eval (Expr.Name _ _) _) _ _ _); ((with_reducible show wpAny _ _ (eval (Expr.Name (Str.ofString "three") _) (compEnvC _ _ _ _)) _ _ _); k_dflt (refine LCgL.ld_own (by k_asm) (by k_mem) (by with_reducible assumption) (by with_reducible assumption) ?_))) | walk1 | (dsimp only; first | ((with_reducible show wpAny _ _ (eval (Expr.Name _ _) _) _ _ _); ((with_reducible show wpAny _ _ (eval (Expr.Name (Str.ofString "pairs") _) (envOfC _ _ _ _ _)) _ _ _); k_dflt (refine' ld_law ?F ?v ?k ?l ?d ?_; (case F => k_asm); (case v => with_reducible assumption); (case k => with_unfolding_all rfl); (case l => with_unfolding_all rfl); (case d => decide)))) | ((with_reducible show wpAny _ _ (eval (Expr.Name _ _) _) _ _ _); ((with_reducible show wpAny _ _ (eval (Expr.Name (Str.ofString "gaps") _) (envOfC _ _ _ _ _)) _ _ _); k_dflt (refine' ld_law ?F ?v ?k ?l ?d ?_; (case F => k_asm); (case v => with_reducible assumption); (case k => with_unfolding_all rfl); (case l => with_unfolding_all rfl); (case d => decide)))) | ((with_reducible show wpAny _ _ (eval (Expr.Name _ _) _) _ _ _); ((with_reducible show wpAny _ _ (eval (Expr.Name (Str.ofString "sides") _) (envOfC _ _ _ _ _)) _ _ _); k_dflt (refine' ld_law ?F ?v ?k ?l ?d ?_; (case F => k_asm); (case v => with_reducible assumption); (case k => with_unfolding_all rfl); (case l => with_unfolding_all rfl); (case d => decide)))) | ((with_reducible show wpAny _ _ (eval (Expr.ListComp _ _ _ _) _) _ _ _); (refine Mark.to ?_)) | ((with_reducible show wpAny _ _ (truthy (Value.bool _)) _ _ _); (refine wpAny_truthy_bool ?_; try first | rw [if_pos rfl] | rw [if_neg (by decide)])) | ((with_reducible show wpAny _ _ (compareOp .IsNot (Value.bool _) (Value.bool _)) _ _ _); (refine Mark.to ?_)) | ((with_reducible show wpAny _ _ (compareOp .GtE (Value.int _ _) (Value.int _ _)) _ _ _); (k_here; (refine ge_split ?_ ?_ <;> intro hge'q))) | ((with_reducible show wpAny _ _ (compareOp .Eq (Value.int _ _) (Value.int _ _)) _ _ _); (k_here; refine eq_dec ?_)) | ((with_reducible show wpAny _ _ (call (Value.builtin "all") _ _) _ _ _); (k_here; (with_reducible show wpAny _ _ (call (Value.builtin _) [Value.ref _]) _ _ _); k_dflt (refine LSm.all_bools (by k_asm) (by k_asm) (by rfl) (kso_isList (by k_asm) (by k_mem) rfl) (by with_reducible assumption) ?_); intro h'q tk'q F'q N'q)) | ((with_reducible show wpAny _ _ (call (Value.builtin "sum") _ _) _ _ _); (k_here; (with_reducible show wpAny _ _ (call (Value.builtin _) [Value.ref _]) _ _ _); k_dflt (refine' sumK ?k0 ?k1 ?k2 ?k3 ?k4 ?_; (case k0 => rfl); (case k1 => k_asm); (case k2 => k_asm); (case k3 => exact kso_isList (by k_asm) (by k_mem) rfl); (case k4 => with_reducible assumption)); intro h'q k'q t'q F'q N'q)) | ((with_reducible show wpAny _ _ (call (Value.builtin "max") _ _) _ _ _); (k_here; (with_reducible show wpAny _ _ (call (Value.builtin _) [Value.ref _]) _ _ _); k_dflt (refine' kso_max ?k1 ?k2 ?k3 ?k4 ?k5 ?k6 ?_; (case k1 => k_asm); (case k2 => k_asm); (case k3 => exact kso_isList (by k_asm) (by k_mem) rfl); (case k4 => with_reducible assumption); (case k5 => first | with_reducible assumption | exact Nat.zero_lt_succ _); (case k6 => rfl)); intro h'q M'q t'q k'q F'q N'q a'q b'q)) | ((with_reducible show wpAny _ _ (eval (Expr.Name _ _) _) _ _ _); ((with_reducible show wpAny _ _ (eval (Expr.Name (Str.ofString "three") _) (compEnvC _ _ _ _)) _ _ _); k_dflt (refine LCgL.ld_own (by k_asm) (by k_mem) (by with_reducible assumption) (by with_reducible assumption) ?_))) | walk1) | (leave1; walk_say "STEP leave1"; try dsimp only) | fail "no step"))
          (try dsimp only)
          rename Fr _ _ _ _ => F9
          rename News _ _ _ _ => N9
          rename (_ ∈ [x, y, z]) => hM
          rename (∀ a, a ∈ [x, y, z] → _) => hMx
          exact Leaf.mk ⟨_, _, rfl, F9.ns, kept_of (h₀ := h₀) (m := m) F2'.out F9 (fun q hq => (N9 q (by rw [← er3] at hq; simp only [List.mem_cons]; simp only [hq, or_true])).1), triB_of hx hy hz hM hMx⟩
        · intro y h5 tk5 hZ S''
          subst hZ
          refine ⟨h5, tk5, _, _, _, rfl, S'', rfl, by simp; omega, ?_⟩
          rw [take_snoc etq, List.map_append]
          exact boolsAre_append hys (.cons _ .nil)
    · intro C D h tk2 mC ys Pr S hY
      obtain ⟨rfl, _, hys⟩ := hY
      dsimp only at S
      rw [show tr.take (els.map fun q => Value.ref q.1).toArray.size = tr by rw [List.size_toArray, List.length_map, hTl, List.take_length]] at hys
      exact post_none S fun h' O => Leaf.mk ⟨D, h', tk2, ys, _, rfl, rfl, hys, O.kb, O.ns, O.d, O.dd.1, O.dd.2⟩
  · rintro v s' ⟨D, h', tk', dv, c, rfl, rfl, hD, kp, hn, hG', dL, hg⟩
    have F2 : Fr h₀ L h' m := fr_kept KF.out kp hn
    have g0 := new_none KF.out hg
    have N2 := news_add (news_kept N1 kp) hG' dL g0
    clear N1 F1 hn hG' dL KN KF hSl
    w_strict (repeat' (first | (k_unfold; (try dsimp only)) | (dsimp only; k_unfold; (try dsimp only)) | ((with_reducible show wpAny _ _ (eval (Expr.Name _ _) _) _ _ _); ((with_reducible show wpAny _ _ (eval (Expr.Name (Str.ofString "pairs") _) (envOfC _ _ _ _ _)) _ _ _); k_dflt (refine' ld_law ?F ?v ?k ?l ?d ?_; (case F => k_asm); (case v => with_reducible assumption); (case k => with_unfolding_all rfl); (case l => with_unfolding_all rfl); (case d => decide)))) | ((with_reducible show wpAny _ _ (eval (Expr.Name _ _) _) _ _ _); ((with_reducible show wpAny _ _ (eval (Expr.Name (Str.ofString "gaps") _) (envOfC _ _ _ _ _)) _ _ _); k_dflt (refine' ld_law ?F ?v ?k ?l ?d ?_; (case F => k_asm); (case v => with_reducible assumption); (case k => with_unfolding_all rfl); (case l => with_unfolding_all rfl); (case d => decide)))) | ((with_reducible show wpAny _ _ (eval (Expr.Name _ _) _) _ _ _); ((with_reducible show wpAny _ _ (eval (Expr.Name (Str.ofString "sides") _) (envOfC _ _ _ _ _)) _ _ _); k_dflt (refine' ld_law ?F ?v ?k ?l ?d ?_; (case F => k_asm); (case v => with_reducible assumption); (case k => with_unfolding_all rfl); (case l => with_unfolding_all rfl); (case d => decide)))) | ((with_reducible show wpAny _ _ (eval (Expr.ListComp _ _ _ _) _) _ _ _); (refine Mark.to ?_)) | ((with_reducible show wpAny _ _ (truthy (Value.bool _)) _ _ _); (refine wpAny_truthy_bool ?_; try first | rw [if_pos rfl] | rw [if_neg (by decide)])) | ((with_reducible show wpAny _ _ (compareOp .IsNot (Value.bool _) (Value.bool _)) _ _ _); (refine Mark.to ?_)) | ((with_reducible show wpAny _ _ (compareOp .GtE (Value.int _ _) (Value.int _ _)) _ _ _); (k_here; (refine ge_split ?_ ?_ <;> intro hge'q))) | ((with_reducible show wpAny _ _ (compareOp .Eq (Value.int _ _) (Value.int _ _)) _ _ _); (k_here; refine eq_dec ?_)) | ((with_reducible show wpAny _ _ (call (Value.builtin "all") _ _) _ _ _); (k_here; (with_reducible show wpAny _ _ (call (Value.builtin _) [Value.ref _]) _ _ _); k_dflt (refine LSm.all_bools (by k_asm) (by k_asm) (by rfl) (kso_isList (by k_asm) (by k_mem) rfl) (by with_reducible assumption) ?_); intro h'q tk'q F'q N'q)) | ((with_reducible show wpAny _ _ (call (Value.builtin "sum") _ _) _ _ _); (k_here; (with_reducible show wpAny _ _ (call (Value.builtin _) [Value.ref _]) _ _ _); k_dflt (refine' sumK ?k0 ?k1 ?k2 ?k3 ?k4 ?_; (case k0 => rfl); (case k1 => k_asm); (case k2 => k_asm); (case k3 => exact kso_isList (by k_asm) (by k_mem) rfl); (case k4 => with_reducible assumption)); intro h'q k'q t'q F'q N'q)) | ((with_reducible show wpAny _ _ (call (Value.builtin "max") _ _) _ _ _); (k_here; (with_reducible show wpAny _ _ (call (Value.builtin _) [Value.ref _]) _ _ _); k_dflt (refine' kso_max ?k1 ?k2 ?k3 ?k4 ?k5 ?k6 ?_; (case k1 => k_asm); (case k2 => k_asm); (case k3 => exact kso_isList (by k_asm) (by k_mem) rfl); (case k4 => with_reducible assumption); (case k5 => first | with_reducible assumption | exact Nat.zero_lt_succ _); (case k6 => rfl)); intro h'q M'q t'q k'q F'q N'q a'q b'q)) | ((with_reducible show wpAny _ _ (eval (Expr.Name _ _) _) _ _ _); ((with_reducible show wpAny _ _ (eval (Expr.Name (Str.ofString "three") _) (compEnvC _ _ _ _)) _ _ _); k_dflt (refine LCgL.ld_own (by k_asm) (by k_mem) (by with_reducible assumption) (by with_reducible assumption) ?_))) | walk1 | (dsimp only; first | ((with_reducible show wpAny _ _ (eval (Expr.Name _ _) _) _ _ _); ((with_reducible show wpAny _ _ (eval (Expr.Name (Str.ofString "pairs") _) (envOfC _ _ _ _ _)) _ _ _); k_dflt (refine' ld_law ?F ?v ?k ?l ?d ?_; (case F => k_asm); (case v => with_reducible assumption); (case k => with_unfolding_all rfl); (case l => with_unfolding_all rfl); (case d => decide)))) | ((with_reducible show wpAny _ _ (eval (Expr.Name _ _) _) _ _ _); ((with_reducible show wpAny _ _ (eval (Expr.Name (Str.ofString "gaps") _) (envOfC _ _ _ _ _)) _ _ _); k_dflt (refine' ld_law ?F ?v ?k ?l ?d ?_; (case F => k_asm); (case v => with_reducible assumption); (case k => with_unfolding_all rfl); (case l => with_unfolding_all rfl); (case d => decide)))) | ((with_reducible show wpAny _ _ (eval (Expr.Name _ _) _) _ _ _); ((with_reducible show wpAny _ _ (eval (Expr.Name (Str.ofString "sides") _) (envOfC _ _ _ _ _)) _ _ _); k_dflt (refine' ld_law ?F ?v ?k ?l ?d ?_; (case F => k_asm); (case v => with_reducible assumption); (case k => with_unfolding_all rfl); (case l => with_unfolding_all rfl); (case d => decide)))) | ((with_reducible show wpAny _ _ (eval (Expr.ListComp _ _ _ _) _) _ _ _); (refine Mark.to ?_)) | ((with_reducible show wpAny _ _ (truthy (Value.bool _)) _ _ _); (refine wpAny_truthy_bool ?_; try first | rw [if_pos rfl] | rw [if_neg (by decide)])) | ((with_reducible show wpAny _ _ (compareOp .IsNot (Value.bool _) (Value.bool _)) _ _ _); (refine Mark.to ?_)) | ((with_reducible show wpAny _ _ (compareOp .GtE (Value.int _ _) (Value.int _ _)) _ _ _); (k_here; (refine ge_split ?_ ?_ <;> intro hge'q))) | ((with_reducible show wpAny _ _ (compareOp .Eq (Value.int _ _) (Value.int _ _)) _ _ _); (k_here; refine eq_dec ?_)) | ((with_reducible show wpAny _ _ (call (Value.builtin "all") _ _) _ _ _); (k_here; (with_reducible show wpAny _ _ (call (Value.builtin _) [Value.ref _]) _ _ _); k_dflt (refine LSm.all_bools (by k_asm) (by k_asm) (by rfl) (kso_isList (by k_asm) (by k_mem) rfl) (by with_reducible assumption) ?_); intro h'q tk'q F'q N'q)) | ((with_reducible show wpAny _ _ (call (Value.builtin "sum") _ _) _ _ _); (k_here; (with_reducible show wpAny _ _ (call (Value.builtin _) [Value.ref _]) _ _ _); k_dflt (refine' sumK ?k0 ?k1 ?k2 ?k3 ?k4 ?_; (case k0 => rfl); (case k1 => k_asm); (case k2 => k_asm); (case k3 => exact kso_isList (by k_asm) (by k_mem) rfl); (case k4 => with_reducible assumption)); intro h'q k'q t'q F'q N'q)) | ((with_reducible show wpAny _ _ (call (Value.builtin "max") _ _) _ _ _); (k_here; (with_reducible show wpAny _ _ (call (Value.builtin _) [Value.ref _]) _ _ _); k_dflt (refine' kso_max ?k1 ?k2 ?k3 ?k4 ?k5 ?k6 ?_; (case k1 => k_asm); (case k2 => k_asm); (case k3 => exact kso_isList (by k_asm) (by k_mem) rfl); (case k4 => with_reducible assumption); (case k5 => first | with_reducible assumption | exact Nat.zero_lt_succ _); (case k6 => rfl)); intro h'q M'q t'q k'q F'q N'q a'q b'q)) | ((with_reducible show wpAny _ _ (eval (Expr.Name _ _) _) _ _ _); ((with_reducible show wpAny _ _ (eval (Expr.Name (Str.ofString "three") _) (compEnvC _ _ _ _)) _ _ _); k_dflt (refine LCgL.ld_own (by k_asm) (by k_mem) (by with_reducible assumption) (by with_reducible assumption) ?_))) | walk1) | (leave1; walk_say "STEP leave1"; try dsimp only) | fail "no step"))
    · refine Mark.mk ?_
      rename (_ ∈ gs) => hM
      rename (∀ a, a ∈ gs → _) => hMx
      rename (6 ≤ _) => hge
      have e := hlaw _ hM hMx
      rw [decide_eq_true hge, Bool.true_or] at e
      have e2 : (tr.map (triB f)).all id = tr.all (triB f) := by rw [List.all_map]; rfl
      refine isnot_eq (e2.trans e) ?_
      clear e e2 hlaw
      w_strict (repeat' (first | (k_unfold; (try dsimp only)) | (dsimp only; k_unfold; (try dsimp only)) | ((with_reducible show wpAny _ _ (eval (Expr.Name _ _) _) _ _ _); ((with_reducible show wpAny _ _ (eval (Expr.Name (Str.ofString "pairs") _) (envOfC _ _ _ _ _)) _ _ _); k_dflt (refine' ld_law ?F ?v ?k ?l ?d ?_; (case F => k_asm); (case v => with_reducible assumption); (case k => with_unfolding_all rfl); (case l => with_unfolding_all rfl); (case d => decide)))) | ((with_reducible show wpAny _ _ (eval (Expr.Name _ _) _) _ _ _); ((with_reducible show wpAny _ _ (eval (Expr.Name (Str.ofString "gaps") _) (envOfC _ _ _ _ _)) _ _ _); k_dflt (refine' ld_law ?F ?v ?k ?l ?d ?_; (case F => k_asm); (case v => with_reducible assumption); (case k => with_unfolding_all rfl); (case l => with_unfolding_all rfl); (case d => decide)))) | ((with_reducible show wpAny _ _ (eval (Expr.Name _ _) _) _ _ _); ((with_reducible show wpAny _ _ (eval (Expr.Name (Str.ofString "sides") _) (envOfC _ _ _ _ _)) _ _ _); k_dflt (refine' ld_law ?F ?v ?k ?l ?d ?_; (case F => k_asm); (case v => with_reducible assumption); (case k => with_unfolding_all rfl); (case l => with_unfolding_all rfl); (case d => decide)))) | ((with_reducible show wpAny _ _ (eval (Expr.ListComp _ _ _ _) _) _ _ _); (refine Mark.to ?_)) | ((with_reducible show wpAny _ _ (truthy (Value.bool _)) _ _ _); (refine wpAny_truthy_bool ?_; try first | rw [if_pos rfl] | rw [if_neg (by decide)])) | ((with_reducible show wpAny _ _ (compareOp .IsNot (Value.bool _) (Value.bool _)) _ _ _); (refine Mark.to ?_)) | ((with_reducible show wpAny _ _ (compareOp .GtE (Value.int _ _) (Value.int _ _)) _ _ _); (k_here; (refine ge_split ?_ ?_ <;> intro hge'q))) | ((with_reducible show wpAny _ _ (compareOp .Eq (Value.int _ _) (Value.int _ _)) _ _ _); (k_here; refine eq_dec ?_)) | ((with_reducible show wpAny _ _ (call (Value.builtin "all") _ _) _ _ _); (k_here; (with_reducible show wpAny _ _ (call (Value.builtin _) [Value.ref _]) _ _ _); k_dflt (refine LSm.all_bools (by k_asm) (by k_asm) (by rfl) (kso_isList (by k_asm) (by k_mem) rfl) (by with_reducible assumption) ?_); intro h'q tk'q F'q N'q)) | ((with_reducible show wpAny _ _ (call (Value.builtin "sum") _ _) _ _ _); (k_here; (with_reducible show wpAny _ _ (call (Value.builtin _) [Value.ref _]) _ _ _); k_dflt (refine' sumK ?k0 ?k1 ?k2 ?k3 ?k4 ?_; (case k0 => rfl); (case k1 => k_asm); (case k2 => k_asm); (case k3 => exact kso_isList (by k_asm) (by k_mem) rfl); (case k4 => with_reducible assumption)); intro h'q k'q t'q F'q N'q)) | ((with_reducible show wpAny _ _ (call (Value.builtin "max") _ _) _ _ _); (k_here; (with_reducible show wpAny _ _ (call (Value.builtin _) [Value.ref _]) _ _ _); k_dflt (refine' kso_max ?k1 ?k2 ?k3 ?k4 ?k5 ?k6 ?_; (case k1 => k_asm); (case k2 => k_asm); (case k3 => exact kso_isList (by k_asm) (by k_mem) rfl); (case k4 => with_reducible assumption); (case k5 => first | with_reducible assumption | exact Nat.zero_lt_succ _); (case k6 => rfl)); intro h'q M'q t'q k'q F'q N'q a'q b'q)) | ((with_reducible show wpAny _ _ (eval (Expr.Name _ _) _) _ _ _); ((with_reducible show wpAny _ _ (eval (Expr.Name (Str.ofString "three") _) (compEnvC _ _ _ _)) _ _ _); k_dflt (refine LCgL.ld_own (by k_asm) (by k_mem) (by with_reducible assumption) (by with_reducible assumption) ?_))) | walk1 | (dsimp only; first | ((with_reducible show wpAny _ _ (eval (Expr.Name _ _) _) _ _ _); ((with_reducible show wpAny _ _ (eval (Expr.Name (Str.ofString "pairs") _) (envOfC _ _ _ _ _)) _ _ _); k_dflt (refine' ld_law ?F ?v ?k ?l ?d ?_; (case F => k_asm); (case v => with_reducible assumption); (case k => with_unfolding_all rfl); (case l => with_unfolding_all rfl); (case d => decide)))) | ((with_reducible show wpAny _ _ (eval (Expr.Name _ _) _) _ _ _); ((with_reducible show wpAny _ _ (eval (Expr.Name (Str.ofString "gaps") _) (envOfC _ _ _ _ _)) _ _ _); k_dflt (refine' ld_law ?F ?v ?k ?l ?d ?_; (case F => k_asm); (case v => with_reducible assumption); (case k => with_unfolding_all rfl); (case l => with_unfolding_all rfl); (case d => decide)))) | ((with_reducible show wpAny _ _ (eval (Expr.Name _ _) _) _ _ _); ((with_reducible show wpAny _ _ (eval (Expr.Name (Str.ofString "sides") _) (envOfC _ _ _ _ _)) _ _ _); k_dflt (refine' ld_law ?F ?v ?k ?l ?d ?_; (case F => k_asm); (case v => with_reducible assumption); (case k => with_unfolding_all rfl); (case l => with_unfolding_all rfl); (case d => decide)))) | ((with_reducible show wpAny _ _ (eval (Expr.ListComp _ _ _ _) _) _ _ _); (refine Mark.to ?_)) | ((with_reducible show wpAny _ _ (truthy (Value.bool _)) _ _ _); (refine wpAny_truthy_bool ?_; try first | rw [if_pos rfl] | rw [if_neg (by decide)])) | ((with_reducible show wpAny _ _ (compareOp .IsNot (Value.bool _) (Value.bool _)) _ _ _); (refine Mark.to ?_)) | ((with_reducible show wpAny _ _ (compareOp .GtE (Value.int _ _) (Value.int _ _)) _ _ _); (k_here; (refine ge_split ?_ ?_ <;> intro hge'q))) | ((with_reducible show wpAny _ _ (compareOp .Eq (Value.int _ _) (Value.int _ _)) _ _ _); (k_here; refine eq_dec ?_)) | ((with_reducible show wpAny _ _ (call (Value.builtin "all") _ _) _ _ _); (k_here; (with_reducible show wpAny _ _ (call (Value.builtin _) [Value.ref _]) _ _ _); k_dflt (refine LSm.all_bools (by k_asm) (by k_asm) (by rfl) (kso_isList (by k_asm) (by k_mem) rfl) (by with_reducible assumption) ?_); intro h'q tk'q F'q N'q)) | ((with_reducible show wpAny _ _ (call (Value.builtin "sum") _ _) _ _ _); (k_here; (with_reducible show wpAny _ _ (call (Value.builtin _) [Value.ref _]) _ _ _); k_dflt (refine' sumK ?k0 ?k1 ?k2 ?k3 ?k4 ?_; (case k0 => rfl); (case k1 => k_asm); (case k2 => k_asm); (case k3 => exact kso_isList (by k_asm) (by k_mem) rfl); (case k4 => with_reducible assumption)); intro h'q k'q t'q F'q N'q)) | ((with_reducible show wpAny _ _ (call (Value.builtin "max") _ _) _ _ _); (k_here; (with_reducible show wpAny _ _ (call (Value.builtin _) [Value.ref _]) _ _ _); k_dflt (refine' kso_max ?k1 ?k2 ?k3 ?k4 ?k5 ?k6 ?_; (case k1 => k_asm); (case k2 => k_asm); (case k3 => exact kso_isList (by k_asm) (by k_mem) rfl); (case k4 => with_reducible assumption); (case k5 => first | with_reducible assumption | exact Nat.zero_lt_succ _); (case k6 => rfl)); intro h'q M'q t'q k'q F'q N'q a'q b'q)) | ((with_reducible show wpAny _ _ (eval (Expr.Name _ _) _) _ _ _); ((with_reducible show wpAny _ _ (eval (Expr.Name (Str.ofString "three") _) (compEnvC _ _ _ _)) _ _ _); k_dflt (refine LCgL.ld_own (by k_asm) (by k_mem) (by with_reducible assumption) (by with_reducible assumption) ?_))) | walk1) | (leave1; walk_say "STEP leave1"; try dsimp only) | fail "no step"))
      dsimp only
      rename Fr _ _ _ _ => F9
      rename News _ _ _ _ => N9
      exact wpAny_execs_nil (hret _ _ F9 fun q hq => N9 q (.tail _ hq))
    · refine Mark.mk ?_
      rename (_ ∈ gs) => hM
      rename (∀ a, a ∈ gs → _) => hMx
      rename (¬ 6 ≤ _) => hge
      have e := hlaw _ hM hMx
      rw [decide_eq_false hge, Bool.false_or] at e
      have e2 : (tr.map (triB f)).all id = tr.all (triB f) := by rw [List.all_map]; rfl
      refine isnot_eq (e2.trans e) ?_
      clear e e2 hlaw
      w_strict (repeat' (first | (k_unfold; (try dsimp only)) | (dsimp only; k_unfold; (try dsimp only)) | ((with_reducible show wpAny _ _ (eval (Expr.Name _ _) _) _ _ _); ((with_reducible show wpAny _ _ (eval (Expr.Name (Str.ofString "pairs") _) (envOfC _ _ _ _ _)) _ _ _); k_dflt (refine' ld_law ?F ?v ?k ?l ?d ?_; (case F => k_asm); (case v => with_reducible assumption); (case k => with_unfolding_all rfl); (case l => with_unfolding_all rfl); (case d => decide)))) | ((with_reducible show wpAny _ _ (eval (Expr.Name _ _) _) _ _ _); ((with_reducible show wpAny _ _ (eval (Expr.Name (Str.ofString "gaps") _) (envOfC _ _ _ _ _)) _ _ _); k_dflt (refine' ld_law ?F ?v ?k ?l ?d ?_; (case F => k_asm); (case v => with_reducible assumption); (case k => with_unfolding_all rfl); (case l => with_unfolding_all rfl); (case d => decide)))) | ((with_reducible show wpAny _ _ (eval (Expr.Name _ _) _) _ _ _); ((with_reducible show wpAny _ _ (eval (Expr.Name (Str.ofString "sides") _) (envOfC _ _ _ _ _)) _ _ _); k_dflt (refine' ld_law ?F ?v ?k ?l ?d ?_; (case F => k_asm); (case v => with_reducible assumption); (case k => with_unfolding_all rfl); (case l => with_unfolding_all rfl); (case d => decide)))) | ((with_reducible show wpAny _ _ (eval (Expr.ListComp _ _ _ _) _) _ _ _); (refine Mark.to ?_)) | ((with_reducible show wpAny _ _ (truthy (Value.bool _)) _ _ _); (refine wpAny_truthy_bool ?_; try first | rw [if_pos rfl] | rw [if_neg (by decide)])) | ((with_reducible show wpAny _ _ (compareOp .IsNot (Value.bool _) (Value.bool _)) _ _ _); (refine Mark.to ?_)) | ((with_reducible show wpAny _ _ (compareOp .GtE (Value.int _ _) (Value.int _ _)) _ _ _); (k_here; (refine ge_split ?_ ?_ <;> intro hge'q))) | ((with_reducible show wpAny _ _ (compareOp .Eq (Value.int _ _) (Value.int _ _)) _ _ _); (k_here; refine eq_dec ?_)) | ((with_reducible show wpAny _ _ (call (Value.builtin "all") _ _) _ _ _); (k_here; (with_reducible show wpAny _ _ (call (Value.builtin _) [Value.ref _]) _ _ _); k_dflt (refine LSm.all_bools (by k_asm) (by k_asm) (by rfl) (kso_isList (by k_asm) (by k_mem) rfl) (by with_reducible assumption) ?_); intro h'q tk'q F'q N'q)) | ((with_reducible show wpAny _ _ (call (Value.builtin "sum") _ _) _ _ _); (k_here; (with_reducible show wpAny _ _ (call (Value.builtin _) [Value.ref _]) _ _ _); k_dflt (refine' sumK ?k0 ?k1 ?k2 ?k3 ?k4 ?_; (case k0 => rfl); (case k1 => k_asm); (case k2 => k_asm); (case k3 => exact kso_isList (by k_asm) (by k_mem) rfl); (case k4 => with_reducible assumption)); intro h'q k'q t'q F'q N'q)) | ((with_reducible show wpAny _ _ (call (Value.builtin "max") _ _) _ _ _); (k_here; (with_reducible show wpAny _ _ (call (Value.builtin _) [Value.ref _]) _ _ _); k_dflt (refine' kso_max ?k1 ?k2 ?k3 ?k4 ?k5 ?k6 ?_; (case k1 => k_asm); (case k2 => k_asm); (case k3 => exact kso_isList (by k_asm) (by k_mem) rfl); (case k4 => with_reducible assumption); (case k5 => first | with_reducible assumption | exact Nat.zero_lt_succ _); (case k6 => rfl)); intro h'q M'q t'q k'q F'q N'q a'q b'q)) | ((with_reducible show wpAny _ _ (eval (Expr.Name _ _) _) _ _ _); ((with_reducible show wpAny _ _ (eval (Expr.Name (Str.ofString "three") _) (compEnvC _ _ _ _)) _ _ _); k_dflt (refine LCgL.ld_own (by k_asm) (by k_mem) (by with_reducible assumption) (by with_reducible assumption) ?_))) | walk1 | (dsimp only; first | ((with_reducible show wpAny _ _ (eval (Expr.Name _ _) _) _ _ _); ((with_reducible show wpAny _ _ (eval (Expr.Name (Str.ofString "pairs") _) (envOfC _ _ _ _ _)) _ _ _); k_dflt (refine' ld_law ?F ?v ?k ?l ?d ?_; (case F => k_asm); (case v => with_reducible assumption); (case k => with_unfolding_all rfl); (case l => with_unfolding_all rfl); (case d => decide)))) | ((with_reducible show wpAny _ _ (eval (Expr.Name _ _) _) _ _ _); ((with_reducible show wpAny _ _ (eval (Expr.Name (Str.ofString "gaps") _) (envOfC _ _ _ _ _)) _ _ _); k_dflt (refine' ld_law ?F ?v ?k ?l ?d ?_; (case F => k_asm); (case v => with_reducible assumption); (case k => with_unfolding_all rfl); (case l => with_unfolding_all rfl); (case d => decide)))) | ((with_reducible show wpAny _ _ (eval (Expr.Name _ _) _) _ _ _); ((with_reducible show wpAny _ _ (eval (Expr.Name (Str.ofString "sides") _) (envOfC _ _ _ _ _)) _ _ _); k_dflt (refine' ld_law ?F ?v ?k ?l ?d ?_; (case F => k_asm); (case v => with_reducible assumption); (case k => with_unfolding_all rfl); (case l => with_unfolding_all rfl); (case d => decide)))) | ((with_reducible show wpAny _ _ (eval (Expr.ListComp _ _ _ _) _) _ _ _); (refine Mark.to ?_)) | ((with_reducible show wpAny _ _ (truthy (Value.bool _)) _ _ _); (refine wpAny_truthy_bool ?_; try first | rw [if_pos rfl] | rw [if_neg (by decide)])) | ((with_reducible show wpAny _ _ (compareOp .IsNot (Value.bool _) (Value.bool _)) _ _ _); (refine Mark.to ?_)) | ((with_reducible show wpAny _ _ (compareOp .GtE (Value.int _ _) (Value.int _ _)) _ _ _); (k_here; (refine ge_split ?_ ?_ <;> intro hge'q))) | ((with_reducible show wpAny _ _ (compareOp .Eq (Value.int _ _) (Value.int _ _)) _ _ _); (k_here; refine eq_dec ?_)) | ((with_reducible show wpAny _ _ (call (Value.builtin "all") _ _) _ _ _); (k_here; (with_reducible show wpAny _ _ (call (Value.builtin _) [Value.ref _]) _ _ _); k_dflt (refine LSm.all_bools (by k_asm) (by k_asm) (by rfl) (kso_isList (by k_asm) (by k_mem) rfl) (by with_reducible assumption) ?_); intro h'q tk'q F'q N'q)) | ((with_reducible show wpAny _ _ (call (Value.builtin "sum") _ _) _ _ _); (k_here; (with_reducible show wpAny _ _ (call (Value.builtin _) [Value.ref _]) _ _ _); k_dflt (refine' sumK ?k0 ?k1 ?k2 ?k3 ?k4 ?_; (case k0 => rfl); (case k1 => k_asm); (case k2 => k_asm); (case k3 => exact kso_isList (by k_asm) (by k_mem) rfl); (case k4 => with_reducible assumption)); intro h'q k'q t'q F'q N'q)) | ((with_reducible show wpAny _ _ (call (Value.builtin "max") _ _) _ _ _); (k_here; (with_reducible show wpAny _ _ (call (Value.builtin _) [Value.ref _]) _ _ _); k_dflt (refine' kso_max ?k1 ?k2 ?k3 ?k4 ?k5 ?k6 ?_; (case k1 => k_asm); (case k2 => k_asm); (case k3 => exact kso_isList (by k_asm) (by k_mem) rfl); (case k4 => with_reducible assumption); (case k5 => first | with_reducible assumption | exact Nat.zero_lt_succ _); (case k6 => rfl)); intro h'q M'q t'q k'q F'q N'q a'q b'q)) | ((with_reducible show wpAny _ _ (eval (Expr.Name _ _) _) _ _ _); ((with_reducible show wpAny _ _ (eval (Expr.Name (Str.ofString "three") _) (compEnvC _ _ _ _)) _ _ _); k_dflt (refine LCgL.ld_own (by k_asm) (by k_mem) (by with_reducible assumption) (by with_reducible assumption) ?_))) | walk1) | (leave1; walk_say "STEP leave1"; try dsimp only) | fail "no step"))
      dsimp only
      rename Fr _ _ _ _ => F9
      rename News _ _ _ _ => N9
      exact wpAny_execs_nil (hret _ _ F9 fun q hq => N9 q (.tail _ hq))

end Mine
end

section
open PySem PySem.W PyProof.Rows PySem.Calls
namespace Mine
def triW (a b c : Int) : Bool := decide (2 * max3 (wheel a b) (wheel a c) (wheel b c) = wheel a b + wheel a c + wheel b c)
def allS (a b : Int) (l : List Int) : Bool := l.all (triW a b)
def allP (a : Int) : List Int → Bool
  | [] => true
  | b :: l => allS a b l && allP a l
def allT : List Int → Bool
  | [] => true
  | a :: l => allP a l && allT l
theorem wheel_comm (a b : Int) : wheel a b = wheel b a := by unfold wheel; omega
theorem max_lc (x y z : Int) : max x (max y z) = max y (max x z) := by rw [← Int.max_assoc, ← Int.max_assoc, Int.max_comm x y]
theorem triW_swap (a b c : Int) : triW a b c = triW a c b := by
  unfold triW max3
  rw [wheel_comm c b, max_lc, Int.add_comm (wheel a b) (wheel a c)]
theorem triW_rot (a b c : Int) : triW a b c = triW b a c := by
  unfold triW max3
  rw [wheel_comm b a, Int.max_comm (wheel a c) (wheel b c), Int.add_assoc, Int.add_comm (wheel a c) (wheel b c), ← Int.add_assoc]
theorem allP_iff (a : Int) : ∀ {l : List Int}, l.Nodup → (allP a l = true ↔ ∀ b ∈ l, ∀ c ∈ l, b ≠ c → triW a b c = true)
  | [], _ => by simp [allP]
  | x :: l, h => by
    obtain ⟨hx, hl⟩ := List.nodup_cons.mp h
    simp only [allP, allS, Bool.and_eq_true, List.all_eq_true]
    rw [allP_iff a hl]
    constructor
    · rintro ⟨h1, h2⟩ b hb c hc hne
      rcases List.mem_cons.mp hb with rfl | hb' <;> rcases List.mem_cons.mp hc with rfl | hc'
      · exact absurd rfl hne
      · exact h1 c hc'
      · rw [triW_swap]; exact h1 b hb'
      · exact h2 b hb' c hc' hne
    · intro h1
      refine ⟨fun c hc => h1 x List.mem_cons_self c (List.mem_cons_of_mem _ hc) (fun e => hx (e ▸ hc)), fun b hb c hc hne => h1 b (List.mem_cons_of_mem _ hb) c (List.mem_cons_of_mem _ hc) hne⟩
theorem allT_iff : ∀ {l : List Int}, l.Nodup → (allT l = true ↔ ∀ a ∈ l, ∀ b ∈ l, ∀ c ∈ l, a ≠ b → a ≠ c → b ≠ c → triW a b c = true)
  | [], _ => by simp [allT]
  | x :: l, h => by
    obtain ⟨hx, hl⟩ := List.nodup_cons.mp h
    simp only [allT, Bool.and_eq_true]
    rw [allP_iff x hl, allT_iff hl]
    constructor
    · rintro ⟨h1, h2⟩ a ha b hb c hc n1 n2 n3
      rcases List.mem_cons.mp ha with rfl | ha' <;> rcases List.mem_cons.mp hb with rfl | hb' <;> rcases List.mem_cons.mp hc with rfl | hc'
      · exact absurd rfl n1
      · exact absurd rfl n1
      · exact absurd rfl n2
      · exact h1 b hb' c hc' n3
      · exact absurd rfl n3
      · rw [triW_rot]; exact h1 a ha' c hc' n2
      · rw [triW_swap, triW_rot]; exact h1 a ha' b hb' n1
      · exact h2 a ha' b hb' c hc' n1 n2 n3
    · intro h1
      exact ⟨fun b hb c hc hne => h1 x List.mem_cons_self b (List.mem_cons_of_mem _ hb) c (List.mem_cons_of_mem _ hc) (fun e => hx (e ▸ hb)) (fun e => hx (e ▸ hc)) hne,
        fun a ha b hb c hc => h1 a (List.mem_cons_of_mem _ ha) b (List.mem_cons_of_mem _ hb) c (List.mem_cons_of_mem _ hc)⟩
theorem allT_perm {p q : List Int} (h : p.Perm q) (hp : p.Nodup) : allT p = allT q := by
  have hq : q.Nodup := (h.nodup_iff).mp hp
  have e : allT p = true ↔ allT q = true := by
    rw [allT_iff hp, allT_iff hq]
    constructor
    · intro h1 a ha b hb c hc
      exact h1 a (h.mem_iff.mpr ha) b (h.mem_iff.mpr hb) c (h.mem_iff.mpr hc)
    · intro h1 a ha b hb c hc
      exact h1 a (h.mem_iff.mp ha) b (h.mem_iff.mp hb) c (h.mem_iff.mp hc)
  cases h1 : allT p <;> cases h2 : allT q <;> simp_all
def fw (t : Int) : Int := min t (12 - t)
theorem wheel_fw {a b : Int} (h1 : a < b) (h2 : b < a + 12) : wheel a b = fw (b - a) := by
  unfold wheel fw
  omega
def triOk (x y : Nat) : Bool := decide (2 * max3 (fw x) (fw ((x : Int) + y)) (fw y) = fw x + fw ((x : Int) + y) + fw y) == (decide (6 ≤ (x : Int)) || decide (6 ≤ (y : Int)) || decide ((x : Int) + y ≤ 6))
theorem tri_fin : ((List.range 12).all fun x => (List.range 12).all fun y => x == 0 || y == 0 || decide (12 ≤ x + y) || triOk x y) = true := by decide +kernel
theorem tri_xy {x y : Nat} (hx : 0 < x) (hy : 0 < y) (h : x + y < 12) : triOk x y = true := by
  have h1 := List.all_eq_true.mp (List.all_eq_true.mp tri_fin x (List.mem_range.mpr (by omega))) y (List.mem_range.mpr (by omega))
  rw [show (x == 0) = false from beq_false_of_ne (Nat.ne_of_gt hx), show (y == 0) = false from beq_false_of_ne (Nat.ne_of_gt hy), show decide (12 ≤ x + y) = false from decide_eq_false (Nat.not_le_of_lt h)] at h1
  exact h1
theorem triW_ord {a b c : Int} (h1 : a < b) (h2 : b < c) (h3 : c < a + 12) : triW a b c = true ↔ (6 ≤ b - a ∨ 6 ≤ c - b ∨ c - a ≤ 6) := by
  obtain ⟨x, hx⟩ : ∃ x : Nat, b - a = x := ⟨(b - a).toNat, by omega⟩
  obtain ⟨y, hy⟩ : ∃ y : Nat, c - b = y := ⟨(c - b).toNat, by omega⟩
  have hc : c - a = (x : Int) + y := by omega
  unfold triW
  rw [wheel_fw h1 (by omega), wheel_fw h2 (by omega), wheel_fw (by omega : a < c) h3, hx, hy, hc]
  have e := beq_iff_eq.mp (tri_xy (x := x) (y := y) (by omega) (by omega) (by omega))
  rw [e]
  simp only [Bool.or_eq_true, decide_eq_true_eq, or_assoc]
theorem gap_eq {sl : List Int} {k : Int} : gapv sl k = (nthI sl k - prv sl k) % 12 := Int.fmod_eq_emod_of_nonneg _ (by decide)
theorem law4 {a b c d : Int} (h0 : 0 ≤ a) (h1 : a < b) (h2 : b < c) (h3 : c < d) (h4 : d < 12) {M : Int} (hM : M ∈ (List.range 4).map fun (i : Nat) => gapv [a, b, c, d] (i : Int)) (hx : ∀ x, x ∈ ((List.range 4).map fun (i : Nat) => gapv [a, b, c, d] (i : Int)) → x ≤ M) :
    allT [a, b, c, d] = (decide (6 ≤ M) || pairsV [a, b, c, d]) := by
  have e0 : gapv [a, b, c, d] 0 = (a - d) % 12 := gap_eq
  have e1 : gapv [a, b, c, d] 1 = (b - a) % 12 := gap_eq
  have e2 : gapv [a, b, c, d] 2 = (c - b) % 12 := gap_eq
  have e3 : gapv [a, b, c, d] 3 = (d - c) % 12 := gap_eq
  have hr : ((List.range 4).map fun (i : Nat) => gapv [a, b, c, d] (i : Int)) = [(a - d) % 12, (b - a) % 12, (c - b) % 12, (d - c) % 12] := by rw [← e0, ← e1, ← e2, ← e3]; rfl
  rw [hr] at hM hx
  simp only [List.mem_cons, List.not_mem_nil, or_false] at hM
  have x0 := hx ((a - d) % 12) (by simp)
  have x1 := hx ((b - a) % 12) (by simp)
  have x2 := hx ((c - b) % 12) (by simp)
  have x3 := hx ((d - c) % 12) (by simp)
  have ep : pairsV [a, b, c, d] = (decide (c - a = 6) && decide (d - b = 6)) := rfl
  rw [ep]
  clear hx hr e0 e1 e2 e3
  rw [show (a - d) % 12 = a - d + 12 by omega] at hM x0
  rw [show (b - a) % 12 = b - a by omega] at hM x1
  rw [show (c - b) % 12 = c - b by omega] at hM x2
  rw [show (d - c) % 12 = d - c by omega] at hM x3
  have t1 := triW_ord h1 h2 (by omega)
  have t2 := triW_ord h1 (show b < d by omega) (by omega)
  have t3 := triW_ord (show a < c by omega) h3 (by omega)
  have t4 := triW_ord h2 h3 (by omega)
  have eT : allT [a, b, c, d] = true ↔ (triW a b c = true ∧ triW a b d = true ∧ triW a c d = true ∧ triW b c d = true) := by
    simp only [allT, allP, allS, List.all_cons, List.all_nil, Bool.and_true, Bool.and_eq_true, and_assoc]
  rw [t1, t2, t3, t4] at eT
  clear t1 t2 t3 t4
  have eR : (decide (6 ≤ M) || (decide (c - a = 6) && decide (d - b = 6))) = true ↔ (6 ≤ M ∨ (c - a = 6 ∧ d - b = 6)) := by simp
  have key : (allT [a, b, c, d] = true) ↔ (decide (6 ≤ M) || (decide (c - a = 6) && decide (d - b = 6))) = true := by
    rw [eT, eR]
    clear eT eR
    constructor
    · rintro ⟨t1, t2, t3, t4⟩
      by_cases hc : 6 ≤ M
      · exact .inl hc
      · have y1 : b - a < 6 := by omega
        have y2 : c - b < 6 := by omega
        have y3 : d - c < 6 := by omega
        have y0 : 6 < d - a := by omega
        clear hM x0 x1 x2 x3 hc
        have s1 : c - a ≤ 6 := by rcases t1 with t | t | t <;> omega
        have s4 : d - b ≤ 6 := by rcases t4 with t | t | t <;> omega
        have s2 : 6 ≤ d - b := by rcases t2 with t | t | t <;> omega
        have s3 : 6 ≤ c - a := by rcases t3 with t | t | t <;> omega
        clear t1 t2 t3 t4
        exact .inr ⟨Int.le_antisymm s1 s3, Int.le_antisymm s4 s2⟩
    · rintro (hc | ⟨p1, p2⟩)
      · clear x0 x1 x2 x3
        rcases hM with hM | hM | hM | hM
        · exact ⟨.inr (.inr (by omega)), .inr (.inr (by omega)), .inr (.inr (by omega)), .inr (.inr (by omega))⟩
        · exact ⟨.inl (by omega), .inl (by omega), .inl (by omega), .inr (.inr (by omega))⟩
        · exact ⟨.inr (.inl (by omega)), .inr (.inl (by omega)), .inl (by omega), .inl (by omega)⟩
        · exact ⟨.inr (.inr (by omega)), .inr (.inl (by omega)), .inr (.inl (by omega)), .inr (.inl (by omega))⟩
      · clear hM x0 x1 x2 x3
        exact ⟨.inr (.inr (by omega)), .inr (.inl (by omega)), .inl (by omega), .inr (.inr (by omega))⟩
  cases q1 : allT [a, b, c, d] <;> cases q2 : (decide (6 ≤ M) || (decide (c - a = 6) && decide (d - b = 6))) <;> simp_all
theorem law5 {a b c d e : Int} (h0 : 0 ≤ a) (h1 : a < b) (h2 : b < c) (h3 : c < d) (h4 : d < e) (h5 : e < 12) {M : Int} (hM : M ∈ (List.range 5).map fun (i : Nat) => gapv [a, b, c, d, e] (i : Int)) (hx : ∀ x, x ∈ ((List.range 5).map fun (i : Nat) => gapv [a, b, c, d, e] (i : Int)) → x ≤ M) :
    allT [a, b, c, d, e] = (decide (6 ≤ M) || pairsV [a, b, c, d, e]) := by
  have e0 : gapv [a, b, c, d, e] 0 = (a - e) % 12 := gap_eq
  have e1 : gapv [a, b, c, d, e] 1 = (b - a) % 12 := gap_eq
  have e2 : gapv [a, b, c, d, e] 2 = (c - b) % 12 := gap_eq
  have e3 : gapv [a, b, c, d, e] 3 = (d - c) % 12 := gap_eq
  have e4 : gapv [a, b, c, d, e] 4 = (e - d) % 12 := gap_eq
  have hr : ((List.range 5).map fun (i : Nat) => gapv [a, b, c, d, e] (i : Int)) = [(a - e) % 12, (b - a) % 12, (c - b) % 12, (d - c) % 12, (e - d) % 12] := by rw [← e0, ← e1, ← e2, ← e3, ← e4]; rfl
  rw [hr] at hM hx
  simp only [List.mem_cons, List.not_mem_nil, or_false] at hM
  have x0 := hx ((a - e) % 12) (by simp)
  have x1 := hx ((b - a) % 12) (by simp)
  have x2 := hx ((c - b) % 12) (by simp)
  have x3 := hx ((d - c) % 12) (by simp)
  have x4 := hx ((e - d) % 12) (by simp)
  clear hx hr e0 e1 e2 e3 e4
  rw [show (a - e) % 12 = a - e + 12 by omega] at hM x0
  rw [show (b - a) % 12 = b - a by omega] at hM x1
  rw [show (c - b) % 12 = c - b by omega] at hM x2
  rw [show (d - c) % 12 = d - c by omega] at hM x3
  rw [show (e - d) % 12 = e - d by omega] at hM x4
  have ep : pairsV [a, b, c, d, e] = false := rfl
  rw [ep, Bool.or_false]
  have t1 := triW_ord h1 h2 (by omega)
  have t2 := triW_ord h1 (show b < d by omega) (by omega)
  have t3 := triW_ord h1 (show b < e by omega) (by omega)
  have t4 := triW_ord (show a < c by omega) h3 (by omega)
  have t5 := triW_ord (show a < c by omega) (show c < e by omega) (by omega)
  have t6 := triW_ord (show a < d by omega) h4 (by omega)
  have t7 := triW_ord h2 h3 (by omega)
  have t8 := triW_ord h2 (show c < e by omega) (by omega)
  have t9 := triW_ord (show b < d by omega) h4 (by omega)
  have t10 := triW_ord h3 h4 (by omega)
  have eT : allT [a, b, c, d, e] = true ↔ (triW a b c = true ∧ triW a b d = true ∧ triW a b e = true ∧ triW a c d = true ∧ triW a c e = true ∧ triW a d e = true ∧ triW b c d = true ∧ triW b c e = true ∧ triW b d e = true ∧ triW c d e = true) := by
    simp only [allT, allP, allS, List.all_cons, List.all_nil, Bool.and_true, Bool.and_eq_true, and_assoc]
  rw [t1, t2, t3, t4, t5, t6, t7, t8, t9, t10] at eT
  clear t1 t2 t3 t4 t5 t6 t7 t8 t9 t10
  have key : (allT [a, b, c, d, e] = true) ↔ decide (6 ≤ M) = true := by
    rw [eT, decide_eq_true_eq]
    clear eT
    constructor
    · rintro ⟨t1, t2, t3, t4, t5, t6, t7, t8, t9, t10⟩
      by_cases hc : 6 ≤ M
      · exact hc
      · exfalso
        have y0 : 6 < e - a := by clear t1 t2 t3 t4 t5 t6 t7 t8 t9 t10 hM; omega
        have y1 : b - a < 6 := by clear t1 t2 t3 t4 t5 t6 t7 t8 t9 t10 hM; omega
        have y2 : c - b < 6 := by clear t1 t2 t3 t4 t5 t6 t7 t8 t9 t10 hM; omega
        have y3 : d - c < 6 := by clear t1 t2 t3 t4 t5 t6 t7 t8 t9 t10 hM; omega
        have y4 : e - d < 6 := by clear t1 t2 t3 t4 t5 t6 t7 t8 t9 t10 hM; omega
        have y12 : e - a < 12 := by clear t1 t2 t3 t4 t5 t6 t7 t8 t9 t10 hM; omega
        clear hM x0 x1 x2 x3 x4 hc
        have g : ∀ {p q r u : Prop}, (p ∨ q ∨ r) → ¬ p → ¬ q → (r → u) → u := fun h hp hq k => h.elim (fun z => absurd z hp) fun h => h.elim (fun z => absurd z hq) k
        have s1 : c - a ≤ 6 := g t1 (Int.not_le_of_gt y1) (Int.not_le_of_gt y2) id
        have s7 : d - b ≤ 6 := g t7 (Int.not_le_of_gt y2) (Int.not_le_of_gt y3) id
        have s10 : e - c ≤ 6 := g t10 (Int.not_le_of_gt y3) (Int.not_le_of_gt y4) id
        have k2 : 6 < d - a → 6 ≤ d - b := fun h => t2.elim (fun z => absurd z (Int.not_le_of_gt y1)) fun z => z.elim id fun z => absurd z (Int.not_le_of_gt h)
        have k4 : 6 < d - a → 6 ≤ c - a := fun h => t4.elim id fun z => z.elim (fun z => absurd z (Int.not_le_of_gt y3)) fun z => absurd z (Int.not_le_of_gt h)
        have k8 : 6 < e - b → 6 ≤ e - c := fun h => t8.elim (fun z => absurd z (Int.not_le_of_gt y2)) fun z => z.elim id fun z => absurd z (Int.not_le_of_gt h)
        have k9 : 6 < e - b → 6 ≤ d - b := fun h => t9.elim id fun z => z.elim (fun z => absurd z (Int.not_le_of_gt y4)) fun z => absurd z (Int.not_le_of_gt h)
        have r5 : 6 ≤ c - a ∨ 6 ≤ e - c := t5.elim .inl fun z => z.elim .inr fun z => absurd z (Int.not_le_of_gt y0)
        clear t1 t2 t3 t4 t5 t6 t7 t8 t9 t10 g
        have fin : 6 ≤ c - a → 6 ≤ e - c → False := fun p q => by clear k2 k4 k8 k9 r5 y0 y1 y2 y3 y4 s1 s7 s10; omega
        rcases r5 with r | r
        · have z1 : 6 < d - a := by clear k2 k4 k8 k9 y0 y1 y2 y3 y4 s1 s7 s10 fin; omega
          have z2 := k2 z1
          have z3 : 6 < e - b := by clear k2 k4 k8 k9 y0 y1 y2 y3 y4 s1 s7 s10 fin z1 r; omega
          exact fin r (k8 z3)
        · have z3 : 6 < e - b := by clear k2 k4 k8 k9 y0 y1 y2 y3 y4 s1 s7 s10 fin; omega
          have z2 := k9 z3
          have z1 : 6 < d - a := by clear k2 k4 k8 k9 y0 y1 y2 y3 y4 s1 s7 s10 fin z3 r; omega
          exact fin (k4 z1) r
    · intro hc
      clear x0 x1 x2 x3 x4
      rcases hM with hM | hM | hM | hM | hM
      · exact ⟨.inr (.inr (by omega)), .inr (.inr (by omega)), .inr (.inr (by omega)), .inr (.inr (by omega)), .inr (.inr (by omega)), .inr (.inr (by omega)), .inr (.inr (by omega)), .inr (.inr (by omega)), .inr (.inr (by omega)), .inr (.inr (by omega))⟩
      · exact ⟨.inl (by omega), .inl (by omega), .inl (by omega), .inl (by omega), .inl (by omega), .inl (by omega), .inr (.inr (by omega)), .inr (.inr (by omega)), .inr (.inr (by omega)), .inr (.inr (by omega))⟩
      · exact ⟨.inr (.inl (by omega)), .inr (.inl (by omega)), .inr (.inl (by omega)), .inl (by omega), .inl (by omega), .inl (by omega), .inl (by omega), .inl (by omega), .inl (by omega), .inr (.inr (by omega))⟩
      · exact ⟨.inr (.inr (by omega)), .inr (.inl (by omega)), .inr (.inl (by omega)), .inr (.inl (by omega)), .inr (.inl (by omega)), .inl (by omega), .inr (.inl (by omega)), .inr (.inl (by omega)), .inl (by omega), .inl (by omega)⟩
      · exact ⟨.inr (.inr (by omega)), .inr (.inr (by omega)), .inr (.inl (by omega)), .inr (.inr (by omega)), .inr (.inl (by omega)), .inr (.inl (by omega)), .inr (.inr (by omega)), .inr (.inl (by omega)), .inr (.inl (by omega)), .inr (.inl (by omega))⟩
  cases q1 : allT [a, b, c, d, e] <;> cases q2 : decide (6 ≤ M) <;> simp_all
theorem far_lt {yl : List Int} {j k : Int} (h : j < k) : farv yl j k = wheel (nthI yl j) (nthI yl k) := if_pos h
theorem tri_eq (y0 y1 y2 y3 y4 : Int) {o : Int} (h0 : 0 ≤ o) (h1 : o < 6) : (T0 (grp o) (grp o)).all (triB (farv [y0, y1, y2, y3, y4])) = allT ((grp o).map (nthI [y0, y1, y2, y3, y4])) := by
  have ho : o = 0 ∨ o = 1 ∨ o = 2 ∨ o = 3 ∨ o = 4 ∨ o = 5 := by omega
  rcases ho with rfl | rfl | rfl | rfl | rfl | rfl
  · show ([(1, 2, 3), (1, 2, 4), (1, 3, 4), (2, 3, 4)] : List (Int × Int × Int)).all (triB (farv [y0, y1, y2, y3, y4])) = allT [y1, y2, y3, y4]
    show (triW y1 y2 y3 && (triW y1 y2 y4 && (triW y1 y3 y4 && (triW y2 y3 y4 && true)))) = _
    simp only [allT, allP, allS, List.all_cons, List.all_nil, Bool.and_true, Bool.and_assoc]
  · show ([(0, 2, 3), (0, 2, 4), (0, 3, 4), (2, 3, 4)] : List (Int × Int × Int)).all (triB (farv [y0, y1, y2, y3, y4])) = allT [y0, y2, y3, y4]
    show (triW y0 y2 y3 && (triW y0 y2 y4 && (triW y0 y3 y4 && (triW y2 y3 y4 && true)))) = _
    simp only [allT, allP, allS, List.all_cons, List.all_nil, Bool.and_true, Bool.and_assoc]
  · show ([(0, 1, 3), (0, 1, 4), (0, 3, 4), (1, 3, 4)] : List (Int × Int × Int)).all (triB (farv [y0, y1, y2, y3, y4])) = allT [y0, y1, y3, y4]
    show (triW y0 y1 y3 && (triW y0 y1 y4 && (triW y0 y3 y4 && (triW y1 y3 y4 && true)))) = _
    simp only [allT, allP, allS, List.all_cons, List.all_nil, Bool.and_true, Bool.and_assoc]
  · show ([(0, 1, 2), (0, 1, 4), (0, 2, 4), (1, 2, 4)] : List (Int × Int × Int)).all (triB (farv [y0, y1, y2, y3, y4])) = allT [y0, y1, y2, y4]
    show (triW y0 y1 y2 && (triW y0 y1 y4 && (triW y0 y2 y4 && (triW y1 y2 y4 && true)))) = _
    simp only [allT, allP, allS, List.all_cons, List.all_nil, Bool.and_true, Bool.and_assoc]
  · show ([(0, 1, 2), (0, 1, 3), (0, 2, 3), (1, 2, 3)] : List (Int × Int × Int)).all (triB (farv [y0, y1, y2, y3, y4])) = allT [y0, y1, y2, y3]
    show (triW y0 y1 y2 && (triW y0 y1 y3 && (triW y0 y2 y3 && (triW y1 y2 y3 && true)))) = _
    simp only [allT, allP, allS, List.all_cons, List.all_nil, Bool.and_true, Bool.and_assoc]
  · show ([(0, 1, 2), (0, 1, 3), (0, 1, 4), (0, 2, 3), (0, 2, 4), (0, 3, 4), (1, 2, 3), (1, 2, 4), (1, 3, 4), (2, 3, 4)] : List (Int × Int × Int)).all (triB (farv [y0, y1, y2, y3, y4])) = allT [y0, y1, y2, y3, y4]
    show (triW y0 y1 y2 && (triW y0 y1 y3 && (triW y0 y1 y4 && (triW y0 y2 y3 && (triW y0 y2 y4 && (triW y0 y3 y4 && (triW y1 y2 y3 && (triW y1 y2 y4 && (triW y1 y3 y4 && (triW y2 y3 y4 && true)))))))))) = _
    simp only [allT, allP, allS, List.all_cons, List.all_nil, Bool.and_true, Bool.and_assoc]
theorem grp_len {o : Int} (h0 : 0 ≤ o) (h1 : o < 6) : ((grp o).length = 4 ∨ (grp o).length = 5) ∧ (T0 (grp o) (grp o)).length ≤ 200 ∧ (grp o).Nodup ∧ ∀ g ∈ grp o, 0 ≤ g ∧ g < 5 := by
  have ho : o = 0 ∨ o = 1 ∨ o = 2 ∨ o = 3 ∨ o = 4 ∨ o = 5 := by omega
  rcases ho with rfl | rfl | rfl | rfl | rfl | rfl <;> exact ⟨by decide, by decide, by decide, by decide⟩
theorem places_nodup {yl : List Int} (hl : yl.length = 5) (ds : yl.Nodup) : ∀ {gl : List Int}, gl.Nodup → (∀ g ∈ gl, 0 ≤ g ∧ g < 5) → (gl.map (nthI yl)).Nodup
  | [], _, _ => List.nodup_nil
  | g :: gl, hn, hg => by
    obtain ⟨h1, h2⟩ := List.nodup_cons.mp hn
    rw [List.map_cons]
    refine List.nodup_cons.mpr ⟨fun hm => ?_, places_nodup hl ds h2 fun g' h' => hg g' (List.mem_cons_of_mem _ h')⟩
    obtain ⟨g', hg', e⟩ := List.mem_map.mp hm
    obtain ⟨a1, a2⟩ := hg g List.mem_cons_self
    obtain ⟨b1, b2⟩ := hg g' (List.mem_cons_of_mem _ hg')
    have hne : g ≠ g' := fun q => h1 (q ▸ hg')
    by_cases hlt : g < g'
    · exact nth_ne hl ds a1 hlt b2 e.symm
    · exact nth_ne hl ds b1 (by omega) a2 e
theorem the_law {y0 y1 y2 y3 y4 : Int} (b0 : 0 ≤ y0 ∧ y0 < 12) (b1 : 0 ≤ y1 ∧ y1 < 12) (b2 : 0 ≤ y2 ∧ y2 < 12) (b3 : 0 ≤ y3 ∧ y3 < 12) (b4 : 0 ≤ y4 ∧ y4 < 12) (ds : [y0, y1, y2, y3, y4].Nodup) {o : Int} (h0 : 0 ≤ o) (h1 : o < 6)
    {sl : List Int} (hp : sl.Perm ((grp o).map (nthI [y0, y1, y2, y3, y4]))) (hs : sl.Pairwise (· ≤ ·)) {n : Nat} (hn : sl.length = n) {M : Int} (hM : M ∈ (List.range n).map fun (i : Nat) => gapv sl (i : Int)) (hx : ∀ x, x ∈ ((List.range n).map fun (i : Nat) => gapv sl (i : Int)) → x ≤ M) :
    (T0 (grp o) (grp o)).all (triB (farv [y0, y1, y2, y3, y4])) = (decide (6 ≤ M) || pairsV sl) := by
  obtain ⟨hl, _, hgn, hgb⟩ := grp_len h0 h1
  have hq := places_nodup (yl := [y0, y1, y2, y3, y4]) rfl ds hgn hgb
  have hsn : sl.Nodup := hp.nodup_iff.mpr hq
  rw [tri_eq _ _ _ _ _ h0 h1, ← allT_perm hp hsn]
  have hb : ∀ x ∈ sl, 0 ≤ x ∧ x < 12 := fun x hx => by
    obtain ⟨g, hg, rfl⟩ := List.mem_map.mp (hp.mem_iff.mp hx)
    obtain ⟨a1, a2⟩ := hgb g hg
    rcases five_cases a1 a2 with rfl | rfl | rfl | rfl | rfl
    · exact b0
    · exact b1
    · exact b2
    · exact b3
    · exact b4
  have hlen : sl.length = 4 ∨ sl.length = 5 := by
    have := hp.length_eq
    rw [List.length_map] at this
    omega
  subst hn
  match sl, hlen, hs, hsn, hb, hM, hx with
  | [a, b, c, d], _, hs, hsn, hb, hM, hx =>
    simp only [List.pairwise_cons, List.mem_cons, List.not_mem_nil, or_false, forall_eq_or_imp, forall_eq] at hs
    simp only [List.nodup_cons, List.mem_cons, List.not_mem_nil, or_false, not_or] at hsn
    have ba := hb a (by simp)
    have bd := hb d (by simp)
    exact law4 ba.1 (by omega) (by omega) (by omega) bd.2 hM hx
  | [a, b, c, d, e], _, hs, hsn, hb, hM, hx =>
    simp only [List.pairwise_cons, List.mem_cons, List.not_mem_nil, or_false, forall_eq_or_imp, forall_eq] at hs
    simp only [List.nodup_cons, List.mem_cons, List.not_mem_nil, or_false, not_or] at hsn
    have ba := hb a (by simp)
    have be := hb e (by simp)
    exact law5 ba.1 (by omega) (by omega) (by omega) (by omega) be.2 hM hx
end Mine
end

section
open PySem PySem.W PyProof.Rows PySem.Calls
set_option maxHeartbeats 4000000
namespace Mine
theorem out_split : outBody = outStmt 0 ++ (outStmt 1 ++ (outStmt 2 ++ (outStmt 3 ++ (outStmt 4 ++ outStmt 5)))) := by rfl
theorem news_sub {h₀ h : Heap} {L : Addr} {a b : List (Addr × Obj)} (N : News h₀ L h a) (k : ∀ p ∈ b, p ∈ a) : News h₀ L h b := fun p hp => N p (k p hp)
theorem sub_gb {α : Type} {g a5 a3 f r0 r1 r2 r3 r4 n q a6 a4 a2 a1 : α} {ext : List α} : ∀ p ∈ [g, a5, a3, f, r0, r1, r2, r3, r4, n, q, a6, a4, a2, a1], p ∈ g :: a5 :: a4 :: (([f, r0, r1, r2, r3, r4] ++ ext) ++ [n, q, a6, a3, a2, a1]) := fun p hp => by
  simp only [List.mem_cons, List.mem_append, List.not_mem_nil, or_false] at hp ⊢
  grind
theorem sub_gc {α : Type} {g a5 a3 n q a6 a4 a2 a1 d : α} {els rw5 : List α} : ∀ p ∈ g :: a6 :: a5 :: a1 :: q :: (d :: (els ++ (a4 :: (rw5 ++ [n, a3, a2])))), p ∈ d :: (els ++ (g :: a5 :: a4 :: (rw5 ++ [n, q, a6, a3, a2, a1]))) := fun p hp => by
  simp only [List.mem_cons, List.mem_append, List.not_mem_nil, or_false] at hp ⊢
  grind
theorem sub_gd {α : Type} {s g a6 a5 a1 q : α} {r : List α} : ∀ p ∈ s :: a6 :: g :: a5 :: a1 :: q :: r, p ∈ s :: g :: a6 :: a5 :: a1 :: q :: r := fun p hp => by
  simp only [List.mem_cons] at hp ⊢
  grind
theorem sub_ge {α : Type} {x s g a6 a5 a1 q : α} {r : List α} : ∀ p ∈ s :: a6 :: x :: g :: a5 :: a1 :: q :: r, p ∈ x :: s :: g :: a6 :: a5 :: a1 :: q :: r := fun p hp => by
  simp only [List.mem_cons] at hp ⊢
  grind
theorem sub_gf {α : Type} {x s g a6 a5 a1 q d a4 n a3 a2 : α} {els rw5 : List α} : ∀ p ∈ d :: x :: (els ++ (s :: a6 :: g :: a5 :: a1 :: q :: a4 :: (rw5 ++ [n, a3, a2]))), p ∈ s :: a6 :: x :: g :: a5 :: a1 :: q :: (d :: (els ++ (a4 :: (rw5 ++ [n, a3, a2])))) := fun p hp => by
  simp only [List.mem_cons, List.mem_append, List.not_mem_nil, or_false] at hp ⊢
  grind
theorem sub_end {α : Type} {x s g a6 a5 a1 q d a4 n a3 a2 : α} {els rw5 : List α} : ∀ p ∈ rw5 ++ [n, q, a6, a5, a4, a3, a2, a1], p ∈ d :: x :: (els ++ (s :: a6 :: g :: a5 :: a1 :: q :: a4 :: (rw5 ++ [n, a3, a2]))) := fun p hp => by
  simp only [List.mem_cons, List.mem_append, List.not_mem_nil, or_false] at hp ⊢
  grind
theorem ne_fresh {h₀ h : Heap} {L a b : Addr} {o : Obj} {news : List (Addr × Obj)} (N : News h₀ L h news) (hm : (a, o) ∈ news) (hb : h.get? b = none) : b ≠ a := fun e => by
  have := (N _ hm).1
  rw [e] at hb
  rw [hb] at this
  cases this
abbrev rows5 (Fa r0 r1 r2 r3 r4 : Addr) (cF c0 c1 c2 c3 c4 : Nat) (l0 l1 l2 l3 l4 : List Value) : List (Addr × Obj) := [(Fa, listOf [Value.ref r0, Value.ref r1, Value.ref r2, Value.ref r3, Value.ref r4].toArray cF), (r0, listOf l0.toArray c0), (r1, listOf l1.toArray c1), (r2, listOf l2.toArray c2), (r3, listOf l3.toArray c3), (r4, listOf l4.toArray c4)]
theorem out_claim (w : World) (p : Program) (loose : List Str) (mean : ExcName → Option Value) (mg mb : Str → Option Value) (fa : Addr) (cd : Value) (h₀ : Heap) (L : Addr) (m : Str → Option Value) (P Nm Fa r0 r1 r2 r3 r4 : Addr) (cP cN cF c0 c1 c2 c3 c4 : Nat) (l0 l1 l2 l3 l4 : List Value) (y0 y1 y2 y3 y4 : Int) (k0 k1 k2 k3 k4 s0 s1 s2 s3 s4 : Tok) (oc1 oc2 oc3 oc4 oc5 oc6 : Obj) (v5 v6 : Option Value) (o : Int) (to : Tok) (ext : List (Addr × Obj))
  (b0 : 0 ≤ y0 ∧ y0 < 12) (b1 : 0 ≤ y1 ∧ y1 < 12) (b2 : 0 ≤ y2 ∧ y2 < 12) (b3 : 0 ≤ y3 ∧ y3 < 12) (b4 : 0 ≤ y4 ∧ y4 < 12) (ds : [y0, y1, y2, y3, y4].Nodup)
  (ho0 : 0 ≤ o) (ho6 : o < 6)
  (hc1 : oc1.data = .cell (some (.ref P))) (hc3 : oc3.data = .cell (some (.ref Fa))) (hc4 : oc4.data = .cell (some (.int o to))) (hc5 : oc5.data = .cell v5) (hc6 : oc6.data = .cell v6)
  (R0 : RowOk [y0, y1, y2, y3, y4] 0 l0) (R1 : RowOk [y0, y1, y2, y3, y4] 1 l1) (R2 : RowOk [y0, y1, y2, y3, y4] 2 l2) (R3 : RowOk [y0, y1, y2, y3, y4] 3 l3) (R4 : RowOk [y0, y1, y2, y3, y4] 4 l4)
  (x5 : ∀ q ∈ ext, q.1 ≠ L + 5) (x6 : ∀ q ∈ ext, q.1 ≠ L + 6)
  (q5 : ∀ a ∈ [Fa, r0, r1, r2, r3, r4, Nm, P], @Ne Nat a (L + 5)) (q6 : ∀ a ∈ [Fa, r0, r1, r2, r3, r4, Nm, P], @Ne Nat a (L + 6))
  (dp un : Nat) (gd : Option (List Code)) (fl : List Env) (s : Shared) (Q : Flow → Shared → Prop) (E : Value → Shared → Prop)
  (X : (Mine.hd.heap_39 w.params).In h₀) (T : Top p loose mean mg mb h₀) (hd : dp + 3 < recursionLimit) (hu : un + 100 < cLine)
  (F : Fr h₀ L s.heap m)
  (N : News h₀ L s.heap ((rows5 Fa r0 r1 r2 r3 r4 cF c0 c1 c2 c3 c4 l0 l1 l2 l3 l4 ++ ext) ++ far5 P Nm cP cN y0 y1 y2 y3 y4 k0 k1 k2 k3 k4 s0 s1 s2 s3 s4 L oc1 oc2 oc3 oc4 oc5 oc6))
  (hret : ∀ h' tk' m' oc5' oc6' v5' v6', oc5'.data = .cell v5' → oc6'.data = .cell v6' → Fr h₀ L h' m' →
    News h₀ L h' ((rows5 Fa r0 r1 r2 r3 r4 cF c0 c1 c2 c3 c4 l0 l1 l2 l3 l4 ++ ext) ++ far5 P Nm cP cN y0 y1 y2 y3 y4 k0 k1 k2 k3 k4 s0 s1 s2 s3 s4 L oc1 oc2 oc3 oc4 oc5' oc6') → Q .next { s with heap := h', toks := tk' }) :
  wpAny (model PySem.Challenge.rw_pg0276_01.row.prog w) { handled := none, depth := dp, frames := some fl, guards := gd, units := un } (execs outBody (envOfC (Str.ofString "law") lawScope L fa cd)) Q E s := by
  obtain ⟨hlen, htr, hgn, hgb⟩ := grp_len ho0 ho6
  rw [out_split]
  obtain ⟨hp, gens, drawn, tk, os⟩ := s
  dsimp only at F N hret
  generalize hrow : rows5 Fa r0 r1 r2 r3 r4 cF c0 c1 c2 c3 c4 l0 l1 l2 l3 l4 ++ ext = rw5 at N hret
  -- group
  refine execs_split (ga_claim w p loose mean mg mb fa cd h₀ L m o to oc4 oc5 v5 (rw5 ++ [(Nm, listOf [Value.str (nm y0) s0, Value.str (nm y1) s1, Value.str (nm y2) s2, Value.str (nm y3) s3, Value.str (nm y4) s4].toArray cN), (P, listOf [Value.int y0 k0, Value.int y1 k1, Value.int y2 k2, Value.int y3 k3, Value.int y4 k4].toArray cP), (L + 6, oc6), (L + 3, oc3), (L + 2, oc2), (L + 1, oc1)]) hc4 hc5 ?r5 dp un gd fl _ _ _ X T hd hu F ?N ?k)
  case r5 =>
    intro q hq
    have hq' : q ∈ rw5 ∨ q.1 = Nm ∨ q.1 = P ∨ q.1 = L + 6 ∨ q.1 = L + 3 ∨ q.1 = L + 2 ∨ q.1 = L + 1 := by
      simp only [List.mem_append, List.mem_cons, List.not_mem_nil, or_false] at hq
      rcases hq with h | rfl | rfl | rfl | rfl | rfl | rfl <;> simp [*]
    rcases hq' with h | h | h | h | h | h | h
    · subst hrow
      simp only [rows5, List.mem_append, List.mem_cons, List.not_mem_nil, or_false] at h
      rcases h with h | h
      case inr => exact x5 q h
      rcases h with rfl | rfl | rfl | rfl | rfl | rfl
      · exact q5 Fa (by simp)
      · exact q5 r0 (by simp)
      · exact q5 r1 (by simp)
      · exact q5 r2 (by simp)
      · exact q5 r3 (by simp)
      · exact q5 r4 (by simp)
    · rw [h]; exact q5 Nm (by simp)
    · rw [h]; exact q5 P (by simp)
    · rw [h]; refine neN ?_; omega
    · rw [h]; refine neN ?_; omega
    · rw [h]; refine neN ?_; omega
    · rw [h]; refine neN ?_; omega
  case N => exact news_sub N fun p hp => by simp only [far5, cells6] at hp ⊢; grind
  case k =>
    intro h1 tk1 G gv cG oc5' hc5' hIg hG F1 N1
    dsimp only at hG F1 N1 ⊢
    -- sides
    refine execs_split (gb_claim w p loose mean mg mb fa cd h₀ L m [y0, y1, y2, y3, y4] (grp o) gv G Fa r0 r1 r2 r3 r4 cG cF c0 c1 c2 c3 c4 l0 l1 l2 l3 l4 oc3 oc5' [(Nm, listOf [Value.str (nm y0) s0, Value.str (nm y1) s1, Value.str (nm y2) s2, Value.str (nm y3) s3, Value.str (nm y4) s4].toArray cN), (P, listOf [Value.int y0 k0, Value.int y1 k1, Value.int y2 k2, Value.int y3 k3, Value.int y4 k4].toArray cP), (L + 6, oc6), (L + 4, oc4), (L + 2, oc2), (L + 1, oc1)] hc3 hc5' hIg hgb (by omega) R0 R1 R2 R3 R4 dp un gd fl _ _ _ X T hd hu F1 ?N ?k)
    case N => exact news_sub N1 (by subst hrow; exact sub_gb)
    case k =>
      intro h2 tk2 Sd els cS hT kp2 hnew F2
      dsimp only at kp2 hnew F2 ⊢
      have N2 : News h₀ L h2 ((Sd, listOf (els.map fun q => Value.ref q.1).toArray cS) :: (els ++ ((G, listOf gv.toArray cG) :: (L + 5, oc5') :: (L + 4, oc4) :: (rw5 ++ [(Nm, listOf [Value.str (nm y0) s0, Value.str (nm y1) s1, Value.str (nm y2) s2, Value.str (nm y3) s3, Value.str (nm y4) s4].toArray cN), (P, listOf [Value.int y0 k0, Value.int y1 k1, Value.int y2 k2, Value.int y3 k3, Value.int y4 k4].toArray cP), (L + 6, oc6), (L + 3, oc3), (L + 2, oc2), (L + 1, oc1)])))) := fun q hq => by
        have hq' : q ∈ (Sd, listOf (els.map fun q => Value.ref q.1).toArray cS) :: els ∨ q ∈ ((G, listOf gv.toArray cG) :: (L + 5, oc5') :: (L + 4, oc4) :: (rw5 ++ [(Nm, listOf [Value.str (nm y0) s0, Value.str (nm y1) s1, Value.str (nm y2) s2, Value.str (nm y3) s3, Value.str (nm y4) s4].toArray cN), (P, listOf [Value.int y0 k0, Value.int y1 k1, Value.int y2 k2, Value.int y3 k3, Value.int y4 k4].toArray cP), (L + 6, oc6), (L + 3, oc3), (L + 2, oc2), (L + 1, oc1)])) := by
          rcases List.mem_cons.mp hq with h | h
          · exact .inl (h ▸ List.mem_cons_self)
          · rcases List.mem_append.mp h with h | h
            · exact .inl (List.mem_cons_of_mem _ h)
            · exact .inr h
        rcases hq' with h | h
        · obtain ⟨e1, e2, e3⟩ := hnew q h
          exact ⟨e1, e2, new_none F1 e3⟩
        · exact news_kept N1 kp2 q h
      have g6 : @Ne Nat G (L + 6) := ne_fresh (o := oc6) N (by simp only [far5, cells6]; grind) hG
      have r6 : ∀ q ∈ (Sd, listOf (els.map fun q => Value.ref q.1).toArray cS) :: (els ++ ((L + 4, oc4) :: (rw5 ++ [(Nm, listOf [Value.str (nm y0) s0, Value.str (nm y1) s1, Value.str (nm y2) s2, Value.str (nm y3) s3, Value.str (nm y4) s4].toArray cN), (L + 3, oc3), (L + 2, oc2)]))), q.1 ≠ L + 6 := fun q hq => by
        have hq' : q ∈ (Sd, listOf (els.map fun q => Value.ref q.1).toArray cS) :: els ∨ q ∈ rw5 ∨ q.1 = Nm ∨ q.1 = L + 4 ∨ q.1 = L + 3 ∨ q.1 = L + 2 := by
          rcases List.mem_cons.mp hq with h | h
          · exact .inl (h ▸ List.mem_cons_self)
          · rcases List.mem_append.mp h with h | h
            · exact .inl (List.mem_cons_of_mem _ h)
            · simp only [List.mem_append, List.mem_cons, List.not_mem_nil, or_false] at h
              rcases h with rfl | h | rfl | rfl | rfl <;> simp [*]
        rcases hq' with h | h | h | h | h | h
        · exact ne_fresh (o := oc6) N1 (by grind) (hnew q h).2.2
        · subst hrow
          simp only [rows5, List.mem_append, List.mem_cons, List.not_mem_nil, or_false] at h
          rcases h with h | h
          case inr => exact x6 q h
          rcases h with rfl | rfl | rfl | rfl | rfl | rfl
          · exact q6 Fa (by simp)
          · exact q6 r0 (by simp)
          · exact q6 r1 (by simp)
          · exact q6 r2 (by simp)
          · exact q6 r3 (by simp)
          · exact q6 r4 (by simp)
        · rw [h]; exact q6 Nm (by simp)
        · rw [h]; refine neN ?_; omega
        · rw [h]; refine neN ?_; omega
        · rw [h]; refine neN ?_; omega
      -- spots
      refine execs_split (gc_claim w p loose mean mg mb fa cd h₀ L _ y0 y1 y2 y3 y4 k0 k1 k2 k3 k4 (grp o) gv G P cG cP oc1 oc5' oc6 v6 _ hc1 hc5' hc6 hIg hgb (by omega) g6 (q6 P (by simp)) r6 dp un gd fl _ _ _ X T hd hu F2 ?N ?k)
      case N => exact news_sub N2 sub_gc
      case k =>
        intro h3 tk3 Sp sv sl cSp oc6' hc6' hIs hperm hpair hSp F3 N3
        dsimp only at hSp F3 N3 ⊢
        have hsl : sl.length = (grp o).length := by rw [hperm.length_eq, List.length_map]
        -- gaps
        refine execs_split (gd_claim w p loose mean mg mb fa cd h₀ L _ sl sv Sp cSp sl.length oc6' ((G, listOf gv.toArray cG) :: (L + 5, oc5') :: (L + 1, oc1) :: (P, listOf [Value.int y0 k0, Value.int y1 k1, Value.int y2 k2, Value.int y3 k3, Value.int y4 k4].toArray cP) :: ((Sd, listOf (els.map fun q => Value.ref q.1).toArray cS) :: (els ++ ((L + 4, oc4) :: (rw5 ++ [(Nm, listOf [Value.str (nm y0) s0, Value.str (nm y1) s1, Value.str (nm y2) s2, Value.str (nm y3) s3, Value.str (nm y4) s4].toArray cN), (L + 3, oc3), (L + 2, oc2)]))))) hc6' hIs (by omega) rfl dp un gd fl _ _ _ X T hd hu F3 ?N ?k)
        case N => exact news_sub N3 sub_gd
        case k =>
          intro h4 tk4 Gp pv cGp hIp kp4 hGp gpL hGpn F4
          dsimp only at kp4 hGpn F4 ⊢
          have N4 := news_add (news_kept N3 kp4) hGp gpL (new_none F3 hGpn)
          -- pairs
          refine execs_split (ge_claim w p loose mean mg mb fa cd h₀ L _ sl sv Sp cSp sl.length oc6' ((Gp, listOf pv.toArray cGp) :: (G, listOf gv.toArray cG) :: (L + 5, oc5') :: (L + 1, oc1) :: (P, listOf [Value.int y0 k0, Value.int y1 k1, Value.int y2 k2, Value.int y3 k3, Value.int y4 k4].toArray cP) :: ((Sd, listOf (els.map fun q => Value.ref q.1).toArray cS) :: (els ++ ((L + 4, oc4) :: (rw5 ++ [(Nm, listOf [Value.str (nm y0) s0, Value.str (nm y1) s1, Value.str (nm y2) s2, Value.str (nm y3) s3, Value.str (nm y4) s4].toArray cN), (L + 3, oc3), (L + 2, oc2)]))))) hc6' hIs (by omega) rfl dp un gd fl _ _ _ X T hd hu F4 ?N ?k)
          case N => exact news_sub N4 sub_ge
          case k =>
            intro h5 tk5 F5 N5
            dsimp only at F5 N5 ⊢
            refine gf_claim w p loose mean mg mb fa cd h₀ L _ (farv [y0, y1, y2, y3, y4]) (T0 (grp o) (grp o)) ((List.range sl.length).map fun (i : Nat) => gapv sl (i : Int)) pv (pairsV sl) els ((Sp, listOf sv.toArray cSp) :: (L + 6, oc6') :: (G, listOf gv.toArray cG) :: (L + 5, oc5') :: (L + 1, oc1) :: (P, listOf [Value.int y0 k0, Value.int y1 k1, Value.int y2 k2, Value.int y3 k3, Value.int y4 k4].toArray cP) :: (L + 4, oc4) :: (rw5 ++ [(Nm, listOf [Value.str (nm y0) s0, Value.str (nm y1) s1, Value.str (nm y2) s2, Value.str (nm y3) s3, Value.str (nm y4) s4].toArray cN), (L + 3, oc3), (L + 2, oc2)])) Sd Gp cS cGp
              ((if_neg (by decide)).trans ((if_neg (by decide)).trans (if_pos rfl))) ((if_neg (by decide)).trans (if_pos rfl)) (if_pos rfl) hT htr hIp (by rw [List.length_map, List.length_range]; omega) (fun M hM hx => the_law b0 b1 b2 b3 b4 ds ho0 ho6 hperm hpair rfl hM hx) dp un gd fl _ _ _ X T hd hu F5 ?N ?k
            case N => exact news_sub N5 sub_gf
            case k =>
              intro h6 tk6 F6 N6
              dsimp only at F6 N6 ⊢
              refine hret h6 tk6 _ oc5' oc6' _ _ hc5' hc6' F6 (news_sub N6 sub_end)
end Mine
end

section
open PySem PySem.W PyProof.Rows PySem.Calls
set_option maxHeartbeats 8000000
namespace Mine
noncomputable def stmts89 : List Stmt := lawStmts.drop 8
def itObj (x left : Int) : Obj := { cls := .type "range_iterator", dict := none, data := .fields #[rawInt x, rawInt left, rawInt 1], slots := #[] }
theorem fr_off {h₀ h h' : Heap} {L c : Addr} {m : Str → Option Value} (F : Fr h₀ L h m) (hm : h₀.get? c = none) (cL : c ≠ L) (hs : Heap.SameBut c h h') : Fr h₀ L h' m :=
  ⟨F.ns.sameBut hs (Ne.symm cL), fun b ob e => (hs.2 b (fun q => by rw [q, hm] at e; cases e)).trans (F.keep b ob e), F.above⟩
theorem news_chg {h₀ h h' : Heap} {L c : Addr} {o o' : Obj} {old new : List (Addr × Obj)} (N : News h₀ L h old) (hc : (c, o) ∈ old) (hs : Heap.SameBut c h h') (ho' : h'.get? c = some o') (k : ∀ p ∈ new, p = (c, o') ∨ p ∈ old ∧ p.1 ≠ c) : News h₀ L h' new := fun p hp => by
  rcases k p hp with rfl | ⟨h1, h2⟩
  · exact ⟨ho', (N _ hc).2⟩
  · exact ⟨(hs.2 _ h2).trans (N p h1).1, (N p h1).2⟩
theorem chg_gen {c : Addr} {o o' : Obj} {A B : List (Addr × Obj)} (ha : ∀ p ∈ A, p.1 ≠ c) (hb : ∀ p ∈ B, p.1 ≠ c) : ∀ p ∈ A ++ (c, o') :: B, p = (c, o') ∨ p ∈ A ++ (c, o) :: B ∧ p.1 ≠ c := fun p hp => by
  rcases List.mem_append.mp hp with h | h
  · exact .inr ⟨List.mem_append_left _ h, ha p h⟩
  · rcases List.mem_cons.mp h with h | h
    · exact .inl h
    · exact .inr ⟨List.mem_append_right _ (.tail _ h), hb p h⟩
theorem chg_mem {f r0 r1 r2 r3 r4 n q i : Addr} {of o0 o1 o2 o3 o4 on oq oi a6 a5 a4 a4' a3 a2 a1 : Obj} {L : Addr}
  (hf : f ≠ L + 4) (h0 : r0 ≠ L + 4) (h1 : r1 ≠ L + 4) (h2 : r2 ≠ L + 4) (h3 : r3 ≠ L + 4) (h4 : r4 ≠ L + 4) (hn : n ≠ L + 4) (hq : q ≠ L + 4) (hi : i ≠ L + 4)
  (d6 : L + 6 ≠ L + 4) (d5 : L + 5 ≠ L + 4) (d3 : L + 3 ≠ L + 4) (d2 : L + 2 ≠ L + 4) (d1 : L + 1 ≠ L + 4) :
  ∀ p ∈ ([(f, of), (r0, o0), (r1, o1), (r2, o2), (r3, o3), (r4, o4)] ++ [(i, oi)]) ++ [(n, on), (q, oq), (L + 6, a6), (L + 5, a5), (L + 4, a4'), (L + 3, a3), (L + 2, a2), (L + 1, a1)],
    p = (L + 4, a4') ∨ p ∈ ([(f, of), (r0, o0), (r1, o1), (r2, o2), (r3, o3), (r4, o4)] ++ [(i, oi)]) ++ [(n, on), (q, oq), (L + 6, a6), (L + 5, a5), (L + 4, a4), (L + 3, a3), (L + 2, a2), (L + 1, a1)] ∧ p.1 ≠ L + 4 :=
  have k : ∀ {a : Addr} {oa : Obj} {l : List (Addr × Obj)}, a ≠ L + 4 → (∀ p ∈ l, p.1 ≠ L + 4) → ∀ p ∈ (a, oa) :: l, p.1 ≠ L + 4 := fun h r => List.forall_mem_cons.mpr ⟨h, r⟩
  chg_gen (A := [(f, of), (r0, o0), (r1, o1), (r2, o2), (r3, o3), (r4, o4), (i, oi), (n, on), (q, oq), (L + 6, a6), (L + 5, a5)]) (B := [(L + 3, a3), (L + 2, a2), (L + 1, a1)])
    (k hf (k h0 (k h1 (k h2 (k h3 (k h4 (k hi (k hn (k hq (k d6 (k d5 fun _ h => nomatch h))))))))))) (k d3 (k d2 (k d1 fun _ h => nomatch h)))
theorem sub_it {α : Type} {j : α} {a b : List α} : ∀ p ∈ (a ++ [j]) ++ b, p = j ∨ p ∈ a ++ b := fun p hp => by
  simp only [List.mem_cons, List.mem_append, List.not_mem_nil, or_false] at hp ⊢
  grind
theorem sub_in {α : Type} {i : α} {a b : List α} : ∀ p ∈ a ++ b, p ∈ (a ++ [i]) ++ b := fun p hp => by
  simp only [List.mem_cons, List.mem_append, List.not_mem_nil, or_false] at hp ⊢
  grind
theorem s4_claim (w : World) (p : Program) (loose : List Str) (mean : ExcName → Option Value) (mg mb : Str → Option Value) (fa : Addr) (cd : Value) (h₀ : Heap) (L : Addr) (m : Str → Option Value) (P Nm Fa r0 r1 r2 r3 r4 : Addr) (cP cN cF c0 c1 c2 c3 c4 : Nat) (l0 l1 l2 l3 l4 : List Value) (y0 y1 y2 y3 y4 : Int) (k0 k1 k2 k3 k4 s0 s1 s2 s3 s4 : Tok) (oc1 oc2 oc3 oc4 oc5 oc6 : Obj) (v4 v5 v6 : Option Value)
  (b0 : 0 ≤ y0 ∧ y0 < 12) (b1 : 0 ≤ y1 ∧ y1 < 12) (b2 : 0 ≤ y2 ∧ y2 < 12) (b3 : 0 ≤ y3 ∧ y3 < 12) (b4 : 0 ≤ y4 ∧ y4 < 12) (ds : [y0, y1, y2, y3, y4].Nodup)
  (hc1 : oc1.data = .cell (some (.ref P))) (hc3 : oc3.data = .cell (some (.ref Fa))) (hc4 : oc4.data = .cell v4) (hc5 : oc5.data = .cell v5) (hc6 : oc6.data = .cell v6)
  (R0 : RowOk [y0, y1, y2, y3, y4] 0 l0) (R1 : RowOk [y0, y1, y2, y3, y4] 1 l1) (R2 : RowOk [y0, y1, y2, y3, y4] 2 l2) (R3 : RowOk [y0, y1, y2, y3, y4] 3 l3) (R4 : RowOk [y0, y1, y2, y3, y4] 4 l4)
  (q4 : ∀ a ∈ [Fa, r0, r1, r2, r3, r4, Nm, P], @Ne Nat a (L + 4)) (q5 : ∀ a ∈ [Fa, r0, r1, r2, r3, r4, Nm, P], @Ne Nat a (L + 5)) (q6 : ∀ a ∈ [Fa, r0, r1, r2, r3, r4, Nm, P], @Ne Nat a (L + 6))
  (dp un : Nat) (gd : Option (List Code)) (fl : List Env) (s : Shared) (Q : Flow → Shared → Prop) (E : Value → Shared → Prop)
  (X : (Mine.hd.heap_39 w.params).In h₀) (T : Top p loose mean mg mb h₀) (hd : dp + 3 < recursionLimit) (hu : un + 100 < cLine)
  (F : Fr h₀ L s.heap m)
  (N : News h₀ L s.heap (rows5 Fa r0 r1 r2 r3 r4 cF c0 c1 c2 c3 c4 l0 l1 l2 l3 l4 ++ far5 P Nm cP cN y0 y1 y2 y3 y4 k0 k1 k2 k3 k4 s0 s1 s2 s3 s4 L oc1 oc2 oc3 oc4 oc5 oc6))
  (hret : ∀ h' tk' m', Fr h₀ L h' m' → Q (.ret (.bool true)) { s with heap := h', toks := tk' }) :
  wpAny (model PySem.Challenge.rw_pg0276_01.row.prog w) { handled := none, depth := dp, frames := some fl, guards := gd, units := un } (execs stmts89 (envOfC (Str.ofString "law") lawScope L fa cd)) Q E s := by
  w_on
  obtain ⟨hp, gens, drawn, tk, os⟩ := s
  dsimp only at F N hret
  have eb : stmts89 = stmts89 := rfl
  conv at eb => { rhs; whnf }
  rw [eb]
  clear eb
  generalize hrow : rows5 Fa r0 r1 r2 r3 r4 cF c0 c1 c2 c3 c4 l0 l1 l2 l3 l4 ++ far5 P Nm cP cN y0 y1 y2 y3 y4 k0 k1 k2 k3 k4 s0 s1 s2 s3 s4 L oc1 oc2 oc3 oc4 oc5 oc6 = led at N
  w_strict (repeat' (first | (k_unfold; (try dsimp only)) | (dsimp only; k_unfold; (try dsimp only)) | ((with_reducible show wpAny _ _ (pyIter (Value.ref _)) _ _ _); (refine Mark.to ?_)) | ((with_reducible show wpAny _ _ (exec (Stmt.For _ _ _ _ _) _) _ _ _); (refine Mark.to ?_)) | walk1 | (dsimp only; first | ((with_reducible show wpAny _ _ (pyIter (Value.ref _)) _ _ _); (refine Mark.to ?_)) | ((with_reducible show wpAny _ _ (exec (Stmt.For _ _ _ _ _) _) _ _ _); (refine Mark.to ?_)) | walk1) | (leave1; walk_say "STEP leave1"; try dsimp only) | fail "no step"))
  refine Mark.mk ?_
  refine wpAny_For ?_
  w_strict (repeat' (first | (k_unfold; (try dsimp only)) | (dsimp only; k_unfold; (try dsimp only)) | ((with_reducible show wpAny _ _ (pyIter (Value.ref _)) _ _ _); (refine Mark.to ?_)) | ((with_reducible show wpAny _ _ (exec (Stmt.For _ _ _ _ _) _) _ _ _); (refine Mark.to ?_)) | walk1 | (dsimp only; first | ((with_reducible show wpAny _ _ (pyIter (Value.ref _)) _ _ _); (refine Mark.to ?_)) | ((with_reducible show wpAny _ _ (exec (Stmt.For _ _ _ _ _) _) _ _ _); (refine Mark.to ?_)) | walk1) | (leave1; walk_say "STEP leave1"; try dsimp only) | fail "no step"))
  refine Mark.mk ?_
  rename IsRange _ _ _ _ _ _ _ _ => hr
  rename Fr _ _ _ _ => F1
  rename News _ _ _ _ => N1
  (try dsimp only at F1 N1 hr)
  refine wpAny_pyIter_range hr (by decide) ?_
  dsimp only
  rw [show Builtin.Range.rangeSize 0 6 1 = 6 by decide]
  rename (∀ (b : Addr) (o : Obj), _ → _) => kp0
  dsimp only at kp0
  subst hrow
  rename Heap => hq
  obtain ⟨I, hI⟩ : ∃ I, I = hq.objs.size := ⟨_, rfl⟩
  rw [← hI]
  have hI0 : h₀.get? I = none := by
    cases e : h₀.get? I with
    | none => rfl
    | some o => exact absurd (Heap.lt_size (F1.keep _ _ e)) (by rw [hI]; exact Nat.lt_irrefl _)
  have hIL : I ≠ L := fun e => absurd F1.ns.lt (by rw [← e, hI]; exact Nat.lt_irrefl _)
  have old : ∀ q ∈ rows5 Fa r0 r1 r2 r3 r4 cF c0 c1 c2 c3 c4 l0 l1 l2 l3 l4 ++ far5 P Nm cP cN y0 y1 y2 y3 y4 k0 k1 k2 k3 k4 s0 s1 s2 s3 s4 L oc1 oc2 oc3 oc4 oc5 oc6, I ≠ q.1 := fun q hq e => absurd (Heap.lt_size (N1 q hq).1) (by rw [← e, hI]; exact Nat.lt_irrefl _)
  have nI4 : I ≠ L + 4 := old (L + 4, oc4) (by simp only [rows5, far5, cells6, List.mem_append, List.mem_cons, true_or, or_true])
  have nI5 : I ≠ L + 5 := old (L + 5, oc5) (by simp only [rows5, far5, cells6, List.mem_append, List.mem_cons, true_or, or_true])
  have nI6 : I ≠ L + 6 := old (L + 6, oc6) (by simp only [rows5, far5, cells6, List.mem_append, List.mem_cons, true_or, or_true])
  have d1 : @Ne Nat (L + 1) (L + 4) := by omega
  have d2 : @Ne Nat (L + 2) (L + 4) := by omega
  have d3 : @Ne Nat (L + 3) (L + 4) := by omega
  have d5 : @Ne Nat (L + 5) (L + 4) := by omega
  have d6 : @Ne Nat (L + 6) (L + 4) := by omega
  have d4 : @Ne Nat (L + 4) L := by omega
  have chg := fun (of o0 o1 o2 o3 o4 on oq oi a6 a5 a4 a4' a3 a2 a1 : Obj) => chg_mem (of := of) (o0 := o0) (o1 := o1) (o2 := o2) (o3 := o3) (o4 := o4) (on := on) (oq := oq) (oi := oi) (a6 := a6) (a5 := a5) (a4 := a4) (a4' := a4') (a3 := a3) (a2 := a2) (a1 := a1) (q4 Fa (by simp)) (q4 r0 (by simp)) (q4 r1 (by simp)) (q4 r2 (by simp)) (q4 r3 (by simp)) (q4 r4 (by simp)) (q4 Nm (by simp)) (q4 P (by simp)) nI4 d6 d5 d3 d2 d1
  have W := LCg.range_walks (prog := PySem.Challenge.rw_pg0276_01.row.prog) (w := w) (A := { handled := none, depth := dp, frames := some fl, guards := gd, units := un }) (I := I) rfl 0 6
  have h6 : h₀.get? (L + 4) = none := (N1 (L + 4, oc4) (by simp only [rows5, far5, cells6, List.mem_append, List.mem_cons, true_or, or_true])).2.2
  have oldA : ∀ a ∈ [Fa, r0, r1, r2, r3, r4, Nm, P, L + 6, L + 5, L + 4, L + 3, L + 2, L + 1], I ≠ a := fun a ha => by
    obtain ⟨q, hq1, hq2⟩ := List.mem_map.mp (show a ∈ (rows5 Fa r0 r1 r2 r3 r4 cF c0 c1 c2 c3 c4 l0 l1 l2 l3 l4 ++ far5 P Nm cP cN y0 y1 y2 y3 y4 k0 k1 k2 k3 k4 s0 s1 s2 s3 s4 L oc1 oc2 oc3 oc4 oc5 oc6).map (·.1) from ha)
    exact hq2 ▸ old q hq1
  clear old hr kp0
  refine codeAny_forLoop (fun n s' => ∃ (i : Nat) (h : Heap) (t : Nat) (m' : Str → Option Value) (a4 a5 a6 : Obj) (x4 x5 x6 : Option Value), i + n = 6 ∧ s' = { heap := h, gens := gens, drawn := drawn, toks := t, os := os } ∧ a4.data = .cell x4 ∧ a5.data = .cell x5 ∧ a6.data = .cell x6 ∧ Fr h₀ L h m' ∧
    News h₀ L h ((rows5 Fa r0 r1 r2 r3 r4 cF c0 c1 c2 c3 c4 l0 l1 l2 l3 l4 ++ [(I, itObj (0 + (i : Int) * 1) (((6 : Nat) : Int) - (i : Int)))]) ++ far5 P Nm cP cN y0 y1 y2 y3 y4 k0 k1 k2 k3 k4 s0 s1 s2 s3 s4 L oc1 oc2 oc3 a4 a5 a6)) ?turn 6 ?init
  case init =>
    refine ⟨0, _, _, m, oc4, oc5, oc6, v4, v5, v6, rfl, rfl, hc4, hc5, hc6, F1.push _, ?_⟩
    intro q hq
    rcases sub_it q hq with rfl | h
    · exact ⟨by rw [hI]; exact Heap.get?_push_size _ rfl, hIL, hI0⟩
    · exact ⟨Heap.get?_push_of_some _ (N1 q h).1, (N1 q h).2⟩
  case turn =>
    rintro n s' ⟨i, h, t, m', a4, a5, a6, x4, x5, x6, en, rfl, g4, g5, g6, F2, N2⟩
    have mI : (I, itObj (0 + (i : Int) * 1) (((6 : Nat) : Int) - (i : Int))) ∈ ((rows5 Fa r0 r1 r2 r3 r4 cF c0 c1 c2 c3 c4 l0 l1 l2 l3 l4 ++ [(I, itObj (0 + (i : Int) * 1) (((6 : Nat) : Int) - (i : Int)))]) ++ far5 P Nm cP cN y0 y1 y2 y3 y4 k0 k1 k2 k3 k4 s0 s1 s2 s3 s4 L oc1 oc2 oc3 a4 a5 a6) := by
      simp only [List.mem_append, List.mem_cons, true_or, or_true]
    by_cases hi : i < 6
    · refine W.item i _ _ _ hi (N2 _ mI).1 fun v h₂ t₂ hv st kp => ?_
      obtain ⟨tv, rfl⟩ := hv
      dsimp only at kp ⊢
      have F3 : Fr h₀ L h₂ m' := ⟨F2.ns.at' fun o e => kp _ _ (fun hm => hIL (List.mem_singleton.mp hm).symm) e, fun b ob e => kp b ob (fun hm => by rw [List.mem_singleton.mp hm, hI0] at e; cases e) (F2.keep b ob e), F2.above⟩
      have N3 : News h₀ L h₂ ((rows5 Fa r0 r1 r2 r3 r4 cF c0 c1 c2 c3 c4 l0 l1 l2 l3 l4 ++ [(I, itObj (0 + ((i + 1 : Nat) : Int) * 1) (((6 : Nat) : Int) - ((i + 1 : Nat) : Int)))]) ++ far5 P Nm cP cN y0 y1 y2 y3 y4 k0 k1 k2 k3 k4 s0 s1 s2 s3 s4 L oc1 oc2 oc3 a4 a5 a6) := by
        intro q hq
        rcases sub_it q hq with rfl | hq
        · exact ⟨st, hIL, hI0⟩
        · have e : I ≠ q.1 := oldA _ (List.mem_map_of_mem (f := fun (q : Addr × Obj) => q.1) hq)
          have N' := N2 q (sub_in q hq)
          exact ⟨kp _ _ (fun hm => e (List.mem_singleton.mp hm).symm) N'.1, N'.2⟩
      refine wpAny_assign_Name (wpAny_storeName_cell (c := L + 4) (by with_unfolding_all rfl) (by with_unfolding_all rfl) (by with_unfolding_all rfl) ⟨a4, (N3 (L + 4, a4) (by simp only [rows5, far5, cells6, List.mem_append, List.mem_cons, true_or, or_true])).1, g4⟩ fun h₃ hv hs => ?_)
      obtain ⟨o', ho', hd'⟩ := hv
      have F4 := fr_off F3 h6 d4 hs
      have N4 := news_chg N3 (c := L + 4) (o := a4) (by simp only [rows5, far5, cells6, List.mem_append, List.mem_cons, true_or, or_true]) hs ho' (chg _ _ _ _ _ _ _ _ _ _ _ _ _ _ _ _)
      rw [Int.zero_add] at hd'
      refine out_claim w p loose mean mg mb fa cd h₀ L m' P Nm Fa r0 r1 r2 r3 r4 cP cN cF c0 c1 c2 c3 c4 l0 l1 l2 l3 l4 y0 y1 y2 y3 y4 k0 k1 k2 k3 k4 s0 s1 s2 s3 s4 oc1 oc2 oc3 o' a5 a6 x5 x6 (i : Int) tv [(I, itObj (0 + ((i + 1 : Nat) : Int) * 1) (((6 : Nat) : Int) - ((i + 1 : Nat) : Int)))] b0 b1 b2 b3 b4 ds (by omega) (by omega) hc1 hc3 hd' g5 g6 R0 R1 R2 R3 R4 (fun q hq => by rw [List.mem_singleton.mp hq]; exact nI5) (fun q hq => by rw [List.mem_singleton.mp hq]; exact nI6) q5 q6 dp un gd fl _ _ _ X T hd hu F4 N4 ?_
      intro h' tk' m'' a5' a6' x5' x6' g5' g6' F5 N5
      exact ⟨n - 1, by omega, i + 1, h', tk', m'', o', a5', a6', _, x5', x6', by omega, rfl, hd', g5', g6', F5, N5⟩
    · obtain rfl : i = 6 := by omega
      refine W.done _ _ _ (N2 _ mI).1 fun h₂ t₂ kp => ?_
      dsimp only at kp ⊢
      have F3 : Fr h₀ L h₂ m' := ⟨F2.ns.at' fun o e => kp _ _ (fun hm => hIL (List.mem_singleton.mp hm).symm) e, fun b ob e => kp b ob (fun hm => by rw [List.mem_singleton.mp hm, hI0] at e; cases e) (F2.keep b ob e), F2.above⟩
      refine wpAny_execs_nil ?_
      dsimp only
      clear N2 F2 mI W chg N1
      w_strict (repeat' (first | (k_unfold; (try dsimp only)) | (dsimp only; k_unfold; (try dsimp only)) | ((with_reducible show wpAny _ _ (pyIter (Value.ref _)) _ _ _); (refine Mark.to ?_)) | ((with_reducible show wpAny _ _ (exec (Stmt.For _ _ _ _ _) _) _ _ _); (refine Mark.to ?_)) | walk1 | (dsimp only; first | ((with_reducible show wpAny _ _ (pyIter (Value.ref _)) _ _ _); (refine Mark.to ?_)) | ((with_reducible show wpAny _ _ (exec (Stmt.For _ _ _ _ _) _) _ _ _); (refine Mark.to ?_)) | walk1) | (leave1; walk_say "STEP leave1"; try dsimp only) | fail "no step"))
      dsimp only
      exact hret _ _ _ F3

end Mine
end

section
open PySem PySem.W PyProof.Rows PySem.Calls
set_option maxHeartbeats 8000000
namespace Mine
noncomputable def tailStmts : List Stmt := lawStmts.drop 5
theorem rest_split : tailStmts = stmts56 ++ (stmts7 ++ stmts89) := by rfl
theorem six_ne {L : Nat} {o1 o2 o3 o4 o5 o6 : Obj} {as : List Addr} (h : ∀ a ∈ as, AllNe a (cells6 L o1 o2 o3 o4 o5 o6)) : (∀ a ∈ as, @Ne Nat a (L + 4)) ∧ (∀ a ∈ as, @Ne Nat a (L + 5)) ∧ (∀ a ∈ as, @Ne Nat a (L + 6)) :=
  ⟨fun a ha => Ne.symm (h a ha).2.2.1, fun a ha => Ne.symm (h a ha).2.1, fun a ha => Ne.symm (h a ha).1⟩
theorem eight {α : Type} {a b c d e f g h : α} {R : α → Prop} (k : ∀ x ∈ [a, b, c, d, e, f], R x) (hg : R g) (hh : R h) : ∀ x ∈ [a, b, c, d, e, f, g, h], R x := fun x hx => by
  have : x ∈ [a, b, c, d, e, f] ++ [g, h] := hx
  rcases List.mem_append.mp this with q | q
  · exact k x q
  · simp only [List.mem_cons, List.not_mem_nil, or_false] at q
    rcases q with rfl | rfl
    · exact hg
    · exact hh
theorem tail_claim (w : World) (p : Program) (loose : List Str) (mean : ExcName → Option Value) (mg mb : Str → Option Value) (fa : Addr) (cd : Value) (h₀ : Heap) (L : Addr) (m : Str → Option Value) (tk0 : Tok) (H O d a0 a1 a2 a3 a4 P : Addr) (c cP : Nat) (y0 y1 y2 y3 y4 : Int) (t0 t1 t2 t3 t4 u0 u1 u2 u3 u4 k0 k1 k2 k3 k4 : Tok) (oc1 oc2 oc3 oc4 oc5 oc6 : Obj) (v2 v3 v4 v5 v6 : Option Value)
  (b0 : 0 ≤ y0 ∧ y0 < 12) (b1 : 0 ≤ y1 ∧ y1 < 12) (b2 : 0 ≤ y2 ∧ y2 < 12) (b3 : 0 ≤ y3 ∧ y3 < 12) (b4 : 0 ≤ y4 ∧ y4 < 12) (ds : [y0, y1, y2, y3, y4].Nodup)
  (hc1 : oc1.data = .cell (some (.ref P))) (hc2 : oc2.data = .cell v2) (hc3 : oc3.data = .cell v3) (hc4 : oc4.data = .cell v4) (hc5 : oc5.data = .cell v5) (hc6 : oc6.data = .cell v6)
  (q1 : @LT.lt Nat _ (L + 6) P) (q2 : @LT.lt Nat _ P d) (o1 : @LT.lt Nat _ d O) (o2 : @LT.lt Nat _ O H) (o3 : @LT.lt Nat _ H a0) (o4 : @LT.lt Nat _ a0 a1) (o5 : @LT.lt Nat _ a1 a2) (o6 : @LT.lt Nat _ a2 a3) (o7 : @LT.lt Nat _ a3 a4)
  (dp un : Nat) (gd : Option (List Code)) (fl : List Env) (s : Shared) (Q : Flow → Shared → Prop) (E : Value → Shared → Prop)
  (X : (Mine.hd.heap_39 w.params).In h₀) (T : Top p loose mean mg mb h₀) (hd : dp + 3 < recursionLimit) (hu : un + 100 < cLine)
  (F : Fr h₀ L s.heap (tabMap m O))
  (N : News h₀ L s.heap (led5 w tk0 H O d a0 a1 a2 a3 a4 c (nm y0) (nm y1) (nm y2) (nm y3) (nm y4) (Str.ofString (toString y0)) (Str.ofString (toString y1)) (Str.ofString (toString y2)) (Str.ofString (toString y3)) (Str.ofString (toString y4)) t0 t1 t2 t3 t4 u0 u1 u2 u3 u4 ++ (P, listOf [Value.int y0 k0, Value.int y1 k1, Value.int y2 k2, Value.int y3 k3, Value.int y4 k4].toArray cP) :: cells6 L oc1 oc2 oc3 oc4 oc5 oc6))
  (hret : ∀ h' tk' m', Fr h₀ L h' m' → Q (.ret (.bool true)) { s with heap := h', toks := tk' }) :
  wpAny (model PySem.Challenge.rw_pg0276_01.row.prog w) { handled := none, depth := dp, frames := some fl, guards := gd, units := un } (execs tailStmts (envOfC (Str.ofString "law") lawScope L fa cd)) Q E s := by
  obtain ⟨hp, gens, drawn, tk, os⟩ := s
  dsimp only at F N hret
  rw [rest_split]
  refine execs_split (s1_claim w p loose mean mg mb fa cd h₀ L m tk0 H O d a0 a1 a2 a3 a4 P c cP y0 y1 y2 y3 y4 t0 t1 t2 t3 t4 u0 u1 u2 u3 u4 k0 k1 k2 k3 k4 oc1 oc2 oc3 oc4 oc5 oc6 v2 b0 b1 b2 b3 b4 hc1 hc2 q1 q2 o1 o2 o3 o4 o5 o6 o7 dp un gd fl _ _ E X T hd hu F N ?_)
  intro h1 tk1 Nm cN s0 s1 s2 s3 s4 oc2' hc2' qn F1 N1
  dsimp only at F1 N1 ⊢
  refine execs_split (s2_claim w p loose mean mg mb fa cd h₀ L (tabMap m O) P Nm cP cN y0 y1 y2 y3 y4 k0 k1 k2 k3 k4 s0 s1 s2 s3 s4 oc1 oc2' oc3 oc4 oc5 oc6 v3 b0 b1 b2 b3 b4 ds hc2' hc3 q1 qn dp un gd fl _ _ E X T hd hu F1 N1 ?_)
  intro h2 tk2 Fa cF r0 r1 r2 r3 r4 l0 l1 l2 l3 l4 c0 c1 c2 c3 c4 oc3' hc3' R0 R1 R2 R3 R4 hne F2 N2
  dsimp only at F2 N2 ⊢
  obtain ⟨n4, n5, n6⟩ := six_ne hne
  refine s4_claim w p loose mean mg mb fa cd h₀ L (tabMap m O) P Nm Fa r0 r1 r2 r3 r4 cP cN cF c0 c1 c2 c3 c4 l0 l1 l2 l3 l4 y0 y1 y2 y3 y4 k0 k1 k2 k3 k4 s0 s1 s2 s3 s4 oc1 oc2' oc3' oc4 oc5 oc6 v4 v5 v6 b0 b1 b2 b3 b4 ds hc1 hc3' hc4 hc5 hc6 R0 R1 R2 R3 R4 (eight n4 (Ne.symm qn.2.2.2.1) (by omega)) (eight n5 (Ne.symm qn.2.2.1) (by omega)) (eight n6 (Ne.symm qn.2.1) (by omega)) dp un gd fl _ _ E X T hd hu F2 N2 ?_
  intro h' tk' m' F3
  exact hret h' tk' m' F3
theorem nodup5 {y0 y1 y2 y3 y4 : Int} (h1 : ¬ y1 ∈ [y0]) (h2 : ¬ y2 ∈ [y1, y0]) (h3 : ¬ y3 ∈ [y2, y1, y0]) (h4 : ¬ y4 ∈ [y3, y2, y1, y0]) : [y0, y1, y2, y3, y4].Nodup := by
  have f : ∀ {a b : Int} {l : List Int}, ¬ a ∈ b :: l → b ≠ a := fun h e => h (e ▸ List.mem_cons_self)
  have g : ∀ {a b : Int} {l : List Int}, ¬ a ∈ b :: l → ¬ a ∈ l := fun h k => h (List.mem_cons_of_mem _ k)
  have c : ∀ {a b : Int} {l : List Int}, a ≠ b → ¬ a ∈ l → ¬ a ∈ b :: l := fun h k m => (List.mem_cons.mp m).elim h k
  have z : ∀ a : Int, ¬ a ∈ [] := fun _ h => nomatch h
  exact List.nodup_cons.mpr ⟨c (f h1) (c (f (g h2)) (c (f (g (g h3))) (c (f (g (g (g h4)))) (z _)))), List.nodup_cons.mpr ⟨c (f h2) (c (f (g h3)) (c (f (g (g h4))) (z _))), List.nodup_cons.mpr ⟨c (f h3) (c (f (g h4)) (z _)), List.nodup_cons.mpr ⟨c (f h4) (z _), List.nodup_cons.mpr ⟨z _, List.nodup_nil⟩⟩⟩⟩⟩
theorem sub_tail {α : Type} {a b : List α} {p x1 x2 x3 x4 x5 : α} : ∀ q ∈ a ++ p :: b, q ∈ a ++ p :: x1 :: x2 :: x3 :: x4 :: x5 :: b := fun q hq => by
  simp only [List.mem_append, List.mem_cons] at hq ⊢
  rcases hq with h | h | h
  · exact .inl h
  · exact .inr (.inl h)
  · exact .inr (.inr (.inr (.inr (.inr (.inr (.inr h))))))
theorem tab_map {m : Str → Option Value} {O : Addr} (h : m (Str.ofString "table") = some (.ref O)) : tabMap m O = m := funext fun y => by
  show (if y = Str.ofString "table" then some (Value.ref O) else m y) = m y
  by_cases e : y = Str.ofString "table"
  · rw [if_pos e, e, h]
  · rw [if_neg e]
theorem tail_use {w : World} {p : Program} {loose : List Str} {mean : ExcName → Option Value} {mg mb : Str → Option Value} {fa : Addr} {cd : Value} {h₀ : Heap} {L : Addr} {m : Str → Option Value} {tk0 : Tok} {H O d a0 a1 a2 a3 a4 P : Addr} {c cP : Nat} {y0 y1 y2 y3 y4 : Int} {t0 t1 t2 t3 t4 u0 u1 u2 u3 u4 k0 k1 k2 k3 k4 : Tok} {oc1 oc2 oc3 oc4 oc5 oc6 : Obj} {v2 v3 v4 v5 v6 : Option Value} {x1 x2 x3 x4 x5 : Addr × Obj}
  {dp un : Nat} {gd : Option (List Code)} {fl : List Env} {s : Shared} {Q : Flow → Shared → Prop} {E : Value → Shared → Prop}
  (F : Fr h₀ L s.heap m)
  (N : News h₀ L s.heap (led5 w tk0 H O d a0 a1 a2 a3 a4 c (nm y0) (nm y1) (nm y2) (nm y3) (nm y4) (Str.ofString (toString y0)) (Str.ofString (toString y1)) (Str.ofString (toString y2)) (Str.ofString (toString y3)) (Str.ofString (toString y4)) t0 t1 t2 t3 t4 u0 u1 u2 u3 u4 ++ (P, listOf [Value.int y0 k0, Value.int y1 k1, Value.int y2 k2, Value.int y3 k3, Value.int y4 k4].toArray cP) :: x1 :: x2 :: x3 :: x4 :: x5 :: cells6 L oc1 oc2 oc3 oc4 oc5 oc6))
  (hm : m (Str.ofString "table") = some (.ref O))
  (b0 : 0 ≤ y0 ∧ y0 < 12) (b1 : 0 ≤ y1 ∧ y1 < 12) (b2 : 0 ≤ y2 ∧ y2 < 12) (b3 : 0 ≤ y3 ∧ y3 < 12) (b4 : 0 ≤ y4 ∧ y4 < 12) (ds : [y0, y1, y2, y3, y4].Nodup)
  (hc1 : oc1.data = .cell (some (.ref P))) (hc2 : oc2.data = .cell v2) (hc3 : oc3.data = .cell v3) (hc4 : oc4.data = .cell v4) (hc5 : oc5.data = .cell v5) (hc6 : oc6.data = .cell v6)
  (q1 : @LT.lt Nat _ (L + 6) P) (q2 : @LT.lt Nat _ P d) (o1 : @LT.lt Nat _ d O) (o2 : @LT.lt Nat _ O H) (o3 : @LT.lt Nat _ H a0) (o4 : @LT.lt Nat _ a0 a1) (o5 : @LT.lt Nat _ a1 a2) (o6 : @LT.lt Nat _ a2 a3) (o7 : @LT.lt Nat _ a3 a4)
  (X : (Mine.hd.heap_39 w.params).In h₀) (T : Top p loose mean mg mb h₀) (hd : dp + 3 < recursionLimit) (hu : un + 100 < cLine)
  (hret : ∀ h' tk' m', Fr h₀ L h' m' → Q (.ret (.bool true)) { s with heap := h', toks := tk' }) :
  wpAny (model PySem.Challenge.rw_pg0276_01.row.prog w) { handled := none, depth := dp, frames := some fl, guards := gd, units := un } (execs tailStmts (envOfC (Str.ofString "law") lawScope L fa cd)) Q E s :=
  tail_claim w p loose mean mg mb fa cd h₀ L m tk0 H O d a0 a1 a2 a3 a4 P c cP y0 y1 y2 y3 y4 t0 t1 t2 t3 t4 u0 u1 u2 u3 u4 k0 k1 k2 k3 k4 oc1 oc2 oc3 oc4 oc5 oc6 v2 v3 v4 v5 v6 b0 b1 b2 b3 b4 ds hc1 hc2 hc3 hc4 hc5 hc6 q1 q2 o1 o2 o3 o4 o5 o6 o7 dp un gd fl s Q E X T hd hu (by rw [tab_map hm]; exact F) (news_sub N sub_tail) hret

end Mine
end

section
open PySem PySem.W PyProof.Rows PySem.Calls
set_option maxHeartbeats 8000000
namespace Mine
local macro_rules | `(tactic| k_qdec) => `(tactic| decide +kernel)
local macro_rules | `(tactic| k_lt $h:ident) => `(tactic| (replace $h := allLt_of $h; (try simp only [AllLt, and_true] at $h:ident); (try replace $h := And.left $h)))
local macro_rules | `(tactic| k_ne) => `(tactic| (refine neN ?_; (try dsimp only); first | with_reducible assumption | omega))
local macro_rules | `(tactic| walk_at "subscriptTail Name Slice ref ref") => `(tactic| (k_here; (with_reducible show wpAny _ _ (subscriptTail _ (PySem.Expr.Slice _ _ none _) (Value.ref _) (Value.ref _)) _ _ _); k_dflt (refine' kmk_slice ?F ?N ?l ?p ?q ?_ ?s ?t ?z; (case F => k_asm); (case N => k_asm); (case l => kmk_list); (case p => kmk_part); (case q => kmk_part); (case s => with_unfolding_all rfl); (case t => kmk_pure); (case z => kmk_size)); intro D' h' F' N' l1; (try k_lt l1)))
local macro_rules | `(tactic| walk_at "subscriptTail List cons Slice ref ref") => `(tactic| (k_here; k_dflt (refine kba_turn (value' := PySem.Expr.Name (PySem.Str.ofString "_") ⟨0, 0, 0, 0⟩) (fun _ => rfl) ?_); (with_reducible show wpAny _ _ (subscriptTail _ (PySem.Expr.Slice _ _ none _) (Value.ref _) (Value.ref _)) _ _ _); k_dflt (refine' kmk_slice ?F ?N ?l ?p ?q ?_ ?s ?t ?z; (case F => k_asm); (case N => k_asm); (case l => kmk_list); (case p => kmk_part); (case q => kmk_part); (case s => with_unfolding_all rfl); (case t => kmk_pure); (case z => kmk_size)); intro D' h' F' N' l1; (try k_lt l1)))
local macro_rules | `(tactic| walk_at "binaryOp Add ref ref") => `(tactic| (k_here; (with_reducible show wpAny _ _ (binaryOp _ (Value.ref _) (Value.ref _)) _ _ _); k_dflt (refine' add_five ?F ?N ?a ?b ?i ?_; (case F => k_asm); (case N => k_asm); (case a => kmk_list); (case b => kmk_list); (case i => k_asm)); intro n0 k0 n1 k1 n2 k2 n3 k3 n4 k4 D' h' F' N' l1; (try k_lt l1)))
local macro_rules | `(tactic| walk_at "call type:list") => `(tactic| (k_here; (with_reducible show wpAny _ _ (call (Value.type _) [Value.ref _]) _ _ _); (rename IsRange _ _ _ _ _ _ _ _ => rgX); k_dflt (refine' list12 ?k0 ?k1 ?k2 ?k3 ?_; (case k0 => rfl); (case k1 => k_asm); (case k2 => k_asm); (case k3 => exact rgX)); intro D' us' ls' c' h' tk' F' N' l1 hI' hG' hL'; (try k_lt l1)))
local macro_rules | `(tactic| walk_at "execs cons") => `(tactic| ((with_reducible show wpAny _ _ (execs (Stmt.Assign [Expr.Name (Str.ofString "names") _] _ _ :: _) _) _ _ _); refine Mark.to ?_))
local macro_rules | `(tactic| walk_at "execs cons") => `(tactic| ((with_reducible show wpAny _ _ (execs [Stmt.Expr _ _, Stmt.Expr _ _] _) _ _ _); refine Mark.to ?_))
theorem unr_next {h₀ : Heap} {L I a : Addr} {it oa : Obj} {R : (Str → Option Value) → List (Addr × Obj) → Prop} {s₁ : Shared} {h' : Heap} {tk : Nat} {m' : Str → Option Value} {rest : List (Addr × Obj)} (F : Fr h₀ L h' m') (N : News h₀ L h' ((a, oa) :: (I, it) :: rest))
    (off : ∀ p ∈ ((a, oa) :: rest), p.1 ≠ I) (r : R m' ((a, oa) :: rest)) : UnrEnd h₀ L s₁ I it R { s₁ with heap := h', toks := tk } :=
  UnrEnd.intro F N ((a, oa) :: rest) (fun p hp => by
    simp only [List.mem_cons] at hp ⊢
    rcases hp with h | h | h
    · exact .inr (.inl h)
    · exact .inl h
    · exact .inr (.inr h)) off r
theorem law_holds : PySem.Challenge.rw_pg0276_01.Holds := Mine.hd (by
  w_on
  w_strict (k_go0; (all_goals try k_fold))
  rename Ground _ _ _ _ _ _ _ _ _ => c1; rename Tables _ _ _ _ => c2; rename TopE _ _ _ _ => c3; rename TopW _ _ _ => c4; rename Glob _ _ _ _ _ _ _ _ => c5; rename LooseAre _ _ _ => c6; rename BMod _ _ _ _ _ => c8; rename Dflts _ _ _ _ _ _ => c7
  clear c5 c6 c7 c8
  w_strict (k_steps)
  refine Mark.mk ?_
  rename Fr _ _ _ _ => F8
  rename News _ _ _ _ => N8
  k_dflt (refine' turn_use (as := []) F8 N8 ?mC ?hC ?h1 ?h2 ?h3 ?hI ?hG ?hls ?hk ?hpv ?hhs ?C ?X ?T ?hd ?hu ?_)
  case mC => k_dflt k_mem
  case hC => with_reducible assumption
  case h1 => with_unfolding_all rfl
  case h2 => with_unfolding_all rfl
  case h3 => with_unfolding_all rfl
  case hI => with_reducible assumption
  case hG => with_reducible assumption
  case hls => assumption
  case hk => decide
  case hpv => exact Nat.le_of_ble_eq_true rfl
  case hhs => exact Nat.le_of_ble_eq_true rfl
  case C => exact ⟨by omega, by assumption, by assumption, by assumption, by assumption, by assumption, (fun _ h => nomatch h), by (simp only [List.forall_mem_cons, List.not_mem_nil, false_implies, implies_true, and_true]; omega)⟩
  case X => with_reducible assumption
  case T => with_reducible assumption
  case hd => (simp only [depth_caller, recursionLimit]; omega)
  case hu => (simp only [units_caller, cLine]; omega)
  intro h9 tk9 y0 t9 a9 ta9 tb9 us9 ls9 c9 i9 g9 n9 y0 y1 yS C9 l9 off9 F9 N9
  replace l9 := C9.has _ (List.Mem.head _)
  clear F8 N8
  dsimp only at l9
  replace l9 := ltN l9
  dsimp only [List.nil_append, List.cons_append, tabObj] at N9 off9
  dsimp only [UnrPost]
  with_unfolding_all refine' unr_next F9 N9 off9 ⟨?mem, ?_⟩
  case mem => k_dflt k_mem
  clear off9
  w_strict (k_steps)
  refine Mark.mk ?_
  rename Fr _ _ _ _ => F8
  rename News _ _ _ _ => N8
  k_dflt (refine' turn_use (as := [(_, _)]) F8 N8 ?mC ?hC ?h1 ?h2 ?h3 ?hI ?hG ?hls ?hk ?hpv ?hhs ?C ?X ?T ?hd ?hu ?_)
  case mC => k_dflt k_mem
  case hC => with_reducible assumption
  case h1 => with_unfolding_all rfl
  case h2 => with_unfolding_all rfl
  case h3 => with_unfolding_all rfl
  case hI => with_reducible assumption
  case hG => with_reducible assumption
  case hls => assumption
  case hk => decide
  case hpv => exact Nat.le_of_ble_eq_true rfl
  case hhs => exact Nat.le_of_ble_eq_true rfl
  case C => exact C9
  case X => with_reducible assumption
  case T => with_reducible assumption
  case hd => (simp only [depth_caller, recursionLimit]; omega)
  case hu => (simp only [units_caller, cLine]; omega)
  clear C9
  intro h9 tk9 y1 t9 a9 ta9 tb9 us9 ls9 c9 i9 g9 n9 y0 y1 yS C9 l9 off9 F9 N9
  replace l9 := l9 _ (List.Mem.head _)
  clear F8 N8
  dsimp only at l9
  replace l9 := ltN l9
  dsimp only [List.nil_append, List.cons_append, tabObj] at N9 off9
  dsimp only [UnrPost]
  with_unfolding_all refine' unr_next F9 N9 off9 ⟨?mem, ?_⟩
  case mem => k_dflt k_mem
  clear off9
  w_strict (k_steps)
  refine Mark.mk ?_
  rename Fr _ _ _ _ => F8
  rename News _ _ _ _ => N8
  k_dflt (refine' turn_use (as := [(_, _), (_, _)]) F8 N8 ?mC ?hC ?h1 ?h2 ?h3 ?hI ?hG ?hls ?hk ?hpv ?hhs ?C ?X ?T ?hd ?hu ?_)
  case mC => k_dflt k_mem
  case hC => with_reducible assumption
  case h1 => with_unfolding_all rfl
  case h2 => with_unfolding_all rfl
  case h3 => with_unfolding_all rfl
  case hI => with_reducible assumption
  case hG => with_reducible assumption
  case hls => assumption
  case hk => decide
  case hpv => exact Nat.le_of_ble_eq_true rfl
  case hhs => exact Nat.le_of_ble_eq_true rfl
  case C => exact C9
  case X => with_reducible assumption
  case T => with_reducible assumption
  case hd => (simp only [depth_caller, recursionLimit]; omega)
  case hu => (simp only [units_caller, cLine]; omega)
  clear C9
  intro h9 tk9 y2 t9 a9 ta9 tb9 us9 ls9 c9 i9 g9 n9 y0 y1 yS C9 l9 off9 F9 N9
  replace l9 := l9 _ (List.Mem.head _)
  clear F8 N8
  dsimp only at l9
  replace l9 := ltN l9
  dsimp only [List.nil_append, List.cons_append, tabObj] at N9 off9
  dsimp only [UnrPost]
  with_unfolding_all refine' unr_next F9 N9 off9 ⟨?mem, ?_⟩
  case mem => k_dflt k_mem
  clear off9
  w_strict (k_steps)
  refine Mark.mk ?_
  rename Fr _ _ _ _ => F8
  rename News _ _ _ _ => N8
  k_dflt (refine' turn_use (as := [(_, _), (_, _), (_, _)]) F8 N8 ?mC ?hC ?h1 ?h2 ?h3 ?hI ?hG ?hls ?hk ?hpv ?hhs ?C ?X ?T ?hd ?hu ?_)
  case mC => k_dflt k_mem
  case hC => with_reducible assumption
  case h1 => with_unfolding_all rfl
  case h2 => with_unfolding_all rfl
  case h3 => with_unfolding_all rfl
  case hI => with_reducible assumption
  case hG => with_reducible assumption
  case hls => assumption
  case hk => decide
  case hpv => exact Nat.le_of_ble_eq_true rfl
  case hhs => exact Nat.le_of_ble_eq_true rfl
  case C => exact C9
  case X => with_reducible assumption
  case T => with_reducible assumption
  case hd => (simp only [depth_caller, recursionLimit]; omega)
  case hu => (simp only [units_caller, cLine]; omega)
  clear C9
  intro h9 tk9 y3 t9 a9 ta9 tb9 us9 ls9 c9 i9 g9 n9 y0 y1 yS C9 l9 off9 F9 N9
  replace l9 := l9 _ (List.Mem.head _)
  clear F8 N8
  dsimp only at l9
  replace l9 := ltN l9
  dsimp only [List.nil_append, List.cons_append, tabObj] at N9 off9
  dsimp only [UnrPost]
  with_unfolding_all refine' unr_next F9 N9 off9 ⟨?mem, ?_⟩
  case mem => k_dflt k_mem
  clear off9
  w_strict (k_steps)
  refine Mark.mk ?_
  rename Fr _ _ _ _ => F8
  rename News _ _ _ _ => N8
  k_dflt (refine' turn_use (as := [(_, _), (_, _), (_, _), (_, _)]) F8 N8 ?mC ?hC ?h1 ?h2 ?h3 ?hI ?hG ?hls ?hk ?hpv ?hhs ?C ?X ?T ?hd ?hu ?_)
  case mC => k_dflt k_mem
  case hC => with_reducible assumption
  case h1 => with_unfolding_all rfl
  case h2 => with_unfolding_all rfl
  case h3 => with_unfolding_all rfl
  case hI => with_reducible assumption
  case hG => with_reducible assumption
  case hls => assumption
  case hk => decide
  case hpv => exact Nat.le_of_ble_eq_true rfl
  case hhs => exact Nat.le_of_ble_eq_true rfl
  case C => exact C9
  case X => with_reducible assumption
  case T => with_reducible assumption
  case hd => (simp only [depth_caller, recursionLimit]; omega)
  case hu => (simp only [units_caller, cLine]; omega)
  clear C9
  intro h9 tk9 y4 t9 a9 ta9 tb9 us9 ls9 c9 i9 g9 n9 y0 y1 yS C9 l9 off9 F9 N9
  replace l9 := l9 _ (List.Mem.head _)
  clear F8 N8
  dsimp only at l9
  replace l9 := ltN l9
  dsimp only [List.nil_append, List.cons_append, tabObj] at N9 off9
  dsimp only [UnrPost]
  with_unfolding_all refine' unr_next F9 N9 off9 ⟨?mem, ?_⟩
  case mem => k_dflt k_mem
  clear off9
  w_strict (k_steps)
  refine Mark.mk ?_
  rename Fr _ _ _ _ => F8
  rename News _ _ _ _ => N8
  k_dflt (with_unfolding_all refine' tail_use F8 N8 ?hm ?b0 ?b1 ?b2 ?b3 ?b4 ?ds ?hc1 ?hc2 ?hc3 ?hc4 ?hc5 ?hc6 ?q1 ?q2 ?o1 ?o2 ?o3 ?o4 ?o5 ?o6 ?o7 ?X ?T ?hd ?hu ?_)
  case hm => (repeat (first | exact if_pos rfl | refine (if_neg (by decide)).trans ?_))
  case b0 => exact ⟨by assumption, by assumption⟩
  case b1 => exact ⟨by assumption, by assumption⟩
  case b2 => exact ⟨by assumption, by assumption⟩
  case b3 => exact ⟨by assumption, by assumption⟩
  case b4 => exact ⟨by assumption, by assumption⟩
  case ds => exact nodup5 (by assumption) (by assumption) (by assumption) (by assumption)
  case hc1 => assumption
  case hc2 => assumption
  case hc3 => assumption
  case hc4 => assumption
  case hc5 => assumption
  case hc6 => assumption
  case q1 => omega
  case q2 => assumption
  case o1 => assumption
  case o2 => assumption
  case o3 => omega
  case o4 => assumption
  case o5 => assumption
  case o6 => assumption
  case o7 => assumption
  case X => with_reducible assumption
  case T => with_reducible assumption
  case hd => (simp only [depth_caller, recursionLimit]; omega)
  case hu => (simp only [units_caller, cLine]; omega)
  intro h9 tk9 m9 F9
  clear N8 F8
  w_strict (k_steps)
  wrow_close)

end Mine
end

end

theorem PySem.Challenge.cw_pg0276_01_holds : PySem.Challenge.rw_pg0276_01.Holds :=
  Mine.law_holds

import PyProof.Rows.All
import Wide.All
import OpenK.AllK
import Wide.FinOn
import PySem.Challenge.RW_sw0010_01
open PySem PySem.W PyProof.Rows PySem.Spec PySem.Calls
set_option Elab.async false
set_option compiler.extract_closed false
set_option maxRecDepth 100000
set_option maxHeartbeats 8000000
namespace Mine
open_top hd for PySem.Challenge.rw_sw0010_01
example : True := by w_top off; trivial
/-- an heir: the half claim, the letter, the line's end -/
structure Ent where
  h : Int
  c : Str
  e : Str

abbrev tupObj (vs : List Value) (n : Nat) : Obj := { cls := .type "tuple", data := .seq vs.toArray n }

/-- the ground on which a def of the text is called: the frames below, the frame at hand, the top's objects, the ledger -/
structure Grd (w : World) (p : Program) (loose : List Str) (mean : ExcName → Option Value) (mg mb : Str → Option Value) (A : Around) (h₀ : Heap) (L : Addr) (m : Str → Option Value) (news : List (Addr × Obj)) (h : Heap) (need : Nat) : Prop where
  rest : ∃ dp un gd cn cs a ccd cl outer A₀ base, A = ktrTop dp un gd cn cs L a ccd cl outer ∧ Below A₀ base outer h₀ ∧ cs.kind = .function ∧ dp + need < recursionLimit ∧ un + 20 * need < cLine
  F : Fr h₀ L h m
  X : (hd.heap_39 w.params).In h₀
  N : News h₀ L h news
  T : Top p loose mean mg mb h₀

theorem Grd.of {w : World} {p : Program} {loose : List Str} {mean : ExcName → Option Value} {mg mb : Str → Option Value} {A : Around} {h₀ : Heap} {L : Addr} {m : Str → Option Value} {news : List (Addr × Obj)} {h : Heap} {need dp un gd cn cs a ccd cl outer A₀ base}
    (hA : A = ktrTop dp un gd cn cs L a ccd cl outer) (B : Below A₀ base outer h₀) (hk : cs.kind = .function) (hdp : dp + need < recursionLimit) (hu : un + 20 * need < cLine) (F : Fr h₀ L h m) (X : (hd.heap_39 w.params).In h₀) (N : News h₀ L h news) (T : Top p loose mean mg mb h₀) :
    Grd w p loose mean mg mb A h₀ L m news h need := ⟨⟨dp, un, gd, cn, cs, a, ccd, cl, outer, A₀, base, hA, B, hk, hdp, hu⟩, F, X, N, T⟩
theorem Grd.elim {w : World} {p : Program} {loose : List Str} {mean : ExcName → Option Value} {mg mb : Str → Option Value} {A : Around} {h₀ : Heap} {L : Addr} {m : Str → Option Value} {news : List (Addr × Obj)} {h : Heap} {need : Nat} {P : Prop} (G : Grd w p loose mean mg mb A h₀ L m news h need)
    (k : ∀ dp un gd cn cs a ccd cl outer A₀ base, A = ktrTop dp un gd cn cs L a ccd cl outer → Below A₀ base outer h₀ → cs.kind = .function → dp + need < recursionLimit → un + 20 * need < cLine → Fr h₀ L h m → (hd.heap_39 w.params).In h₀ → News h₀ L h news → Top p loose mean mg mb h₀ → P) : P := by
  obtain ⟨dp, un, gd, cn, cs, a, ccd, cl, outer, A₀, base, hA, B, hk, hdp, hu⟩ := G.rest
  exact k dp un gd cn cs a ccd cl outer A₀ base hA B hk hdp hu G.F G.X G.N G.T
theorem hideQ {α : Type} {M : Model} {A : Around} {t : Sem α} {Q : α → Shared → Prop} {E : Value → Shared → Prop} {X : Shared} {h : Heap} {tk : Nat}
    (H : ∀ g d o (Q' : α → Shared → Prop), (∀ v h' tk', Q v { X with heap := h', toks := tk' } → Q' v ⟨h', g, d, tk', o⟩) → wpAny M A t Q' E ⟨h, g, d, tk, o⟩) : wpAny M A t Q E { X with heap := h, toks := tk } := H X.gens X.drawn X.os Q fun _ _ _ h => h
def Halt (P : Prop) : Prop := P
theorem Halt.of {P : Prop} (h : Halt P) : P := h
theorem byProp {P : Prop} (h : ∀ G : Prop, (P → G) → G) : P := h P id

abbrev MM (w : World) : Model := model PySem.Challenge.rw_sw0010_01.row.prog w

/-- an heir's tuple stands in the ledger -/
def EntAt (news : List (Addr × Obj)) (t : Addr) (e : Ent) : Prop := ∃ tk tk2 tk3 n, (t, tupObj [.int e.h tk, .str e.c tk2, .str e.e tk3] n) ∈ news

theorem EntAt.mono {news news' : List (Addr × Obj)} {t : Addr} {e : Ent} (x : EntAt news t e) (hs : ∀ p ∈ news, p ∈ news') : EntAt news' t e := by
  obtain ⟨a, b, c, n, hm⟩ := x
  exact ⟨a, b, c, n, hs _ hm⟩

/-- the list object of the heirs -/
def HeirObj (news : List (Addr × Obj)) (o : Obj) (es : List Ent) : Prop :=
  ∃ (ps : List (Addr × Ent)) (n : Nat), o = listOf (ps.map fun p => Value.ref p.1).toArray n ∧ es = ps.map (·.2) ∧ ∀ p ∈ ps, EntAt news p.1 p.2
theorem HeirObj.mono {news news' : List (Addr × Obj)} {o : Obj} {es : List Ent} (x : HeirObj news o es) (hs : ∀ p ∈ news, p ∈ news') : HeirObj news' o es := by
  obtain ⟨ps, n, e, hl, h⟩ := x
  exact ⟨ps, n, e, hl, fun p hp => (h p hp).mono hs⟩
theorem heir_nil {news : List (Addr × Obj)} : HeirObj news (listOf #[] 0) [] := ⟨[], 0, rfl, rfl, fun _ h => nomatch h⟩

/-- how many of the heirs have a half claim of at most v (in a sorted list) -/
def cnt (v : Int) (es : List Ent) : Nat := (es.takeWhile fun x => decide (x.h ≤ v)).length
def Sorted (es : List Ent) : Prop := es.Pairwise fun a b => a.h ≤ b.h
def insE (e : Ent) (es : List Ent) : List Ent := es.take (cnt e.h es) ++ e :: es.drop (cnt e.h es)
theorem cnt_le (v : Int) (es : List Ent) : cnt v es ≤ es.length := by
  unfold cnt
  exact (List.takeWhile_sublist _).length_le
theorem cnt_iff {v : Int} : ∀ {es : List Ent}, Sorted es → ∀ (i : Nat) (e : Ent), es[i]? = some e → (e.h ≤ v ↔ i < cnt v es)
  | [], _, i, e, h => by simp at h
  | x :: r, hs, i, e, h => by
    have hs' := List.pairwise_cons.mp hs
    have ih := cnt_iff (v := v) (es := r) hs'.2
    by_cases hx : x.h ≤ v
    · have hc : cnt v (x :: r) = cnt v r + 1 := by simp [cnt, hx]
      rw [hc]
      cases i with
      | zero =>
        simp at h
        subst h
        omega
      | succ j =>
        rw [ih j e (by simpa using h)]
        omega
    · have hc : cnt v (x :: r) = 0 := by simp [cnt, hx]
      rw [hc]
      cases i with
      | zero =>
        simp at h
        subst h
        omega
      | succ j =>
        have hm : e ∈ r := List.mem_of_getElem? (by simpa using h)
        have := hs'.1 e hm
        omega
theorem cnt_mono {v v' : Int} (h : v ≤ v') : ∀ es : List Ent, cnt v es ≤ cnt v' es
  | [] => Nat.le_refl _
  | x :: r => by
    have ih := cnt_mono h r
    by_cases h1 : x.h ≤ v
    · have h2 : x.h ≤ v' := by omega
      simp [cnt, h1, h2]
      exact ih
    · simp [cnt, h1]
theorem insE_len (e : Ent) (es : List Ent) : (insE e es).length = es.length + 1 := by
  have := cnt_le e.h es
  simp [insE]
  omega
theorem insE_cons (e x : Ent) (r : List Ent) : insE e (x :: r) = if x.h ≤ e.h then x :: insE e r else e :: x :: r := by
  by_cases h : x.h ≤ e.h <;> simp [insE, cnt, h]
theorem insE_mem {e y : Ent} : ∀ {es : List Ent}, y ∈ insE e es ↔ y = e ∨ y ∈ es
  | [] => by simp [insE, cnt]
  | x :: r => by
    have ih := insE_mem (e := e) (y := y) (es := r)
    rw [insE_cons]
    split
    · simp only [List.mem_cons, ih]
      constructor
      · rintro (h | h | h)
        · exact .inr (.inl h)
        · exact .inl h
        · exact .inr (.inr h)
      · rintro (h | h | h)
        · exact .inr (.inl h)
        · exact .inl h
        · exact .inr (.inr h)
    · simp only [List.mem_cons]
theorem insE_sorted {e : Ent} : ∀ {es : List Ent}, Sorted es → Sorted (insE e es)
  | [], _ => by simp [insE, cnt, Sorted]
  | x :: r, hs => by
    have hs' := List.pairwise_cons.mp hs
    rw [insE_cons]
    split
    · rename_i h
      refine List.pairwise_cons.mpr ⟨fun y hy => ?_, insE_sorted hs'.2⟩
      rcases insE_mem.mp hy with rfl | hy
      · exact h
      · exact hs'.1 y hy
    · rename_i h
      refine List.pairwise_cons.mpr ⟨fun y hy => ?_, hs⟩
      rcases List.mem_cons.mp hy with rfl | hy
      · omega
      · have := hs'.1 y hy
        omega

section
variable {prog : Program} {w : World} {A A₀ : Around} {s : Shared} {K : Frag} {L : Addr} {h₀ base : Heap} {m mg mb : Str → Option Value} {ns ns' news news' : List (Addr × Obj)} {p : Program} {loose : List Str} {mean : ExcName → Option Value}
/-- a def is entered with a small ledger; whatever else lies in the heap stays in the ground g -/
theorem enter_frame {env : Env} {outer : List Env} {R : Result → Shared → Prop} {name qual : Str} {params : Arguments} {body : List Stmt} {scope : Scope} {dV kV doc pm cdv ct oc : Value} {an od : Option Addr} {osl : Array (Option Value)} {f : Addr} {args : Args} {binds : List (Str × Value)}
    (B : Below A₀ base outer h₀) (F : Fr h₀ L s.heap m) (X₀ : K.In h₀) (N : News h₀ L s.heap ns) (T : Top p loose mean mg mb h₀) (hA : A.frames = some (env :: outer)) (hf : env.frame = some L) (hke : env.scope.kind = .function)
    (ho : K.lookup f = some ⟨oc, od, .func (fnOf name qual params body scope dV kV doc pm an cdv ct), osl⟩) (hcd : codeIn K cdv qual = true) (hroom : A.depth < recursionLimit)
    (hbind : BindsTo s (fnOf name qual params body scope dV kV doc pm an cdv ct) args binds) (hloc : ∀ y ∈ binds, scope.names.lookup y.1 = some .local)
    (h : ∀ g L' h₁, (∀ b o, s.heap.get? b = some o → b ∉ ns.map (·.1) → g.get? b = some o) → Fr h₀ L g m → Fr g L' h₁ (fun y => binds.reverse.lookup y) → News g L' h₁ ns → Below A base (env :: outer) g → K.In g → Top p loose mean mg mb g →
      wpAny (model prog w) (A.deeper (envOf qual scope L' f cdv)) (execs body (envOf qual scope L' f cdv))
        (fun fl s' => LeaveK h₀ L m g R (match fl with | .ret v => v | _ => .none) s')
        (fun e s' => wpAny (model prog w) (A.deeper (envOf qual scope L' f cdv)) (leaving (envOf qual scope L' f cdv) e) (fun _ s'' => R (.error e) s'') (fun e' s'' => R (.error e') s'') s')
        { s with heap := h₁, toks := s.toks + binds.length })
    (hco : scope.isCoroutine = false) (hgen : scope.isGenerator = false) (hk : scope.kind = .function)
    (hcell : ∀ x ∈ scope.names, x.2 ≠ .cell) : codeAny (model prog w) A (.call (.ref f) args) R s := by
  obtain ⟨FG, BG, st, lv⟩ := groundX (R := R) B F N hA hf hke
  refine codeAny_call_def (fd := fnOf name qual params body scope dV kV doc pm an cdv ct) (body := body) (binds := binds) hroom ((X₀.keeps F.keep) _ _ ho) rfl (T.nolimit.keeps F.keep) (codeRec_of (X₀.keeps F.keep) hcd) rfl hbind hcell hloc (fun h₁ hns hk₁ => ?_) hco hgen hk
  exact wpAny_mono (h _ s.heap.objs.size h₁ (fun b o e hb => hideAll_get _ e hb) FG ⟨hns, fun b o e => hk₁ b o (of_hideAll _ e), Nat.le_of_eq (hideAll_size _ _)⟩
    (fun p hp => ⟨hk₁ _ _ (N p hp).1, Nat.ne_of_lt (Heap.lt_size (N p hp).1), hideAll_none _ (List.mem_map_of_mem hp)⟩) BG (X₀.keeps st) (T.keeps st)) (fun fl s' hl => lv _ _ hl) fun _ _ y => y
/-- the ledger behind a call: what the call tells, and what it never saw -/
theorem frame_gen {h' : Heap} (N : News h₀ L s.heap news) (Kp : ∀ b o, s.heap.get? b = some o → b ∉ ns.map (·.1) → h'.get? b = some o) (N' : News h₀ L h' ns')
    (h : ∀ p ∈ news', p ∈ ns' ∨ (p ∈ news ∧ p.1 ∉ ns.map (·.1))) : News h₀ L h' news' := by
  intro p hp
  rcases h p hp with h | ⟨h, hn⟩
  · exact N' p h
  · exact ⟨Kp _ _ (N p h).1 hn, (N p h).2⟩
theorem frame_ro {h : Heap} (N : News h₀ L h news) (hs : ∀ q ∈ ns, q ∈ news) (hro : ∀ q ∈ ns, q ∈ ns') {p : Addr × Obj} (hp : p ∈ news) : p ∈ ns' ∨ (p ∈ news ∧ p.1 ∉ ns.map (·.1)) := by
  by_cases hm : p.1 ∈ ns.map (·.1)
  · obtain ⟨q, hq, e⟩ := List.mem_map.mp hm
    have h1 := (N q (hs q hq)).1
    have h2 := (N p hp).1
    rw [e, h2] at h1
    have : p = q := Prod.ext e.symm (Option.some.inj h1)
    exact .inl (this ▸ hro q hq)
  · exact .inr ⟨hp, hm⟩
end
theorem room_le {d k n lim : Nat} (h : d + n < lim) (hk : k ≤ n) : d + k < lim := by omega
local macro_rules | `(tactic| ktr_room) => `(tactic| ((try simp only [depth_under_make, depth_under_kw, depth_in1, depth_deeper, depth_caller]); (try dsimp only [ktrTop]); (try simp only [Nat.add_assoc, Nat.reduceAdd]); exact room_le (by assumption) (by decide)))
local macro_rules | `(tactic| ktr_units) => `(tactic| ((try simp only [units_in1, units_deeper, Around.mark_units, units_caller]); (try dsimp only [ktrTop]); (try simp only [Nat.add_assoc, Nat.reduceAdd, Nat.reduceMul]); (try simp only [Nat.reduceMul] at *); exact room_le (by assumption) (by decide)))
local macro_rules | `(tactic| walk_at "call ref") => `(tactic| (k_here; k_dflt (refine wpAny_call ?_; (refine' code_def ?k1 ?k2 ?k3 ?k4 ?k5 ?kA ?kF ?kK ?k6 ?k7 ?k8 ?k9 ?kB ?_ ?c2 ?c3 ?c4 ?c5; (case kA => exact rfl); (case kF => exact rfl); (case kK => first | exact rfl | assumption); (case k1 => k_asm); (case k2 => k_asm); (case k3 => k_asm); (case k4 => k_asm); (case k5 => k_asm); (case k6 => k_is); (case k7 => k_is); (case k8 => ktr_room); (case k9 => first | exact BindsTo.of_eq rfl | exact binds_K (by k_in) rfl (by k_is) rfl rfl rfl | fail "no binds"); (case c5 => decide); (case kB => exact locs rfl); (case c2 => exact rfl); (case c3 => exact rfl); (case c4 => exact rfl); k_whole; intro g' L' h' FG' F' N' B' X' T'; (try dsimp only); (try k_lift B'); (try k_fold)))))
local macro_rules | `(tactic| walk_at "grd") => `(tactic| (refine Grd.of rfl (by k_asm) (by first | exact rfl | assumption) (by ktr_room) (by ktr_units) (by k_asm) (by k_asm) (by k_asm) (by k_asm)))
local macro_rules | `(tactic| k_mem) => `(tactic| ((with_reducible show List.Mem _ _); with_unfolding_all assumption))
section
variable {w : World} {p : Program} {loose : List Str} {mean : ExcName → Option Value} {mg mb : Str → Option Value} {A : Around} {h₀ : Heap} {L : Addr} {m : Str → Option Value} {news : List (Addr × Obj)} {s : Shared} {Q E : Value → Shared → Prop}
theorem half_ok {t : Addr} {e : Ent} (G : Grd w p loose mean mg mb A h₀ L m news s.heap 10) (ht : EntAt news t e)
    (ret : ∀ h' tk' tk, Fr h₀ L h' m → News h₀ L h' news → Q (.int e.h tk) { s with heap := h', toks := tk' }) : wpAny (MM w) A (call (.ref 136) [.ref t]) Q E s := by
  obtain ⟨tk, tk2, tk3, n, ht⟩ := ht
  (((rename Grd _ _ _ _ _ _ _ _ _ _ _ _ _ => G); refine Grd.elim G ?_; clear G; intro dp un gd cn cs a ccd cl outer A₀ base hA B hk hd hu F X N T; subst hA))
  walk_at "call ref"
  k_steps
  exact ret _ _ _ (by k_asm) (by k_asm)
end
theorem fdiv_two (a : Int) : 2 * a.fdiv 2 ≤ a ∧ a < 2 * a.fdiv 2 + 2 := by
  rw [Int.fdiv_eq_ediv_of_nonneg a (by decide : (0 : Int) ≤ 2)]
  omega
section
variable {w : World} {A : Around} {E : Value → Shared → Prop} {s : Shared} {h₀ : Heap} {L : Addr} {news : List (Addr × Obj)}
theorem len_led {l : Addr} {its : Array Value} {n : Nat} {k : Nat} {Q : Value → Shared → Prop} (N : News h₀ L s.heap news) (hm : (l, listOf its n) ∈ news) (hk : its.size = k) (hfit : k < 1000)
    (h : Q (.int k (s.toks + 1)) { s with toks := s.toks + 1 + 1 }) : wpAny (MM w) A (call (.builtin "len") [.ref l]) Q E s := by
  subst hk
  exact len_list ⟨_, (N _ hm).1, rfl, n, rfl⟩ (by omega) h
theorem item_led {value slice : Expr} {l : Addr} {its : List Value} {n : Nat} {k : Int} {u : Tok} {x : Value} {Q : Value → Shared → Prop} (N : News h₀ L s.heap news) (hm : (l, listOf its.toArray n) ∈ news)
    (h0 : 0 ≤ k) (hfit : k < 1000) (hx : its[k.toNat]? = some x) (h : Q x s)
    (hs : subscripted slice false (.ref l) (.int k u) = operate [.ref l, .int k u] (getItem (.ref l) (.int k u)) := by with_unfolding_all rfl) :
    wpAny (MM w) A (subscriptTail value slice (.ref l) (.int k u)) Q E s := kba_turn (value' := Expr.Name (Str.ofString "_") ⟨0, 0, 0, 0⟩) (fun _ => rfl) (item_listL ⟨_, (N _ hm).1, rfl, n, rfl⟩ h0 (by omega) hx h hs (fun _ => rfl))
theorem len_heir {l : Addr} {o : Obj} {es : List Ent} {Q : Value → Shared → Prop} (N : News h₀ L s.heap news) (hm : (l, o) ∈ news) (hH : HeirObj news o es) (hfit : es.length < 100)
    (h : Q (.int es.length (s.toks + 1)) { s with toks := s.toks + 1 + 1 }) : wpAny (MM w) A (call (.builtin "len") [.ref l]) Q E s := by
  obtain ⟨ps, n, rfl, rfl, _⟩ := hH
  exact len_led N hm (by simp) (by omega) h
theorem item_heir {value slice : Expr} {l : Addr} {o : Obj} {es : List Ent} {k : Int} {u : Tok} {Q : Value → Shared → Prop} (N : News h₀ L s.heap news) (hm : (l, o) ∈ news) (hH : HeirObj news o es) (hfit : es.length < 100)
    (h0 : 0 ≤ k) (h1 : k < es.length) (h : ∀ t e, es[k.toNat]? = some e → EntAt news t e → Q (.ref t) s)
    (hs : subscripted slice false (.ref l) (.int k u) = operate [.ref l, .int k u] (getItem (.ref l) (.int k u)) := by with_unfolding_all rfl) :
    wpAny (MM w) A (subscriptTail value slice (.ref l) (.int k u)) Q E s := by
  obtain ⟨ps, n, rfl, rfl, hT⟩ := hH
  have hk : k.toNat < ps.length := by simp at h1; omega
  have ht : ps[k.toNat]? = some ps[k.toNat] := List.getElem?_eq_getElem hk
  exact item_led N hm h0 (by omega) (x := .ref ps[k.toNat].1) (by simp [ht]) (h _ ps[k.toNat].2 (by simp [ht]) (hT _ (List.getElem_mem hk))) hs
end

section
variable {w : World} {p : Program} {loose : List Str} {mean : ExcName → Option Value} {mg mb : Str → Option Value} {A : Around} {h₀ : Heap} {L : Addr} {m : Str → Option Value} {news : List (Addr × Obj)} {s : Shared} {Q E : Value → Shared → Prop}
theorem bis_ok4 {H : Addr} {oH : Obj} {es : List Ent} {x lo : Int} {tx tl : Tok} {tl9 : List (Addr × Obj)} (r : Nat) (G : Grd w p loose mean mg mb A h₀ L m news s.heap 20) (hm : (H, oH) ∈ news) (hH0 : HeirObj tl9 oH es) (hT : SubL tl9 news)
    (hlen : es.length < 100) (hlo : 0 ≤ lo) (hr0 : lo ≤ r) (hr1 : r ≤ es.length) (hr : ∀ (i : Nat) (e : Ent), es[i]? = some e → (e.h ≤ x ↔ i < r))
    (ret : ∀ h' tk' tk, Fr h₀ L h' m → News h₀ L h' news → Q (.int r tk) { s with heap := h', toks := tk' }) :
    wpAny (MM w) A (call (.ref 49) [.ref H, .int x tx, .int lo tl, .none] [(PySem.Str.ofString "key", .ref 136)]) Q E s := by
  have hH := hH0.mono hT.mem
  clear hT hH0
  ((
  (((rename Grd _ _ _ _ _ _ _ _ _ _ _ _ _ => G); refine Grd.elim G ?_; clear G; intro dp un gd cn cs a ccd cl outer A₀ base hA B hk hd hu F X N T; subst hA))
  walk_at "call ref"
  (repeat' (first | (k_unfold; (try dsimp only)) | (k_end; kc_close) | (with_reducible ((k_here; (with_reducible show wpAny _ _ (subscriptTail _ _ (Value.ref _) (Value.int (Int.fdiv _ 2) _)) _ _ _); k_dflt (have hq := fdiv_two (lo1 + hi1); refine' item_heir ?z15xN hm hH hlen ?z15xa ?z15xb ?_; (case z15xN => k_asm); (case z15xa => omega); (case z15xb => omega); intro t e he hE; have hx := hr _ _ he)))) | (with_reducible ((k_here; (with_reducible show wpAny _ _ (call (Value.builtin "len") [Value.ref _]) _ _ _); k_dflt (refine' len_heir ?z13xN hm hH hlen ?_; (case z13xN => k_asm))))) | (with_reducible ((with_reducible show wpAny _ _ (exec (Stmt.While _ _ _ _) _) _ _ _); (k_dflt (refine' ksw_while (σ := Int × Tok × Int × Tok) (fun _ => news) (fun c => [(Str.ofString "lo", Value.int c.1 c.2.1), (Str.ofString "hi", Value.int c.2.2.1 c.2.2.2)]) (fun _ => True) [Str.ofString "mid"] (fun c => 0 ≤ c.1 ∧ c.1 ≤ r ∧ (r : Int) ≤ c.2.2.1 ∧ c.2.2.1 ≤ es.length) (fun c => (c.2.2.1 - c.1).toNat) (_, _, (es.length : Int), _) ?z14xF ?z14xN trivial ?z14xhk ?z14xhp ?turn; (case z14xF => k_asm); (case z14xN => k_asm); (case z14xhk => kst_all); (case z14xhp => (dsimp only; omega)); intro c u hh tkk hf hp Fk Nk; obtain ⟨lo1, tlo, hi1, thi⟩ := c; obtain ⟨hp1, hp2, hp3, hp4⟩ := hp; dsimp only at hp1 hp2 hp3 hp4 Fk; (try dsimp only); (try k_sweep); (try k_fold))))) | (with_reducible ((k_here; (with_reducible show wpAny _ _ (call (Value.ref 136) [Value.ref _]) _ _ _); k_dflt (refine' half_ok ?z11xG ?z11xht ?_; (case z11xG => walk_at "grd"); (case z11xht => first | assumption | walk_at "ent"); k_whole; intro h' tk' tk F' N'; (try k_sweep))))) | walk1 | (dsimp only; first | (with_reducible ((k_here; (with_reducible show wpAny _ _ (subscriptTail _ _ (Value.ref _) (Value.int (Int.fdiv _ 2) _)) _ _ _); k_dflt (have hq := fdiv_two (lo1 + hi1); refine' item_heir ?z15xN hm hH hlen ?z15xa ?z15xb ?_; (case z15xN => k_asm); (case z15xa => omega); (case z15xb => omega); intro t e he hE; have hx := hr _ _ he)))) | (with_reducible ((k_here; (with_reducible show wpAny _ _ (call (Value.builtin "len") [Value.ref _]) _ _ _); k_dflt (refine' len_heir ?z13xN hm hH hlen ?_; (case z13xN => k_asm))))) | (with_reducible ((with_reducible show wpAny _ _ (exec (Stmt.While _ _ _ _) _) _ _ _); (k_dflt (refine' ksw_while (σ := Int × Tok × Int × Tok) (fun _ => news) (fun c => [(Str.ofString "lo", Value.int c.1 c.2.1), (Str.ofString "hi", Value.int c.2.2.1 c.2.2.2)]) (fun _ => True) [Str.ofString "mid"] (fun c => 0 ≤ c.1 ∧ c.1 ≤ r ∧ (r : Int) ≤ c.2.2.1 ∧ c.2.2.1 ≤ es.length) (fun c => (c.2.2.1 - c.1).toNat) (_, _, (es.length : Int), _) ?z14xF ?z14xN trivial ?z14xhk ?z14xhp ?turn; (case z14xF => k_asm); (case z14xN => k_asm); (case z14xhk => kst_all); (case z14xhp => (dsimp only; omega)); intro c u hh tkk hf hp Fk Nk; obtain ⟨lo1, tlo, hi1, thi⟩ := c; obtain ⟨hp1, hp2, hp3, hp4⟩ := hp; dsimp only at hp1 hp2 hp3 hp4 Fk; (try dsimp only); (try k_sweep); (try k_fold))))) | (with_reducible ((k_here; (with_reducible show wpAny _ _ (call (Value.ref 136) [Value.ref _]) _ _ _); k_dflt (refine' half_ok ?z11xG ?z11xht ?_; (case z11xG => walk_at "grd"); (case z11xht => first | assumption | walk_at "ent"); k_whole; intro h' tk' tk F' N'; (try k_sweep))))) | walk1) | (leave1; (try dsimp only)) | fail "no step"))
  · exact ksw_end (lo1, _, (lo1 + hi1).fdiv 2, _) (by k_asm) (by k_asm) (fun _ h => h) trivial (by kst_all) (by ((intro z h2 h3; (simp only [List.forall_mem_cons, List.not_mem_nil, false_implies, implies_true, and_true, ne_eq] at h2); (try simp only [List.contains_cons, List.contains_nil, Bool.or_false, Bool.or_eq_false_iff, beq_eq_false_iff_ne, ne_eq] at h3); simp [kstB, h2, h3]))) (by dsimp only; omega) (by dsimp only; omega)
  · exact ksw_end ((lo1 + hi1).fdiv 2 + 1, _, hi1, _) (by k_asm) (by k_asm) (fun _ h => h) trivial (by kst_all) (by ((intro z h2 h3; (simp only [List.forall_mem_cons, List.not_mem_nil, false_implies, implies_true, and_true, ne_eq] at h2); (try simp only [List.contains_cons, List.contains_nil, Bool.or_false, Bool.or_eq_false_iff, beq_eq_false_iff_ne, ne_eq] at h3); simp [kstB, h2, h3]))) (by dsimp only; omega) (by dsimp only; omega)
  · have e : lo1 = (r : Int) := by omega
    rw [e]
    exact ret _ _ _ (by k_asm) (by k_asm)))
theorem bis_ok3 {H : Addr} {oH : Obj} {es : List Ent} {x lo : Int} {tx tl : Tok} {tl9 : List (Addr × Obj)} (r : Nat) (G : Grd w p loose mean mg mb A h₀ L m news s.heap 20) (hm : (H, oH) ∈ news) (hH0 : HeirObj tl9 oH es) (hT : SubL tl9 news)
    (hlen : es.length < 100) (hlo : 0 ≤ lo) (hr0 : lo ≤ r) (hr1 : r ≤ es.length) (hr : ∀ (i : Nat) (e : Ent), es[i]? = some e → (e.h ≤ x ↔ i < r))
    (ret : ∀ h' tk' tk, Fr h₀ L h' m → News h₀ L h' news → Q (.int r tk) { s with heap := h', toks := tk' }) :
    wpAny (MM w) A (call (.ref 49) [.ref H, .int x tx, .int lo tl] [(PySem.Str.ofString "key", .ref 136)]) Q E s := by
  have hH := hH0.mono hT.mem
  clear hT hH0
  ((
  (((rename Grd _ _ _ _ _ _ _ _ _ _ _ _ _ => G); refine Grd.elim G ?_; clear G; intro dp un gd cn cs a ccd cl outer A₀ base hA B hk hd hu F X N T; subst hA))
  walk_at "call ref"
  (repeat' (first | (k_unfold; (try dsimp only)) | (k_end; kc_close) | (with_reducible ((k_here; (with_reducible show wpAny _ _ (subscriptTail _ _ (Value.ref _) (Value.int (Int.fdiv _ 2) _)) _ _ _); k_dflt (have hq := fdiv_two (lo1 + hi1); refine' item_heir ?z15xN hm hH hlen ?z15xa ?z15xb ?_; (case z15xN => k_asm); (case z15xa => omega); (case z15xb => omega); intro t e he hE; have hx := hr _ _ he)))) | (with_reducible ((k_here; (with_reducible show wpAny _ _ (call (Value.builtin "len") [Value.ref _]) _ _ _); k_dflt (refine' len_heir ?z13xN hm hH hlen ?_; (case z13xN => k_asm))))) | (with_reducible ((with_reducible show wpAny _ _ (exec (Stmt.While _ _ _ _) _) _ _ _); (k_dflt (refine' ksw_while (σ := Int × Tok × Int × Tok) (fun _ => news) (fun c => [(Str.ofString "lo", Value.int c.1 c.2.1), (Str.ofString "hi", Value.int c.2.2.1 c.2.2.2)]) (fun _ => True) [Str.ofString "mid"] (fun c => 0 ≤ c.1 ∧ c.1 ≤ r ∧ (r : Int) ≤ c.2.2.1 ∧ c.2.2.1 ≤ es.length) (fun c => (c.2.2.1 - c.1).toNat) (_, _, (es.length : Int), _) ?z14xF ?z14xN trivial ?z14xhk ?z14xhp ?turn; (case z14xF => k_asm); (case z14xN => k_asm); (case z14xhk => kst_all); (case z14xhp => (dsimp only; omega)); intro c u hh tkk hf hp Fk Nk; obtain ⟨lo1, tlo, hi1, thi⟩ := c; obtain ⟨hp1, hp2, hp3, hp4⟩ := hp; dsimp only at hp1 hp2 hp3 hp4 Fk; (try dsimp only); (try k_sweep); (try k_fold))))) | (with_reducible ((k_here; (with_reducible show wpAny _ _ (call (Value.ref 136) [Value.ref _]) _ _ _); k_dflt (refine' half_ok ?z11xG ?z11xht ?_; (case z11xG => walk_at "grd"); (case z11xht => first | assumption | walk_at "ent"); k_whole; intro h' tk' tk F' N'; (try k_sweep))))) | walk1 | (dsimp only; first | (with_reducible ((k_here; (with_reducible show wpAny _ _ (subscriptTail _ _ (Value.ref _) (Value.int (Int.fdiv _ 2) _)) _ _ _); k_dflt (have hq := fdiv_two (lo1 + hi1); refine' item_heir ?z15xN hm hH hlen ?z15xa ?z15xb ?_; (case z15xN => k_asm); (case z15xa => omega); (case z15xb => omega); intro t e he hE; have hx := hr _ _ he)))) | (with_reducible ((k_here; (with_reducible show wpAny _ _ (call (Value.builtin "len") [Value.ref _]) _ _ _); k_dflt (refine' len_heir ?z13xN hm hH hlen ?_; (case z13xN => k_asm))))) | (with_reducible ((with_reducible show wpAny _ _ (exec (Stmt.While _ _ _ _) _) _ _ _); (k_dflt (refine' ksw_while (σ := Int × Tok × Int × Tok) (fun _ => news) (fun c => [(Str.ofString "lo", Value.int c.1 c.2.1), (Str.ofString "hi", Value.int c.2.2.1 c.2.2.2)]) (fun _ => True) [Str.ofString "mid"] (fun c => 0 ≤ c.1 ∧ c.1 ≤ r ∧ (r : Int) ≤ c.2.2.1 ∧ c.2.2.1 ≤ es.length) (fun c => (c.2.2.1 - c.1).toNat) (_, _, (es.length : Int), _) ?z14xF ?z14xN trivial ?z14xhk ?z14xhp ?turn; (case z14xF => k_asm); (case z14xN => k_asm); (case z14xhk => kst_all); (case z14xhp => (dsimp only; omega)); intro c u hh tkk hf hp Fk Nk; obtain ⟨lo1, tlo, hi1, thi⟩ := c; obtain ⟨hp1, hp2, hp3, hp4⟩ := hp; dsimp only at hp1 hp2 hp3 hp4 Fk; (try dsimp only); (try k_sweep); (try k_fold))))) | (with_reducible ((k_here; (with_reducible show wpAny _ _ (call (Value.ref 136) [Value.ref _]) _ _ _); k_dflt (refine' half_ok ?z11xG ?z11xht ?_; (case z11xG => walk_at "grd"); (case z11xht => first | assumption | walk_at "ent"); k_whole; intro h' tk' tk F' N'; (try k_sweep))))) | walk1) | (leave1; (try dsimp only)) | fail "no step"))
  · exact ksw_end (lo1, _, (lo1 + hi1).fdiv 2, _) (by k_asm) (by k_asm) (fun _ h => h) trivial (by kst_all) (by ((intro z h2 h3; (simp only [List.forall_mem_cons, List.not_mem_nil, false_implies, implies_true, and_true, ne_eq] at h2); (try simp only [List.contains_cons, List.contains_nil, Bool.or_false, Bool.or_eq_false_iff, beq_eq_false_iff_ne, ne_eq] at h3); simp [kstB, h2, h3]))) (by dsimp only; omega) (by dsimp only; omega)
  · exact ksw_end ((lo1 + hi1).fdiv 2 + 1, _, hi1, _) (by k_asm) (by k_asm) (fun _ h => h) trivial (by kst_all) (by ((intro z h2 h3; (simp only [List.forall_mem_cons, List.not_mem_nil, false_implies, implies_true, and_true, ne_eq] at h2); (try simp only [List.contains_cons, List.contains_nil, Bool.or_false, Bool.or_eq_false_iff, beq_eq_false_iff_ne, ne_eq] at h3); simp [kstB, h2, h3]))) (by dsimp only; omega) (by dsimp only; omega)
  · have e : lo1 = (r : Int) := by omega
    rw [e]
    exact ret _ _ _ (by k_asm) (by k_asm)))
theorem bis_ok2 {H : Addr} {oH : Obj} {es : List Ent} {x lo : Int} {tx tl : Tok} {tl9 : List (Addr × Obj)} (r : Nat) (G : Grd w p loose mean mg mb A h₀ L m news s.heap 20) (hm : (H, oH) ∈ news) (hH0 : HeirObj tl9 oH es) (hT : SubL tl9 news)
    (hlen : es.length < 100) (hlo : lo = 0) (hr0 : lo ≤ r) (hr1 : r ≤ es.length) (hr : ∀ (i : Nat) (e : Ent), es[i]? = some e → (e.h ≤ x ↔ i < r))
    (ret : ∀ h' tk' tk, Fr h₀ L h' m → News h₀ L h' news → Q (.int r tk) { s with heap := h', toks := tk' }) :
    wpAny (MM w) A (call (.ref 49) [.ref H, .int x tx] [(PySem.Str.ofString "key", .ref 136)]) Q E s := by
  have hH := hH0.mono hT.mem
  clear hT hH0
  ((
  (((rename Grd _ _ _ _ _ _ _ _ _ _ _ _ _ => G); refine Grd.elim G ?_; clear G; intro dp un gd cn cs a ccd cl outer A₀ base hA B hk hd hu F X N T; subst hA))
  walk_at "call ref"
  (repeat' (first | (k_unfold; (try dsimp only)) | (k_end; kc_close) | (with_reducible ((k_here; (with_reducible show wpAny _ _ (subscriptTail _ _ (Value.ref _) (Value.int (Int.fdiv _ 2) _)) _ _ _); k_dflt (have hq := fdiv_two (lo1 + hi1); refine' item_heir ?z15xN hm hH hlen ?z15xa ?z15xb ?_; (case z15xN => k_asm); (case z15xa => omega); (case z15xb => omega); intro t e he hE; have hx := hr _ _ he)))) | (with_reducible ((k_here; (with_reducible show wpAny _ _ (call (Value.builtin "len") [Value.ref _]) _ _ _); k_dflt (refine' len_heir ?z13xN hm hH hlen ?_; (case z13xN => k_asm))))) | (with_reducible ((with_reducible show wpAny _ _ (exec (Stmt.While _ _ _ _) _) _ _ _); (k_dflt (refine' ksw_while (σ := Int × Tok × Int × Tok) (fun _ => news) (fun c => [(Str.ofString "lo", Value.int c.1 c.2.1), (Str.ofString "hi", Value.int c.2.2.1 c.2.2.2)]) (fun _ => True) [Str.ofString "mid"] (fun c => 0 ≤ c.1 ∧ c.1 ≤ r ∧ (r : Int) ≤ c.2.2.1 ∧ c.2.2.1 ≤ es.length) (fun c => (c.2.2.1 - c.1).toNat) (_, _, (es.length : Int), _) ?z14xF ?z14xN trivial ?z14xhk ?z14xhp ?turn; (case z14xF => k_asm); (case z14xN => k_asm); (case z14xhk => kst_all); (case z14xhp => (dsimp only; omega)); intro c u hh tkk hf hp Fk Nk; obtain ⟨lo1, tlo, hi1, thi⟩ := c; obtain ⟨hp1, hp2, hp3, hp4⟩ := hp; dsimp only at hp1 hp2 hp3 hp4 Fk; (try dsimp only); (try k_sweep); (try k_fold))))) | (with_reducible ((k_here; (with_reducible show wpAny _ _ (call (Value.ref 136) [Value.ref _]) _ _ _); k_dflt (refine' half_ok ?z11xG ?z11xht ?_; (case z11xG => walk_at "grd"); (case z11xht => first | assumption | walk_at "ent"); k_whole; intro h' tk' tk F' N'; (try k_sweep))))) | walk1 | (dsimp only; first | (with_reducible ((k_here; (with_reducible show wpAny _ _ (subscriptTail _ _ (Value.ref _) (Value.int (Int.fdiv _ 2) _)) _ _ _); k_dflt (have hq := fdiv_two (lo1 + hi1); refine' item_heir ?z15xN hm hH hlen ?z15xa ?z15xb ?_; (case z15xN => k_asm); (case z15xa => omega); (case z15xb => omega); intro t e he hE; have hx := hr _ _ he)))) | (with_reducible ((k_here; (with_reducible show wpAny _ _ (call (Value.builtin "len") [Value.ref _]) _ _ _); k_dflt (refine' len_heir ?z13xN hm hH hlen ?_; (case z13xN => k_asm))))) | (with_reducible ((with_reducible show wpAny _ _ (exec (Stmt.While _ _ _ _) _) _ _ _); (k_dflt (refine' ksw_while (σ := Int × Tok × Int × Tok) (fun _ => news) (fun c => [(Str.ofString "lo", Value.int c.1 c.2.1), (Str.ofString "hi", Value.int c.2.2.1 c.2.2.2)]) (fun _ => True) [Str.ofString "mid"] (fun c => 0 ≤ c.1 ∧ c.1 ≤ r ∧ (r : Int) ≤ c.2.2.1 ∧ c.2.2.1 ≤ es.length) (fun c => (c.2.2.1 - c.1).toNat) (_, _, (es.length : Int), _) ?z14xF ?z14xN trivial ?z14xhk ?z14xhp ?turn; (case z14xF => k_asm); (case z14xN => k_asm); (case z14xhk => kst_all); (case z14xhp => (dsimp only; omega)); intro c u hh tkk hf hp Fk Nk; obtain ⟨lo1, tlo, hi1, thi⟩ := c; obtain ⟨hp1, hp2, hp3, hp4⟩ := hp; dsimp only at hp1 hp2 hp3 hp4 Fk; (try dsimp only); (try k_sweep); (try k_fold))))) | (with_reducible ((k_here; (with_reducible show wpAny _ _ (call (Value.ref 136) [Value.ref _]) _ _ _); k_dflt (refine' half_ok ?z11xG ?z11xht ?_; (case z11xG => walk_at "grd"); (case z11xht => first | assumption | walk_at "ent"); k_whole; intro h' tk' tk F' N'; (try k_sweep))))) | walk1) | (leave1; (try dsimp only)) | fail "no step"))
  · exact ksw_end (lo1, _, (lo1 + hi1).fdiv 2, _) (by k_asm) (by k_asm) (fun _ h => h) trivial (by kst_all) (by ((intro z h2 h3; (simp only [List.forall_mem_cons, List.not_mem_nil, false_implies, implies_true, and_true, ne_eq] at h2); (try simp only [List.contains_cons, List.contains_nil, Bool.or_false, Bool.or_eq_false_iff, beq_eq_false_iff_ne, ne_eq] at h3); simp [kstB, h2, h3]))) (by dsimp only; omega) (by dsimp only; omega)
  · exact ksw_end ((lo1 + hi1).fdiv 2 + 1, _, hi1, _) (by k_asm) (by k_asm) (fun _ h => h) trivial (by kst_all) (by ((intro z h2 h3; (simp only [List.forall_mem_cons, List.not_mem_nil, false_implies, implies_true, and_true, ne_eq] at h2); (try simp only [List.contains_cons, List.contains_nil, Bool.or_false, Bool.or_eq_false_iff, beq_eq_false_iff_ne, ne_eq] at h3); simp [kstB, h2, h3]))) (by dsimp only; omega) (by dsimp only; omega)
  · have e : lo1 = (r : Int) := by omega
    rw [e]
    exact ret _ _ _ (by k_asm) (by k_asm)))
end
local macro_rules | `(tactic| walk_at "sub") => `(tactic| (intro p hp; repeat (first | exact hp | refine List.mem_cons_of_mem _ ?_ | refine List.mem_append_right _ ?_)))
local macro_rules | `(tactic| walk_at "ent") => `(tactic| first | assumption | exact EntAt.mono (by assumption) (by walk_at "sub"))
section
variable {w : World} {p : Program} {loose : List Str} {mean : ExcName → Option Value} {mg mb : Str → Option Value} {A : Around} {h₀ : Heap} {L : Addr} {m : Str → Option Value} {tl news news' : List (Addr × Obj)} {s : Shared} {Q E : Value → Shared → Prop}
theorem ins_heir {t : Addr} {ps : List (Addr × Ent)} {n : Nat} {e : Ent} {o' : Obj} (hT : ∀ p ∈ ps, EntAt news p.1 p.2) (ht : EntAt news t e)
    (ho : o' = listOf (kl_ins ((ps.map fun p => Value.ref p.1).toArray.toList) (cnt e.h (ps.map (·.2)) : Int) (.ref t)).toArray (n + 1)) : HeirObj news o' (insE e (ps.map (·.2))) := by
  have hc : cnt e.h (ps.map (·.2)) ≤ ps.length := by simpa using cnt_le e.h (ps.map (·.2))
  refine ⟨ps.take (cnt e.h (ps.map (·.2))) ++ (t, e) :: ps.drop (cnt e.h (ps.map (·.2))), n + 1, ?_, ?_, ?_⟩
  · rw [ho]
    have hm : min (cnt e.h (ps.map (·.2))) ps.length = cnt e.h (ps.map (·.2)) := by omega
    have hn : ¬ ((cnt e.h (ps.map (·.2)) : Int) < 0) := by omega
    simp [kl_ins, hm, hn]
  · simp [insE]
  · intro q hq
    rcases List.mem_append.mp hq with h | h
    · exact hT q (List.mem_of_mem_take h)
    · rcases List.mem_cons.mp h with rfl | h
      · exact ht
      · exact hT q (List.mem_of_mem_drop h)
theorem insort_ok {H t : Addr} {oH : Obj} {es : List Ent} {eh : Int} {ec ee : Str} {tk1 tk2 tk3 : Tok} {tn : Nat} {nf : Obj → List (Addr × Obj)} (G : Grd w p loose mean mg mb A h₀ L m news s.heap 40) (hm : (H, oH) ∈ news) (hH : HeirObj tl oH es) (hT : SubL tl news)
    (ht : (t, tupObj [.int eh tk1, .str ec tk2, .str ee tk3] tn) ∈ news)
    (U : ∀ o', Upd H oH o' news (nf o')) (hlen : es.length < 90) (hs : Sorted es)
    (ret : ∀ (its' : List Value) n' h' tk', Fr h₀ L h' m → News h₀ L h' (nf (listOf its'.toArray n')) → HeirObj ((t, tupObj [.int eh tk1, .str ec tk2, .str ee tk3] tn) :: tl) (listOf its'.toArray n') (insE ⟨eh, ec, ee⟩ es) → Q .none { s with heap := h', toks := tk' }) :
    wpAny (MM w) A (call (.ref 40) [.ref H, .ref t] [(PySem.Str.ofString "key", .ref 136)]) Q E s := by
  have hH0 := hH
  obtain ⟨ps, n, rfl, rfl, hP⟩ := hH
  have hE : EntAt news t ⟨eh, ec, ee⟩ := ⟨_, _, _, _, ht⟩
  (((rename Grd _ _ _ _ _ _ _ _ _ _ _ _ _ => G); refine Grd.elim G ?_; clear G; intro dp un gd cn cs a ccd cl outer A₀ base hA B hk hd hu F X N T; subst hA))
  walk_at "call ref"
  (repeat' (first | (k_unfold; (try dsimp only)) | (k_end; kc_close) | (with_reducible ((k_here; (with_reducible show wpAny _ _ (call (Value.builtin _) [Value.ref _, Value.int _ _, _]) _ _ _); k_dflt (have hc := cnt_le eh (ps.map (·.2)); refine' kl_insert ?z21xF ?z21xN ?z21xf rfl (U _) ?z21xz ?_; (case z21xF => k_asm); (case z21xN => k_asm); (case z21xf => exact fitsIndex_of (by omega) (by omega)); (case z21xz => (simp only [List.length_map] at hlen; rw [sizeLine_eq]; simp only [List.length_map]; omega))); intro h' F' N'))) | (with_reducible ((k_here; (with_reducible show wpAny _ _ (call (Value.ref 49) _ _) _ _ _); k_dflt (first | (refine' bis_ok4 (cnt _ _) ?z16xG ?z16xhm ?z16xhH ?z16xhT ?z16xhlen ?z16xhlo ?z16xhr0 ?z16xhr1 (cnt_iff ?z16xhs) ?_; (case z16xG => walk_at "grd"); (case z16xhm => k_mem); (case z16xhH => assumption); (case z16xhT => first | assumption | (with_unfolding_all k_subL)); (case z16xhlen => first | assumption | omega); (case z16xhlo => first | rfl | assumption | omega); (case z16xhr0 => first | assumption | omega); (case z16xhr1 => exact cnt_le _ _); (case z16xhs => assumption); k_whole; intro h' tk' tk F' N'; (try k_sweep)) | (refine' bis_ok3 (cnt _ _) ?z16xG ?z16xhm ?z16xhH ?z16xhT ?z16xhlen ?z16xhlo ?z16xhr0 ?z16xhr1 (cnt_iff ?z16xhs) ?_; (case z16xG => walk_at "grd"); (case z16xhm => k_mem); (case z16xhH => assumption); (case z16xhT => first | assumption | (with_unfolding_all k_subL)); (case z16xhlen => first | assumption | omega); (case z16xhlo => first | rfl | assumption | omega); (case z16xhr0 => first | assumption | omega); (case z16xhr1 => exact cnt_le _ _); (case z16xhs => assumption); k_whole; intro h' tk' tk F' N'; (try k_sweep)) | (refine' bis_ok2 (cnt _ _) ?z16xG ?z16xhm ?z16xhH ?z16xhT ?z16xhlen ?z16xhlo ?z16xhr0 ?z16xhr1 (cnt_iff ?z16xhs) ?_; (case z16xG => walk_at "grd"); (case z16xhm => k_mem); (case z16xhH => assumption); (case z16xhT => first | assumption | (with_unfolding_all k_subL)); (case z16xhlen => first | assumption | omega); (case z16xhlo => first | rfl | assumption | omega); (case z16xhr0 => first | assumption | omega); (case z16xhr1 => exact cnt_le _ _); (case z16xhs => assumption); k_whole; intro h' tk' tk F' N'; (try k_sweep)))))) | (with_reducible ((k_here; (with_reducible show wpAny _ _ (call (Value.ref 136) [Value.ref _]) _ _ _); k_dflt (refine' half_ok ?z11xG ?z11xht ?_; (case z11xG => walk_at "grd"); (case z11xht => first | assumption | walk_at "ent"); k_whole; intro h' tk' tk F' N'; (try k_sweep))))) | walk1 | (dsimp only; first | (with_reducible ((k_here; (with_reducible show wpAny _ _ (call (Value.builtin _) [Value.ref _, Value.int _ _, _]) _ _ _); k_dflt (have hc := cnt_le eh (ps.map (·.2)); refine' kl_insert ?z21xF ?z21xN ?z21xf rfl (U _) ?z21xz ?_; (case z21xF => k_asm); (case z21xN => k_asm); (case z21xf => exact fitsIndex_of (by omega) (by omega)); (case z21xz => (simp only [List.length_map] at hlen; rw [sizeLine_eq]; simp only [List.length_map]; omega))); intro h' F' N'))) | (with_reducible ((k_here; (with_reducible show wpAny _ _ (call (Value.ref 49) _ _) _ _ _); k_dflt (first | (refine' bis_ok4 (cnt _ _) ?z16xG ?z16xhm ?z16xhH ?z16xhT ?z16xhlen ?z16xhlo ?z16xhr0 ?z16xhr1 (cnt_iff ?z16xhs) ?_; (case z16xG => walk_at "grd"); (case z16xhm => k_mem); (case z16xhH => assumption); (case z16xhT => first | assumption | (with_unfolding_all k_subL)); (case z16xhlen => first | assumption | omega); (case z16xhlo => first | rfl | assumption | omega); (case z16xhr0 => first | assumption | omega); (case z16xhr1 => exact cnt_le _ _); (case z16xhs => assumption); k_whole; intro h' tk' tk F' N'; (try k_sweep)) | (refine' bis_ok3 (cnt _ _) ?z16xG ?z16xhm ?z16xhH ?z16xhT ?z16xhlen ?z16xhlo ?z16xhr0 ?z16xhr1 (cnt_iff ?z16xhs) ?_; (case z16xG => walk_at "grd"); (case z16xhm => k_mem); (case z16xhH => assumption); (case z16xhT => first | assumption | (with_unfolding_all k_subL)); (case z16xhlen => first | assumption | omega); (case z16xhlo => first | rfl | assumption | omega); (case z16xhr0 => first | assumption | omega); (case z16xhr1 => exact cnt_le _ _); (case z16xhs => assumption); k_whole; intro h' tk' tk F' N'; (try k_sweep)) | (refine' bis_ok2 (cnt _ _) ?z16xG ?z16xhm ?z16xhH ?z16xhT ?z16xhlen ?z16xhlo ?z16xhr0 ?z16xhr1 (cnt_iff ?z16xhs) ?_; (case z16xG => walk_at "grd"); (case z16xhm => k_mem); (case z16xhH => assumption); (case z16xhT => first | assumption | (with_unfolding_all k_subL)); (case z16xhlen => first | assumption | omega); (case z16xhlo => first | rfl | assumption | omega); (case z16xhr0 => first | assumption | omega); (case z16xhr1 => exact cnt_le _ _); (case z16xhs => assumption); k_whole; intro h' tk' tk F' N'; (try k_sweep)))))) | (with_reducible ((k_here; (with_reducible show wpAny _ _ (call (Value.ref 136) [Value.ref _]) _ _ _); k_dflt (refine' half_ok ?z11xG ?z11xht ?_; (case z11xG => walk_at "grd"); (case z11xht => first | assumption | walk_at "ent"); k_whole; intro h' tk' tk F' N'; (try k_sweep))))) | walk1) | (leave1; (try dsimp only)) | fail "no step"))
  exact ret _ _ _ _ (by k_asm) (by k_asm) (ins_heir (e := ⟨eh, ec, ee⟩) (fun p hp => (hP p hp).mono fun q hq => List.mem_cons_of_mem _ hq) ⟨_, _, _, _, List.mem_cons_self⟩ rfl)
end
def endS (k : Int) : Str := if k = 0 then "\n" else if k = 1 then "\r" else "\r\n"
def letterS (k : Nat) : Str := if k = 0 then "a" else if k = 1 then "b" else if k = 2 then "c" else "d"
def entOf (n : Int) (k : Nat) : Ent := ⟨Int.fmod n 6, letterS k, endS (Int.fmod (Int.fdiv n 6) 3)⟩
def heirs4 (n0 n1 n2 n3 : Int) : List Ent := insE (entOf n3 3) (insE (entOf n2 2) (insE (entOf n1 1) (insE (entOf n0 0) [])))
theorem fmod_range (a : Int) {b : Int} (h : 0 < b) : 0 ≤ Int.fmod a b ∧ Int.fmod a b < b := by
  rw [Int.fmod_eq_emod_of_nonneg a (Int.le_of_lt h)]
  exact ⟨Int.emod_nonneg _ (by omega), Int.emod_lt_of_pos _ h⟩
section
variable {w : World} {p : Program} {loose : List Str} {mean : ExcName → Option Value} {mg mb : Str → Option Value} {A : Around} {h₀ : Heap} {L : Addr} {m : Str → Option Value} {news news' : List (Addr × Obj)} {s : Shared} {Q E : Value → Shared → Prop}
theorem item_ends {value slice : Expr} {l : Addr} {ta tb tc : Tok} {n : Nat} {k : Int} {u : Tok} {Q : Value → Shared → Prop} (N : News h₀ L s.heap news) (hm : (l, listOf #[.str (Str.ofString "\n") ta, .str (Str.ofString "\r") tb, .str (Str.ofString "\r\n") tc] n) ∈ news)
    (h0 : 0 ≤ k) (h1 : k < 3) (h : ∀ tk, Q (.str (endS k) tk) s)
    (hs : subscripted slice false (.ref l) (.int k u) = operate [.ref l, .int k u] (getItem (.ref l) (.int k u)) := by with_unfolding_all rfl) :
    wpAny (MM w) A (subscriptTail value slice (.ref l) (.int k u)) Q E s := by
  obtain rfl | rfl | rfl : k = 0 ∨ k = 1 ∨ k = 2 := by omega
  · exact item_led N hm (by decide) (by decide) rfl (h ta) hs
  · exact item_led N hm (by decide) (by decide) rfl (h tb) hs
  · exact item_led N hm (by decide) (by decide) rfl (h tc) hs
end
section
variable {w : World} {p : Program} {loose : List Str} {mean : ExcName → Option Value} {mg mb : Str → Option Value} {A : Around} {h₀ : Heap} {L : Addr} {m : Str → Option Value} {news news' : List (Addr × Obj)} {s : Shared} {Q E : Value → Shared → Prop}
theorem num_step {ms : List Int} {i : Nat} {a : Int} (h8 : ms.length = 8) (h0 : ∀ x ∈ ms, 0 ≤ x) :
    (ms.set i (ms.getD i 0 + a.fmod 1000000)).length = 8 ∧ ∀ x ∈ ms.set i (ms.getD i 0 + a.fmod 1000000), 0 ≤ x := by
  refine ⟨by rw [List.length_set]; exact h8, fun x hx => ?_⟩
  rcases List.mem_or_eq_of_mem_set hx with h | h
  · exact h0 x h
  · have h1 : 0 ≤ ms.getD i 0 := by
      rw [List.getD_eq_getElem?_getD]
      cases e : ms[i]? with
      | none => exact Int.le_refl 0
      | some y => exact h0 y (List.mem_of_getElem? e)
    have h2 := fmod_range a (show (0 : Int) < 1000000 by decide)
    omega
theorem num_start : ([7, 15, 5, 9, 9, 19, 12, 23] : List Int).length = 8 ∧ ∀ x ∈ ([7, 15, 5, 9, 9, 19, 12, 23] : List Int), 0 ≤ x := by decide
theorem numbers_ok {SL : Addr} {vs : List Value} {ns : List Int} (G : Grd w p loose mean mg mb A h₀ L m news s.heap 60) (hl : h₀.IsList SL vs.toArray) (hi : IntsAre vs ns) (hlen : ns.length ≤ 63)
    (ret : ∀ NL (us : List Value) (ms : List Int) ep h' tk', Fr h₀ L h' m → News h₀ L h' ((NL, listOf us.toArray ep) :: news) → IntsAre us ms → ms.length = 8 → (∀ x ∈ ms, 0 ≤ x) → Q (.ref NL) { s with heap := h', toks := tk' }) :
    wpAny (MM w) A (call (.ref 129) [.ref SL] []) Q E s := by
  (((rename Grd _ _ _ _ _ _ _ _ _ _ _ _ _ => G); refine Grd.elim G ?_; clear G; intro dp un gd cn cs a ccd cl outer A₀ base hA B hk hd hu F X N T; subst hA))
  have N0 : News h₀ L s.heap [] := fun q hq => nomatch hq
  ((k_dflt (refine wpAny_call ?_; (refine' enter_frame ?k1 ?k2 ?k3 ?k4 ?k5 ?kA ?kF ?kK ?k6 ?k7 ?k8 ?k9 ?kB ?_ ?c2 ?c3 ?c4 ?c5; (case kA => exact rfl); (case kF => exact rfl); (case kK => first | exact rfl | assumption); (case k1 => k_asm); (case k2 => k_asm); (case k3 => k_asm); (case k4 => k_asm); (case k5 => k_asm); (case k6 => k_is); (case k7 => k_is); (case k8 => ktr_room); (case k9 => first | exact BindsTo.of_eq rfl | exact binds_K (by k_in) rfl (by k_is) rfl rfl rfl | fail "no binds"); (case c5 => decide); (case kB => exact locs rfl); (case c2 => exact rfl); (case c3 => exact rfl); (case c4 => exact rfl); k_whole))))
  intro g L' h1 hg FG F' N' B' X' T'
  (try dsimp only)
  (try k_lift B')
  (try k_fold)
  clear N0
  have hl' : g.IsList SL vs.toArray := Fr.lst FG hl
  k_with "state" => first | exact num_start | exact num_step (by assumption) (by assumption)
  k_with "pyIter ref" => k_state (fun pre numbers => numbers.length = 8 ∧ ∀ x ∈ numbers, 0 ≤ x) "numbers"
  k_steps
  k_with_none
  refine' ret _ _ _ _ _ _ ?hF ?hN (by assumption) (by assumption) (by assumption)
  case hF => k_asm
  case hN =>
    refine frame_gen (ns := []) N (fun b o e hb => Fr.keep (h₀ := g) (by k_asm) b o (hg b o e hb)) (by k_asm) ?_
    intro q hq
    ((rcases List.mem_cons.mp hq with hq | hq; (refine Or.inl ?_; rw [hq]; k_mem)))
    exact frame_ro (ns := []) N (fun q hq => by cases hq) (fun q hq => by cases hq) hq
end
section
/-- k steps of the matching machine -/
inductive Go : Nat → Sre.M → Sre.M → Prop where
  | nil (m : Sre.M) : Go 0 m m
  | cons {k : Nat} {m m1 m' : Sre.M} : m.outcome.isSome = false → m.step = m1 → Go k m1 m' → Go (k + 1) m m'
theorem Go.trans {k l : Nat} {a b c : Sre.M} (h : Go k a b) (h' : Go l b c) : Go (k + l) a c := by
  induction h with
  | nil => rw [Nat.zero_add]; exact h'
  | cons ho hs _ ih => rw [show ∀ x : Nat, x + 1 + l = (x + l) + 1 from fun x => by omega]; exact .cons ho hs (ih h')
theorem runFor_stay {m : Sre.M} (h : m.outcome.isSome = true) : ∀ n, Sre.M.runFor n m = m
  | 0 => rfl
  | n + 1 => by simp [Sre.M.runFor, h]
theorem Go.run {k : Nat} {m m' : Sre.M} (h : Go k m m') (he : m'.outcome.isSome = true) : ∀ n, k ≤ n → Sre.M.runFor n m = m' := by
  induction h with
  | nil => exact fun n _ => runFor_stay he n
  | cons ho hs _ ih =>
    intro n hn
    cases n with
    | zero => omega
    | succ n =>
      simp only [Sre.M.runFor, ho, Bool.false_eq_true, if_false, hs]
      exact ih he n (by omega)
/-- after four steps: at the end, or the rest is to go -/
theorem Go.four {k : Nat} {m m' : Sre.M} (h : Go k m m') (he : m'.outcome.isSome = true) : ∀ n, n ≤ k → Go (k - n) (Sre.M.runFor n m) m' := by
  induction h with
  | nil => intro n hn; rw [show n = 0 by omega]; exact .nil _
  | cons ho hs g ih =>
    intro n hn
    cases n with
    | zero => exact .cons ho hs g
    | succ n =>
      simp only [Sre.M.runFor, ho, Bool.false_eq_true, if_false, hs]
      rw [show ∀ x : Nat, x + 1 - (n + 1) = x - n from fun x => by omega]
      exact ih he n (by omega)

section
variable {code text : Array Nat} {lim start lastStart : Nat} {wt ma : Bool} {pc pos handed : Nat} {om : Bool} {marks : Array (Option Nat)} {lm li : Int} {loops : Array Sre.Loop} {inner : Option Nat} {frames : List Sre.Frame} {weight : Nat} {seen : Sre.Seen}
abbrev mk (code text : Array Nat) (lim start lastStart : Nat) (wt ma : Bool) (pc pos handed : Nat) (om : Bool) (marks : Array (Option Nat)) (lm li : Int) (loops : Array Sre.Loop) (inner : Option Nat) (frames : List Sre.Frame) (weight : Nat) (answer : Option Bool) (seen : Sre.Seen) (out : Option Sre.Outcome) : Sre.M :=
  { code, text, lim, start, lastStart, wholeText := wt, mustAdvance := ma, pc, pos, handed, outermost := om, marks, lastmark := lm, lastindex := li, loops, inner, frames, weight, answer, seen, outcome := out }
theorem step_exec (hpc : pc < code.size) : (mk code text lim start lastStart wt ma pc pos handed om marks lm li loops inner frames weight none seen none).step = (mk code text lim start lastStart wt ma pc pos handed om marks lm li loops inner frames weight none seen none).exec := by
  show (if pc < code.size then _ else _) = _
  rw [if_pos hpc]
theorem go_lit_ok (hpc : pc < code.size) (hop : Sre.ops[code.getD pc 0]? = some .LITERAL) (hlt : pos < lim) (hc : text.getD pos 0 = code.getD (pc + 1) 0) :
    (mk code text lim start lastStart wt ma pc pos handed om marks lm li loops inner frames weight none seen none).step = mk code text lim start lastStart wt ma (pc + 2) (pos + 1) handed om marks lm li loops inner frames weight none (seen.add (code.getD pc 0)) none := by
  have h2 : ¬ (pos ≥ lim) := by omega
  rw [step_exec hpc]
  simp only [Sre.M.exec, Sre.M.word, Nat.add_zero, hop, h2, if_false, Sre.accepts, Sre.itemWidth, hc, beq_self_eq_true]
theorem go_lit_end (hpc : pc < code.size) (hop : Sre.ops[code.getD pc 0]? = some .LITERAL) (hlt : lim ≤ pos) :
    (mk code text lim start lastStart wt ma pc pos handed om marks lm li loops inner frames weight none seen none).step = mk code text lim start lastStart wt ma pc pos handed om marks lm li loops inner frames weight (some false) (seen.add (code.getD pc 0)) none := by
  have h2 : pos ≥ lim := by omega
  rw [step_exec hpc]
  simp only [Sre.M.exec, Sre.M.word, Nat.add_zero, hop, h2, if_true, Sre.M.say]
theorem go_lit_no (hpc : pc < code.size) (hop : Sre.ops[code.getD pc 0]? = some .LITERAL) (hlt : pos < lim) (hc : text.getD pos 0 ≠ code.getD (pc + 1) 0) :
    (mk code text lim start lastStart wt ma pc pos handed om marks lm li loops inner frames weight none seen none).step = mk code text lim start lastStart wt ma pc pos handed om marks lm li loops inner frames weight (some false) (seen.add (code.getD pc 0)) none := by
  have h2 : ¬ (pos ≥ lim) := by omega
  have h3 : (text.getD pos 0 == code.getD (pc + 1) 0) = false := by simpa using hc
  rw [step_exec hpc]
  simp only [Sre.M.exec, Sre.M.word, Nat.add_zero, hop, h2, if_false, Sre.accepts, h3, Sre.M.say]
theorem go_jump (hpc : pc < code.size) (hop : Sre.ops[code.getD pc 0]? = some .JUMP) :
    (mk code text lim start lastStart wt ma pc pos handed om marks lm li loops inner frames weight none seen none).step = mk code text lim start lastStart wt ma (pc + 1 + code.getD (pc + 1) 0) pos handed om marks lm li loops inner frames weight none (seen.add (code.getD pc 0)) none := by
  rw [step_exec hpc]
  simp only [Sre.M.exec, Sre.M.word, Nat.add_zero, hop]
theorem go_success (hpc : pc < code.size) (hop : Sre.ops[code.getD pc 0]? = some .SUCCESS) (hw : wt = false) (hs : pos ≠ start) :
    (mk code text lim start lastStart wt ma pc pos handed om marks lm li loops inner frames weight none seen none).step = mk code text lim start lastStart wt ma pc pos pos om marks lm li loops inner frames weight (some true) (seen.add (code.getD pc 0)) none := by
  have h3 : (pos == start) = false := by simpa using hs
  rw [step_exec hpc]
  simp only [Sre.M.exec, Sre.M.word, Nat.add_zero, hop, h3, hw, Bool.and_false, Bool.false_and, Bool.or_self, Bool.false_eq_true, if_false, Sre.M.say]
theorem go_at (hpc : pc < code.size) (hop : Sre.ops[code.getD pc 0]? = some .AT) (hk : code.getD (pc + 1) 0 = 1) :
    (mk code text lim start lastStart wt ma pc pos handed om marks lm li loops inner frames weight none seen none).step =
      if (pos == 0 || text.getD (pos - 1) 0 == 10) = true then mk code text lim start lastStart wt ma (pc + 2) pos handed om marks lm li loops inner frames weight none ((seen.add (code.getD pc 0)).add 44) none
      else mk code text lim start lastStart wt ma pc pos handed om marks lm li loops inner frames weight (some false) ((seen.add (code.getD pc 0)).add 44) none := by
  rw [step_exec hpc]
  simp only [Sre.M.exec, Sre.M.word, Nat.add_zero, hop, hk, Sre.M.isAt, Sre.M.say]
theorem go_branch (hpc : pc < code.size) (hop : Sre.ops[code.getD pc 0]? = some .BRANCH) (hn : (code.getD (pc + 1) 0 == 0) = false) (hi : inner = none) (hw : weight ≤ 1000) :
    (mk code text lim start lastStart wt ma pc pos handed om marks lm li loops inner frames weight none seen none).step =
      mk code text lim start lastStart wt ma (pc + 2) pos pos om marks lm li loops inner ({ wait := .nextBranch, pc := pc + 1, pos := pos, outermost := om, kept := { lastmark := lm, lastindex := li, whole := false, marks := #[] } } :: frames) (weight + 1) none (seen.add (code.getD pc 0)) none := by
  subst hi
  rw [step_exec hpc]
  have h3 : ¬ (weight + 1 + 0 > 16777216) := by omega
  simp only [Sre.M.exec, Sre.M.word, Nat.add_zero, hop, Sre.M.alternative, hn, Bool.false_eq_true, if_false, Sre.M.keep, Option.isSome_none, Sre.M.attempt, List.size_toArray, List.length_nil, h3, Sre.M.frame]
theorem go_res {f : Sre.Frame} {yes : Bool} : (mk code text lim start lastStart wt ma pc pos handed om marks lm li loops inner (f :: frames) weight (some yes) seen none).step =
    Sre.M.resume (mk code text lim start lastStart wt ma f.pc f.pos handed f.outermost marks lm li loops inner frames (weight - (1 + f.kept.marks.size)) none seen none) f yes := rfl
theorem go_branch_yes {a b : Nat} {o : Bool} {c : Int} {l : Nat} {bg : Option Nat} {k : Sre.Kept} : (mk code text lim start lastStart wt ma pc pos handed om marks lm li loops inner ({ wait := .nextBranch, pc := a, pos := b, outermost := o, count := c, kept := k, loop := l, began := bg } :: frames) weight (some true) seen none).step =
    mk code text lim start lastStart wt ma a b handed o marks lm li loops inner frames (weight - (1 + k.marks.size)) (some true) seen none := rfl
theorem go_branch_no {a b : Nat} {o : Bool} (hn : (code.getD (a + code.getD a 0) 0 == 0) = false) (hw : weight ≤ 1000) :
    (mk code text lim start lastStart wt ma pc pos handed om marks lm li loops inner ({ wait := .nextBranch, pc := a, pos := b, outermost := o, kept := { lastmark := lm, lastindex := li, whole := false, marks := #[] } } :: frames) weight (some false) seen none).step =
      mk code text lim start lastStart wt ma (a + code.getD a 0 + 1) b b o marks lm li loops inner ({ wait := .nextBranch, pc := a + code.getD a 0, pos := b, outermost := o, kept := { lastmark := lm, lastindex := li, whole := false, marks := #[] } } :: frames) (weight - 1 + 1) none seen none := by
  rw [go_res]
  have h3 : ¬ (weight - (1 + 0) + 1 + 0 > 16777216) := by omega
  simp only [Sre.M.resume, Bool.false_eq_true, if_false, Sre.M.putBack, Sre.M.alternative, hn, Sre.M.attempt, List.size_toArray, List.length_nil, h3, Sre.M.frame, Nat.add_zero]
theorem go_start_yes {a b : Nat} {o : Bool} {c : Int} {l : Nat} {bg : Option Nat} {k : Sre.Kept} : (mk code text lim start lastStart wt ma pc pos handed om marks lm li loops inner ({ wait := .nextStart, pc := a, pos := b, outermost := o, count := c, kept := k, loop := l, began := bg } :: frames) weight (some true) seen none).step =
    mk code text lim start lastStart wt ma a b handed o marks lm li loops inner frames (weight - (1 + k.marks.size)) (some true) seen none := rfl
theorem go_start_no {a b : Nat} {o : Bool} {c : Int} {l : Nat} {bg : Option Nat} (hb : b < lastStart) : (mk code text lim start lastStart wt ma pc pos handed om marks lm li loops inner ({ wait := .nextStart, pc := a, pos := b, outermost := o, count := c, loop := l, began := bg } :: frames) weight (some false) seen none).step =
    (mk code text lim start lastStart wt false a b handed o marks lm li loops inner frames (weight - 1) none seen none).attemptFrom (b + 1) false := by
  rw [go_res]
  simp only [Sre.M.resume, Bool.false_eq_true, if_false, hb, if_true, List.size_toArray, List.length_nil]
theorem go_start_last {a b : Nat} {o : Bool} {c : Int} {l : Nat} {bg : Option Nat} (hb : ¬ b < lastStart) : (mk code text lim start lastStart wt ma pc pos handed om marks lm li loops inner ({ wait := .nextStart, pc := a, pos := b, outermost := o, count := c, loop := l, began := bg } :: frames) weight (some false) seen none).step =
    mk code text lim start lastStart wt ma a b handed o marks lm li loops inner frames (weight - 1) (some false) seen none := by
  rw [go_res]
  simp only [Sre.M.resume, Bool.false_eq_true, if_false, hb, Sre.M.say, List.size_toArray, List.length_nil]
theorem go_looknot_no {a b : Nat} {o : Bool} : (mk code text lim start lastStart wt ma pc pos handed om marks lm li loops inner ({ wait := .lookNot, pc := a, pos := b, outermost := o, kept := { lastmark := lm, lastindex := li, whole := false, marks := #[] } } :: frames) weight (some false) seen none).step =
    mk code text lim start lastStart wt ma (a + 1 + code.getD (a + 1) 0) b handed o marks lm li loops inner frames (weight - 1) none seen none := by
  rw [go_res]
  simp only [Sre.M.resume, Bool.false_eq_true, if_false, Sre.M.putBack, Sre.M.word, List.size_toArray, List.length_nil]
theorem go_assertnot (hpc : pc < code.size) (hop : Sre.ops[code.getD pc 0]? = some .ASSERT_NOT) (hk : code.getD (pc + 2) 0 = 0) (hi : inner = none) (hw : weight ≤ 1000) :
    (mk code text lim start lastStart wt ma pc pos handed om marks lm li loops inner frames weight none seen none).step =
      mk code text lim start lastStart wt ma (pc + 3) pos pos false marks lm li loops inner ({ wait := .lookNot, pc := pc, pos := pos, outermost := om, kept := { lastmark := lm, lastindex := li, whole := false, marks := #[] } } :: frames) (weight + 1) none (seen.add (code.getD pc 0)) none := by
  subst hi
  rw [step_exec hpc]
  have h3 : ¬ (weight + 1 + 0 > 16777216) := by omega
  simp only [Sre.M.exec, Sre.M.word, Nat.add_zero, hop, hk, Nat.not_lt_zero, if_false, if_true, Sre.M.attempt, Sre.M.frame, Sre.M.keep, Option.isSome_none, Bool.and_false, Bool.false_eq_true, List.size_toArray, List.length_nil, h3, Nat.sub_zero]
theorem go_end {yes : Bool} : (mk code text lim start lastStart wt ma pc pos handed om marks lm li loops inner [] weight (some yes) seen none).step =
    mk code text lim start lastStart wt ma pc pos handed om marks lm li loops inner [] weight (some yes) seen (some (if yes then .matched else .failed)) := rfl
theorem at_from (hf : (mk code text lim start lastStart wt ma pc pos handed om marks lm li loops inner frames weight none seen none).hasFirstSet = false) (hw : weight ≤ 1000) {s : Nat} {first : Bool} :
    (mk code text lim start lastStart wt ma pc pos handed om marks lm li loops inner frames weight none seen none).attemptFrom s first =
      mk code text lim s lastStart wt ma pc s s first marks (-1) (-1) loops inner ({ wait := .nextStart, pc := pc, pos := s, outermost := first } :: frames) (weight + 1) none seen none := by
  have h3 : ¬ (weight + 1 + 0 > 16777216) := by omega
  simp only [Sre.M.attemptFrom, hf, Bool.not_false, if_true, Sre.M.attemptAt, Sre.M.attempt, List.size_toArray, List.length_nil, h3, if_false, Nat.add_zero]
theorem at_from_set (hf : (mk code text lim start lastStart wt ma pc pos handed om marks lm li loops inner frames weight none seen none).hasFirstSet = true) (hw : weight ≤ 1000) {s s' : Nat} {seen' : Sre.Seen} {first : Bool}
    (ha : Sre.M.admitted (mk code text lim start lastStart wt ma pc pos handed om marks lm li loops inner frames weight none seen none) (lim + 1 - s) s seen = .ok (some s', seen')) :
    (mk code text lim start lastStart wt ma pc pos handed om marks lm li loops inner frames weight none seen none).attemptFrom s first =
      mk code text lim s' lastStart wt false pc s' s' first marks (-1) (-1) loops inner ({ wait := .nextStart, pc := pc, pos := s', outermost := first } :: frames) (weight + 1) none seen' none := by
  have h3 : ¬ (weight + 1 + 0 > 16777216) := by omega
  simp only [Sre.M.attemptFrom, hf, Bool.not_true, Bool.false_eq_true, if_false, ha, Sre.M.attemptAt, Sre.M.attempt, List.size_toArray, List.length_nil, h3, Nat.add_zero]
theorem at_from_none (hf : (mk code text lim start lastStart wt ma pc pos handed om marks lm li loops inner frames weight none seen none).hasFirstSet = true) {s : Nat} {seen' : Sre.Seen} {first : Bool}
    (ha : Sre.M.admitted (mk code text lim start lastStart wt ma pc pos handed om marks lm li loops inner frames weight none seen none) (lim + 1 - s) s seen = .ok (none, seen')) :
    (mk code text lim start lastStart wt ma pc pos handed om marks lm li loops inner frames weight none seen none).attemptFrom s first =
      mk code text lim start lastStart wt ma pc pos handed om marks lm li loops inner frames weight (some false) seen' none := by
  simp only [Sre.M.attemptFrom, hf, Bool.not_true, Bool.false_eq_true, if_false, ha, Sre.M.say]
end
end
def code1 : Array Nat := #[14, 4, 0, 1, 1, 6, 1, 16, 46, 1]
def code2 : Array Nat := #[14, 9, 4, 1, 2, 16, 10, 16, 13, 0, 7, 7, 16, 13, 16, 10, 15, 18, 5, 16, 10, 15, 13, 11, 16, 13, 5, 5, 0, 16, 10, 1, 15, 2, 0, 1]
def bolAt (text : Array Nat) (s : Nat) : Bool := s == 0 || text.getD (s - 1) 0 == 10
/-- the first place from s on where a line opens with a dot -/
def find1 (text : Array Nat) (lim : Nat) : Nat → Nat → Option (Nat × Nat)
  | 0, _ => none
  | f + 1, s => if s < lim ∧ bolAt text s = true ∧ text.getD s 0 = 46 then some (s, s + 1) else find1 text lim f (s + 1)
/-- the machine has ended as the search tells -/
def Found (r : Option (Nat × Nat)) (m : Sre.M) : Prop := match r with
  | some (b, e) => m.outcome = some .matched ∧ m.start = b ∧ m.handed = e
  | none => m.outcome = some .failed
theorem Found.ends {r : Option (Nat × Nat)} {m : Sre.M} (h : Found r m) : m.outcome.isSome = true := by
  cases r with
  | none => rw [show m.outcome = _ from h]; rfl
  | some p => rw [h.1]; rfl
section
variable {text : Array Nat} {lim : Nat}
abbrev st1 (text : Array Nat) (lim s : Nat) (ma om : Bool) (seen : Sre.Seen) : Sre.M :=
  mk code1 text lim s lim false ma 5 s s om #[] (-1) (-1) #[] none [{ wait := .nextStart, pc := 5, pos := s, outermost := om }] 1 none seen none
theorem search1 : ∀ (f s : Nat) (ma om : Bool) (seen : Sre.Seen), s + f = lim → ∃ k m', k ≤ 5 * f + 8 ∧ Go k (st1 text lim s ma om seen) m' ∧ Found (find1 text lim (f + 1) s) m' := by
  intro f
  induction f with
  | zero =>
    intro s ma om seen hs
    have hf : find1 text lim 1 s = none := by
      have : ¬ s < lim := by omega
      simp [find1, this]
    rw [hf]
    have hlast : ¬ s < lim := by omega
    by_cases hb : (s == 0 || text.getD (s - 1) 0 == 10) = true
    · exact ⟨_, _, Nat.le_of_ble_eq_true rfl, .cons rfl ((go_at (by decide) rfl rfl).trans (if_pos hb)) (.cons rfl (go_lit_end (by decide) rfl (by omega)) (.cons rfl (go_start_last hlast) (.cons rfl go_end (.nil _)))), rfl⟩
    · exact ⟨_, _, Nat.le_of_ble_eq_true rfl, .cons rfl ((go_at (by decide) rfl rfl).trans (if_neg hb)) (.cons rfl (go_start_last hlast) (.cons rfl go_end (.nil _))), rfl⟩
  | succ f ih =>
    intro s ma om seen hs
    have hlt : s < lim := by omega
    by_cases hc : bolAt text s = true ∧ text.getD s 0 = 46
    · have hf : find1 text lim (f + 1 + 1) s = some (s, s + 1) := by
        rw [find1, if_pos ⟨hlt, hc⟩]
      rw [hf]
      exact ⟨_, _, by omega, .cons rfl ((go_at (by decide) rfl rfl).trans (if_pos hc.1)) (.cons rfl (go_lit_ok (by decide) rfl hlt hc.2) (.cons rfl (go_success (by decide) rfl rfl (by omega)) (.cons rfl go_start_yes (.cons rfl go_end (.nil _))))), rfl, rfl, rfl⟩
    · have hf : find1 text lim (f + 1 + 1) s = find1 text lim (f + 1) (s + 1) := by
        rw [find1, if_neg (fun h => hc h.2)]
      rw [hf]
      by_cases hb : bolAt text s = true
      · have h46 : text.getD s 0 ≠ 46 := fun h => hc ⟨hb, h⟩
        obtain ⟨k, m', hk, g, hF⟩ := ih (s + 1) false false (((seen.add 6).add 44).add 16) (by omega)
        exact ⟨_, m', by omega, .cons rfl ((go_at (by decide) rfl rfl).trans (if_pos hb)) (.cons rfl (go_lit_no (by decide) rfl hlt h46) (.cons rfl ((go_start_no hlt).trans (at_from rfl (by decide))) g)), hF⟩
      · obtain ⟨k, m', hk, g, hF⟩ := ih (s + 1) false false ((seen.add 6).add 44) (by omega)
        exact ⟨_, m', by omega, .cons rfl ((go_at (by decide) rfl rfl).trans (if_neg hb)) (.cons rfl ((go_start_no hlt).trans (at_from rfl (by decide))) g), hF⟩
theorem forSearch1 {s : Nat} (hs : s ≤ lim) : ∃ k m', k ≤ 5 * lim + 10 ∧ Go k (Sre.forSearch code1 text 0 s lim false) m' ∧ Found (find1 text lim (lim + 1 - s) s) m' := by
  by_cases he : s = lim
  · subst he
    have hf : find1 text s (s + 1 - s) s = none := by
      rw [show s + 1 - s = 1 by omega]
      simp [find1]
    rw [hf]
    have e : Sre.forSearch code1 text 0 s s false = mk code1 text s s 0 false false 5 s s true #[] (-1) (-1) #[] none [] 0 (some false) (({} : Sre.Seen).add 14) none := by
      have h1 : (decide (s > s) || decide (s - s < (Sre.header code1).1)) = true := by
        rw [Nat.sub_self]
        simp [show (Sre.header code1).1 = 1 from rfl]
      exact if_pos h1
    have g : Go 1 (Sre.forSearch code1 text 0 s s false) (mk code1 text s s 0 false false 5 s s true #[] (-1) (-1) #[] none [] 0 (some false) (({} : Sre.Seen).add 14) (some .failed)) := by
      rw [e]
      exact .cons rfl go_end (.nil _)
    exact ⟨_, _, by omega, g, rfl⟩
  · have hlt : s < lim := by omega
    obtain ⟨k, m', hk, g, hF⟩ := search1 (text := text) (lim := lim) (lim - s) s false true (({} : Sre.Seen).add 14) (by omega)
    rw [show lim + 1 - s = lim - s + 1 by omega]
    refine ⟨k, m', by omega, ?_, hF⟩
    have e : Sre.forSearch code1 text 0 s lim false = st1 text lim s false true (({} : Sre.Seen).add 14) := by
      have h1 : ¬ (decide (s > lim) || decide (lim - s < (Sre.header code1).1)) = true := by
        rw [show (Sre.header code1).1 = 1 from rfl]
        simp
        omega
      exact (if_neg h1).trans (at_from rfl (Nat.zero_le _))
    rw [e]
    exact g
end
/-- the next place from s on that holds a line feed or a return -/
def adm2 (text : Array Nat) (lim : Nat) : Nat → Nat → Option Nat
  | 0, _ => none
  | f + 1, s => if s ≥ lim then none else if (text.getD s 0 == 10 || text.getD s 0 == 13) = true then some s else adm2 text lim f (s + 1)
/-- the end of the line's end that stands at p -/
def len2 (text : Array Nat) (lim p : Nat) : Nat := if text.getD p 0 = 13 ∧ p + 1 < lim ∧ text.getD (p + 1) 0 = 10 then p + 2 else p + 1
def find2 (text : Array Nat) (lim f s : Nat) : Option (Nat × Nat) := (adm2 text lim f s).map fun p => (p, len2 text lim p)
theorem inSet2 (c : Nat) (seen : Sre.Seen) : ∃ seen', Sre.inSet code2 c code2.size 5 true seen = .ok ((c == 10 || c == 13), seen') := by
  by_cases h1 : (c == 10) = true
  · exact ⟨_, by rw [show (c == 10 || c == 13) = true by rw [h1]; rfl]; exact if_pos h1⟩
  · by_cases h2 : (c == 13) = true
    · exact ⟨_, by rw [show (c == 10 || c == 13) = true by rw [h2, Bool.or_true]]; exact (if_neg h1).trans (if_pos h2)⟩
    · exact ⟨_, by rw [Bool.eq_false_iff.mpr h1, Bool.eq_false_iff.mpr h2]; exact (if_neg h1).trans (if_neg h2)⟩
theorem admitted2 {m : Sre.M} (hc : m.code = code2) : ∀ (f s : Nat) (seen : Sre.Seen), ∃ seen', Sre.M.admitted m f s seen = .ok (adm2 m.text m.lim f s, seen') := by
  intro f
  induction f with
  | zero => exact fun s seen => ⟨seen, rfl⟩
  | succ f ih =>
    intro s seen
    unfold Sre.M.admitted adm2
    by_cases h : s ≥ m.lim
    · exact ⟨seen, by rw [if_pos h, if_pos h]⟩
    · rw [if_neg h, if_neg h, hc]
      obtain ⟨seen', e⟩ := inSet2 (m.text.getD s 0) seen
      rw [e]
      cases hb : (m.text.getD s 0 == 10 || m.text.getD s 0 == 13) with
      | true => exact ⟨seen', by simp⟩
      | false =>
        obtain ⟨seen'', e'⟩ := ih (s + 1) seen'
        exact ⟨seen'', by simpa using e'⟩
section
variable {text : Array Nat} {lim : Nat}
abbrev st2 (text : Array Nat) (lim p : Nat) (seen : Sre.Seen) : Sre.M :=
  mk code2 text lim p lim false false 10 p p true #[] (-1) (-1) #[] none [{ wait := .nextStart, pc := 10, pos := p, outermost := true }] 1 none seen none
theorem match2 {p : Nat} {seen : Sre.Seen} (hp : p < lim) (hc : (text.getD p 0 == 10 || text.getD p 0 == 13) = true) : ∃ k m', k ≤ 30 ∧ Go k (st2 text lim p seen) m' ∧ Found (some (p, len2 text lim p)) m' := by
  have hn : ∀ a b : Nat, a + b + 1 ≠ a := fun a b => by omega
  by_cases h10 : text.getD p 0 = 10
  · have hl : len2 text lim p = p + 1 := if_neg (fun h => by rw [h10] at h; exact absurd h.1 (by decide))
    have h13 : text.getD p 0 ≠ code2.getD (12 + 1) 0 := by rw [h10]; decide
    rw [hl]
    exact ⟨_, _, Nat.le_of_ble_eq_true rfl, .cons rfl (go_branch (by decide) rfl rfl rfl (by decide)) (.cons rfl (go_lit_no (by decide) rfl hp h13) (.cons rfl (go_branch_no rfl (by decide)) (.cons rfl (go_lit_ok (by decide) rfl hp h10)
      (.cons rfl (go_jump (by decide) rfl) (.cons rfl (go_success (by decide) rfl rfl (by omega)) (.cons rfl go_branch_yes (.cons rfl go_start_yes (.cons rfl go_end (.nil _))))))))), rfl, rfl, rfl⟩
  · have h13 : text.getD p 0 = 13 := by
      rcases Bool.or_eq_true_iff.mp hc with h | h
      · exact absurd (beq_iff_eq.mp h) h10
      · exact beq_iff_eq.mp h
    by_cases hcr : p + 1 < lim ∧ text.getD (p + 1) 0 = 10
    · have hl : len2 text lim p = p + 2 := if_pos ⟨h13, hcr⟩
      rw [hl]
      exact ⟨_, _, Nat.le_of_ble_eq_true rfl, .cons rfl (go_branch (by decide) rfl rfl rfl (by decide)) (.cons rfl (go_lit_ok (by decide) rfl hp h13) (.cons rfl (go_lit_ok (by decide) rfl hcr.1 hcr.2)
        (.cons rfl (go_jump (by decide) rfl) (.cons rfl (go_success (by decide) rfl rfl (by omega)) (.cons rfl go_branch_yes (.cons rfl go_start_yes (.cons rfl go_end (.nil _)))))))), rfl, rfl, rfl⟩
    · have hl : len2 text lim p = p + 1 := if_neg (fun h => hcr h.2)
      have hA : text.getD p 0 ≠ code2.getD (19 + 1) 0 := by rw [h13]; decide
      rw [hl]
      by_cases he : p + 1 < lim
      · have hB : text.getD (p + 1) 0 ≠ 10 := fun h => hcr ⟨he, h⟩
        exact ⟨_, _, Nat.le_of_ble_eq_true rfl, .cons rfl (go_branch (by decide) rfl rfl rfl (by decide)) (.cons rfl (go_lit_ok (by decide) rfl hp h13) (.cons rfl (go_lit_no (by decide) rfl he hB) (.cons rfl (go_branch_no rfl (by decide))
          (.cons rfl (go_lit_no (by decide) rfl hp hA) (.cons rfl (go_branch_no rfl (by decide)) (.cons rfl (go_lit_ok (by decide) rfl hp h13) (.cons rfl (go_assertnot (by decide) rfl rfl rfl (by decide)) (.cons rfl (go_lit_no (by decide) rfl he hB)
          (.cons rfl go_looknot_no (.cons rfl (go_jump (by decide) rfl) (.cons rfl (go_success (by decide) rfl rfl (by omega)) (.cons rfl go_branch_yes (.cons rfl go_start_yes (.cons rfl go_end (.nil _))))))))))))))), rfl, rfl, rfl⟩
      · exact ⟨_, _, Nat.le_of_ble_eq_true rfl, .cons rfl (go_branch (by decide) rfl rfl rfl (by decide)) (.cons rfl (go_lit_ok (by decide) rfl hp h13) (.cons rfl (go_lit_end (by decide) rfl (by omega)) (.cons rfl (go_branch_no rfl (by decide))
          (.cons rfl (go_lit_no (by decide) rfl hp hA) (.cons rfl (go_branch_no rfl (by decide)) (.cons rfl (go_lit_ok (by decide) rfl hp h13) (.cons rfl (go_assertnot (by decide) rfl rfl rfl (by decide)) (.cons rfl (go_lit_end (by decide) rfl (by omega))
          (.cons rfl go_looknot_no (.cons rfl (go_jump (by decide) rfl) (.cons rfl (go_success (by decide) rfl rfl (by omega)) (.cons rfl go_branch_yes (.cons rfl go_start_yes (.cons rfl go_end (.nil _))))))))))))))), rfl, rfl, rfl⟩
theorem adm2_mem : ∀ {f s p : Nat}, adm2 text lim f s = some p → s ≤ p ∧ p < lim ∧ (text.getD p 0 == 10 || text.getD p 0 == 13) = true
  | 0, _, _, h => by cases h
  | f + 1, s, p, h => by
    unfold adm2 at h
    split at h
    · cases h
    · rename_i h1
      split at h
      · rename_i h2
        cases h
        exact ⟨Nat.le_refl _, by omega, h2⟩
      · obtain ⟨a, b, c⟩ := adm2_mem h
        exact ⟨by omega, b, c⟩
theorem forSearch2 {s : Nat} (hs : s ≤ lim) : ∃ k m', k ≤ 5 * lim + 40 ∧ Go k (Sre.forSearch code2 text 0 s lim false) m' ∧ Found (find2 text lim (lim + 1 - s) s) m' := by
  by_cases he : s = lim
  · subst he
    have hf : find2 text s (s + 1 - s) s = none := by
      rw [show s + 1 - s = 1 by omega]
      simp [find2, adm2]
    rw [hf]
    have e : Sre.forSearch code2 text 0 s s false = mk code2 text s s 0 false false 10 s s true #[] (-1) (-1) #[] none [] 0 (some false) (({} : Sre.Seen).add 14) none := by
      have h1 : (decide (s > s) || decide (s - s < (Sre.header code2).1)) = true := by
        rw [Nat.sub_self]
        simp [show (Sre.header code2).1 = 1 from rfl]
      exact if_pos h1
    have g : Go 1 (Sre.forSearch code2 text 0 s s false) (mk code2 text s s 0 false false 10 s s true #[] (-1) (-1) #[] none [] 0 (some false) (({} : Sre.Seen).add 14) (some .failed)) := by
      rw [e]
      exact .cons rfl go_end (.nil _)
    exact ⟨_, _, by omega, g, rfl⟩
  · have hlt : s < lim := by omega
    have h1 : ¬ (decide (s > lim) || decide (lim - s < (Sre.header code2).1)) = true := by
      rw [show (Sre.header code2).1 = 1 from rfl]
      simp
      omega
    have e0 : Sre.forSearch code2 text 0 s lim false = (mk code2 text lim s lim false false 10 s s true #[] (-1) (-1) #[] none [] 0 none (({} : Sre.Seen).add 14) none).attemptFrom s true := if_neg h1
    obtain ⟨seen', ea⟩ := admitted2 (m := mk code2 text lim s lim false false 10 s s true #[] (-1) (-1) #[] none [] 0 none (({} : Sre.Seen).add 14) none) rfl (lim + 1 - s) s (({} : Sre.Seen).add 14)
    cases hA : adm2 text lim (lim + 1 - s) s with
    | none =>
      have hf : find2 text lim (lim + 1 - s) s = none := by unfold find2; rw [hA]; rfl
      rw [hf, e0, at_from_none rfl (ea.trans (by rw [hA]))]
      exact ⟨_, _, by omega, .cons rfl go_end (.nil _), rfl⟩
    | some p =>
      have hf : find2 text lim (lim + 1 - s) s = some (p, len2 text lim p) := by unfold find2; rw [hA]; rfl
      obtain ⟨_, hp, hc⟩ := adm2_mem hA
      rw [hf, e0, at_from_set rfl (Nat.zero_le _) (ea.trans (by rw [hA]))]
      obtain ⟨k, m', hk, g, hF⟩ := match2 (seen := seen') hp hc
      exact ⟨k, m', by omega, g, hF⟩
end
section
variable {w : World} {A : Around} {E : Value → Shared → Prop} {s : Shared}
open PySem.Builtin.Re
theorem drive_ok {m' : Sre.M} {r : Option (Nat × Nat)} {Q : Sre.M → Shared → Prop} (hF : Found r m') (q : Q m' s) : ∀ (turns : Nat) (k : Nat) (m : Sre.M), Go k m m' → k ≤ 4 * turns → 0 < turns → wpAny (MM w) A (reDrive turns m) Q E s := by
  intro turns
  induction turns with
  | zero => intro k m g hk h0; omega
  | succ t ih =>
    intro k m g hk h0
    unfold reDrive
    by_cases h4 : k ≤ 4
    · have e : Sre.M.runFor reTurnSteps m = m' := g.run hF.ends 4 h4
      simp only [e, hF.ends, if_true]
      exact wpAny_pure q
    · have g4 := g.four hF.ends 4 (by omega)
      by_cases ho : (Sre.M.runFor reTurnSteps m).outcome.isSome = true
      · have e : Sre.M.runFor reTurnSteps m = m' := by
          have h1 := g4.run hF.ends (k - 4) (Nat.le_refl _)
          rw [show Sre.M.runFor 4 m = Sre.M.runFor reTurnSteps m from rfl, runFor_stay ho] at h1
          exact h1
        simp only [e, hF.ends, if_true]
        exact wpAny_pure q
      · simp only [ho, Bool.false_eq_true, if_false]
        exact wpAny_bind (wpAny_rule (ih (k - 4) _ g4 (by omega) (by omega)))
theorem marks_ok {Q : PUnit → Shared → Prop} (c : Nat → Bool) (nm : Nat → String) (q : Q PUnit.unit s) : ∀ l : List Nat,
    wpAny (MM w) A (forIn l PUnit.unit fun i _ => do
      if c i then rule (nm i)
      pure (ForInStep.yield PUnit.unit)) Q E s := by
  intro l
  induction l with
  | nil => exact wpAny_pure q
  | cons i l ih =>
    rw [List.forIn_cons]
    refine wpAny_bind ?_
    cases c i with
    | true => exact wpAny_bind (wpAny_rule (wpAny_pure ih))
    | false => exact wpAny_pure ih
theorem runToEnd_ok {k : Nat} {m m' : Sre.M} {r : Option (Nat × Nat)} {Q : Option Sre.M → Shared → Prop} (g : Go k m m') (hk : k ≤ 100000000) (hF : Found r m') (q : Q (r.map fun _ => m') s) : wpAny (MM w) A (reRunToEnd m) Q E s := by
  unfold reRunToEnd
  have hp : (2 : Nat) ^ 64 = 18446744073709551616 := by decide
  refine wpAny_bind (drive_ok hF ?_ _ k m g (by omega) (by omega))
  refine wpAny_bind (marks_ok _ _ ?_ _)
  cases r with
  | none =>
    rw [show m'.outcome = _ from hF]
    exact wpAny_pure q
  | some p =>
    rw [hF.1]
    exact wpAny_pure q
end
theorem slot_sub : Slot "re.Pattern" "sub" "re.Pattern.sub" :=
  .of (owner := "re.Pattern") (n := "sub") (by rw [typeLookup_type, builtinLookup_eq_fast]; kernel_rfl) (by decide +kernel) (by decide +kernel) (by decide +kernel)
    (by first | exact .inl (by decide +kernel) | exact .inr (by decide +kernel)) (by rw [isSubtype_type]; kernel_rfl)
theorem type_sub : typeOf (.builtin "re.Pattern.sub") = pure (.type "method_descriptor") := by show builtinType _ = _; rw [builtinType_eq_fast]; kernel_rfl
theorem entry_sub : entryFor table "re.Pattern.sub" = some Builtin.«re.Pattern.sub» := entryFor_of_tree (by kernel_rfl)
theorem entry_sub_loop : entryFor table "re.Pattern.sub.loop" = some Builtin.«re.Pattern.sub.loop» := entryFor_of_tree (by kernel_rfl)
theorem plain_sub : plainId "re.Pattern.sub" = true := by decide +kernel
theorem plain_sub_loop : plainId "re.Pattern.sub.loop" = true := by decide +kernel
theorem args_sub (a b c : Value) : argsOk "re.Pattern.sub" ⟨[a, b, c], []⟩ := by unfold argsOk; kernel_rfl
theorem plainAttrs_pattern : PlainAttrs "re.Pattern" :=
  ⟨⟨"object.__getattribute__", by rw [typeLookup_type, builtinLookup_eq_fast]; kernel_rfl, by decide +kernel⟩, by rw [typeLookup_type, builtinLookup_eq_fast]; kernel_rfl⟩
/-- the text with each found part put for another, from s on -/
def subFrom (fnd : Nat → Option (Nat × Nat)) (rp l : List Nat) : Nat → Nat → List Nat
  | 0, _ => []
  | f + 1, s => match fnd s with
    | none => l.drop s
    | some (b, e) => (l.drop s).take (b - s) ++ rp ++ subFrom fnd rp l f e
def texts (ss : List Str) : List Nat := ss.flatMap fun x => x.cps.toList
theorem texts_append (a b : List Str) : texts (a ++ b) = texts a ++ texts b := by simp [texts]
theorem texts_one (x : Str) : texts [x] = x.cps.toList := by simp [texts]
theorem glued_empty : ∀ ss : List Str, (Txt.join ⟨#[]⟩ ss).cps.toList = texts ss := by
  have key : ∀ (l : List Str) (a : Array Nat), (l.foldl (fun acc (p : Str) => acc ++ (#[] : Array Nat) ++ p.cps) a).toList = a.toList ++ texts l := by
    intro l
    induction l with
    | nil => intro a; simp [texts]
    | cons x r ih => intro a; rw [List.foldl_cons, ih]; simp [texts]
  intro ss
  cases ss with
  | nil => rfl
  | cons x r =>
    show ((r.foldl (fun acc (p : Str) => acc ++ (#[] : Array Nat) ++ p.cps) x.cps)).toList = _
    rw [key]
    simp [texts]
section
variable {w : World} {A : Around} {E : Value → Shared → Prop} {s : Shared} {h₀ : Heap} {L : Addr} {m : Str → Option Value} {news : List (Addr × Obj)}
open PySem.Builtin.Re
theorem noCall_str : typeLookup (.type "str") (Str.ofString "__call__") = pure none := by rw [typeLookup_type, builtinLookup_eq_fast]; kernel_rfl
theorem push_ok {P9 : Addr} {vs : List Value} {n : Nat} {x : Value} {Q : Unit → Shared → Prop} (F : Fr h₀ L s.heap m) (N : News h₀ L s.heap ((P9, listOf vs.toArray n) :: news)) (hne : ∀ p ∈ news, p.1 ≠ P9) (hz : vs.length ≤ 100000)
    (h : ∀ h', Fr h₀ L h' m → News h₀ L h' ((P9, listOf (vs ++ [x]).toArray (n + 1)) :: news) → Q () { s with heap := h' }) : wpAny (MM w) A (updateSeq P9 (·.push x)) Q E s := by
  have z := N (P9, listOf vs.toArray n) (.head _)
  refine wpAny_updateSeq (hz := by rw [sizeLine_eq, List.size_toArray]; omega) (_hz' := by rw [sizeLine_eq, Array.size_push, List.size_toArray]; omega) z.1 rfl (h _ (F.change (Heap.SameBut.update ..) z.2.1 z.2.2) ?_)
  refine news_set (pre := []) N (fun _ h => nomatch h) hne (Heap.SameBut.update ..) ?_
  have e : Obj.mapSeq (·.push x) (listOf vs.toArray n) = listOf (vs ++ [x]).toArray (n + 1) := by
    rw [mapSeq_push, List.push_toArray]
  rw [Heap.get?_update_self _ z.1 (by rw [e]; rfl), e]
theorem slice_ok {text : Array Nat} {b e : Nat} {Q : Value → Shared → Prop} (hz : text.size ≤ 100000) (h : Q (.str ⟨text.extract b e⟩ s.toks) { s with toks := s.toks + 1 }) : wpAny (MM w) A (reSlice text 0 b e) Q E s := by
  refine wpAny_mkStr h ?_
  show (text.extract b e).size ≤ sizeLine
  rw [sizeLine_eq, Array.size_extract]
  omega
theorem loop_ok {Pt P9 : Addr} {code : Array Nat} {x rp : Str} {tkx tkr : Tok} (fnd : Nat → Option (Nat × Nat)) (X : (hd.heap_39 w.params).In h₀)
    (ht : ∀ h : Heap, (hd.heap_39 w.params).In h → Looks (MM w) h (reWholeTarget (.ref Pt) (.str x tkx)) ⟨.ref Pt, .str x tkx, code, x.cps, 0, 0, 0, x.cps.size⟩)
    (hs : ∀ st, st ≤ x.cps.size → ∃ k m', k ≤ 100000000 ∧ Go k (Sre.forSearch code x.cps 0 st x.cps.size false) m' ∧ Found (fnd st) m')
    (hf : ∀ st b e, fnd st = some (b, e) → st ≤ b ∧ b < e ∧ e ≤ x.cps.size) (hx : x.cps.size ≤ 1000) (hrp : rp.cps.size ≤ 10) (hne : ∀ p ∈ news, p.1 ≠ P9) {R : Result → Shared → Prop} :
    ∀ (f st : Nat) (n : Int) (s : Shared) (vs : List Value) (ss : List Str) (ep : Nat), st ≤ x.cps.size → x.cps.size - st < f → StrsAre vs ss → vs.length ≤ 2 * st → (ss.map (·.length)).sum ≤ 11 * st →
      Fr h₀ L s.heap m → News h₀ L s.heap ((P9, listOf vs.toArray ep) :: news) →
      (∀ h' tk' t, Fr h₀ L h' m → News h₀ L h' news → R (.ok (.ret (.str ⟨(texts ss ++ subFrom fnd rp.cps.toList x.cps.toList f st).toArray⟩ t))) { s with heap := h', toks := tk' }) →
      codeAny (MM w) A (.builtin "re.Pattern.sub.loop" ⟨[.ref Pt, .str x tkx, .str rp tkr, rawInt 0, rawInt 0, rawInt n, rawInt st, rawInt st, .bool false, .ref P9, .bool false], []⟩) R s := by
  intro f
  induction f with
  | zero => intro st n s vs ss ep h1 h2; omega
  | succ f ih =>
    intro st n s vs ss ep h1 h2 hv hl hsum F N back
    refine codeAny_builtinAt entry_sub_loop (wpAt_of_wpAny ?_)
    rw [Around.under_plainId plain_sub_loop _]
    unfold Builtin.«re.Pattern.sub.loop»
    refine wpAny_bind ((ht _ (X.keeps F.keep)).here ?_)
    refine wpAny_bind (wpAny_pure ?_)
    dsimp only
    rw [if_neg (show ¬ (((0 : Int) != 0 && decide (n ≥ 0)) = true) by simp)]
    obtain ⟨k, m', hk, g, hF⟩ := hs st h1
    refine wpAny_bind (runToEnd_ok (m := Sre.forSearch code x.cps 0 st x.cps.size false) g hk hF ?_)
    cases hr : fnd st with
    | none =>
      have hsub : subFrom fnd rp.cps.toList x.cps.toList (f + 1) st = x.cps.toList.drop st := by simp [subFrom, hr]
      rw [hsub] at back
      simp only [Option.map_none]
      have fin : ∀ (s' : Shared) (vs' : List Value) (ss' : List Str) (ep' : Nat), s'.gens = s.gens → s'.drawn = s.drawn → s'.os = s.os → StrsAre vs' ss' → vs'.length ≤ 3000 → (ss'.map (·.length)).sum ≤ 20000 → texts ss' = texts ss ++ x.cps.toList.drop st → Fr h₀ L s'.heap m → News h₀ L s'.heap ((P9, listOf vs'.toArray ep') :: news) →
          wpAny (MM w) A.in1 (do
            let joiner ← reSlice x.cps 0 0 0
            let text ← if ((← seqItems? (.ref P9)).getD #[]).isEmpty then pure joiner else call (.builtin (if (0 : Nat) == 0 then "str.join" else "bytes.join")) [joiner, .ref P9]
            if false = true then PySem.ret (← holding [text] do newTuple [text, ← mkInt n]) else PySem.ret text)
            (fun (fin : PySem.Fin) s' => match fin with | .done f => R (.ok f) s' | .again c' => c'.quiet = true ∧ codeAny (MM w) A c' R s') (fun e s' => R (.error e) s') s' := by
        intro s' vs' ss' ep' e1 e2 e3 hv' hl' hsum' ht' F' N'
        refine wpAny_bind (slice_ok (by omega) ?_)
        have z := N' (P9, listOf vs'.toArray ep') (.head _)
        have hq : ∀ t k, R (.ok (.ret (.str ⟨(texts ss').toArray⟩ t))) { s' with toks := k } := by
          intro t k
          rw [ht']
          obtain ⟨hp', g', d', tk', os'⟩ := s'
          dsimp only at e1 e2 e3 F' N'
          subst e1 e2 e3
          exact back hp' k t F' fun p hp => N' p (List.mem_cons_of_mem _ hp)
        refine wpAny_bind ?_
        refine wpAny_bind (wpAny_load z.1 (wpAny_pure ?_))
        have e0 : x.cps.extract 0 0 = #[] := by simp
        rw [e0]
        cases vs' with
        | nil =>
          cases hv'
          exact wpAny_pure (hq _ _)
        | cons v r =>
          simp only [Option.getD_some, List.isEmpty_toArray, List.isEmpty_cons, Bool.false_eq_true, if_false]
          refine wpAny_bind (join_listC (x := ⟨#[]⟩) (items := (v :: r).toArray) (ys := ss') ⟨_, z.1, rfl, _, rfl⟩ (by simpa using hv') (by decide) ?_ ?_)
          · have := hv'.length
            have e3 : (ss'.map fun x => x.length).sum ≤ 20000 := hsum'
            omega
          · intro t' k
            have e4 : Txt.join ⟨#[]⟩ ss' = ⟨(texts ss').toArray⟩ := by
              have := glued_empty ss'
              rw [← this]
            rw [e4]
            exact wpAny_pure (hq _ _)
      by_cases hd : (st : Int).toNat < x.cps.size
      · rw [if_pos hd]
        refine wpAny_bind (slice_ok (by omega) ?_)
        refine wpAny_bind (push_ok F N hne (by omega) fun h' F' N' => ?_)
        refine fin _ _ (ss ++ [⟨x.cps.extract st x.cps.size⟩]) _ rfl rfl rfl (StrsAre.append' hv (.cons _ _ .nil)) (by simp; omega) ?_ ?_ F' N'
        · have hsum2 : (ss.map fun x => x.cps.size).sum ≤ 11 * st := hsum
          simp [Str.length]
          omega
        · rw [texts_append, texts_one]
          simp
          exact List.take_of_length_le (by simp)
      · rw [if_neg hd]
        refine fin _ _ ss _ rfl rfl rfl hv (by omega) (by omega) ?_ F N
        have : x.cps.size ≤ st := by omega
        rw [List.drop_eq_nil_of_le (by simpa using this), List.append_nil]
    | some be =>
      obtain ⟨b, e⟩ := be
      obtain ⟨hb1, hb2, hb3⟩ := hf st b e hr
      rw [hr] at hF
      obtain ⟨_, e1, e2⟩ := hF
      have hsub : subFrom fnd rp.cps.toList x.cps.toList (f + 1) st = (x.cps.toList.drop st).take (b - st) ++ rp.cps.toList ++ subFrom fnd rp.cps.toList x.cps.toList f e := by simp [subFrom, hr]
      rw [hsub] at back
      simp only [Option.map_some]
      have hsum2 : (ss.map fun x => x.cps.size).sum ≤ 11 * st := hsum
      have fin : ∀ (s' : Shared) (vs' : List Value) (ss' : List Str) (ep' : Nat), s'.gens = s.gens → s'.drawn = s.drawn → s'.os = s.os → StrsAre vs' ss' → vs'.length ≤ 2 * st + 1 → (ss'.map (·.length)).sum ≤ 11 * st + (b - st) → texts ss' = texts ss ++ (x.cps.toList.drop st).take (b - st) → Fr h₀ L s'.heap m → News h₀ L s'.heap ((P9, listOf vs'.toArray ep') :: news) →
          wpAny (MM w) A.in1 (do
            let item ← pure (Value.str rp tkr)
            if (item != .none) = true then updateSeq P9 fun x => x.push item
            again (.builtin "re.Pattern.sub.loop" ⟨[.ref Pt, .str x tkx, .str rp tkr, rawInt 0, rawInt 0, rawInt (n + 1), rawInt m'.handed, rawInt m'.handed, .bool (m'.handed == m'.start), .ref P9, .bool false], []⟩))
            (fun (fin : PySem.Fin) s' => match fin with | .done f => R (.ok f) s' | .again c' => c'.quiet = true ∧ codeAny (MM w) A c' R s') (fun e s' => R (.error e) s') s' := by
        intro s' vs' ss' ep' g1 g2 g3 hv' hl' hsum' ht' F' N'
        refine wpAny_bind (wpAny_pure ?_)
        refine wpAny_bind (push_ok F' N' hne (by omega) fun h' F2 N2 => ?_)
        refine wpAny_pure ⟨plainId_quiet plain_sub_loop _, ?_⟩
        have hbe : (m'.handed == m'.start) = false := by
          rw [e1, e2]
          simp
          omega
        rw [hbe, e2]
        have hl2 : (vs' ++ [Value.str rp tkr]).length ≤ 2 * e := by simp; omega
        have hs2 : ((ss' ++ [rp]).map (·.length)).sum ≤ 11 * e := by
          have hsum3 : (ss'.map fun x => x.cps.size).sum ≤ 11 * st + (b - st) := hsum'
          simp [Str.length]
          omega
        refine ih e (n + 1) _ _ (ss' ++ [rp]) _ hb3 (by omega) (StrsAre.append' hv' (.cons _ _ .nil)) hl2 hs2 F2 N2 fun h3 tk3 t3 F3 N3 => ?_
        rw [texts_append, texts_one, ht']
        obtain ⟨hp', g', d', tk', os'⟩ := s'
        dsimp only at g1 g2 g3 F' N'
        subst g1 g2 g3
        have := back h3 tk3 t3 F3 N3
        simpa only [List.append_assoc] using this
      by_cases hd : (st : Int).toNat < m'.start
      · rw [if_pos hd]
        refine wpAny_bind (slice_ok (by omega) ?_)
        refine wpAny_bind (push_ok F N hne (by omega) fun h' F' N' => ?_)
        refine fin _ _ (ss ++ [⟨x.cps.extract st m'.start⟩]) _ rfl rfl rfl (StrsAre.append' hv (.cons _ _ .nil)) (by simp; omega) ?_ ?_ F' N'
        · rw [e1]
          simp [Str.length]
          omega
        · rw [texts_append, texts_one, e1]
          simp
      · rw [if_neg hd]
        refine fin _ _ ss _ rfl rfl rfl hv (by omega) (by omega) ?_ F N
        rw [e1] at hd
        have : b - st = 0 := by simp at hd; omega
        rw [this]
        simp
theorem sub_ok {Pt : Addr} {code : Array Nat} {x rp : Str} {tkx tkr : Tok} {ob : Obj} (fnd : Nat → Option (Nat × Nat)) (X : (hd.heap_39 w.params).In h₀)
    (hob : (hd.heap_39 w.params).lookup Pt = some ob) (hcl : ob.cls = .type "re.Pattern")
    (ht : ∀ h : Heap, (hd.heap_39 w.params).In h → Looks (MM w) h (reWholeTarget (.ref Pt) (.str x tkx)) ⟨.ref Pt, .str x tkx, code, x.cps, 0, 0, 0, x.cps.size⟩)
    (hs : ∀ st, st ≤ x.cps.size → ∃ k m', k ≤ 100000000 ∧ Go k (Sre.forSearch code x.cps 0 st x.cps.size false) m' ∧ Found (fnd st) m')
    (hf : ∀ st b e, fnd st = some (b, e) → st ≤ b ∧ b < e ∧ e ≤ x.cps.size) (hx : x.cps.size ≤ 1000) (hrp : rp.cps.size ≤ 10) (h92 : rp.cps.contains 92 = false) {Q : Value → Shared → Prop}
    (F : Fr h₀ L s.heap m) (N : News h₀ L s.heap news)
    (back : ∀ h' tk' t, Fr h₀ L h' m → News h₀ L h' news → Q (.str ⟨(subFrom fnd rp.cps.toList x.cps.toList (x.cps.size + 1) 0).toArray⟩ t) { s with heap := h', toks := tk' }) :
    wpAny (MM w) A (call (.builtin "re.Pattern.sub") [.ref Pt, .str rp tkr, .str x tkx]) Q E s := by
  have hT : s.TypeIs (.ref Pt) "re.Pattern" := ⟨ob, X.keeps F.keep _ _ hob, hcl⟩
  refine wpAny_call (codeAny_call_builtin slot_sub.plain entry_sub (slot_sub.check _ _ _ _ _ _ _ _ hT (args_sub _ _ _) ?_))
  show wpAny _ _ (reSubstitute "re.Pattern.sub" "sub" false ⟨[.ref Pt, .str rp tkr, .str x tkx], []⟩) _ _ _
  unfold reSubstitute
  refine wpAny_bind (wpAny_of_eq (a := [some (.str rp tkr), some (.str x tkx), none]) rfl ?_)
  dsimp only
  refine wpAny_bind (wpAny_pure ?_)
  refine wpAny_bind (wpAny_specialOf (typeIs_str _ _ _) noCall_str ?_)
  rw [show (none : Option Value).isSome = false from rfl, if_neg Bool.false_ne_true]
  refine wpAny_bind (wpAny_pure ?_)
  refine wpAny_bind (wpAny_pure ?_)
  rw [h92, if_neg Bool.false_ne_true, if_pos (show (!false) = true from rfl)]
  refine wpAny_bind (wpAny_pure ?_)
  refine wpAny_bind (wpAny_holding ((ht _ (X.keeps F.keep)).here ?_))
  rw [if_neg (show ¬ (((0 : Int) == 1) = true) by decide)]
  refine wpAny_bind (newList_K F N fun l h' F' N' hl => ?_)
  refine wpAny_pure ⟨plainId_quiet plain_sub_loop _, ?_⟩
  refine loop_ok fnd X ht hs hf hx hrp (fun p hp => Nat.ne_of_lt (hl p hp)) (x.cps.size + 1) 0 0 _ [] [] 0 (Nat.zero_le _) (by omega) .nil (by simp) (by simp) F' N' fun h2 tk2 t2 F2 N2 => ?_
  exact back h2 tk2 t2 F2 N2
end
section
/-- every line that opens with a dot gets one more (b: a line begins here) -/
def dots : Bool → List Nat → List Nat
  | _, [] => []
  | b, c :: r => if b = true ∧ c = 46 then 46 :: 46 :: dots false r else c :: dots (c == 10) r
/-- every line's end made a return and a line feed (p: a return stands just behind) -/
def crlfS : Bool → List Nat → List Nat
  | _, [] => []
  | p, c :: r => if p = true ∧ c = 10 then crlfS false r else if c = 13 then 13 :: 10 :: crlfS true r else if c = 10 then 13 :: 10 :: crlfS false r else c :: crlfS false r
theorem crlfS_true {l : List Nat} (h : l.head? ≠ some 10) : crlfS true l = crlfS false l := by
  cases l with
  | nil => rfl
  | cons c r =>
    have hc : c ≠ 10 := fun e => h (by rw [e]; rfl)
    simp [crlfS, hc]
section
variable {text : Array Nat} {lim : Nat}
theorem drop_at (hl : lim = text.size) {s : Nat} (h : s < lim) : text.toList.drop s = text.getD s 0 :: text.toList.drop (s + 1) := by
  subst hl
  rw [List.drop_eq_getElem_cons (by simpa using h)]
  congr 1
  simp [Array.getD, h]
theorem find1_spec (hl : lim = text.size) : ∀ (g s : Nat), s + g = lim + 1 → match find1 text lim g s with
    | none => dots (bolAt text s) (text.toList.drop s) = text.toList.drop s
    | some (b, e) => s ≤ b ∧ b < e ∧ e ≤ lim ∧ dots (bolAt text s) (text.toList.drop s) = (text.toList.drop s).take (b - s) ++ [46, 46] ++ dots (bolAt text e) (text.toList.drop e) := by
  intro g
  induction g with
  | zero =>
    intro s hs
    have : text.toList.drop s = [] := List.drop_eq_nil_of_le (by simp; omega)
    simp [find1, this, dots]
  | succ g ih =>
    intro s hs
    unfold find1
    by_cases h : s < lim ∧ bolAt text s = true ∧ text.getD s 0 = 46
    · rw [if_pos h]
      refine ⟨Nat.le_refl _, by omega, by omega, ?_⟩
      have hb : bolAt text (s + 1) = false := by
        unfold bolAt
        rw [show s + 1 - 1 = s by omega, h.2.2]
        simp
      rw [drop_at hl h.1, h.2.2, h.2.1, hb]
      simp [dots]
    · rw [if_neg h]
      by_cases hlt : s < lim
      · have h1 := ih (s + 1) (by omega)
        have hb : bolAt text (s + 1) = (text.getD s 0 == 10) := by
          unfold bolAt
          rw [show s + 1 - 1 = s by omega]
          simp
        have hstep : dots (bolAt text s) (text.toList.drop s) = text.getD s 0 :: dots (bolAt text (s + 1)) (text.toList.drop (s + 1)) := by
          rw [drop_at hl hlt, dots, if_neg (fun x => h ⟨hlt, x⟩), hb]
        rw [hstep]
        cases hf : find1 text lim g (s + 1) with
        | none =>
          rw [hf] at h1
          dsimp only at h1 ⊢
          rw [h1, ← drop_at hl hlt]
        | some be =>
          obtain ⟨b, e⟩ := be
          rw [hf] at h1
          dsimp only at h1 ⊢
          obtain ⟨a1, a2, a3, a4⟩ := h1
          refine ⟨by omega, a2, a3, ?_⟩
          rw [a4, drop_at hl hlt, show b - s = (b - (s + 1)) + 1 by omega, List.take_succ_cons]
          simp
      · have hg : find1 text lim g (s + 1) = none := by
          cases g with
          | zero => rfl
          | succ g => omega
        rw [hg]
        have : text.toList.drop s = [] := List.drop_eq_nil_of_le (by simp; omega)
        simp [this, dots]
theorem sub1_spec (hl : lim = text.size) : ∀ (f s : Nat), s ≤ lim → lim - s < f → subFrom (fun st => find1 text lim (lim + 1 - st) st) [46, 46] text.toList f s = dots (bolAt text s) (text.toList.drop s) := by
  intro f
  induction f with
  | zero => intro s h1 h2; omega
  | succ f ih =>
    intro s h1 h2
    have h := find1_spec hl (lim + 1 - s) s (by omega)
    unfold subFrom
    cases hf : find1 text lim (lim + 1 - s) s with
    | none =>
      rw [hf] at h
      exact h.symm
    | some be =>
      obtain ⟨b, e⟩ := be
      rw [hf] at h
      dsimp only at h ⊢
      obtain ⟨a1, a2, a3, a4⟩ := h
      rw [a4, ih e a3 (by omega)]
theorem find2_spec (hl : lim = text.size) : ∀ (g s : Nat), s + g = lim + 1 → match find2 text lim g s with
    | none => crlfS false (text.toList.drop s) = text.toList.drop s
    | some (b, e) => s ≤ b ∧ b < e ∧ e ≤ lim ∧ crlfS false (text.toList.drop s) = (text.toList.drop s).take (b - s) ++ [13, 10] ++ crlfS false (text.toList.drop e) := by
  intro g
  induction g with
  | zero =>
    intro s hs
    have : text.toList.drop s = [] := List.drop_eq_nil_of_le (by simp; omega)
    simp [find2, adm2, this, crlfS]
  | succ g ih =>
    intro s hs
    by_cases hlt : s < lim
    · have hge : ¬ s ≥ lim := by omega
      by_cases hc : (text.getD s 0 == 10 || text.getD s 0 == 13) = true
      · have hf : find2 text lim (g + 1) s = some (s, len2 text lim s) := by
          unfold find2 adm2
          rw [if_neg hge, if_pos hc]
          rfl
        rw [hf]
        dsimp only
        unfold len2
        by_cases h2 : text.getD s 0 = 13 ∧ s + 1 < lim ∧ text.getD (s + 1) 0 = 10
        · rw [if_pos h2]
          refine ⟨Nat.le_refl _, by omega, by omega, ?_⟩
          rw [drop_at hl hlt, drop_at hl h2.2.1, h2.1, h2.2.2]
          simp [crlfS]
        · rw [if_neg h2]
          refine ⟨Nat.le_refl _, by omega, by omega, ?_⟩
          rw [drop_at hl hlt]
          by_cases h13 : text.getD s 0 = 13
          · have hh : (text.toList.drop (s + 1)).head? ≠ some 10 := by
              by_cases hn : s + 1 < lim
              · rw [drop_at hl hn]
                intro e
                exact h2 ⟨h13, hn, by simpa using e⟩
              · rw [List.drop_eq_nil_of_le (by simp; omega)]
                simp
            rw [h13]
            simp [crlfS, crlfS_true hh]
          · have h10 : text.getD s 0 = 10 := by
              rcases Bool.or_eq_true_iff.mp hc with h | h
              · exact beq_iff_eq.mp h
              · exact absurd (beq_iff_eq.mp h) h13
            rw [h10]
            simp [crlfS]
      · have hf : find2 text lim (g + 1) s = find2 text lim g (s + 1) := by
          unfold find2
          conv => lhs; unfold adm2
          rw [if_neg hge, if_neg hc]
        have h10 : text.getD s 0 ≠ 10 := fun e => hc (by rw [e]; rfl)
        have h13 : text.getD s 0 ≠ 13 := fun e => hc (by rw [e]; rfl)
        have h1 := ih (s + 1) (by omega)
        have hstep : crlfS false (text.toList.drop s) = text.getD s 0 :: crlfS false (text.toList.drop (s + 1)) := by
          rw [drop_at hl hlt, crlfS, if_neg (by simp), if_neg h13, if_neg h10]
        rw [hf, hstep]
        cases hf2 : find2 text lim g (s + 1) with
        | none =>
          rw [hf2] at h1
          dsimp only at h1 ⊢
          rw [h1, ← drop_at hl hlt]
        | some be =>
          obtain ⟨b, e⟩ := be
          rw [hf2] at h1
          dsimp only at h1 ⊢
          obtain ⟨a1, a2, a3, a4⟩ := h1
          refine ⟨by omega, a2, a3, ?_⟩
          rw [a4, drop_at hl hlt, show b - s = (b - (s + 1)) + 1 by omega, List.take_succ_cons]
          simp
    · have hf : find2 text lim (g + 1) s = none := by
        unfold find2 adm2
        rw [if_pos (by omega)]
        rfl
      rw [hf]
      have : text.toList.drop s = [] := List.drop_eq_nil_of_le (by simp; omega)
      simp [this, crlfS]
theorem sub2_spec (hl : lim = text.size) : ∀ (f s : Nat), s ≤ lim → lim - s < f → subFrom (fun st => find2 text lim (lim + 1 - st) st) [13, 10] text.toList f s = crlfS false (text.toList.drop s) := by
  intro f
  induction f with
  | zero => intro s h1 h2; omega
  | succ f ih =>
    intro s h1 h2
    have h := find2_spec hl (lim + 1 - s) s (by omega)
    unfold subFrom
    cases hf : find2 text lim (lim + 1 - s) s with
    | none =>
      rw [hf] at h
      exact h.symm
    | some be =>
      obtain ⟨b, e⟩ := be
      rw [hf] at h
      dsimp only at h ⊢
      obtain ⟨a1, a2, a3, a4⟩ := h
      rw [a4, ih e a3 (by omega)]
end

theorem find1_some {text : Array Nat} {lim : Nat} {s b e : Nat} (hl : lim = text.size) (h : find1 text lim (lim + 1 - s) s = some (b, e)) : s ≤ b ∧ b < e ∧ e ≤ lim := by
  have hs : s ≤ lim := by
    apply Nat.le_of_not_lt
    intro hn
    rw [show lim + 1 - s = 0 by omega] at h
    cases h
  have := find1_spec hl (lim + 1 - s) s (by omega)
  rw [h] at this
  exact ⟨this.1, this.2.1, this.2.2.1⟩
theorem find2_some {text : Array Nat} {lim : Nat} {s b e : Nat} (hl : lim = text.size) (h : find2 text lim (lim + 1 - s) s = some (b, e)) : s ≤ b ∧ b < e ∧ e ≤ lim := by
  have hs : s ≤ lim := by
    apply Nat.le_of_not_lt
    intro hn
    rw [show lim + 1 - s = 0 by omega] at h
    cases h
  have := find2_spec hl (lim + 1 - s) s (by omega)
  rw [h] at this
  exact ⟨this.1, this.2.1, this.2.2.1⟩
section
variable {w : World} {p : Program} {loose : List Str} {mean : ExcName → Option Value} {mg mb : Str → Option Value} {A : Around} {h₀ : Heap} {L : Addr} {m : Str → Option Value} {news : List (Addr × Obj)} {s : Shared} {Q E : Value → Shared → Prop}
open PySem.Builtin.Re
theorem target1 {x : Str} {tk : Tok} {h : Heap} (X : (hd.heap_39 w.params).In h) : Looks (MM w) h (reWholeTarget (.ref 110) (.str x tk)) ⟨.ref 110, .str x tk, code1, x.cps, 0, 0, 0, x.cps.size⟩ := Looks.of_peek X (by kernel_rfl)
theorem target2 {x : Str} {tk : Tok} {h : Heap} (X : (hd.heap_39 w.params).In h) : Looks (MM w) h (reWholeTarget (.ref 115) (.str x tk)) ⟨.ref 115, .str x tk, code2, x.cps, 0, 0, 0, x.cps.size⟩ := Looks.of_peek X (by kernel_rfl)
theorem sub1_ok {x rp : Str} {tkx tkr : Tok} (X : (hd.heap_39 w.params).In h₀) (hr : rp = ⟨#[46, 46]⟩) (hx : x.cps.size ≤ 1000) (F : Fr h₀ L s.heap m) (N : News h₀ L s.heap news)
    (back : ∀ h' tk' t, Fr h₀ L h' m → News h₀ L h' news → Q (.str ⟨(dots true x.cps.toList).toArray⟩ t) { s with heap := h', toks := tk' }) :
    wpAny (MM w) A (call (.builtin "re.Pattern.sub") [.ref 110, .str rp tkr, .str x tkx]) Q E s := by
  subst hr
  have hlk : ∃ ob, (hd.heap_39 w.params).lookup 110 = some ob ∧ ob.cls = .type "re.Pattern" := ⟨_, rfl, rfl⟩
  obtain ⟨ob, h1, h2⟩ := hlk
  refine sub_ok (fun st => find1 x.cps x.cps.size (x.cps.size + 1 - st) st) X h1 h2 (fun h X => target1 X) (fun st hst => ?_) (fun st b e he => find1_some rfl he) hx (by decide) (by decide +kernel) F N fun h' tk' t F' N' => ?_
  · obtain ⟨k, m', hk, g, hF⟩ := forSearch1 (text := x.cps) hst
    exact ⟨k, m', by omega, g, hF⟩
  · rw [sub1_spec rfl _ 0 (Nat.zero_le _) (by omega)]
    exact back h' tk' t F' N'
theorem sub2_ok {x rp : Str} {tkx tkr : Tok} (X : (hd.heap_39 w.params).In h₀) (hr : rp = ⟨#[13, 10]⟩) (hx : x.cps.size ≤ 1000) (F : Fr h₀ L s.heap m) (N : News h₀ L s.heap news)
    (back : ∀ h' tk' t, Fr h₀ L h' m → News h₀ L h' news → Q (.str ⟨(crlfS false x.cps.toList).toArray⟩ t) { s with heap := h', toks := tk' }) :
    wpAny (MM w) A (call (.builtin "re.Pattern.sub") [.ref 115, .str rp tkr, .str x tkx]) Q E s := by
  subst hr
  have hlk : ∃ ob, (hd.heap_39 w.params).lookup 115 = some ob ∧ ob.cls = .type "re.Pattern" := ⟨_, rfl, rfl⟩
  obtain ⟨ob, h1, h2⟩ := hlk
  refine sub_ok (fun st => find2 x.cps x.cps.size (x.cps.size + 1 - st) st) X h1 h2 (fun h X => target2 X) (fun st hst => ?_) (fun st b e he => find2_some rfl he) hx (by decide) (by decide +kernel) F N fun h' tk' t F' N' => ?_
  · obtain ⟨k, m', hk, g, hF⟩ := forSearch2 (text := x.cps) hst
    exact ⟨k, m', by omega, g, hF⟩
  · rw [sub2_spec rfl _ 0 (Nat.zero_le _) (by omega)]
    exact back h' tk' t F' N'
end

section
variable {w : World} {p : Program} {loose : List Str} {mean : ExcName → Option Value} {mg mb : Str → Option Value} {A : Around} {h₀ : Heap} {L : Addr} {m : Str → Option Value} {news : List (Addr × Obj)} {s : Shared} {Q E : Value → Shared → Prop}
theorem method_sub {Pt : Addr} {ob : Obj} {pl : Sem Bool} {Q : Value × List Value → Shared → Prop} (X : (hd.heap_39 w.params).In h₀) (F : Fr h₀ L s.heap m) (hob : (hd.heap_39 w.params).lookup Pt = some ob) (hcl : ob.cls = .type "re.Pattern") (hdi : ob.dict = none)
    (h : Q (.builtin "re.Pattern.sub", [.ref Pt]) s) : wpAny (MM w) A (getMethod (.ref Pt) (Str.ofString "sub") pl) Q E s :=
  getMethod_builtin ⟨_, X.keeps F.keep _ _ hob, hcl⟩ plainAttrs_pattern slot_sub type_sub (fun a e => by cases e; exact ⟨_, X.keeps F.keep _ _ hob, hdi⟩) h
def quoted (l : List Nat) : List Nat := dots true (crlfS false l)
theorem crlfS_len : ∀ (b : Bool) (l : List Nat), (crlfS b l).length ≤ 2 * l.length
  | _, [] => by simp [crlfS]
  | b, c :: r => by
    have h1 := crlfS_len true r
    have h2 := crlfS_len false r
    unfold crlfS
    split
    · simp; omega
    · split
      · simp; omega
      · split <;> simp <;> omega
set_option hygiene false in
local macro_rules | `(tactic| walk_at "text fits") => `(tactic| first | omega | ((have := crlfS_len false x.cps.toList); (simp only [List.size_toArray, Array.length_toList] at *); omega))
theorem quo_ok {x : Str} {tkx : Tok} (G : Grd w p loose mean mg mb A h₀ L m news s.heap 10) (hx : x.cps.size ≤ 400)
    (ret : ∀ h' tk' t, Fr h₀ L h' m → News h₀ L h' news → Q (.str ⟨(quoted x.cps.toList).toArray⟩ t) { s with heap := h', toks := tk' }) :
    wpAny (MM w) A (call (.ref 122) [.str x tkx] []) Q E s := by
  (((rename Grd _ _ _ _ _ _ _ _ _ _ _ _ _ => G); refine Grd.elim G ?_; clear G; intro dp un gd cn cs a ccd cl outer A₀ base hA B hk hd hu F X N T; subst hA))
  walk_at "call ref"
  (repeat' (first | (k_unfold; (try dsimp only)) | (k_end; kc_close) | (with_reducible ((with_reducible show wpAny _ _ (call (Value.builtin "re.Pattern.sub") _ _) _ _ _); (k_here; k_dflt (first | (refine' sub1_ok ?z23xX ?z23xr ?z23xx ?z23xF ?z23xN ?_; (case z23xX => k_asm); (case z23xr => rfl); (case z23xx => walk_at "text fits"); (case z23xF => k_asm); (case z23xN => k_asm); k_whole; intro h' tk' t' F' N'; (try k_sweep)) | (refine' sub2_ok ?z23xX ?z23xr ?z23xx ?z23xF ?z23xN ?_; (case z23xX => k_asm); (case z23xr => rfl); (case z23xx => walk_at "text fits"); (case z23xF => k_asm); (case z23xN => k_asm); k_whole; intro h' tk' t' F' N'; (try k_sweep)))))) | (with_reducible ((k_here; (with_reducible show wpAny _ _ (getMethod (Value.ref _) (PySem.Str.ofString "sub") _) _ _ _); k_dflt (refine' method_sub ?z24xX ?z24xF ?z24xl ?z24xc ?z24xd ?_; (case z24xX => k_asm); (case z24xF => k_asm); (case z24xl => k_is); (case z24xc => rfl); (case z24xd => rfl); k_whole)))) | walk1 | (dsimp only; first | (with_reducible ((with_reducible show wpAny _ _ (call (Value.builtin "re.Pattern.sub") _ _) _ _ _); (k_here; k_dflt (first | (refine' sub1_ok ?z23xX ?z23xr ?z23xx ?z23xF ?z23xN ?_; (case z23xX => k_asm); (case z23xr => rfl); (case z23xx => walk_at "text fits"); (case z23xF => k_asm); (case z23xN => k_asm); k_whole; intro h' tk' t' F' N'; (try k_sweep)) | (refine' sub2_ok ?z23xX ?z23xr ?z23xx ?z23xF ?z23xN ?_; (case z23xX => k_asm); (case z23xr => rfl); (case z23xx => walk_at "text fits"); (case z23xF => k_asm); (case z23xN => k_asm); k_whole; intro h' tk' t' F' N'; (try k_sweep)))))) | (with_reducible ((k_here; (with_reducible show wpAny _ _ (getMethod (Value.ref _) (PySem.Str.ofString "sub") _) _ _ _); k_dflt (refine' method_sub ?z24xX ?z24xF ?z24xl ?z24xc ?z24xd ?_; (case z24xX => k_asm); (case z24xF => k_asm); (case z24xl => k_is); (case z24xc => rfl); (case z24xd => rfl); k_whole)))) | walk1) | (leave1; (try dsimp only)) | fail "no step"))
  exact ret _ _ _ (by k_asm) (by k_asm)
end
end
section
open PySem.Builtin.Str PySem.StrLaws
/-- lines, a return and a line feed behind each -/
def segs : List (List Nat) → List Nat
  | [] => []
  | l :: r => l ++ 13 :: 10 :: segs r
abbrev crlf2 : Str := ⟨#[13, 10]⟩
theorem at_crlf {x : Str} {k : Nat} : At x crlf2 x.length k ↔ x.cps.toList[k]? = some 13 ∧ x.cps.toList[k + 1]? = some 10 := by
  have hl : crlf2.length = 2 := rfl
  have hlen : x.length = x.cps.toList.length := by simp [Str.length]
  unfold At
  rw [subAt_eq, hl, hlen]
  generalize x.cps.toList = L
  constructor
  · rintro ⟨h1, h2⟩
    have h3 : (L.drop k).take 2 = [13, 10] := eq_of_beq h2
    have e1 : (L.drop k)[0]? = some 13 := by
      have := congrArg (fun l : List Nat => l[0]?) h3
      simpa [List.getElem?_take] using this
    have e2 : (L.drop k)[1]? = some 10 := by
      have := congrArg (fun l : List Nat => l[1]?) h3
      simpa [List.getElem?_take] using this
    rw [List.getElem?_drop] at e1 e2
    exact ⟨by simpa using e1, e2⟩
  · rintro ⟨h1, h2⟩
    have hk : k + 1 < L.length := (List.getElem?_eq_some_iff.mp h2).1
    refine ⟨by omega, ?_⟩
    rw [List.drop_eq_getElem_cons (by omega), List.drop_eq_getElem_cons hk]
    have a1 : L[k] = 13 := by
      have := List.getElem?_eq_getElem (l := L) (i := k) (by omega)
      rw [h1] at this
      exact (Option.some.inj this).symm
    have a2 : L[k + 1] = 10 := by
      have := List.getElem?_eq_getElem (l := L) (i := k + 1) hk
      rw [h2] at this
      exact (Option.some.inj this).symm
    rw [a1, a2]
    rfl
theorem parts_segs {x : Str} : ∀ (ls : List (List Nat)) (a : Nat) (cuts : List Nat) (f : Nat), x.cps.toList.drop a = segs ls → a ≤ x.length → (∀ l ∈ ls, 13 ∉ l) → ChainG x crlf2 x.length a cuts f → (∀ k, f ≤ k → ¬ At x crlf2 x.length k) →
    partsFrom x 2 a cuts = ls.map (fun l => (⟨l.toArray⟩ : Str)) ++ [⟨#[]⟩]
  | [], a, cuts, f, hd, ha, _, hG, hn => by
    have hlen : x.length = x.cps.toList.length := by simp [Str.length]
    have hend : x.cps.toList.length ≤ a := by
      have := congrArg List.length hd
      simp [segs] at this
      simp
      omega
    have hnone : ∀ k, a ≤ k → ¬ At x crlf2 x.length k := by
      intro k hk hA
      have := (at_crlf.mp hA).1
      rw [List.getElem?_eq_none (by omega)] at this
      cases this
    cases cuts with
    | nil =>
      show [strSub x a x.length] = [_]
      congr 1
      apply Str.ext'
      apply Array.toList_inj.mp
      rw [strSub_toList, hd]
      simp [segs]
    | cons c r => exact absurd hG.2.1 (hnone c hG.1)
  | l :: r, a, cuts, f, hd, ha, hf, hG, hn => by
    have hlen : x.length = x.cps.toList.length := by simp [Str.length]
    have hd' : x.cps.toList.drop a = l ++ 13 :: 10 :: segs r := hd
    have hget : ∀ j, x.cps.toList[a + j]? = (l ++ 13 :: 10 :: segs r)[j]? := by
      intro j
      rw [← hd', List.getElem?_drop]
    have hAt : At x crlf2 x.length (a + l.length) := by
      refine at_crlf.mpr ⟨?_, ?_⟩
      · rw [hget, List.getElem?_append_right (Nat.le_refl _)]
        simp
      · rw [Nat.add_assoc, hget, List.getElem?_append_right (by omega)]
        simp
    have hno : ∀ k, a ≤ k → k < a + l.length → ¬ At x crlf2 x.length k := by
      intro k h1 h2 hA
      have h3 := (at_crlf.mp hA).1
      rw [show k = a + (k - a) by omega, hget, List.getElem?_append_left (by omega)] at h3
      exact hf l (.head _) (List.mem_of_getElem? h3)
    have hlen2 : a + l.length + 2 ≤ x.length := by
      have := congrArg List.length hd'
      simp at this
      rw [hlen]
      simp
      omega
    cases cuts with
    | nil =>
      have e : f = a := hG
      exact absurd hAt (hn _ (by omega))
    | cons c q =>
      obtain ⟨g1, g2, g3, g4⟩ := hG
      have hc : c = a + l.length := by
        rcases Nat.lt_trichotomy c (a + l.length) with h | h | h
        · exact absurd g2 (hno c g1 h)
        · exact h
        · exact absurd hAt (g3 _ (by omega) h)
      subst hc
      have hd2 : x.cps.toList.drop (a + l.length + 2) = segs r := by
        rw [show a + l.length + 2 = a + (l.length + 2) by omega, ← List.drop_drop, hd']
        rw [show l ++ 13 :: 10 :: segs r = (l ++ [13, 10]) ++ segs r by simp]
        exact List.drop_left' (by simp)
      have ih := parts_segs r (a + l.length + 2) q f hd2 hlen2 (fun l' h' => hf l' (List.mem_cons_of_mem _ h')) g4 hn
      show strSub x a (a + l.length) :: partsFrom x 2 (a + l.length + 2) q = _
      rw [ih]
      have e1 : strSub x a (a + l.length) = (⟨l.toArray⟩ : Str) := by
        apply Str.ext'
        apply Array.toList_inj.mp
        rw [strSub_toList, hd']
        simp
      rw [e1]
      rfl
theorem split_segs {ls : List (List Nat)} (hne : ls ≠ []) (hf : ∀ l ∈ ls, 13 ∉ l) : Txt.split ⟨(segs ls).toArray⟩ crlf2 = ls.map (fun l => (⟨l.toArray⟩ : Str)) ++ [⟨#[]⟩] := by
  have hx : (⟨(segs ls).toArray⟩ : Str).cps.toList = segs ls := by simp
  have hl2 : 2 ≤ (segs ls).length := by
    cases ls with
    | nil => exact absurd rfl hne
    | cons l r => simp [segs]; omega
  obtain ⟨f, hG, hn⟩ := occ_tight (⟨(segs ls).toArray⟩ : Str) crlf2 (by decide)
  have hp := parts_segs (x := ⟨(segs ls).toArray⟩) ls 0 _ f (by simp) (Nat.zero_le _) hf hG hn
  unfold Txt.split
  have h1 : ¬ ((decide ((⟨(segs ls).toArray⟩ : Str).length < crlf2.length) || decide (Builtin.Str.strKind (⟨(segs ls).toArray⟩ : Str) < Builtin.Str.strKind crlf2)) = true) := by
    have a1 : ¬ ((⟨(segs ls).toArray⟩ : Str).length < crlf2.length) := by
      show ¬ ((segs ls).toArray.size < 2)
      simp
      omega
    have a2 : ¬ (Builtin.Str.strKind (⟨(segs ls).toArray⟩ : Str) < Builtin.Str.strKind crlf2) := by
      have : Builtin.Str.strKind crlf2 = 1 := by decide +kernel
      rw [this]
      unfold Builtin.Str.strKind
      split
      · omega
      · split <;> omega
    simp [a1, a2]
  rw [if_neg h1]
  have h2 : (occurrences (⟨(segs ls).toArray⟩ : Str) crlf2 0 (⟨(segs ls).toArray⟩ : Str).length ((⟨(segs ls).toArray⟩ : Str).length + 1)).isEmpty = false := by
    cases e : occurrences (⟨(segs ls).toArray⟩ : Str) crlf2 0 (⟨(segs ls).toArray⟩ : Str).length ((⟨(segs ls).toArray⟩ : Str).length + 1) with
    | nil =>
      rw [e] at hp
      have := congrArg List.length hp
      have h3 : ls.length ≠ 0 := fun h => hne (List.length_eq_zero_iff.mp h)
      simp [partsFrom] at this
      exact absurd this hne
    | cons c r => rfl
  rw [h2, if_neg Bool.false_ne_true, partsBetween_eq]
  exact hp
end
/-- a dot ahead gets one more -/
def stuff : List Nat → List Nat
  | [] => []
  | c :: r => if c = 46 then 46 :: 46 :: r else c :: r
def RowOk (l : List Nat) : Prop := l ≠ [] ∧ ∀ c ∈ l, c ≠ 10 ∧ c ≠ 13
def EndOk (e : List Nat) : Prop := e = [10] ∨ e = [13] ∨ e = [13, 10]
def mailOf (ls : List (List Nat × List Nat)) : List Nat := ls.flatMap fun p => p.1 ++ p.2
theorem crlf_free : ∀ (l r : List Nat), (∀ c ∈ l, c ≠ 10 ∧ c ≠ 13) → crlfS false (l ++ r) = l ++ crlfS false r
  | [], _, _ => rfl
  | c :: l, r, h => by
    have h1 := h c (.head _)
    have ih := crlf_free l r fun d hd => h d (List.mem_cons_of_mem _ hd)
    rw [List.cons_append, crlfS, if_neg (by simp), if_neg h1.2, if_neg h1.1, ih]
    rfl
theorem mail_head : ∀ {ls : List (List Nat × List Nat)}, (∀ p ∈ ls, RowOk p.1) → (mailOf ls).head? ≠ some 10
  | [], _ => by simp [mailOf]
  | p :: r, h => by
    obtain ⟨h1, h2⟩ := h p (.head _)
    cases hp : p.1 with
    | nil => exact absurd hp h1
    | cons c l =>
      rw [hp] at h2
      have := (h2 c (.head _)).1
      simpa [mailOf, hp] using this
theorem crlf_mail : ∀ {ls : List (List Nat × List Nat)}, (∀ p ∈ ls, RowOk p.1 ∧ EndOk p.2) → crlfS false (mailOf ls) = segs (ls.map (·.1))
  | [], _ => rfl
  | p :: r, h => by
    obtain ⟨h1, h2⟩ := h p (.head _)
    have hr := fun q hq => h q (List.mem_cons_of_mem _ hq)
    have ih := crlf_mail hr
    have hh := mail_head (ls := r) fun q hq => (hr q hq).1
    have e : mailOf (p :: r) = p.1 ++ (p.2 ++ mailOf r) := by simp [mailOf]
    rw [e, crlf_free _ _ h1.2]
    show _ = p.1 ++ 13 :: 10 :: segs (r.map (·.1))
    rw [← ih]
    congr 1
    rcases h2 with h | h | h
    · rw [h]
      simp [crlfS]
    · rw [h]
      simp [crlfS, crlfS_true hh]
    · rw [h]
      simp [crlfS]
theorem dots_free : ∀ (l r : List Nat), (∀ c ∈ l, c ≠ 10 ∧ c ≠ 13) → dots false (l ++ 13 :: 10 :: r) = l ++ 13 :: 10 :: dots true r
  | [], r, _ => by simp [dots]
  | c :: l, r, h => by
    have h1 := (h c (.head _)).1
    have ih := dots_free l r fun d hd => h d (List.mem_cons_of_mem _ hd)
    have hc : (c == 10) = false := by simpa using h1
    rw [List.cons_append, dots, if_neg (by simp), hc, ih]
    rfl
theorem dots_segs : ∀ {ls : List (List Nat)}, (∀ l ∈ ls, RowOk l) → dots true (segs ls) = segs (ls.map stuff)
  | [], _ => rfl
  | l :: r, h => by
    obtain ⟨h1, h2⟩ := h l (.head _)
    have ih := dots_segs (ls := r) fun q hq => h q (List.mem_cons_of_mem _ hq)
    cases l with
    | nil => exact absurd rfl h1
    | cons c l =>
      have h3 : ∀ d ∈ l, d ≠ 10 ∧ d ≠ 13 := fun d hd => h2 d (List.mem_cons_of_mem _ hd)
      have hc : (c == 10) = false := by simpa using (h2 c (.head _)).1
      show dots true (c :: (l ++ 13 :: 10 :: segs r)) = stuff (c :: l) ++ 13 :: 10 :: segs (r.map stuff)
      rw [← ih]
      by_cases hd : c = 46
      · rw [dots, if_pos ⟨rfl, hd⟩, dots_free l _ h3]
        simp [stuff, hd]
      · rw [dots, if_neg (fun x => hd x.2), hc, dots_free l _ h3]
        simp [stuff, hd]
theorem quoted_mail {ls : List (List Nat × List Nat)} (h : ∀ p ∈ ls, RowOk p.1 ∧ EndOk p.2) : quoted (mailOf ls) = segs (ls.map fun p => stuff p.1) := by
  unfold quoted
  rw [crlf_mail h, dots_segs]
  · rw [List.map_map]
    rfl
  · intro l hl
    obtain ⟨p, hp, rfl⟩ := List.mem_map.mp hl
    exact (h p hp).1
theorem stuff_ok {l : List Nat} (h : RowOk l) : 13 ∉ stuff l := by
  obtain ⟨_, h2⟩ := h
  cases l with
  | nil => simp [stuff]
  | cons c r =>
    intro hm
    have h3 : 13 ∉ (c :: r) := fun hm => (h2 13 hm).2 rfl
    rw [show stuff (c :: r) = if c = 46 then 46 :: 46 :: r else c :: r from rfl] at hm
    split at hm
    · rename_i e
      apply h3
      rcases List.mem_cons.mp hm with h | h
      · omega
      · rcases List.mem_cons.mp h with h | h
        · omega
        · exact List.mem_cons_of_mem _ h
    · exact h3 hm
theorem split_mail {ls : List (List Nat × List Nat)} (hne : ls ≠ []) (h : ∀ p ∈ ls, RowOk p.1 ∧ EndOk p.2) :
    Txt.split ⟨(quoted (mailOf ls)).toArray⟩ crlf2 = ls.map (fun p => (⟨(stuff p.1).toArray⟩ : Str)) ++ [⟨#[]⟩] := by
  rw [quoted_mail h, split_segs (by simpa using hne)]
  · rw [List.map_map]
    rfl
  · intro l hl
    obtain ⟨p, hp, rfl⟩ := List.mem_map.mp hl
    exact stuff_ok (h p hp).1

/-- an heir as the law draws him -/
structure EntOk (e : Ent) : Prop where
  h0 : 0 ≤ e.h
  h5 : e.h ≤ 5
  one : ∃ c, e.c = ⟨#[c]⟩ ∧ 97 ≤ c ∧ c ≤ 100
  fin : EndOk e.e.cps.toList
/-- the row of an heir ahead of the marking at level l, and behind it -/
def preRow (l : Nat) (e : Ent) : List Nat := (if e.h < l then [45] else []) ++ List.replicate ((min e.h l).toNat + 1) 46 ++ e.c.cps.toList
def rowAt (l : Nat) (e : Ent) : List Nat := (if e.h ≤ l then [45] else []) ++ List.replicate ((min e.h l).toNat + 1) 46 ++ e.c.cps.toList
theorem rowAt_eq (l : Nat) (e : Ent) : rowAt l e = if e.h = l then 45 :: preRow l e else preRow l e := by
  unfold rowAt preRow
  rcases Int.lt_trichotomy e.h l with h | h | h
  · have a1 : e.h ≤ l := by omega
    have a2 : ¬ e.h = l := by omega
    rw [if_pos a1, if_pos h, if_neg a2]
  · have a1 : e.h ≤ l := by omega
    have a2 : ¬ e.h < l := by omega
    rw [if_pos a1, if_neg a2, if_pos h]
    rfl
  · have a1 : ¬ e.h ≤ l := by omega
    have a2 : ¬ e.h < l := by omega
    have a3 : ¬ e.h = l := by omega
    rw [if_neg a1, if_neg a2, if_neg a3]
theorem stuff_row {l : Nat} {e : Ent} : stuff (rowAt l e) = preRow (l + 1) e := by
  unfold rowAt preRow
  by_cases h : e.h ≤ l
  · rw [if_pos h, if_pos (by omega), show min e.h (l : Int) = e.h by omega, show min e.h ((l + 1 : Nat) : Int) = e.h by omega]
    simp [stuff]
  · rw [if_neg h, if_neg (by omega), show min e.h (l : Int) = l by omega, show min e.h ((l + 1 : Nat) : Int) = ((l + 1 : Nat) : Int) by omega]
    rw [show (l : Int).toNat + 1 = l + 1 by omega, show ((l + 1 : Nat) : Int).toNat + 1 = (l + 1) + 1 by omega]
    simp [List.replicate_succ, stuff]
theorem rowAt_ok {l : Nat} {e : Ent} (h : EntOk e) : RowOk (rowAt l e) := by
  obtain ⟨c, hc, h1, h2⟩ := h.one
  refine ⟨by simp [rowAt, List.replicate_succ], fun d hd => ?_⟩
  unfold rowAt at hd
  rw [hc] at hd
  rcases List.mem_append.mp hd with hd | hd
  · rcases List.mem_append.mp hd with hd | hd
    · split at hd
      · have := List.mem_singleton.mp hd
        omega
      · cases hd
    · have := (List.mem_replicate.mp hd).2
      omega
  · have : d = c := by simpa using hd
    omega
theorem rowAt_len {l : Nat} {e : Ent} (h : EntOk e) : (rowAt l e).length ≤ 8 := by
  obtain ⟨c, hc, _⟩ := h.one
  have h5 := h.h5
  unfold rowAt
  rw [hc]
  simp only [List.length_append, List.length_replicate, List.size_toArray, Array.length_toList, List.length_cons, List.length_nil]
  split <;> simp <;> omega
section
open LCg
variable {prog : Program} {w : World} {A : Around} {E : Value → Shared → Prop} {s : Shared} {h₀ : Heap} {L : Addr} {m : Str → Option Value} {env : Env}
/-- the end of a block's turn: iterator, names and list kept, a ledger and the invariant told -/
inductive SeqEnd (h₀ : Heap) (L : Addr) (m : Str → Option Value) (s₁ : Shared) (I : Addr) (oI : Obj) (C : Addr) (oC : Obj) (D : Addr) (oD : Obj) (rest : Value → List (Addr × Obj) → Prop) (y : Value) (s₂ : Shared) : Prop
  | mk : ∀ h' tk nw,
    s₂ = { s₁ with heap := h', toks := tk } →
    Fr h₀ L h' m →
    News h₀ L h' ((I, oI) :: (C, oC) :: (D, oD) :: nw) →
    Off3 I C D nw →
    rest y nw →
    SeqEnd h₀ L m s₁ I oI C oC D oD rest y s₂
theorem SeqEnd.of {s₁ : Shared} {I : Addr} {oI : Obj} {C : Addr} {oC : Obj} {D : Addr} {oD : Obj} {rest : Value → List (Addr × Obj) → Prop} {y : Value} {h' : Heap} {tk : Nat} {all : List (Addr × Obj)} (nw : List (Addr × Obj))
    (F : Fr h₀ L h' m) (N : News h₀ L h' all) (sub : ∀ p ∈ (I, oI) :: (C, oC) :: (D, oD) :: nw, p ∈ all) (off : Off3 I C D nw) (r : rest y nw) :
    SeqEnd h₀ L m s₁ I oI C oC D oD rest y { s₁ with heap := h', toks := tk } := ⟨h', tk, nw, rfl, F, fun p hp => N p (sub p hp), off, r⟩
theorem seq_block {elt iter : Expr} {x : Str} {px : Pos} {scope : Scope} {cl : List (Str × Addr)} {pos : Pos} {s₂ : Shared} {ax : Addr} {its : List Value} {k : Nat} {nw₀ : List (Addr × Obj)} {Inv : Nat → List Value → List (Addr × Obj) → Prop}
    {RR : Value → Addr → Result → Shared → Prop} (hsz : its.length ≤ sizeLine) (hcell : ∀ y ∈ scope.names, y.2 ≠ .cell) (hkind : scope.kind = .function) (hx : scope.names.lookup x = some .local) (hh : A.handled = none)
    (F : Fr h₀ L s₂.heap m) (N : News h₀ L s₂.heap nw₀) (hsrc : ∀ i ys nw, Inv i ys nw → (ax, listOf its.toArray k) ∈ nw) (hI0 : Inv 0 [] nw₀)
    (turn : ∀ i v ys nw I oI C oC D m₂ h tk (E' : Value → Shared → Prop), its[i]? = some v → Inv i ys nw → ys.length = i → 1 ≤ tk → NsObj oC m₂ → m₂ x = some v → Fr h₀ L h m → News h₀ L h ((I, oI) :: (C, oC) :: (D, lst ys) :: nw) → Off3 I C D nw →
      ((@Ne Nat I C) ∧ (@Ne Nat I D) ∧ (@Ne Nat C D)) →
      wpAny (model prog w) A (eval elt (compEnvC scope cl C env)) (SeqEnd h₀ L m { s₂ with heap := h, toks := tk } I oI C oC D (lst ys) (fun y nw' => Inv (i + 1) (ys ++ [y]) nw')) E' { s₂ with heap := h, toks := tk })
    (hRR : ∀ D C h tk m' ys nw, Fr h₀ L h m → News h₀ L h ((D, lst ys) :: nw) → Off1 D nw → h.Ns C m' → h₀.get? C = none → h₀.get? D = none → C ≠ L → D ≠ L → C ≠ D → (∀ p ∈ nw, p.1 ≠ C) → ys.length = its.length → Inv its.length ys nw →
      RR (.ref D) C (.ok .next) { s₂ with heap := h, toks := tk }) :
    wpAny (model prog w) A (pyIter (.ref ax)) (fun it s₃ => wpAny (model prog w) A (newList []) (fun acc s₄ => wpAny (model prog w) A (newFunctionEnv scope env.globals cl [] env.qual none .none (some env)) (fun cenv s₅ =>
      codeAny (model prog w) A (.compStart (.ListComp elt [⟨.Name x px, iter, [], 0⟩] scope pos) 0 it acc { cenv with scope := relabel scope env }) (RR acc cenv.locals) s₅) E s₄) E s₃) E s₂ := by
  have src := (N _ (hsrc _ _ _ hI0)).1
  have hax : @LT.lt Nat _ ax s₂.heap.objs.size := Heap.lt_size src
  refine wpAny_pyIter_list (items := its.toArray) ⟨_, src, rfl, k, rfl⟩ ?_
  refine wpAny_newObj_type (wpAny_newFunctionEnv hcell (by intro y hy; simp at hy) (fun h₁ hns₁ hsb₁ => ?_) hkind)
  dsimp only at hns₁ hsb₁ ⊢
  generalize hHI : s₂.heap.push { cls := .type "list_iterator", data := .fields #[.ref ax, .int 0 0] } = HI at hns₁ hsb₁ ⊢
  have sI : HI.objs.size = s₂.heap.objs.size + 1 := by rw [← hHI, Heap.size_push]
  generalize hHD : HI.push { cls := .type "list", dict := none, data := .seq ([] : List Value).toArray } = HD at hns₁ hsb₁ ⊢
  have sD : HD.objs.size = s₂.heap.objs.size + 2 := by rw [← hHD, Heap.size_push, sI]
  have gI : HI.get? s₂.heap.objs.size = some { cls := .type "list_iterator", data := .fields #[.ref ax, .int 0 0] } := hHI ▸ Heap.get?_push_size _ rfl
  have gD : HD.get? HI.objs.size = some (lst []) := hHD ▸ Heap.get?_push_size _ rfl
  have upI : ∀ b o, s₂.heap.get? b = some o → HI.get? b = some o := fun b o e => hHI ▸ Heap.get?_push_of_some _ e
  have upD : ∀ b o, HI.get? b = some o → HD.get? b = some o := fun b o e => hHD ▸ Heap.get?_push_of_some _ e
  generalize hI : s₂.heap.objs.size = I at *
  generalize hD : HI.objs.size = D at *
  generalize hC : HD.objs.size = C at *
  have up1 : ∀ b o, (@Ne Nat b C) → HD.get? b = some o → h₁.get? b = some o := fun b o d e => hsb₁.extBut b o (neN d) (Heap.get?_push_of_some _ e)
  have old : ∀ b o, s₂.heap.get? b = some o → h₁.get? b = some o := fun b o e => up1 b o (by have z : @LT.lt Nat _ b s₂.heap.objs.size := Heap.lt_size e; omega) (upD b o (upI b o e))
  have zI : h₁.get? I = some { cls := .type "list_iterator", data := .fields #[.ref ax, .int 0 0] } := up1 _ _ (by omega) (upD _ _ gI)
  have zD : h₁.get? D = some (lst []) := up1 _ _ (by omega) gD
  have nIC : @Ne Nat I C := by omega
  have nID : @Ne Nat I D := by omega
  have nCD : @Ne Nat C D := by omega
  have hab : @LE.le Nat _ h₀.objs.size L := F.above
  have hL2 : @LT.lt Nat _ L I := hI ▸ F.ns.lt
  have fresh₀ : ∀ a : Nat, I ≤ a → h₀.get? a = none := fun a ha => Heap.get?_none_of_le (by show h₀.objs.size ≤ a; omega)
  have hI₀ : h₀.get? I = none := fresh₀ _ (Nat.le_refl _)
  have hD₀ : h₀.get? D = none := fresh₀ _ (by omega)
  have hC₀ : h₀.get? C = none := fresh₀ _ (by omega)
  have hIL : I ≠ L := neN (by omega)
  have hDL : D ≠ L := neN (by omega)
  have hCL : C ≠ L := neN (by omega)
  have off₀ : Off3 I C D nw₀ := Off3.of fun p hp => by
    have z : @LT.lt Nat _ p.1 s₂.heap.objs.size := Heap.lt_size (N p hp).1
    exact ⟨neN (by omega), neN (by omega), neN (by omega)⟩
  have neAx : @Ne Nat ax I := by omega
  have loop : ∀ s₃ : Shared, s₃ = { s₂ with heap := h₁, toks := s₂.toks + ([] : List (Str × Value)).length } →
      codeAny (model prog w) A (.compLoop (.ListComp elt [⟨.Name x px, iter, [], 0⟩] scope pos) 0 (.ref I) (.ref D) (compEnvC scope cl C env)) (RR (.ref D) C) s₃ := by
    rintro s₃ rfl
    refine codeAny_compLoop_list
      (fun q s' => ∃ h' tk i ys m' nw, s' = { s₂ with heap := h', toks := tk } ∧ i ≤ its.length ∧ q = its.length + 1 - i ∧ ys.length = i ∧ h'.IsListIter I ax i ∧ Fr h₀ L h' m ∧ h'.Ns C m' ∧ News h₀ L h' ((D, lst ys) :: nw) ∧ Off3 I C D nw ∧ Inv i ys nw)
      ?_ (its.length + 1) ⟨h₁, _, 0, [], _, nw₀, rfl, Nat.zero_le _, rfl, rfl, ⟨_, zI, rfl, rfl⟩, F.keeps old, hns₁, fun p hp => ?_, off₀, hI0⟩
    · rintro q s' ⟨h', tk, i, ys, m', nw, rfl, hi, rfl, hyl, it', F', hn', N', off', inv⟩
      have O := off'.mem
      have al : ∀ {h'' : Heap}, News h₀ L h'' nw → h''.IsList ax its.toArray := fun N => ⟨_, (N _ (hsrc _ _ _ inv)).1, rfl, k, rfl⟩
      by_cases hlt : i < its.length
      · have hv : its[i]? = some its[i] := List.getElem?_eq_getElem hlt
        refine wpAny_pyNext_list_item it' (al fun p hp => N' p (List.mem_cons_of_mem _ hp)) (x := its[i]) (by simp) fun h₂ it₂ hs₂ => ?_
        replace hs₂ : Heap.SameBut I h' h₂ := hs₂
        refine wpAny_assign_Name (wpAny_storeName_local (lookup_relabel_local hx) (hn'.sameBut hs₂ (neN (Ne.symm nIC))) (fun h₃ hn₃ hs₃ => ?_) (by simp [compEnvC, relabel, hkind]))
        replace hs₃ : Heap.SameBut C h₂ h₃ := hs₃
        obtain ⟨oC, heC, hoC⟩ := ns_obj hn₃
        obtain ⟨oI, heI, hoI⟩ := it₂
        have F₃ : Fr h₀ L h₃ m := (F'.change hs₂ hIL hI₀).change hs₃ hCL hC₀
        have N₃ : News h₀ L h₃ ((I, oI) :: (C, oC) :: (D, lst ys) :: nw) := fun p hp => by
          rcases List.mem_cons.mp hp with rfl | hp
          · exact ⟨hs₃.extBut _ _ (neN nIC) heI, hIL, hI₀⟩
          · rcases List.mem_cons.mp hp with rfl | hp
            · exact ⟨heC, hCL, hC₀⟩
            · have z := N' p hp
              have o2 : p.1 ≠ I ∧ p.1 ≠ C := by
                rcases List.mem_cons.mp hp with rfl | hp
                · exact ⟨neN (Ne.symm nID), neN (Ne.symm nCD)⟩
                · exact ⟨(O p hp).1, (O p hp).2.1⟩
              exact ⟨hs₃.extBut _ _ o2.2 (hs₂.extBut _ _ o2.1 z.1), z.2⟩
        refine wpAny_mono (turn i _ ys nw I oI C oC D _ h₃ _ _ hv inv hyl (Nat.le_add_left _ _) hoC (by simp) F₃ N₃ off' ⟨nIC, nID, nCD⟩) (fun y s₄ h₄ => ?_) fun _ _ e => e
        obtain ⟨h₄, tk₄, nw₄, rfl, F₄, N₄, off₄, inv₄⟩ := h₄
        have zI := (N₄ (I, oI) List.mem_cons_self).1
        have zC := (N₄ (C, oC) (List.mem_cons_of_mem _ List.mem_cons_self)).1
        have zD := (N₄ (D, lst ys) (List.mem_cons_of_mem _ (List.mem_cons_of_mem _ List.mem_cons_self))).1
        have N₄' : News h₀ L h₄ nw₄ := fun p hp => N₄ p (List.mem_cons_of_mem _ (List.mem_cons_of_mem _ (List.mem_cons_of_mem _ hp)))
        refine append_at (hsz := by show ys.toArray.size ≤ sizeLine; rw [List.size_toArray, hyl]; exact Nat.le_trans hi hsz) zD fun h₅ hs₅ hD₅ => ?_
        replace hs₅ : Heap.SameBut D h₄ h₅ := hs₅
        have O4 := off₄.mem
        refine ⟨its.length + 1 - (i + 1), by omega, h₅, tk₄, i + 1, ys ++ [y], _, nw₄, rfl, hlt, rfl, by rw [List.length_append, List.length_singleton, hyl], ⟨oI, hs₅.extBut _ _ (neN nID) zI, hoI⟩, F₄.change hs₅ hDL hD₀,
          (hoC.ns zC).sameBut hs₅ (neN nCD), fun p hp => ?_, off₄, inv₄⟩
        rcases List.mem_cons.mp hp with rfl | hp
        · exact ⟨hD₅.trans (congrArg some (lst_snoc ys y)), hDL, hD₀⟩
        · exact ⟨hs₅.extBut _ _ (O4 p hp).2.2 (N₄' p hp).1, (N₄' p hp).2⟩
      · obtain rfl : i = its.length := Nat.le_antisymm hi (Nat.not_lt.mp hlt)
        refine wpAny_pyNext_list_end hh it' (al fun p hp => N' p (List.mem_cons_of_mem _ hp)) (by simp) fun h₂ he₂ => ?_
        replace he₂ : Heap.ExtBut I h' h₂ := he₂
        refine hRR D C h₂ tk m' ys nw ⟨F'.ns.at' fun o e => he₂ _ o (Ne.symm hIL) e, fun b o e => he₂ b o (fun q => by rw [q, hI₀] at e; cases e) (F'.keep b o e), F'.above⟩ (fun p hp => ?_) off'.one (hn'.at' fun o e => he₂ _ o (neN (Ne.symm nIC)) e) hC₀ hD₀ hCL hDL (neN nCD) (fun p hp => (O p hp).2.1) hyl inv
        have z := N' p hp
        refine ⟨he₂ _ _ ?_ z.1, z.2⟩
        rcases List.mem_cons.mp hp with rfl | hp
        · exact neN (Ne.symm nID)
        · exact (O p hp).1
    · rcases List.mem_cons.mp hp with rfl | hp
      · exact ⟨zD, hDL, hD₀⟩
      · exact ⟨old _ _ (N p hp).1, (N p hp).2⟩
  exact codeAny_compStart_list (loop _ rfl) (wpAny_pyIter_listiter ⟨_, zI, rfl, rfl⟩ (loop _ rfl))
/-- what is owed when the iterable of a block turns out to be a list of the ledger -/
inductive SrcS (prog : Program) (w : World) (A : Around) (h₀ : Heap) (L : Addr) (m : Str → Option Value) (env : Env) (elt : Expr) (x : Str) (scope : Scope) (cl : List (Str × Addr)) (Fin : Shared → List Value → List (Addr × Obj) → Prop) (xv : Value) (s₁ : Shared) : Prop
  | mk : ∀ (ax : Addr) (its : List Value) (k : Nat) (nw₀ : List (Addr × Obj)) (Inv : Nat → List Value → List (Addr × Obj) → Prop),
    xv = .ref ax →
    A.handled = none →
    its.length ≤ sizeLine →
    Fr h₀ L s₁.heap m →
    News h₀ L s₁.heap nw₀ →
    (∀ i ys nw, Inv i ys nw → (ax, listOf its.toArray k) ∈ nw) →
    Inv 0 [] nw₀ →
    (∀ i v ys nw I oI C oC D m₂ h tk (E' : Value → Shared → Prop), its[i]? = some v → Inv i ys nw → ys.length = i → 1 ≤ tk → NsObj oC m₂ → m₂ x = some v → Fr h₀ L h m → News h₀ L h ((I, oI) :: (C, oC) :: (D, lst ys) :: nw) → Off3 I C D nw →
      ((@Ne Nat I C) ∧ (@Ne Nat I D) ∧ (@Ne Nat C D)) →
      wpAny (model prog w) A (eval elt (compEnvC scope cl C env)) (SeqEnd h₀ L m { s₁ with heap := h, toks := tk } I oI C oC D (lst ys) (fun y nw' => Inv (i + 1) (ys ++ [y]) nw')) E' { s₁ with heap := h, toks := tk }) →
    (∀ ys nw, ys.length = its.length → Inv its.length ys nw → Fin s₁ ys nw) →
    SrcS prog w A h₀ L m env elt x scope cl Fin xv s₁
def FinSE (h₀ : Heap) (L : Addr) (m : Str → Option Value) (Q : Value → Shared → Prop) (s : Shared) (ys : List Value) (nw : List (Addr × Obj)) : Prop :=
  ∀ D h tk, Fr h₀ L h m → News h₀ L h ((D, lst ys) :: nw) → Off1 D nw → Q (.ref D) { s with heap := h, toks := tk }
def FinSA (h₀ : Heap) (L : Addr) (m : Str → Option Value) (y : Str) (Q : Flow → Shared → Prop) (s : Shared) (ys : List Value) (nw : List (Addr × Obj)) : Prop :=
  ∀ D h tk, Fr h₀ L h (fun z => if z = y then some (.ref D) else m z) → News h₀ L h ((D, lst ys) :: nw) → Off1 D nw → Q .next { s with heap := h, toks := tk }
theorem ListComp_S {elt iter : Expr} {x : Str} {px : Pos} {scope : Scope} {cl : List (Str × Addr)} {pos : Pos} {Q : Value → Shared → Prop} (_F₀ : Fr h₀ L s.heap m)
    (hclos : closureFor scope env = pure cl) (hcell : ∀ y ∈ scope.names, y.2 ≠ .cell) (hkind : scope.kind = .function)
    (hnames : ∀ y ∈ scope.names, y.2 = .local → scope.names.lookup y.1 = some .local) (hx : scope.names.lookup x = some .local)
    (h : wpAny (model prog w) A (eval iter env) (SrcS prog w A h₀ L m env elt x scope cl (FinSE h₀ L m Q)) E s)
    (hs : ∀ x, foldedSetIterable iter env x = pure x := by intro _; rfl) :
    wpAny (model prog w) A (eval (.ListComp elt [⟨.Name x px, iter, [], 0⟩] scope pos) env) Q E s := by
  rw [eval_ListComp]
  refine wpAny_comprehension_free (use := none) rfl hs hclos hkind hnames (wpAny_mono h (fun xv s₁ h₁ => ?_) fun _ _ e => e)
  obtain ⟨ax, its, k, nw₀, Inv, rfl, hh, hsz, F, N, hsrc, hI0, turn, fin⟩ := h₁
  refine seq_block hsz hcell hkind hx hh F N hsrc hI0 turn ?_
  intro D C h' tk m' ys nw F' N' o1 hn hC₀ hD₀ hCL hDL hCD offC hyl hinv
  refine ⟨m', hn, fun h'' hs'' => fin ys nw hyl hinv D h'' tk (F'.change hs'' hCL hC₀) (fun p hp => ?_) o1⟩
  refine ⟨hs''.extBut _ _ ?_ (N' p hp).1, (N' p hp).2⟩
  rcases List.mem_cons.mp hp with rfl | hp
  · exact Ne.symm hCD
  · exact offC p hp
theorem Assign_ListComp_S {elt iter : Expr} {x y : Str} {px py : Pos} {scope : Scope} {cl : List (Str × Addr)} {pos spos : Pos} {Q : Flow → Shared → Prop} (_F₀ : Fr h₀ L s.heap m) (hLe : env.locals = L)
    (hsw : swapsWith (.ListComp elt [⟨.Name x px, iter, [], 0⟩] scope pos) (some (.Name y py)) spos.line env = pure true)
    (hclos : closureFor scope env = pure cl) (hcell : ∀ z ∈ scope.names, z.2 ≠ .cell) (hkind : scope.kind = .function)
    (hnames : ∀ z ∈ scope.names, z.2 = .local → scope.names.lookup z.1 = some .local) (hx : scope.names.lookup x = some .local)
    (hy : env.kindOf y = some .local) (hp : (env.scope.kind == .class || (env.scope.kind == .module && env.locals != env.globals)) = false)
    (h : wpAny (model prog w) A (eval iter env) (SrcS prog w A h₀ L m env elt x scope cl (FinSA h₀ L m y Q)) E s)
    (hs : ∀ x, foldedSetIterable iter env x = pure x := by intro _; rfl) :
    wpAny (model prog w) A (exec (.Assign [.Name y py] (.ListComp elt [⟨.Name x px, iter, [], 0⟩] scope pos) spos) env) Q E s := by
  subst hLe
  rw [exec_Assign_Name_used _ _ _ _ hsw]
  refine wpAny_bind (wpAny_standAt (wpAny_bind ?_))
  show wpAny _ A (do let _ ← comprehension (.ListComp elt [⟨.Name x px, iter, [], 0⟩] scope pos) scope env _ (newList []) false (eval iter env) (some (assign (.Name y py) env))) _ _ s
  refine wpAny_bind (wpAny_mono (wpAny_comprehension_free (use := some (assign (.Name y py) env)) (Q := fun _ s' => Q .next s') rfl hs hclos hkind hnames
    (wpAny_mono h (fun xv s₁ h₁ => ?_) fun _ _ e => e)) (fun _ s' hq => wpAny_pure (wpAny_pure hq)) fun _ _ e => e)
  obtain ⟨ax, its, k, nw₀, Inv, rfl, hh, hsz, F, N, hsrc, hI0, turn, fin⟩ := h₁
  refine seq_block hsz hcell hkind hx hh F N hsrc hI0 turn ?_
  intro D C h' tk m' ys nw F' N' o1 hn hC₀ hD₀ hCL hDL hCD offC hyl hinv
  show wpAny _ A (assign (.Name y py) env (.ref D)) _ _ _
  refine wpAny_assign_Name (wpAny_storeName_local hy F'.ns (fun h₂ hn₂ hs₂ => ?_) hp)
  have hL₀ : h₀.get? env.locals = none := Heap.get?_none_of_le F'.above
  have F₂ : Fr h₀ env.locals h₂ (fun z => if z = y then some (.ref D) else m z) := ⟨hn₂, fun b o e => hs₂.extBut b o (fun q => by rw [q, hL₀] at e; cases e) (F'.keep b o e), F'.above⟩
  refine ⟨m', hn.sameBut hs₂ hCL, fun h'' hs'' => fin ys nw hyl hinv D h'' _ (F₂.change hs'' hCL hC₀) (fun p hp => ?_) o1⟩
  have z : h₂.get? p.1 = some p.2 := hs₂.extBut _ _ (N' p hp).2.1 (N' p hp).1
  refine ⟨hs''.extBut _ _ ?_ z, (N' p hp).2⟩
  rcases List.mem_cons.mp hp with rfl | hp
  · exact Ne.symm hCD
  · exact offC p hp
end
section
variable {prog : Program} {w : World} {A : Around} {E : Value → Shared → Prop} {s : Shared} {env : Env} {h₀ : Heap} {x : Str} {body : List Stmt} {Q : Flow → Shared → Prop}
/-- the end of a turn of a loop over a range, the iterator I kept -/
inductive TurnEnd {σ : Type} (h₀ : Heap) (L : Addr) (s₁ : Shared) (Led : σ → List (Addr × Obj)) (ps : σ → List (Str × Value)) (x : Str) (stored : List Str) (m₀ : Str → Option Value) (P : Nat → σ → Prop) (I : Addr) (oI : Obj) (i : Nat) (s₂ : Shared) : Prop
  | mk : ∀ (c : σ) (h' : Heap) (tk : Nat) (m' : Str → Option Value) (news' : List (Addr × Obj)),
    s₂ = { s₁ with heap := h', toks := tk } →
    Fr h₀ L h' m' →
    News h₀ L h' news' →
    (I, oI) ∈ news' →
    (∀ p ∈ Led c, p ∈ news') →
    (∀ p ∈ Led c, @Ne Nat p.1 I) →
    (∀ p ∈ ps c, m' p.1 = some p.2) →
    (∀ z, z ≠ x → (∀ p ∈ ps c, z ≠ p.1) → stored.contains z = false → m' z = m₀ z) →
    P i c →
    TurnEnd h₀ L s₁ Led ps x stored m₀ P I oI i s₂
def TurnPost {σ : Type} (h₀ : Heap) (L : Addr) (s₁ : Shared) (Led : σ → List (Addr × Obj)) (ps : σ → List (Str × Value)) (x : Str) (stored : List Str) (m₀ : Str → Option Value) (P : Nat → σ → Prop) (I : Addr) (oI : Obj) (i : Nat) (Q : Flow → Shared → Prop) (f : Flow) (s₂ : Shared) : Prop :=
  match f with
  | .ret v => Q (.ret v) s₂
  | .brk => Q .next s₂
  | _ => TurnEnd h₀ L s₁ Led ps x stored m₀ P I oI i s₂
theorem turn_end {σ : Type} {L : Addr} {s₁ : Shared} {Led : σ → List (Addr × Obj)} {ps : σ → List (Str × Value)} {stored : List Str} {m₀ m' : Str → Option Value} {P : Nat → σ → Prop} {I : Addr} {oI : Obj} {i : Nat} {h' : Heap} {tk : Nat} {news' : List (Addr × Obj)} (c : σ)
    (F : Fr h₀ L h' m') (N : News h₀ L h' news') (hI : (I, oI) ∈ news') (hn : ∀ p ∈ Led c, p ∈ news') (hne : ∀ p ∈ Led c, @Ne Nat p.1 I) (hk : ∀ p ∈ ps c, m' p.1 = some p.2) (hr : ∀ z, z ≠ x → (∀ p ∈ ps c, z ≠ p.1) → stored.contains z = false → m' z = m₀ z) (hp : P i c) :
    TurnPost h₀ L s₁ Led ps x stored m₀ P I oI i Q .next { s₁ with heap := h', toks := tk } := ⟨c, h', tk, m', news', rfl, F, N, hI, hn, hne, hk, hr, hp⟩
theorem range_loop {σ : Type} {r : Addr} {a₀ b₀ : Int} {t₀ u₀ v₀ : Tok} {n : Nat} {m₀ : Str → Option Value} (Led : σ → List (Addr × Obj)) (ps : σ → List (Str × Value)) (stored : List Str) (P : Nat → σ → Prop) (c₀ : σ)
    (hh : A.handled = none) (hr : IsRange s.heap r a₀ b₀ 1 t₀ u₀ v₀) (hsmall : Builtin.Range.small a₀ b₀ 1 = true) (hn : Builtin.Range.rangeSize a₀ b₀ 1 = (n : Int)) (F : Fr h₀ env.locals s.heap m₀) (N : News h₀ env.locals s.heap (Led c₀)) (hk : ∀ p ∈ ps c₀, m₀ p.1 = some p.2) (hp : P 0 c₀)
    (turn : ∀ (i : Nat) (c : σ) t (u : Str → Option Value) h tk I oI, i < n → P i c → (∀ p ∈ Led c, @Ne Nat p.1 I) →
      Fr h₀ env.locals h (fun y => if y = x then some (.int (a₀ + (i : Int)) t) else kstB (fun z => if stored.contains z then u z else m₀ z) (ps c) y) → News h₀ env.locals h (Led c ++ [(I, oI)]) →
      wpAny (model prog w) A (execs body env) (TurnPost h₀ env.locals { s with heap := h, toks := tk } Led ps x stored m₀ P I oI (i + 1) Q) E { s with heap := h, toks := tk })
    (done : ∀ (c : σ) (u : Str → Option Value) h tk, P n c → Fr h₀ env.locals h (fun y => if y = x then u y else kstB (fun z => if stored.contains z then u z else m₀ z) (ps c) y) → News h₀ env.locals h (Led c) → Q .next { s with heap := h, toks := tk }) :
    wpAny (model prog w) A (pyIter (.ref r)) (fun it s₂ => LoopAtV prog w A h₀ env x body Q E it s₂) E s := by
  refine wpAny_pyIter_range hr hsmall ?_
  have W : Walks prog w A s.heap.objs.size [s.heap.objs.size] [s.heap.objs.size] n (fun i v => i < n ∧ ∃ t, v = .int (a₀ + i * 1) t)
      (fun i h => IsRangeIter h s.heap.objs.size (a₀ + (i : Nat) * 1) ((n : Int) - (i : Nat)) 1) := (Walks.range hh _ a₀ 1 n).bound
  let J : Nat → (Str → Option Value) → List (Addr × Obj) → Prop := fun i m nx => ∃ c : σ, nx = Led c ∧ (∀ p ∈ ps c, m p.1 = some p.2) ∧ (∀ z, z ≠ x → (∀ p ∈ ps c, z ≠ p.1) → stored.contains z = false → m z = m₀ z) ∧ P i c
  refine ⟨_, _, _, n, _, _, m₀, Led c₀, J, rfl, W, ?_, ?_, ?_, (by show IsRangeIter _ _ _ _ _; rw [hn]; simpa using Heap.get?_push_size _ rfl), F.push _, (fun p hp => ⟨Heap.get?_push_of_some _ (N p hp).1, (N p hp).2⟩), ⟨c₀, rfl, hk, fun _ _ _ _ => rfl, hp⟩, ?_, ?_⟩
  · intro hm
    exact absurd F.ns.lt ((List.mem_singleton.mp hm) ▸ Nat.lt_irrefl _)
  · intro b hb
    rw [List.mem_singleton.mp hb]
    exact next_is_new F
  · intro p hp hI
    exact absurd (Heap.lt_size (N p hp).1) ((List.mem_singleton.mp hI) ▸ Nat.lt_irrefl _)
  · rintro i v m₁ news₁ s₁ own ⟨h1, tk1, rfl⟩ hi ⟨_, t, rfl⟩ ⟨c, rfl, h1k, h1r, hp'⟩ hoff hown howng hall hst F₁ N₁
    have e1 : a₀ + (i : Int) * 1 = a₀ + (i : Int) := by omega
    rw [e1] at F₁
    have hLI : env.locals ∉ [s.heap.objs.size] := by
      intro hm
      exact absurd F.ns.lt ((List.mem_singleton.mp hm) ▸ Nat.lt_irrefl _)
    obtain ⟨oI, hoI⟩ : ∃ oI : Obj, h1.get? s.heap.objs.size = some oI := ⟨_, hst⟩
    have hin := hall s.heap.objs.size (List.mem_singleton.mpr rfl) (next_is_new F) _ hoI
    have one : ∀ q ∈ own, q = (s.heap.objs.size, oI) := fun q hq => by
      have e2 := List.mem_singleton.mp (hown q hq)
      have e3 := howng q hq
      rw [e2] at e3
      exact Prod.ext e2 (Option.some.inj (e3.symm.trans hoI))
    have hne : ∀ p ∈ Led c, @Ne Nat p.1 s.heap.objs.size := fun p hp => by
      intro e
      exact hoff p hp (List.mem_singleton.mpr e)
    have N₂ : News h₀ env.locals h1 (Led c ++ [(s.heap.objs.size, oI)]) := fun p hp => N₁ p ((List.mem_append.mp hp).elim (fun h => List.mem_append_right _ h) fun h => List.mem_append_left _ ((List.mem_singleton.mp h).symm ▸ hin))
    refine wpAny_mono (turn i c t m₁ h1 tk1 s.heap.objs.size oI hi hp' hne (kst_fr h1k h1r F₁) N₂) (fun f s₂ p => ?_) fun _ _ e => e
    have fin : TurnEnd h₀ env.locals { s with heap := h1, toks := tk1 } Led ps x stored m₀ P s.heap.objs.size oI (i + 1) s₂ → LoopStepU h₀ env.locals [s.heap.objs.size] own (J (i + 1)) { s with heap := h1, toks := tk1 } .next s₂ := by
      rintro ⟨c', h', tk, m', news', e, F', N', hI, hn', hne', hk', hr', hp9⟩
      refine ⟨rfl, h', tk, m', Led c', e, F', fun p hp => N' p ((List.mem_append.mp hp).elim (fun h => (one p h).symm ▸ hI) (hn' p)), fun p hp hq => ?_, ⟨c', rfl, hk', hr', hp9⟩⟩
      exact hne' p hp (List.mem_singleton.mp hq)
    cases f with
    | ret v => exact .ret p
    | brk => exact .brk p
    | next => exact .next (fin p)
    | cont => exact .cont (fin p)
  · rintro h' tk m' news' F' N' _ ⟨c, rfl, hk', hr', hp'⟩
    exact done c m' h' tk hp' (kst_frOut hk' hr' F') N'
end
theorem lk_str_getitem : typeLookup (.type "str") "__getitem__" = pure (some (.builtin "str.__getitem__")) := by rw [typeLookup_type, builtinLookup_eq_fast]; kernel_rfl
theorem typeOf_str_getitem : typeOf (.builtin "str.__getitem__") = pure (.type "wrapper_descriptor") := by kernel_rfl
theorem slot_wd_get : Slot "wrapper_descriptor" "__get__" "wrapper_descriptor.__get__" :=
  .of (owner := "wrapper_descriptor") (n := "__get__") (by rw [typeLookup_type, builtinLookup_eq_fast]; kernel_rfl) (by decide +kernel) (by decide +kernel) (by decide +kernel)
    (by first | exact .inl (by decide +kernel) | exact .inr (by decide +kernel)) (by rw [isSubtype_type]; kernel_rfl)
theorem lk_wd_set : typeLookup (.type "wrapper_descriptor") "__set__" = pure none := am_miss_of_fast (by decide +kernel)
theorem lk_wd_delete : typeLookup (.type "wrapper_descriptor") "__delete__" = pure none := am_miss_of_fast (by decide +kernel)
theorem entry_wd_get : entryFor table "wrapper_descriptor.__get__" = some Builtin.«wrapper_descriptor.__get__» := entryFor_of_tree (by kernel_rfl)
theorem args_wd_get (a b c : Value) : argsOk "wrapper_descriptor.__get__" ⟨[a, b, c], []⟩ := by unfold argsOk; kernel_rfl
theorem owner_str_getitem : (".".intercalate ("str.__getitem__".cutAt '.').dropLast) = "str" := by
  have e0 : "str.__getitem__".cutAt '.' = ["str", "__getitem__"] := by first | rfl | decide +kernel
  rw [e0]; decide +kernel
theorem sub_str_owner : isSubtype (.type "str") (.type (".".intercalate ("str.__getitem__".cutAt '.').dropLast)) = pure true := by
  rw [owner_str_getitem, isSubtype_type]; kernel_rfl
section
variable {prog : Program} {w : World} {A : Around} {E : Value → Shared → Prop} {h : Heap} {g : Array GenState} {d : Drawn} {t : Nat} {os : OsState} {x : Str} {u : Tok}
theorem gi_get_str {R : Result → Shared → Prop} (hq : ∀ (v : Addr) h' t', (∀ b o, h.get? b = some o → h'.get? b = some o) → R (.ok (.ret (.ref v))) ⟨h', g, d, t', os⟩) :
    codeAny (model prog w) A (.call (.builtin "wrapper_descriptor.__get__") ⟨[.builtin "str.__getitem__", .str x u, .type "str"], []⟩) R ⟨h, g, d, t, os⟩ := by
  have hT : (⟨h, g, d, t, os⟩ : Shared).TypeIs (.str x u) "str" := rfl
  have hT5 : (⟨h, g, d, t, os⟩ : Shared).TypeIs (.builtin "str.__getitem__") "wrapper_descriptor" := typeOf_str_getitem
  have f8 := sub_str_owner
  refine codeAny_call_builtin slot_wd_get.plain entry_wd_get (slot_wd_get.check _ _ _ _ _ _ _ _ hT5 (args_wd_get _ _ _) ?_)
  repeat (any_goals (first | assumption | wp_step))
  exact hq _ _ _ fun b o e => Heap.get?_push_of_some _ e
theorem gi_entry_str {tk : Tok} {Q : Fin → Shared → Prop} (hq : ∀ (v : Addr) h' t', (∀ b o, h.get? b = some o → h'.get? b = some o) → Q (.done (.ret (.ref v))) ⟨h', g, d, t', os⟩) :
    wpAny (model prog w) A (Builtin.«object.__getattribute__» ⟨[.str x u, .str "__getitem__" tk], []⟩) Q E ⟨h, g, d, t, os⟩ := by
  have hT : (⟨h, g, d, t, os⟩ : Shared).TypeIs (.str x u) "str" := rfl
  have hT5 : (⟨h, g, d, t, os⟩ : Shared).TypeIs (.builtin "str.__getitem__") "wrapper_descriptor" := typeOf_str_getitem
  have f4 := lk_str_getitem
  have f5 := typeOf_str_getitem
  have f6 := slot_wd_get.lookup
  have f7 := lk_wd_set
  have f8 := lk_wd_delete
  repeat (any_goals (first | assumption | wp_step))
  refine gi_get_str ?_
  intro v h' t' hk
  repeat (any_goals (first | assumption | wp_step))
  exact hq _ _ _ hk
theorem gi_call_str {tk : Tok} {R : Result → Shared → Prop} (hq : ∀ (v : Addr) h' t', (∀ b o, h.get? b = some o → h'.get? b = some o) → R (.ok (.ret (.ref v))) ⟨h', g, d, t', os⟩) :
    codeAny (model prog w) A (.call (.builtin "object.__getattribute__") ⟨[.str x u, .str "__getitem__" tk], []⟩) R ⟨h, g, d, t, os⟩ :=
  codeAny_call_builtin F.slot_str_getattribute.plain F.entry_object_getattribute (F.slot_str_getattribute.check _ _ _ _ _ _ _ _ (show (⟨h, g, d, t, os⟩ : Shared).TypeIs (.str x u) "str" from rfl) (F.args_object_getattribute_2 _ _) (gi_entry_str hq))
theorem gi_by_str {tk : Tok} {Q : Value → Shared → Prop} (hq : ∀ (v : Addr) h' t', (∀ b o, h.get? b = some o → h'.get? b = some o) → Q (.ref v) ⟨h', g, d, t', os⟩) : wpAny (model prog w) A (getAttrBy (.str x u) (.str "__getitem__" tk) false) Q E ⟨h, g, d, t, os⟩ := by
  have hT : (⟨h, g, d, t, os⟩ : Shared).TypeIs (.str x u) "str" := rfl
  have f2 := F.slot_str_getattribute.lookup
  have f3 := F.slot_str_getattribute.bind (.str x u)
  repeat (any_goals (first | assumption | wp_step))
  refine gi_call_str fun v h' t' hk => ?_
  repeat (any_goals (first | assumption | wp_step))
  repeat (any_goals (first | assumption | wp_step))
  exact hq _ _ _ hk
theorem entry_hasattr : entryFor table "hasattr" = some Builtin.«hasattr» := entryFor_of_tree (by kernel_rfl)
theorem hasattr_entry {tk : Tok} {Q : Fin → Shared → Prop} (hq : ∀ h' t', (∀ b o, h.get? b = some o → h'.get? b = some o) → Q (.done (.ret (.bool true))) ⟨h', g, d, t', os⟩) :
    wpAny (model prog w) A (Builtin.«hasattr» ⟨[.str x u, .str "__getitem__" tk], []⟩) Q E ⟨h, g, d, t, os⟩ := by
  have hT : (⟨h, g, d, t, os⟩ : Shared).TypeIs (.str x u) "str" := rfl
  have f2 := F.slot_str_getattribute.lookup
  have f4 := lk_str_getitem
  have f5 : (withoutEnding? "str.__getitem__" "#data") = none := by decide +kernel
  repeat (any_goals (first | assumption | with_reducible apply gi_by_str | wp_step))
  intro v h' t' hk
  repeat (any_goals (first | assumption | wp_step))
  exact hq _ _ hk
theorem kind_hasattr : builtinKind "hasattr" = none := by decide +kernel
theorem plain_hasattr : plainId "hasattr" = true := by decide +kernel
theorem args_hasattr (a b : Value) : argsOk "hasattr" ⟨[a, b], []⟩ := by unfold argsOk; kernel_rfl
theorem hasattr_str {s : Shared} {tk : Tok} {Q : Value → Shared → Prop} (hq : ∀ h' t', (∀ b o, s.heap.get? b = some o → h'.get? b = some o) → Q (.bool true) { s with heap := h', toks := t' }) :
    wpAny (model prog w) A (call (.builtin "hasattr") [.str x u, .str "__getitem__" tk]) Q E s := by
  refine call_function_any kind_hasattr plain_hasattr entry_hasattr (args_hasattr _ _) ?_
  obtain ⟨h, g, d, t, os⟩ := s
  exact hasattr_entry hq
end
section
variable {w : World} {p : Program} {loose : List Str} {mean : ExcName → Option Value} {mg mb : Str → Option Value} {A : Around} {h₀ : Heap} {L : Addr} {m : Str → Option Value} {news : List (Addr × Obj)} {s : Shared} {Q E : Value → Shared → Prop}
theorem concat_ok {x y : Str} {tx ty : Tok} (G : Grd w p loose mean mg mb A h₀ L m news s.heap 10) (hx : x.length ≤ 1000) (hy : y.length ≤ 1000)
    (ret : ∀ h' tk' tk, Fr h₀ L h' m → News h₀ L h' news → Q (.str (x ++ y) tk) { s with heap := h', toks := tk' }) :
    wpAny (MM w) A (call (.ref 84) [.str x tx, .str y ty] []) Q E s := by
  (((rename Grd _ _ _ _ _ _ _ _ _ _ _ _ _ => G); refine Grd.elim G ?_; clear G; intro dp un gd cn cs a ccd cl outer A₀ base hA B hk hd hu F X N T; subst hA))
  walk_at "call ref"
  (repeat' (first | (k_unfold; (try dsimp only)) | (k_end; kc_close) | (with_reducible ((k_here; (with_reducible show wpAny _ _ (call (Value.builtin "hasattr") [Value.str _ _, _]) _ _ _); k_dflt (refine hasattr_str ?_); intro h9 t9 hk9; have F9 := Fr.keeps (by k_asm) hk9; have N9 := News.grown (by k_asm) hk9))) | walk1 | (dsimp only; first | (with_reducible ((k_here; (with_reducible show wpAny _ _ (call (Value.builtin "hasattr") [Value.str _ _, _]) _ _ _); k_dflt (refine hasattr_str ?_); intro h9 t9 hk9; have F9 := Fr.keeps (by k_asm) hk9; have N9 := News.grown (by k_asm) hk9))) | walk1) | (leave1; (try dsimp only)) | fail "no step"))
  exact ret _ _ _ (by k_asm) (by k_asm)
end
local macro_rules | `(tactic| walk_at "short") => `(tactic| first | assumption | decide | (simp only [strLen_append, ofString_length]; omega))
theorem lookup_zip_new : typeLookup (.type "zip") "__new__" = pure (some (.builtin "zip.__new__")) := by rw [typeLookup_type, builtinLookup_eq_fast]; kernel_rfl
theorem sub_zip : isSubtype (.type "zip") (.type "zip") = pure true := by rw [isSubtype_type]; kernel_rfl
theorem typeCall_zip_2 (a b : Value) : checkTypeCall "zip" ⟨[a, b], []⟩ = pure () := by kernel_rfl
theorem newCall_zip_2 (a b : Value) : checkBuiltinCall "zip.__new__" ⟨[.type "zip", a, b], []⟩ = pure () := by kernel_rfl
theorem entry_zip_new : entryFor table "zip.__new__" = some Builtin.«zip.__new__» := entryFor_of_tree (by kernel_rfl)
section
open AutoSeq1 (wpAny_loadPart')
def zipHeap (h : Heap) (l1 l2 : Addr) : Heap := ((((h.push { cls := .type "list_iterator", data := .fields #[.ref l1, .int 0 0] }).push { cls := .type "list_iterator", data := .fields #[.ref l2, .int 0 0] }).push { cls := .type "tuple", data := .seq #[.ref h.objs.size, .ref (h.objs.size + 1)] }).push { cls := .type "tuple", data := .seq #[.none, .none] }).push { cls := .type "zip", data := .fields #[.none, .bool false, .bool false, .ref (h.objs.size + 2), .ref (h.objs.size + 3)] }
theorem meets_zip_new (l1 l2 : Addr) :
    Meets (Builtin.«zip.__new__» ⟨[.type "zip", .ref l1, .ref l2], []⟩) (fun _ R s => (∃ its, s.heap.IsList l1 its) ∧ (∃ its, s.heap.IsList l2 its) ∧
      R (.ok (.ret (.ref (s.heap.objs.size + 4)))) { s with heap := zipHeap s.heap l1 l2 }) :=
  .of_wp fun prog w A R s h => by
    obtain ⟨hp, g, d, tk, os⟩ := s; obtain ⟨⟨i1, hl1⟩, ⟨i2, hl2⟩, h⟩ := h
    have hsub := sub_zip
    have hl2' : Heap.IsList (Shared.heap ⟨hp.push { cls := .type "list_iterator", data := .fields #[.ref l1, .int 0 0] }, g, d, tk, os⟩) l2 i2 := Heap.IsList.push hl2 _
    wp_walk using wpAny_pyIter_list hl1, wpAny_pyIter_list hl2'
    refine ⟨_, rfl, ?_⟩
    simpa [zipHeap, Heap.size_push, Builtin.SmallTypes.ownedTupleFields, Nat.add_assoc] using h
end
/-- a zip object of two lists, its two iterators, its two tuples, at n, n+1, .. n+4 -/
structure ZipAt (h : Heap) (n : Nat) (l1 l2 : Addr) (x1 x2 : Array Value) (i : Nat) (f : Value) : Prop where
  z : h.get? (n + 4) = some { cls := .type "zip", dict := none, data := .fields #[f, .bool false, .bool false, .ref (n + 2), .ref (n + 3)], slots := #[] }
  t : h.get? (n + 2) = some { cls := .type "tuple", data := .seq #[.ref n, .ref (n + 1)] }
  u : ∃ p q k, h.get? (n + 3) = some { cls := .type "tuple", data := .seq #[p, q] k }
  a : h.IsListIter n l1 i
  b : h.IsListIter (n + 1) l2 i
  o1 : h.IsList l1 x1
  o2 : h.IsList l2 x2
theorem zip_heap {h : Heap} {l1 l2 : Addr} {x1 x2 : Array Value} (h1 : h.IsList l1 x1) (h2 : h.IsList l2 x2) : ZipAt (zipHeap h l1 l2) h.objs.size l1 l2 x1 x2 0 .none := by
  have g1 : ∀ (h : Heap) (o o' : Obj) (k : Nat), k < h.objs.size → h.get? k = some o → (h.push o').get? k = some o := fun h o o' k _ e => Heap.get?_push_of_some _ e
  have e4 := Heap.get?_push_size ((((h.push { cls := .type "list_iterator", data := .fields #[.ref l1, .int 0 0] }).push { cls := .type "list_iterator", data := .fields #[.ref l2, .int 0 0] }).push { cls := .type "tuple", data := .seq #[.ref h.objs.size, .ref (h.objs.size + 1)] }).push { cls := .type "tuple", data := .seq #[.none, .none] }) (o := { cls := .type "zip", data := .fields #[.none, .bool false, .bool false, .ref (h.objs.size + 2), .ref (h.objs.size + 3)] }) rfl
  have e3 := Heap.get?_push_size (((h.push { cls := .type "list_iterator", data := .fields #[.ref l1, .int 0 0] }).push { cls := .type "list_iterator", data := .fields #[.ref l2, .int 0 0] }).push { cls := .type "tuple", data := .seq #[.ref h.objs.size, .ref (h.objs.size + 1)] }) (o := { cls := .type "tuple", data := .seq #[.none, .none] }) rfl
  have e2 := Heap.get?_push_size ((h.push { cls := .type "list_iterator", data := .fields #[.ref l1, .int 0 0] }).push { cls := .type "list_iterator", data := .fields #[.ref l2, .int 0 0] }) (o := { cls := .type "tuple", data := .seq #[.ref h.objs.size, .ref (h.objs.size + 1)] }) rfl
  have e1 := Heap.get?_push_size (h.push { cls := .type "list_iterator", data := .fields #[.ref l1, .int 0 0] }) (o := { cls := .type "list_iterator", data := .fields #[.ref l2, .int 0 0] }) rfl
  have e0 := Heap.get?_push_size h (o := { cls := .type "list_iterator", data := .fields #[.ref l1, .int 0 0] }) rfl
  simp only [Heap.size_push] at e1 e2 e3 e4
  unfold zipHeap
  exact ⟨e4, Heap.get?_push_of_some _ (Heap.get?_push_of_some _ e2), ⟨_, _, _, Heap.get?_push_of_some _ e3⟩,
    ⟨_, Heap.get?_push_of_some _ (Heap.get?_push_of_some _ (Heap.get?_push_of_some _ (Heap.get?_push_of_some _ e0))), rfl, rfl⟩,
    ⟨_, Heap.get?_push_of_some _ (Heap.get?_push_of_some _ (Heap.get?_push_of_some _ e1)), rfl, rfl⟩,
    ((((h1.push _).push _).push _).push _).push _, ((((h2.push _).push _).push _).push _).push _⟩
section
variable {prog : Program} {w : World} {A : Around} {E : Value → Shared → Prop} {s : Shared} {n l1 l2 : Nat} {x1 x2 : Array Value} {i : Nat}
theorem mro_zip : mroOf (.type "zip") = pure [.type "zip", .type "object"] := by rw [mroOf_type]; kernel_rfl
theorem called_zip : TypeCalled "zip" "zip.__new__" "object.__init__" :=
  ⟨by decide +kernel, by decide +kernel, ⟨_, _, mro_zip⟩, madeBy_type mro_zip lookup_zip_new (by decide +kernel), by decide +kernel, by rw [isSubtype_type]; kernel_rfl, F.slot_zip_init⟩
theorem call_zip {Q : Value → Shared → Prop} (h1 : s.heap.IsList l1 x1) (h2 : s.heap.IsList l2 x2)
    (h : ∀ h', ZipAt h' s.heap.objs.size l1 l2 x1 x2 0 .none → (∀ b o, s.heap.get? b = some o → h'.get? b = some o) → Q (.ref (s.heap.objs.size + 4)) { s with heap := h' }) :
    wpAny (model prog w) A (call (.type "zip") [.ref l1, .ref l2]) Q E s := by
  refine callType_new called_zip (by decide) (typeCall_zip_2 _ _) (newCall_zip_2 _ _) (fun obj => F.initArgs_range_2 obj _ _) entry_zip_new
    (meets_zip_new l1 l2) ⟨⟨_, h1⟩, ⟨_, h2⟩, ?_⟩
  have Z := zip_heap h1 h2
  exact ⟨⟨_, Z.z, rfl⟩, h _ Z fun b o e => Heap.get?_push_of_some _ (Heap.get?_push_of_some _ (Heap.get?_push_of_some _ (Heap.get?_push_of_some _ (Heap.get?_push_of_some _ e))))⟩
theorem zip_free {self : Addr} {vs : Array Value} {Q : Bool → Shared → Prop} (ho : s.heap.get? self = some { cls := .type "zip", dict := none, data := .fields vs, slots := #[] }) (h0 : vs[0]? = some .none) (h : Q true s) :
    wpAny (model prog w) A (Builtin.SmallTypes.ownedTupleIsFree (.ref self)) Q E s := by
  unfold Builtin.SmallTypes.ownedTupleIsFree
  exact wpAny_bind (wpAny_field ho rfl (x := .none) h0 (wpAny_pure h))
theorem zip_next_item {v1 v2 : Value} {Q : Value → Shared → Prop} (Z : ZipAt s.heap n l1 l2 x1 x2 i .none) (k1 : l1 < n) (k2 : l2 < n) (hx1 : x1[i]? = some v1) (hx2 : x2[i]? = some v2)
    (hQ : ∀ h', ZipAt h' n l1 l2 x1 x2 (i + 1) (rawInt s.heap.objs.size) → h'.get? s.heap.objs.size = some { cls := .type "tuple", data := .seq #[v1, v2] } →
      (∀ b o, b < n ∨ n + 4 < b → s.heap.get? b = some o → h'.get? b = some o) → Q (.ref s.heap.objs.size) { s with heap := h' }) :
    wpAny (model prog w) A (Builtin.«zip.__next__» ⟨[.ref (n + 4)], []⟩) (fun fin s' => ∃ v, fin = .done (.ret v) ∧ Q v s') E s := by
  obtain ⟨hp, g, d, tk, os⟩ := s
  have hz : n + 4 < hp.objs.size := Heap.lt_size Z.z
  show wpAny _ _ (field (.ref (n + 4)) 2 >>= _) _ _ _
  refine wpAny_bind (wpAny_field Z.z rfl (x := .bool false) rfl ?_)
  show wpAny _ _ (field (.ref (n + 4)) 3 >>= _) _ _ _
  refine wpAny_bind (wpAny_field Z.z rfl (x := .ref (n + 2)) rfl ?_)
  refine wpAny_bind (wpAny_seqItems Z.t rfl ?_)
  show wpAny _ _ (Builtin.SmallTypes.ownedTupleIsFree (.ref (n + 4)) >>= _) _ _ _
  refine wpAny_bind (zip_free Z.z rfl ?_)
  show wpAny _ _ (field (.ref (n + 4)) 4 >>= _) _ _ _
  refine wpAny_bind (wpAny_field Z.z rfl (x := .ref (n + 3)) rfl ?_)
  show wpAny _ _ (setField (.ref (n + 4)) 0 .ellipsis >>= _) _ _ _
  refine wpAny_bind (wpAny_setField_rec Z.z (by simp) fun h₁ he₁ hs₁ => ?_)
  replace hs₁ : Heap.SameBut (n + 4) hp h₁ := hs₁
  replace he₁ : h₁.get? (n + 4) = some { cls := .type "zip", data := .fields #[.ellipsis, .bool false, .bool false, .ref (n + 2), .ref (n + 3)] } := he₁
  refine wpAny_bind ?_
  rw [show (#[Value.ref n, Value.ref (n + 1)] : Array Value).toList.zipIdx = [(Value.ref n, 0), (Value.ref (n + 1), 1)] from rfl, List.forIn_cons]
  refine wpAny_bind (wpAny_bind (wpAny_onRaise ?_))
  show wpAny _ _ (Builtin.SmallTypes.nextOf (.ref n) >>= fun x => pure (some x)) _ _ _
  have lt : ∀ b o, hp.get? b = some o → b < hp.objs.size := fun b o e => Heap.lt_size e
  refine wpAny_bind (wpAny_nextOf_list_item (i := i) (l := l1) (items := x1) (Z.a.extBut hs₁.extBut (neN (by omega))) (Z.o1.extBut hs₁.extBut (neN (by omega))) hx1 fun h₂ hit₂ hs₂ => wpAny_pure ?_)
  replace hs₂ : Heap.SameBut n h₁ h₂ := hs₂
  obtain ⟨p, q, ku, hu⟩ := Z.u
  have hu₂ : h₂.get? (n + 3) = some { cls := .type "tuple", data := .seq #[p, q] ku } := hs₂.extBut _ _ (neN (by omega)) (hs₁.extBut _ _ (neN (by omega)) hu)
  refine wpAny_bind (wpAny_seqItems hu₂ rfl ?_)
  refine wpAny_bind (wpAny_updateSeq hu₂ rfl ?_)
  refine wpAny_bind (wpAny_letGo (wpAny_pure ?_))
  have hu₃ := Heap.get?_update_self (Obj.mapSeq fun x_1 => x_1.setIfInBounds 0 v1) hu₂ rfl
  have hs₃ : Heap.SameBut (n + 3) h₂ (h₂.update (n + 3) (Obj.mapSeq fun x_1 => x_1.setIfInBounds 0 v1)) := Heap.SameBut.update ..
  generalize h₂.update (n + 3) (Obj.mapSeq fun x_1 => x_1.setIfInBounds 0 v1) = h₃ at hu₃ hs₃
  obtain ⟨k3, hu₃⟩ : ∃ k, h₃.get? (n + 3) = some { cls := .type "tuple", data := .seq #[v1, q] k } := ⟨_, hu₃⟩
  show wpAny _ _ (forIn [(Value.ref (n + 1), 1)] _ _) _ _ _
  rw [List.forIn_cons]
  refine wpAny_bind (wpAny_bind (wpAny_onRaise ?_))
  show wpAny _ _ (Builtin.SmallTypes.nextOf (.ref (n + 1)) >>= fun x => pure (some x)) _ _ _
  have hb₃ : h₃.IsListIter (n + 1) l2 i := ((Z.b.extBut hs₁.extBut (neN (by omega))).extBut hs₂.extBut (neN (by omega))).extBut hs₃.extBut (neN (by omega))
  have ho₃ : h₃.IsList l2 x2 := ((Z.o2.extBut hs₁.extBut (neN (by omega))).extBut hs₂.extBut (neN (by omega))).extBut hs₃.extBut (neN (by omega))
  refine wpAny_bind (wpAny_nextOf_list_item (i := i) (l := l2) (items := x2) hb₃ ho₃ hx2 fun h₄ hit₄ hs₄ => wpAny_pure ?_)
  replace hs₄ : Heap.SameBut (n + 1) h₃ h₄ := hs₄
  have hu₄ := hs₄.extBut _ _ (neN (by omega)) hu₃
  refine wpAny_bind (wpAny_seqItems hu₄ rfl ?_)
  refine wpAny_bind (wpAny_updateSeq hu₄ rfl ?_)
  refine wpAny_bind (wpAny_letGo (wpAny_pure ?_))
  have hu₅ := Heap.get?_update_self (Obj.mapSeq fun x_1 => x_1.setIfInBounds 1 v2) hu₄ rfl
  have hs₅ : Heap.SameBut (n + 3) h₄ (h₄.update (n + 3) (Obj.mapSeq fun x_1 => x_1.setIfInBounds 1 v2)) := Heap.SameBut.update ..
  generalize h₄.update (n + 3) (Obj.mapSeq fun x_1 => x_1.setIfInBounds 1 v2) = h₅ at hu₅ hs₅
  obtain ⟨k5, hu₅⟩ : ∃ k, h₅.get? (n + 3) = some { cls := .type "tuple", data := .seq #[v1, v2] k } := ⟨_, hu₅⟩
  show wpAny _ _ (forIn [] _ _) _ _ _
  rw [List.forIn_nil]
  refine wpAny_pure ?_
  dsimp only
  refine wpAny_bind (wpAny_seqItems hu₅ rfl ?_)
  have sz : h₅.objs.size = hp.objs.size := by rw [hs₅.1, hs₄.1, hs₃.1, hs₂.1, hs₁.1]
  have he₅ := hs₅.extBut _ _ (neN (by omega)) (hs₄.extBut _ _ (neN (by omega)) (hs₃.extBut _ _ (neN (by omega)) (hs₂.extBut _ _ (neN (by omega)) he₁)))
  have ha₅ : h₅.IsListIter n l1 (i + 1) := ((hit₂.extBut hs₃.extBut (neN (by omega))).extBut hs₄.extBut (neN (by omega))).extBut hs₅.extBut (neN (by omega))
  have hb₅ : h₅.IsListIter (n + 1) l2 (i + 1) := hit₄.extBut hs₅.extBut (neN (by omega))
  have keep : ∀ b o, (@Ne Nat b (n + 4)) → (@Ne Nat b n) → (@Ne Nat b (n + 3)) → (@Ne Nat b (n + 1)) → hp.get? b = some o → h₅.get? b = some o := fun b o d1 d2 d3 d4 e =>
    hs₅.extBut _ _ (neN (by omega)) (hs₄.extBut _ _ (neN (by omega)) (hs₃.extBut _ _ (neN (by omega)) (hs₂.extBut _ _ (neN (by omega)) (hs₁.extBut _ _ (neN (by omega)) e))))
  refine wpAny_bind (wpAny_newTuple ?_)
  have ht₆ := Heap.get?_push_size h₅ (o := { cls := .type "tuple", data := .seq #[v1, v2] }) rfl
  have he₆ := Heap.get?_push_of_some { cls := .type "tuple", data := .seq #[v1, v2] } he₅
  have up₆ : ∀ b o, h₅.get? b = some o → (h₅.push { cls := .type "tuple", data := .seq #[v1, v2] }).get? b = some o := fun b o e => Heap.get?_push_of_some _ e
  show wpAny _ _ _ _ _ ⟨h₅.push { cls := .type "tuple", data := .seq #[v1, v2] }, g, d, tk, os⟩
  generalize h₅.push { cls := .type "tuple", data := .seq #[v1, v2] } = h₆ at ht₆ he₆ up₆
  show wpAny _ _ (Builtin.SmallTypes.ownedTupleHandOut (.ref (n + 4)) (.ref h₅.objs.size) >>= _) _ _ _
  rw [sz] at ht₆ ⊢
  refine wpAny_bind ?_
  unfold Builtin.SmallTypes.ownedTupleHandOut
  refine wpAny_bind (wpAny_setField_rec he₆ (by simp) fun h₇ he₇ hs₇ => ?_)
  replace hs₇ : Heap.SameBut (n + 4) h₆ h₇ := hs₇
  refine wpAny_setField_rec he₇ (by simp) fun h₈ he₈ hs₈ => ?_
  replace hs₈ : Heap.SameBut (n + 4) h₇ h₈ := hs₈
  have kp : ∀ b o, (@Ne Nat b (n + 4)) → h₆.get? b = some o → h₈.get? b = some o := fun b o d e => hs₈.extBut _ _ (neN d) (hs₇.extBut _ _ (neN d) e)
  have at8 : ∀ {b o}, (@Ne Nat b (n + 4)) → h₅.get? b = some o → h₈.get? b = some o := fun d e => kp _ _ d (up₆ _ _ e)
  refine wpAny_pure ⟨_, rfl, hQ h₈ ⟨he₈, at8 (by omega) (keep _ _ (by omega) (by omega) (by omega) (by omega) Z.t), ⟨_, _, _, at8 (by omega) hu₅⟩, ha₅.at fun o e => at8 (by omega) e, hb₅.at fun o e => at8 (by omega) e,
    Z.o1.at fun o e => at8 (by omega) (keep _ _ (by omega) (by omega) (by omega) (by omega) e), Z.o2.at fun o e => at8 (by omega) (keep _ _ (by omega) (by omega) (by omega) (by omega) e)⟩ (kp _ _ (by show ¬ (hp.objs.size = n + 4); omega) ht₆) fun b o hb e => at8 (by omega) (keep _ _ (by omega) (by omega) (by omega) (by omega) e)⟩
theorem pyNext_zip_item {v1 v2 : Value} {Q : Option Value → Shared → Prop} (Z : ZipAt s.heap n l1 l2 x1 x2 i .none) (k1 : l1 < n) (k2 : l2 < n) (hx1 : x1[i]? = some v1) (hx2 : x2[i]? = some v2)
    (hQ : ∀ h', ZipAt h' n l1 l2 x1 x2 (i + 1) (rawInt s.heap.objs.size) → h'.get? s.heap.objs.size = some { cls := .type "tuple", data := .seq #[v1, v2] } →
      (∀ b o, b < n ∨ n + 4 < b → s.heap.get? b = some o → h'.get? b = some o) → Q (some (.ref s.heap.objs.size)) { s with heap := h' }) :
    wpAny (model prog w) A (pyNext (.ref (n + 4))) Q E s := by
  have hT : s.TypeIs (.ref (n + 4)) "zip" := ⟨_, Z.z, rfl⟩
  unfold pyNext
  exact wpAny_bind (wpAny_attempt (wpAny_callSpecial?_slot (name := Str.ofString "__next__") hT F.slot_zip_next
    (wpAny_call_entry F.slot_zip_next hT F.entry_zip_next
      (zip_next_item Z k1 k2 hx1 hx2 fun h' a b c => wpAny_pure (hQ h' a b c)) (F.args_zip_next_1 _))))
theorem pyNext_zip_end {Q : Option Value → Shared → Prop} (hh : A.handled = none) (Z : ZipAt s.heap n l1 l2 x1 x2 i .none) (k1 : l1 < n) (hx1 : x1[i]? = none)
    (hQ : ∀ h', (∀ b o, b < n ∨ n + 4 < b → s.heap.get? b = some o → h'.get? b = some o) → Q none { s with heap := h' }) :
    wpAny (model prog w) A (pyNext (.ref (n + 4))) Q E s := by
  have hT : s.TypeIs (.ref (n + 4)) "zip" := ⟨_, Z.z, rfl⟩
  have hz : n + 4 < s.heap.objs.size := Heap.lt_size Z.z
  unfold pyNext
  refine wpAny_bind (wpAny_attempt (wpAny_callSpecial?_slot (name := Str.ofString "__next__") hT F.slot_zip_next
    (wpAny_call_entry F.slot_zip_next hT F.entry_zip_next ?_ (F.args_zip_next_1 _))))
  obtain ⟨hp, g, d, tk, os⟩ := s
  show wpAny _ _ (field (.ref (n + 4)) 2 >>= _) _ _ _
  refine wpAny_bind (wpAny_field Z.z rfl (x := .bool false) rfl ?_)
  show wpAny _ _ (field (.ref (n + 4)) 3 >>= _) _ _ _
  refine wpAny_bind (wpAny_field Z.z rfl (x := .ref (n + 2)) rfl ?_)
  refine wpAny_bind (wpAny_seqItems Z.t rfl ?_)
  show wpAny _ _ (Builtin.SmallTypes.ownedTupleIsFree (.ref (n + 4)) >>= _) _ _ _
  refine wpAny_bind (zip_free Z.z rfl ?_)
  show wpAny _ _ (field (.ref (n + 4)) 4 >>= _) _ _ _
  refine wpAny_bind (wpAny_field Z.z rfl (x := .ref (n + 3)) rfl ?_)
  show wpAny _ _ (setField (.ref (n + 4)) 0 .ellipsis >>= _) _ _ _
  refine wpAny_bind (wpAny_setField_rec Z.z (by simp) fun h₁ he₁ hs₁ => ?_)
  replace hs₁ : Heap.SameBut (n + 4) hp h₁ := hs₁
  replace he₁ : h₁.get? (n + 4) = some { cls := .type "zip", data := .fields #[.ellipsis, .bool false, .bool false, .ref (n + 2), .ref (n + 3)] } := he₁
  refine wpAny_bind ?_
  rw [show (#[Value.ref n, Value.ref (n + 1)] : Array Value).toList.zipIdx = [(Value.ref n, 0), (Value.ref (n + 1), 1)] from rfl, List.forIn_cons]
  refine wpAny_bind (wpAny_bind (wpAny_onRaise ?_))
  show wpAny _ _ (Builtin.SmallTypes.nextOf (.ref n) >>= fun x => pure (some x)) _ _ _
  refine wpAny_bind (wpAny_nextOf_list_end (i := i) (l := l1) (items := x1) hh (Z.a.extBut hs₁.extBut (neN (by omega))) (Z.o1.extBut hs₁.extBut (neN (by omega))) hx1 fun h₂ x he₂ hx₂ => ?_)
  obtain ⟨o, ho, hc⟩ := hx₂
  replace he₂ : Heap.ExtBut n h₁ h₂ := he₂
  have hzz := he₂ _ _ (neN (by omega)) he₁
  refine wpAny_setField_rec hzz (by simp) fun h₃ he₃ hs₃ => ?_
  replace hs₃ : Heap.SameBut (n + 4) h₂ h₃ := hs₃
  refine wpAny_bind (wpAny_isInstance (T := "StopIteration") (b := true) ⟨o, ?_, hc⟩ isSubtype_stop ?_)
  · refine hs₃.extBut x o (fun e => ?_) ho
    subst e
    have e2 := Option.some.inj (ho.symm.trans hzz)
    rw [e2] at hc
    exact absurd hc (by intro h; injection h with h; exact absurd h (by decide))
  exact wpAny_pure (hQ _ fun b o hb e => hs₃.extBut _ _ (neN (by omega)) (he₂ _ _ (neN (by omega)) (hs₁.extBut _ _ (neN (by omega)) e)))
theorem letOwned_zip {elts : List Expr} {k1} {pos : Pos} {r : Addr} {Q : Unit → Shared → Prop} (Z : ZipAt s.heap n l1 l2 x1 x2 i (rawInt r)) (k1' : l1 < n) (k2' : l2 < n)
    (hQ : ∀ h', ZipAt h' n l1 l2 x1 x2 i .none → (∀ b o, b < n ∨ n + 4 < b → s.heap.get? b = some o → h'.get? b = some o) → Q () { s with heap := h' }) :
    wpAny (model prog w) A (letOwnedTupleGo (.Tuple elts k1 pos) (.ref (n + 4)) (.ref r)) Q E s := by
  unfold letOwnedTupleGo
  refine wpAny_bind (wpAny_load Z.z ?_)
  show wpAny _ A (if (["enumerate", "zip", "dict_itemiterator", "dict_reverseitemiterator", "odict_iterator", "itertools.zip_longest", "itertools.pairwise"].contains "zip" &&
      (#[rawInt r, .bool false, .bool false, .ref (n + 2), .ref (n + 3)] : Array Value)[0]? == some (rawInt r)) = true then _ else _) Q E s
  rw [if_pos (by simp)]
  refine wpAny_bind (wpAny_rule ?_)
  show wpAny _ A (setField (.ref (n + 4)) 0 .none) Q E s
  refine wpAny_setField_rec Z.z (by simp) fun h₁ he₁ hs₁ => ?_
  have kp : ∀ {b o}, (@Ne Nat b (n + 4)) → s.heap.get? b = some o → h₁.get? b = some o := fun d e => hs₁.extBut _ _ (neN d) e
  exact hQ _ ⟨he₁, kp (by omega) Z.t, Z.u.imp fun _ x => x.imp fun _ x => x.imp fun _ x => kp (by omega) x, Z.a.at fun o e => kp (by omega) e, Z.b.at fun o e => kp (by omega) e, Z.o1.at fun o e => kp (by omega) e, Z.o2.at fun o e => kp (by omega) e⟩ fun b o hb e => kp (by omega) e
theorem entry_zip_iter : entryFor table "zip.__iter__" = some Builtin.«dict_keyiterator.__iter__» :=
  entryFor_alias (id' := "dict_keyiterator.__iter__") (by kernel_rfl) (by first | rfl | decide +kernel | (unfold String.splitOn; simp +decide [String.splitOnAux])) (by decide +kernel) (by kernel_rfl)
theorem pyIter_zip {f : Value} {Q : Value → Shared → Prop} (Z : ZipAt s.heap n l1 l2 x1 x2 i f) (h : Q (.ref (n + 4)) s) : wpAny (model prog w) A (pyIter (.ref (n + 4))) Q E s := by
  have hT : s.TypeIs (.ref (n + 4)) "zip" := ⟨_, Z.z, rfl⟩
  refine wpAny_pyIter_slot hT F.slot_zip_iter (wpAny_call_entry F.slot_zip_iter hT entry_zip_iter ?_ (F.args_zip_iter_1 _))
  show wpAny _ _ (ret (.ref (n + 4))) _ _ s
  exact wpAny_pure ⟨_, rfl, "zip", _, hT, F.slot_zip_next.lookup, h⟩
end
section
open LCg
variable {prog : Program} {w : World} {A : Around} {E : Value → Shared → Prop} {s : Shared} {h₀ : Heap} {L : Addr} {m : Str → Option Value} {env : Env} {n l1 l2 : Nat} {x1 x2 : Array Value}
theorem zip_block {elt iter : Expr} {x x₂ : Str} {px px₂ tp : Pos} {tk} {scope : Scope} {cl : List (Str × Addr)} {pos : Pos} {s₂ : Shared} {news : List (Addr × Obj)} {N : Nat} {Y : Nat → Value → Prop}
    {RR : Value → Addr → Result → Shared → Prop} (hsz : N ≤ sizeLine) (e1 : x1.size = N) (e2 : x2.size = N)
    (hcell : ∀ y ∈ scope.names, y.2 ≠ .cell) (hkind : scope.kind = .function) (hx : scope.names.lookup x = some .local) (hx₂ : scope.names.lookup x₂ = some .local) (hxx : x ≠ x₂) (hh : A.handled = none)
    (F : Fr h₀ L s₂.heap m) (Nw : News h₀ L s₂.heap news) (Z : ZipAt s₂.heap n l1 l2 x1 x2 0 .none) (k1 : l1 < n) (k2 : l2 < n) (kL : L < n) (off : ∀ p ∈ news, p.1 < n)
    (turn : ∀ i v1 v2 C oC m₂ h t (E' : Value → Shared → Prop), x1[i]? = some v1 → x2[i]? = some v2 → NsObj oC m₂ → m₂ x = some v1 → m₂ x₂ = some v2 → Fr h₀ L h m → News h₀ L h ((C, oC) :: news) →
      wpAny (model prog w) A (eval elt (compEnvC scope cl C env)) (fun y s' => (∃ t', s' = { s₂ with heap := h, toks := t' }) ∧ Y i y) E' { s₂ with heap := h, toks := t })
    (hRR : ∀ D C h t m' ys, Fr h₀ L h m → News h₀ L h ((D, lst ys) :: news) → Off1 D news → h.Ns C m' → h₀.get? C = none → h₀.get? D = none → C ≠ L → D ≠ L → C ≠ D → (∀ p ∈ news, p.1 ≠ C) → ys.length = N → (∀ i y, ys[i]? = some y → Y i y) →
      RR (.ref D) C (.ok .next) { s₂ with heap := h, toks := t }) :
    wpAny (model prog w) A (newList []) (fun acc s₃ => wpAny (model prog w) A (newFunctionEnv scope env.globals cl [] env.qual none .none (some env)) (fun cenv s₄ =>
      codeAny (model prog w) A (.compStart (.ListComp elt [⟨.Tuple [.Name x px, .Name x₂ px₂] tk tp, iter, [], 0⟩] scope pos) 0 (.ref (n + 4)) acc { cenv with scope := relabel scope env }) (RR acc cenv.locals) s₄) E s₃) E s₂ := by
  refine wpAny_newObj_type (wpAny_newFunctionEnv hcell (by intro y hy; simp at hy) (fun h₁ hns₁ hsb₁ => ?_) hkind)
  dsimp only at hns₁ hsb₁ ⊢
  generalize hH2 : s₂.heap.push { cls := .type "list", dict := none, data := .seq ([] : List Value).toArray } = H2 at hns₁ hsb₁ ⊢
  have hC : H2.objs.size = s₂.heap.objs.size + 1 := by rw [← hH2, Heap.size_push]
  have hzn : n + 4 < s₂.heap.objs.size := Heap.lt_size Z.z
  generalize hDn : s₂.heap.objs.size = D at *
  generalize hCn : H2.objs.size = C at *
  have kl : ∀ {b o}, (@LT.lt Nat _ b D) → s₂.heap.get? b = some o → h₁.get? b = some o := fun {b o} hb e => hsb₁.extBut b o (neN (by omega)) (Heap.get?_push_of_some _ (hH2 ▸ Heap.get?_push_of_some _ e))
  have old : ∀ b o, s₂.heap.get? b = some o → h₁.get? b = some o := fun b o e => kl (hDn ▸ Heap.lt_size e) e
  have hacc : h₁.get? D = some (lst []) := hsb₁.extBut _ _ (neN (by omega)) (Heap.get?_push_of_some _ (by rw [← hH2, ← hDn]; exact Heap.get?_push_size _ rfl))
  have hCD : @Ne Nat C D := by omega
  have hab : h₀.objs.size ≤ L := F.above
  have fresh₀ : ∀ a : Nat, n ≤ a → h₀.get? a = none := fun a ha => Heap.get?_none_of_le (by show h₀.objs.size ≤ a; have z1 : @LE.le Nat _ h₀.objs.size L := hab; have z2 : @LT.lt Nat _ L n := kL; omega)
  have hC₀ : h₀.get? C = none := fresh₀ _ (by omega)
  have hD₀ : h₀.get? D = none := fresh₀ _ (by omega)
  have hCL : C ≠ L := neN (by have z2 : @LT.lt Nat _ L n := kL; omega)
  have hDL : D ≠ L := neN (by have z2 : @LT.lt Nat _ L n := kL; omega)
  have Zk : ∀ {h h' : Heap} {i f}, ZipAt h n l1 l2 x1 x2 i f → (∀ b o, (@LT.lt Nat _ b D) → h.get? b = some o → h'.get? b = some o) → ZipAt h' n l1 l2 x1 x2 i f := fun {h h' i f} Z k =>
    ⟨k _ _ (by omega) Z.z, k _ _ (by omega) Z.t, Z.u.imp fun _ x => x.imp fun _ x => x.imp fun _ x => k _ _ (by omega) x, Z.a.at fun o e => k _ _ (by omega) e, Z.b.at fun o e => k _ _ (by omega) e,
      Z.o1.at fun o e => k _ _ (by omega) e, Z.o2.at fun o e => k _ _ (by omega) e⟩
  have offD : Off1 D news := by
    clear turn hRR Nw
    induction news with
    | nil => trivial
    | cons p r ih => exact ⟨by have z := off p List.mem_cons_self; have z3 : @LT.lt Nat _ p.1 n := z; omega, ih fun q hq => off q (List.mem_cons_of_mem _ hq)⟩
  have offC : ∀ p ∈ news, p.1 ≠ C := fun p hp => neN (by have z3 : @LT.lt Nat _ p.1 n := off p hp; omega)
  -- what keeps the old parts keeps frame and ledger
  have Fk : ∀ {h h' : Heap}, Fr h₀ L h m → (∀ b o, (@LT.lt Nat _ b n) → h.get? b = some o → h'.get? b = some o) → Fr h₀ L h' m := fun {h h'} F k =>
    ⟨F.ns.at' fun o e => k _ _ kL e, fun b o e => k b o (by have := fresh₀ b; rcases Nat.lt_or_ge b n with hb | hb; exact hb; rw [this hb] at e; cases e) (F.keep b o e), F.above⟩
  have Nk : ∀ {h h' : Heap}, News h₀ L h news → (∀ b o, (@LT.lt Nat _ b n) → h.get? b = some o → h'.get? b = some o) → News h₀ L h' news := fun {h h'} N k p hp => ⟨k _ _ (off p hp) (N p hp).1, (N p hp).2⟩
  have loop : ∀ s₃ : Shared, s₃ = { s₂ with heap := h₁, toks := s₂.toks + ([] : List (Str × Value)).length } →
      codeAny (model prog w) A (.compLoop (.ListComp elt [⟨.Tuple [.Name x px, .Name x₂ px₂] tk tp, iter, [], 0⟩] scope pos) 0 (.ref (n + 4)) (.ref D) (compEnvC scope cl C env))
        (RR (.ref D) C) s₃ := by
    rintro s₃ rfl
    refine LCp.codeAny_compLoop_pair
      (fun k s' => ∃ h' t i ys m', s' = { s₂ with heap := h', toks := t } ∧ i ≤ N ∧ k = N + 1 - i ∧ ys.length = i ∧ ZipAt h' n l1 l2 x1 x2 i .none ∧ Fr h₀ L h' m ∧ h'.Ns C m' ∧ News h₀ L h' news ∧ h'.get? D = some (lst ys) ∧
        D < h'.objs.size ∧ C < h'.objs.size ∧ ∀ j y, ys[j]? = some y → Y j y) ?_ (N + 1)
      ⟨h₁, _, 0, [], _, rfl, Nat.zero_le _, rfl, rfl, Zk Z fun b o hb e => kl hb e, F.keeps old, hns₁, Nw.grown old, hacc, Heap.lt_size hacc, hns₁.lt, fun j y h => by simp at h⟩
    rintro k s' ⟨h', t, i, ys, m', rfl, hi, rfl, hyl, Z', F', hn', N', hD', zD, zC, hY⟩
    by_cases hlt : i < N
    · have q1 : x1[i]? = some x1[i] := Array.getElem?_eq_getElem (by omega)
      have q2 : x2[i]? = some x2[i] := Array.getElem?_eq_getElem (by omega)
      refine pyNext_zip_item Z' k1 k2 q1 q2 fun h₂ Z₂ ht₂ kp₂ => ?_
      refine letOwned_zip Z₂ k1 k2 fun h₃ Z₃ kp₃ => ?_
      have rb : n + 4 < h'.objs.size := Heap.lt_size Z'.z
      have ht : IsTup h₃ h'.objs.size #[x1[i], x2[i]] := ⟨_, kp₃ _ _ (.inr rb) ht₂, rfl, _, rfl⟩
      refine assign_Tuple_tuple hh ht rfl rfl fun h₅ he => ?_
      have he' : ∀ b o, h₃.get? b = some o → h₅.get? b = some o := fun b o e => he b o (Nat.ne_of_lt (Heap.lt_size e)) e
      have up : ∀ b o, (b < n ∨ n + 4 < b) → h'.get? b = some o → h₅.get? b = some o := fun b o hb e => he' _ _ (kp₃ _ _ hb (kp₂ _ _ hb e))
      refine assignInOrder_cons (wpAny_assign_Name (wpAny_storeName_local (lookup_relabel_local hx) (hn'.at' fun o e => up C o (.inr (by omega)) e) (fun h₆ hn₆ hs₆ => ?_) (by simp [compEnvC, relabel, hkind])))
      refine assignInOrder_cons (wpAny_assign_Name (wpAny_storeName_local (lookup_relabel_local hx₂) hn₆ (fun h₇ hn₇ hs₇ => ?_) (by simp [compEnvC, relabel, hkind])))
      refine assignInOrder_nil ?_
      replace hs₆ : Heap.SameBut C h₅ h₆ := hs₆
      replace hs₇ : Heap.SameBut C h₆ h₇ := hs₇
      have up7 : ∀ b o, (@Ne Nat b C) → h₅.get? b = some o → h₇.get? b = some o := fun b o hb e => hs₇.extBut b o (neN hb) (hs₆.extBut b o (neN hb) e)
      have upn : ∀ b o, (@LT.lt Nat _ b n) → h'.get? b = some o → h₇.get? b = some o := fun b o hb e => up7 _ _ (by omega) (up _ _ (.inl hb) e)
      obtain ⟨oC, heC, hoC⟩ := ns_obj hn₇
      have F₇ := Fk F' upn
      have N₇ := Nk N' upn
      refine wpAny_mono (turn i x1[i] x2[i] C oC _ h₇ _ _ q1 q2 hoC (by simp [hxx]) (by simp) F₇ fun p hp => ?_) (fun y s₄ h₄ => ?_) fun _ _ e => e
      · rcases List.mem_cons.mp hp with rfl | hp
        · exact ⟨heC, hCL, hC₀⟩
        · exact N₇ p hp
      obtain ⟨⟨t', rfl⟩, hy⟩ := h₄
      have hD₇ : h₇.get? D = some (lst ys) := up7 _ _ (by omega) (up _ _ (.inr (by omega)) hD')
      refine append_at (hsz := by show ys.toArray.size ≤ sizeLine; rw [List.size_toArray, hyl]; exact Nat.le_trans hi hsz) hD₇ fun h₈ hs₈ hD₈ => ?_
      replace hs₈ : Heap.SameBut D h₇ h₈ := hs₈
      have up8 : ∀ b o, (@LT.lt Nat _ b n) → h₇.get? b = some o → h₈.get? b = some o := fun b o hb e => hs₈.extBut _ _ (neN (by omega)) e
      refine ⟨N + 1 - (i + 1), by omega, h₈, t', i + 1, ys ++ [y], _, rfl, hlt, rfl, by rw [List.length_append, List.length_singleton, hyl], ?_, Fk F₇ up8, hn₇.sameBut hs₈ hCD, Nk N₇ up8, hD₈.trans (congrArg some (lst_snoc ys y)), Heap.lt_size hD₈, ?_, ?_⟩
      · exact Zk (Zk (h' := h₇) Z₃ fun b o hb e => up7 _ _ (by omega) (he' _ _ e)) fun b o hb e => hs₈.extBut _ _ (neN (by omega)) e
      · exact (hn₇.sameBut hs₈ hCD).lt
      · intro j z hz
        rcases Nat.lt_trichotomy j ys.length with h | h | h
        · exact hY j z (by rw [List.getElem?_append_left h] at hz; exact hz)
        · subst h
          rw [List.getElem?_append_right (Nat.le_refl _)] at hz
          simp at hz
          subst hz
          rw [hyl]; exact hy
        · rw [List.getElem?_eq_none (by simp; omega)] at hz; cases hz
    · obtain rfl : i = N := by omega
      refine pyNext_zip_end hh Z' k1 (by rw [Array.getElem?_eq_none (by omega)]) fun h₂ kp => ?_
      have kpn : ∀ b o, (@LT.lt Nat _ b n) → h'.get? b = some o → h₂.get? b = some o := fun b o hb e => kp _ _ (.inl hb) e
      refine hRR D C h₂ t m' ys (Fk F' kpn) (fun p hp => ?_) offD (hn'.at' fun o e => kp C o (.inr (by omega)) e) hC₀ hD₀ hCL hDL (neN (by omega)) offC hyl hY
      rcases List.mem_cons.mp hp with rfl | hp
      · exact ⟨kp _ _ (.inr (by omega)) hD', hDL, hD₀⟩
      · exact Nk N' kpn p hp
  exact codeAny_compStart_list (loop _ rfl) (pyIter_zip (Zk (h' := h₁) Z fun b o hb e => kl hb e) (loop _ rfl))
inductive SrcZ (prog : Program) (w : World) (A : Around) (h₀ : Heap) (L : Addr) (m : Str → Option Value) (env : Env) (elt : Expr) (x x₂ : Str) (scope : Scope) (cl : List (Str × Addr)) (Q : Value → Shared → Prop) (xv : Value) (s₁ : Shared) : Prop
  | mk : ∀ (n l1 l2 : Nat) (x1 x2 : Array Value) (news : List (Addr × Obj)) (N : Nat) (Y : Nat → Value → Prop),
    xv = .ref (n + 4) →
    A.handled = none →
    N ≤ sizeLine →
    x1.size = N →
    x2.size = N →
    Fr h₀ L s₁.heap m →
    News h₀ L s₁.heap news →
    ZipAt s₁.heap n l1 l2 x1 x2 0 .none →
    l1 < n →
    l2 < n →
    @LT.lt Nat _ L n →
    (∀ p ∈ news, @LT.lt Nat _ p.1 n) →
    (∀ i v1 v2 C oC m₂ h t (E' : Value → Shared → Prop), x1[i]? = some v1 → x2[i]? = some v2 → NsObj oC m₂ → m₂ x = some v1 → m₂ x₂ = some v2 → Fr h₀ L h m → News h₀ L h ((C, oC) :: news) →
      wpAny (model prog w) A (eval elt (compEnvC scope cl C env)) (fun y s' => (∃ t', s' = { s₁ with heap := h, toks := t' }) ∧ Y i y) E' { s₁ with heap := h, toks := t }) →
    (∀ D h t ys, Fr h₀ L h m → News h₀ L h ((D, lst ys) :: news) → Off1 D news → ys.length = N → (∀ i y, ys[i]? = some y → Y i y) → Q (.ref D) { s₁ with heap := h, toks := t }) →
    SrcZ prog w A h₀ L m env elt x x₂ scope cl Q xv s₁
theorem ListComp_Z {elt iter : Expr} {x x₂ : Str} {px px₂ tp : Pos} {tk} {scope : Scope} {cl : List (Str × Addr)} {pos : Pos} {Q : Value → Shared → Prop}
    (hclos : closureFor scope env = pure cl) (hcell : ∀ y ∈ scope.names, y.2 ≠ .cell) (hkind : scope.kind = .function)
    (hnames : ∀ y ∈ scope.names, y.2 = .local → scope.names.lookup y.1 = some .local) (hx : scope.names.lookup x = some .local) (hx₂ : scope.names.lookup x₂ = some .local) (hxx : x ≠ x₂)
    (h : wpAny (model prog w) A (eval iter env) (SrcZ prog w A h₀ L m env elt x x₂ scope cl Q) E s)
    (hs : ∀ x, foldedSetIterable iter env x = pure x := by intro _; rfl) :
    wpAny (model prog w) A (eval (.ListComp elt [⟨.Tuple [.Name x px, .Name x₂ px₂] tk tp, iter, [], 0⟩] scope pos) env) Q E s := by
  rw [eval_ListComp]
  refine wpAny_comprehension_free (use := none) rfl hs hclos hkind hnames (wpAny_mono h (fun xv s₁ h₁ => ?_) fun _ _ e => e)
  obtain ⟨n, l1, l2, x1, x2, news, N, Y, rfl, hh, hsz, e1, e2, F, Nw, Z, k1, k2, kL, off, turn, fin⟩ := h₁
  refine pyIter_zip Z ?_
  refine zip_block hsz e1 e2 hcell hkind hx hx₂ hxx hh F Nw Z k1 k2 kL off turn ?_
  intro D C h' t m' ys F' N' o1 hn hC₀ hD₀ hCL hDL hCD offC hl hY
  refine ⟨m', hn, fun h'' hs'' => fin D h'' t ys (F'.change hs'' hCL hC₀) (fun p hp => ?_) o1 hl hY⟩
  refine ⟨hs''.extBut _ _ ?_ (N' p hp).1, (N' p hp).2⟩
  rcases List.mem_cons.mp hp with rfl | hp
  · exact Ne.symm hCD
  · exact offC p hp
theorem call_zip_led {l1 l2 : Addr} {v1 v2 : List Value} {q1 q2 : Nat} {news : List (Addr × Obj)} {Q : Value → Shared → Prop} (F : Fr h₀ L s.heap m) (N : News h₀ L s.heap news) (m1 : (l1, listOf v1.toArray q1) ∈ news) (m2 : (l2, listOf v2.toArray q2) ∈ news)
    (h : ∀ n h', Fr h₀ L h' m → News h₀ L h' news → ZipAt h' n l1 l2 v1.toArray v2.toArray 0 .none → @LT.lt Nat _ l1 n → @LT.lt Nat _ l2 n → @LT.lt Nat _ L n → (∀ p ∈ news, @LT.lt Nat _ p.1 n) → Q (.ref (n + 4)) { s with heap := h' }) :
    wpAny (model prog w) A (call (.type "zip") [.ref l1, .ref l2]) Q E s := by
  have a1 := (N _ m1).1
  have a2 := (N _ m2).1
  exact call_zip (x1 := v1.toArray) (x2 := v2.toArray) ⟨_, a1, rfl, _, rfl⟩ ⟨_, a2, rfl, _, rfl⟩ fun h' Z kp => h _ h' (F.keeps kp) (N.grown kp) Z (Heap.lt_size a1) (Heap.lt_size a2) F.ns.lt fun p hp => Heap.lt_size (N p hp).1
end
section
variable {w : World} {A : Around} {E : Value → Shared → Prop} {s : Shared} {h₀ : Heap} {L : Addr} {m : Str → Option Value} {news news' : List (Addr × Obj)}
theorem set_led {D : Addr} {its : List Value} {n : Nat} {k : Int} {t : Tok} {v : Value} {Q : Unit → Shared → Prop} (F : Fr h₀ L s.heap m) (N : News h₀ L s.heap news) (U : Upd D (listOf its.toArray n) (listOf (its.set k.toNat v).toArray n) news news') (h0 : 0 ≤ k) (h1 : k < its.length) (hfit : k < 1000)
    (h : ∀ h', Fr h₀ L h' m → News h₀ L h' news' → Q () { s with heap := h' }) : wpAny (MM w) A (setItem (.ref D) (.int k t) v) Q E s := by
  obtain ⟨pre, post, rfl, rfl, a, b⟩ := U.split
  have z := N (D, listOf its.toArray n) (List.mem_append.mpr (.inr (.head _)))
  refine ki_setAt z.1 h0 (by omega) (by rw [List.size_toArray]; exact h1) (h _ (F.change (Heap.SameBut.update ..) z.2.1 z.2.2) (ki_turn _ N a b ?_ ?_))
  · show its.toArray.setIfInBounds k.toNat v = (its.set k.toNat v).toArray
    apply Array.toList_inj.mp
    simp
  · simp
end
section
variable {w : World} {p : Program} {loose : List Str} {mean : ExcName → Option Value} {mg mb : Str → Option Value} {A : Around} {h₀ : Heap} {L : Addr} {m : Str → Option Value} {news news' : List (Addr × Obj)} {s : Shared} {Q E : Value → Shared → Prop}
theorem setitem_ok {D : Addr} {its : List Value} {n : Nat} {k : Int} {t : Tok} {v : Value} (G : Grd w p loose mean mg mb A h₀ L m news s.heap 10) (U : Upd D (listOf its.toArray n) (listOf (its.set k.toNat v).toArray n) news news')
    (h0 : 0 ≤ k) (h1 : k < its.length) (hfit : k < 1000) (ret : ∀ h' tk', Fr h₀ L h' m → News h₀ L h' news' → Q .none { s with heap := h', toks := tk' }) :
    wpAny (MM w) A (call (.ref 105) [.ref D, .int k t, v] []) Q E s := by
  (((rename Grd _ _ _ _ _ _ _ _ _ _ _ _ _ => G); refine Grd.elim G ?_; clear G; intro dp un gd cn cs a ccd cl outer A₀ base hA B hk hd hu F X N T; subst hA))
  walk_at "call ref"
  (repeat' (first | (k_unfold; (try dsimp only)) | (k_end; kc_close) | (with_reducible ((k_here; (with_reducible show wpAny _ _ (setItem (Value.ref _) (Value.int _ _) _) _ _ _); k_dflt (refine' set_led ?z34xF ?z34xN ?z34xU ?z34xa ?z34xb ?z34xc ?_; (case z34xF => k_asm); (case z34xN => k_asm); (case z34xU => assumption); (case z34xa => assumption); (case z34xb => assumption); (case z34xc => assumption); k_whole; intro h9 F9 N9)))) | walk1 | (dsimp only; first | (with_reducible ((k_here; (with_reducible show wpAny _ _ (setItem (Value.ref _) (Value.int _ _) _) _ _ _); k_dflt (refine' set_led ?z34xF ?z34xN ?z34xU ?z34xa ?z34xb ?z34xc ?_; (case z34xF => k_asm); (case z34xN => k_asm); (case z34xU => assumption); (case z34xa => assumption); (case z34xb => assumption); (case z34xc => assumption); k_whole; intro h9 F9 N9)))) | walk1) | (leave1; (try dsimp only)) | fail "no step"))
  exact ret _ _ (by k_asm) (by k_asm)
theorem getitem_ok {D : Addr} {its : List Value} {n : Nat} {k : Int} {t : Tok} {v : Value} (G : Grd w p loose mean mg mb A h₀ L m news s.heap 10) (hm : (D, listOf its.toArray n) ∈ news)
    (h0 : 0 ≤ k) (hfit : k < 1000) (hx : its[k.toNat]? = some v) (ret : ∀ h' tk', Fr h₀ L h' m → News h₀ L h' news → Q v { s with heap := h', toks := tk' }) :
    wpAny (MM w) A (call (.ref 98) [.ref D, .int k t] []) Q E s := by
  (((rename Grd _ _ _ _ _ _ _ _ _ _ _ _ _ => G); refine Grd.elim G ?_; clear G; intro dp un gd cn cs a ccd cl outer A₀ base hA B hk hd hu F X N T; subst hA))
  walk_at "call ref"
  (repeat' (first | (k_unfold; (try dsimp only)) | (k_end; kc_close) | (with_reducible ((k_here; (with_reducible show wpAny _ _ (subscriptTail _ _ (Value.ref _) (Value.int _ _)) _ _ _); k_dflt (refine' item_led ?z35xN ?z35xm ?z35xa ?z35xb ?z35xx ?_; (case z35xN => k_asm); (case z35xm => assumption); (case z35xa => assumption); (case z35xb => assumption); (case z35xx => assumption); k_whole)))) | walk1 | (dsimp only; first | (with_reducible ((k_here; (with_reducible show wpAny _ _ (subscriptTail _ _ (Value.ref _) (Value.int _ _)) _ _ _); k_dflt (refine' item_led ?z35xN ?z35xm ?z35xa ?z35xb ?z35xx ?_; (case z35xN => k_asm); (case z35xm => assumption); (case z35xa => assumption); (case z35xb => assumption); (case z35xx => assumption); k_whole)))) | walk1) | (leave1; (try dsimp only)) | fail "no step"))
  exact ret _ _ (by k_asm) (by k_asm)
end
section
variable {w : World} {p : Program} {loose : List Str} {mean : ExcName → Option Value} {mg mb : Str → Option Value} {A : Around} {h₀ : Heap} {L : Addr} {m : Str → Option Value} {news news' : List (Addr × Obj)} {s : Shared} {Q E : Value → Shared → Prop}
theorem letter_ok {t : Addr} {e : Ent} {u : Tok} (G : Grd w p loose mean mg mb A h₀ L m news s.heap 10) (ht : EntAt news t e)
    (ret : ∀ h' tk' tk, Fr h₀ L h' m → News h₀ L h' news → Q (.str e.c tk) { s with heap := h', toks := tk' }) : wpAny (MM w) A (call (.ref 98) [.ref t, .int 1 u] []) Q E s := by
  obtain ⟨tk, tk2, tk3, n, ht⟩ := ht
  (((rename Grd _ _ _ _ _ _ _ _ _ _ _ _ _ => G); refine Grd.elim G ?_; clear G; intro dp un gd cn cs a ccd cl outer A₀ base hA B hk hd hu F X N T; subst hA))
  walk_at "call ref"
  k_steps
  exact ret _ _ _ (by k_asm) (by k_asm)
end
section
variable {prog : Program} {w : World} {A : Around} {E : Value → Shared → Prop} {s : Shared} {env : Env} {h₀ : Heap} {x : Str} {body : List Stmt} {Q : Flow → Shared → Prop}
/-- the loop over the signs of a str; each sign is a new str -/
theorem str_loop {σ : Type} {cls : String} {I : Addr} {xt : Str} {tx : Tok} {T : Nat} {px : Pos} {m₀ : Str → Option Value} (ps : σ → List (Str × Value)) (stored : List Str) (P : Nat → σ → Prop) (c₀ : σ)
    (item : ∀ (s : Shared) (i c : Nat) (Q : Option Value → Shared → Prop) (E : Value → Shared → Prop), s.heap.IsStrIter I cls xt tx i → xt.cps[i]? = some c →
      (∀ h', h'.IsStrIter I cls xt tx (i + 1) → Heap.SameBut I s.heap h' → Q (some (.str ⟨#[c]⟩ s.toks)) { s with heap := h', toks := s.toks + 1 }) → wpAny (model prog w) A (pyNext (.ref I)) Q E s)
    (fin : ∀ (s : Shared) (i : Nat) (Q : Option Value → Shared → Prop) (E : Value → Shared → Prop), s.heap.IsStrIter I cls xt tx i → xt.cps[i]? = none →
      (∀ h', Heap.ExtBut I s.heap h' → Q none { s with heap := h' }) → wpAny (model prog w) A (pyNext (.ref I)) Q E s)
    (hx : env.kindOf x = some .local) (hp : (env.scope.kind == .class || (env.scope.kind == .module && env.locals != env.globals)) = false) (hE : PassesOwn (model prog w) A env E)
    (it0 : s.heap.IsStrIter I cls xt tx 0) (hIL : @Ne Nat I env.locals) (hI₀ : h₀.get? I = none) (hT : T ≤ s.toks) (F : Fr h₀ env.locals s.heap m₀) (hk : ∀ p ∈ ps c₀, m₀ p.1 = some p.2) (hp0 : P 0 c₀)
    (turn : ∀ (i : Nat) (c : σ) (a t : Nat) (u : Str → Option Value) h tk oI, xt.cps[i]? = some a → P i c → T ≤ t →
      Fr h₀ env.locals h (fun y => if y = x then some (.str ⟨#[a]⟩ t) else kstB (fun z => if stored.contains z then u z else m₀ z) (ps c) y) → News h₀ env.locals h [(I, oI)] →
      wpAny (model prog w) A (execs body env) (TurnPost h₀ env.locals { s with heap := h, toks := tk } (fun _ => []) ps x stored m₀ P I oI (i + 1) Q) E { s with heap := h, toks := tk })
    (done : ∀ (c : σ) (u : Str → Option Value) h tk, P xt.cps.size c → Fr h₀ env.locals h (fun y => if y = x then u y else kstB (fun z => if stored.contains z then u z else m₀ z) (ps c) y) → Q .next { s with heap := h, toks := tk }) :
    codeAny (model prog w) A (.forLoop (.Name x px) (.ref I) body [] env) (fun r s' => match r with | .ok f => Q f s' | .error e => cameBackBy (model prog w) A env E e s') s := by
  refine codeAny_forLoop
    (fun k s' => ∃ h' tk m' i c, s' = { s with heap := h', toks := tk } ∧ h'.IsStrIter I cls xt tx i ∧ T ≤ tk ∧ Fr h₀ env.locals h' m' ∧ (∀ p ∈ ps c, m' p.1 = some p.2) ∧ (∀ z, z ≠ x → (∀ p ∈ ps c, z ≠ p.1) → stored.contains z = false → m' z = m₀ z) ∧ P i c ∧ i ≤ xt.cps.size ∧ k = xt.cps.size + 1 - i)
    ?_ (xt.cps.size + 1) ⟨s.heap, s.toks, m₀, 0, c₀, rfl, it0, hT, F, hk, fun _ _ _ _ => rfl, hp0, Nat.zero_le _, rfl⟩
  rintro k s' ⟨h', tk, m', i, c, rfl, it', hT', F', hk', hr', hP, hi, rfl⟩
  by_cases hlt : i < xt.cps.size
  · have ha : xt.cps[i]? = some xt.cps[i] := Array.getElem?_eq_getElem hlt
    refine item _ i _ _ _ it' ha fun h₁ it₁ hs₁ => ?_
    replace hs₁ : Heap.SameBut I h' h₁ := hs₁
    have F₁ : Fr h₀ env.locals h₁ m' := F'.change hs₁ (neN hIL) hI₀
    refine wpAny_assign_Name (wpAny_storeName_local hx F₁.ns (fun h₂ hn₂ hs₂ => ?_) hp)
    have F₂ := F₁.set hn₂ hs₂
    obtain ⟨oI, heI, hoI⟩ := it₁
    have zI : h₂.get? I = some oI := hs₂.extBut _ _ (neN hIL) heI
    have N₂ : News h₀ env.locals h₂ [(I, oI)] := fun p hp => by
      rw [List.mem_singleton.mp hp]
      exact ⟨zI, neN hIL, hI₀⟩
    refine wpAny_with_toks (n := T) (Nat.le_trans hT' (by dsimp only; omega)) (wpAny_mono (wpAny_passesOwn hE (turn i c _ tk m' h₂ _ oI ha hP hT' (kst_fr hk' hr' F₂) N₂)) (fun f s₃ h₃ => ?_) fun _ _ e _ => e)
    intro hT₃
    have again : TurnEnd h₀ env.locals { s with heap := h₂, toks := tk + 1 + 1 } (fun _ => []) ps x stored m₀ P I oI (i + 1) s₃ → ∃ k', k' < xt.cps.size + 1 - i ∧ ∃ h' tk m' i c, s₃ = { s with heap := h', toks := tk } ∧ h'.IsStrIter I cls xt tx i ∧ T ≤ tk ∧ Fr h₀ env.locals h' m' ∧ (∀ p ∈ ps c, m' p.1 = some p.2) ∧ (∀ z, z ≠ x → (∀ p ∈ ps c, z ≠ p.1) → stored.contains z = false → m' z = m₀ z) ∧ P i c ∧ i ≤ xt.cps.size ∧ k' = xt.cps.size + 1 - i := by
      rintro ⟨c', h₄, tk₄, m₄, nw, rfl, F₄, N₄, hI₄, _, _, hk₄, hr₄, hP₄⟩
      exact ⟨xt.cps.size + 1 - (i + 1), by omega, h₄, tk₄, m₄, i + 1, c', rfl, ⟨oI, (N₄ _ hI₄).1, hoI⟩, hT₃, F₄, hk₄, hr₄, hP₄, hlt, rfl⟩
    cases f with
    | ret v => exact h₃
    | brk => exact h₃
    | next => exact again h₃
    | cont => exact again h₃
  · obtain rfl : i = xt.cps.size := Nat.le_antisymm hi (Nat.not_lt.mp hlt)
    refine fin _ _ _ _ it' (by simp) fun h₁ he => wpAny_execs_nil ?_
    replace he : Heap.ExtBut I h' h₁ := he
    have F₁ : Fr h₀ env.locals h₁ m' := ⟨F'.ns.at' fun o e => he _ o (neN (Ne.symm hIL)) e, fun b o e => he b o (fun q => by rw [q, hI₀] at e; cases e) (F'.keep b o e), F'.above⟩
    exact done c m' h₁ tk hP (kst_frOut hk' hr' F₁)
inductive SrcT (prog : Program) (w : World) (A : Around) (h₀ : Heap) (env : Env) (x : Str) (body : List Stmt) (Q : Flow → Shared → Prop) (E : Value → Shared → Prop) (xv : Value) (s₁ : Shared) : Prop
  | mk : ∀ (σ : Type) (xt : Str) (tx : Tok) (T : Nat) (m₀ : Str → Option Value) (ps : σ → List (Str × Value)) (stored : List Str) (P : Nat → σ → Prop) (c₀ : σ),
    xv = .str xt tx →
    A.handled = none →
    T ≤ s₁.toks →
    Fr h₀ env.locals s₁.heap m₀ →
    (∀ p ∈ ps c₀, m₀ p.1 = some p.2) →
    P 0 c₀ →
    (∀ (i : Nat) (c : σ) (a t : Nat) (u : Str → Option Value) h tk I oI, xt.cps[i]? = some a → P i c → T ≤ t →
      Fr h₀ env.locals h (fun y => if y = x then some (.str ⟨#[a]⟩ t) else kstB (fun z => if stored.contains z then u z else m₀ z) (ps c) y) → News h₀ env.locals h [(I, oI)] →
      wpAny (model prog w) A (execs body env) (TurnPost h₀ env.locals { s₁ with heap := h, toks := tk } (fun _ => []) ps x stored m₀ P I oI (i + 1) Q) E { s₁ with heap := h, toks := tk }) →
    (∀ (c : σ) (u : Str → Option Value) h tk, P xt.cps.size c → Fr h₀ env.locals h (fun y => if y = x then u y else kstB (fun z => if stored.contains z then u z else m₀ z) (ps c) y) → Q .next { s₁ with heap := h, toks := tk }) →
    SrcT prog w A h₀ env x body Q E xv s₁
theorem For_text {px pos : Pos} {iter : Expr} (hx : env.kindOf x = some .local) (hp : (env.scope.kind == .class || (env.scope.kind == .module && env.locals != env.globals)) = false)
    (h : wpAny (model prog w) A (eval iter env) (SrcT prog w A h₀ env x body Q E) E s)
    (hs : ∀ x, foldedSetIterable iter env x = pure x := by intro _; rfl)
    (hE : PassesOwn (model prog w) A env E := by passes_own) :
    wpAny (model prog w) A (exec (.For (.Name x px) iter body [] pos) env) Q E s := by
  refine wpAny_For (wpAny_mono h (fun xv s₁ h₁ => ?_) fun _ _ e => e) hs
  obtain ⟨σ, xt, tx, T, m₀, ps, stored, P, c₀, rfl, hh, hT, F, hk, hp0, turn, done⟩ := h₁
  have nL : @Ne Nat s₁.heap.objs.size env.locals := fun e => absurd F.ns.lt (e ▸ Nat.lt_irrefl _)
  cases ha : xt.cps.all (· < 128)
  · exact wpAny_pyIter_wide ha (str_loop ps stored P c₀ (fun s i c Q E a b d => wpAny_pyNext_wide_item a b d) (fun s i Q E a b d => wpAny_pyNext_wide_end hh a b d) hx hp hE ⟨_, Heap.get?_push_size _ rfl, rfl, rfl⟩ nL (next_is_new F) hT (F.push _) hk hp0
      (fun i c a t u h tk oI ha hP hT F N => turn i c a t u h tk _ oI ha hP hT F N) done)
  · exact wpAny_pyIter_ascii ha (str_loop ps stored P c₀ (fun s i c Q E a b d => wpAny_pyNext_ascii_item a b d) (fun s i Q E a b d => wpAny_pyNext_ascii_end hh a b d) hx hp hE ⟨_, Heap.get?_push_size _ rfl, rfl, rfl⟩ nL (next_is_new F) hT (F.push _) hk hp0
      (fun i c a t u h tk oI ha hP hT F N => turn i c a t u h tk _ oI ha hP hT F N) done)
end
theorem none_booked {w : World} {h : Heap} (X : (hd.heap_39 w.params).In h) (hl : h.NoLimit) : NoneBooked h := by
  obtain ⟨mc, ⟨o, es, ep, e, hd, hs, hf⟩, _⟩ := hl
  refine ⟨mc, ⟨o, es, ep, e, hd, hs, hf⟩, ?_⟩
  have h2 := X 2 _ (by k_is)
  have e3 := Option.some.inj (h2.symm.trans e)
  subst e3
  cases hd
  rw [← hf]
  generalize PyData.keyHash w.params = kh
  rfl
def ones (l : List Nat) : Int := ((l.filter (· == 46)).length : Nat)
theorem ones_snoc (l : List Nat) (n : Nat) : ones (l ++ [n]) = ones l + if n = 46 then 1 else 0 := by
  unfold ones
  rw [List.filter_append, List.length_append]
  by_cases h : n = 46 <;> simp [h]
theorem ones_step {l : List Nat} {i a : Nat} (h : l[i]? = some a) : ones (l.take (i + 1)) = ones (l.take i) + if a = 46 then 1 else 0 := by
  rw [List.take_add_one, h]
  exact ones_snoc _ _
theorem ones_le (l : List Nat) : 0 ≤ ones l ∧ ones l ≤ l.length := by
  unfold ones
  have := List.length_filter_le (· == 46) l
  omega
section
variable {prog : Program} {w : World} {A : Around} {E : Value → Shared → Prop} {s : Shared}
theorem is_str {y z : Str} {u v : Tok} {Q : Value → Shared → Prop} (hb : NoneBooked s.heap) (h0 : u ≠ 0) (h1 : v ≠ 0) (hne : u ≠ v) (t : y = z → Q (.bool true) s) (f : Q (.bool false) s) : wpAny (model prog w) A (compareOp .Is (.str y u) (.str z v)) Q E s := by
  have a0 : (u == 0 || v == 0) = false := by simp [h0, h1]
  have a1 : (u == v) = false := by simpa using hne
  unfold compareOp
  refine wpAny_bind ?_
  cases hy : (y == z)
  · rw [isSame_str_other y z u v a0 a1 hy]
    exact wpAny_pure (wpAny_pure f)
  · refine wpAny_isSame_str a0 hb fun b => wpAny_pure ?_
    cases b
    · exact f
    · exact t (eq_of_beq hy)
end
section
variable {w : World} {p : Program} {loose : List Str} {mean : ExcName → Option Value} {mg mb : Str → Option Value} {A : Around} {h₀ : Heap} {L : Addr} {m : Str → Option Value} {news news' : List (Addr × Obj)} {s : Shared} {Q E : Value → Shared → Prop}
theorem gen_toks {M : Model} {A : Around} {α : Type} {t : Sem α} {R : α → Shared → Prop} {E : Value → Shared → Prop} {h : Heap} {g : Array GenState} {d : Drawn} {a b : Nat} {o : OsState} (n : Nat) (hn : n ≤ a + b) (k : ∀ tk, n ≤ tk → wpAny M A t R E ⟨h, g, d, tk, o⟩) : wpAny M A t R E ⟨h, g, d, a + b, o⟩ := k _ hn
theorem count_ok {x : Str} {tx ty : Tok} (G : Grd w p loose mean mg mb A h₀ L m news s.heap 10) (hx : x.length ≤ 1000) (hy0 : 1 ≤ ty) (hy : ty < s.toks)
    (ret : ∀ h' tk' tk, Fr h₀ L h' m → News h₀ L h' news → Q (.int (ones x.cps.toList) tk) { s with heap := h', toks := tk' }) :
    wpAny (MM w) A (call (.ref 91) [.str x tx, .str "." ty] []) Q E s := by
  (((rename Grd _ _ _ _ _ _ _ _ _ _ _ _ _ => G); refine Grd.elim G ?_; clear G; intro dp un gd cn cs a ccd cl outer A₀ base hA B hk hd hu F X N T; subst hA))
  have N0 : News h₀ L s.heap [] := fun q hq => nomatch hq
  ((k_dflt (refine wpAny_call ?_; (refine' enter_frame ?k1 ?k2 ?k3 ?k4 ?k5 ?kA ?kF ?kK ?k6 ?k7 ?k8 ?k9 ?kB ?_ ?c2 ?c3 ?c4 ?c5; (case kA => exact rfl); (case kF => exact rfl); (case kK => first | exact rfl | assumption); (case k1 => k_asm); (case k2 => k_asm); (case k3 => k_asm); (case k4 => k_asm); (case k5 => k_asm); (case k6 => k_is); (case k7 => k_is); (case k8 => ktr_room); (case k9 => first | exact BindsTo.of_eq rfl | exact binds_K (by k_in) rfl (by k_is) rfl rfl rfl | fail "no binds"); (case c5 => decide); (case kB => exact locs rfl); (case c2 => exact rfl); (case c3 => exact rfl); (case c4 => exact rfl); k_whole))))
  intro g L' h1 hg FG F' N' B' X' T'
  (try dsimp only)
  (try k_fold)
  clear N0
  have hT8 : ty + 1 ≤ s.toks := hy
  (repeat' (first | (k_unfold; (try dsimp only)) | (k_end; kc_close) | (with_reducible ((with_reducible show wpAny _ _ (exec (Stmt.For (Expr.Name _ _) (Expr.Name _ _) _ _ _) _) _ _ _); (k_here; (with_unfolding_all refine' For_text (h₀ := g) ?z38xk1 ?z38xk2 ?_; (case z38xk1 => exact rfl); (case z38xk2 => exact rfl))))) | (with_reducible ((with_reducible show wpAny _ _ (execs (_ :: _) _) _ _ _); (k_here; refine gen_toks (ty + 1) ?_ ?_; (exact Nat.le_trans (by assumption) (by (try dsimp only); omega)); intro tk9 hT9))) | walk1 | (dsimp only; first | (with_reducible ((with_reducible show wpAny _ _ (exec (Stmt.For (Expr.Name _ _) (Expr.Name _ _) _ _ _) _) _ _ _); (k_here; (with_unfolding_all refine' For_text (h₀ := g) ?z38xk1 ?z38xk2 ?_; (case z38xk1 => exact rfl); (case z38xk2 => exact rfl))))) | (with_reducible ((with_reducible show wpAny _ _ (execs (_ :: _) _) _ _ _); (k_here; refine gen_toks (ty + 1) ?_ ?_; (exact Nat.le_trans (by assumption) (by (try dsimp only); omega)); intro tk9 hT9))) | walk1) | (leave1; (try dsimp only)) | fail "no step"))
  refine ⟨Int × Tok, x, tx, ty + 1, _, fun c => [(Str.ofString "count", .int c.1 c.2)], [], fun i c => c.1 = ones (x.cps.toList.take i), (0, _), rfl, by rfl, ?hT, by k_asm, by kst_all, rfl, ?turn, ?done⟩
  case hT => assumption
  case turn =>
    intro i c a t u h tk I oI ha hP ht Fk Nk
    obtain ⟨cv, ct⟩ := c
    dsimp only at hP Fk
    have ho := ones_step (l := x.cps.toList) (i := i) (a := a) (by simpa using ha)
    have hl := ones_le (x.cps.toList.take i)
    have hl2 : (x.cps.toList.take i).length ≤ 1000 := by
      have h3 : x.cps.toList.length ≤ 1000 := hx
      rw [List.length_take]
      omega
    try k_sweep
    try k_fold
    (repeat' (first | (k_unfold; (try dsimp only)) | (k_end; kc_close) | (with_reducible ((with_reducible show wpAny _ _ (compareOp CmpOp.Is _ _) _ _ _); (k_here; k_dflt (refine' is_str (none_booked (Frag.In.keeps (by assumption) (Fr.keep (by k_asm))) (Heap.NoLimit.keeps T'.nolimit (Fr.keep (by k_asm)))) ?z37xa ?z37xb ?z37xc ?_ ?_; (case z37xa => exact Nat.ne_of_gt (Nat.lt_of_lt_of_le (Nat.succ_pos _) ht)); (case z37xb => exact Nat.ne_of_gt hy0); (case z37xc => exact Nat.ne_of_gt ht); (intro hyz))))) | walk1 | (dsimp only; first | (with_reducible ((with_reducible show wpAny _ _ (compareOp CmpOp.Is _ _) _ _ _); (k_here; k_dflt (refine' is_str (none_booked (Frag.In.keeps (by assumption) (Fr.keep (by k_asm))) (Heap.NoLimit.keeps T'.nolimit (Fr.keep (by k_asm)))) ?z37xa ?z37xb ?z37xc ?_ ?_; (case z37xa => exact Nat.ne_of_gt (Nat.lt_of_lt_of_le (Nat.succ_pos _) ht)); (case z37xb => exact Nat.ne_of_gt hy0); (case z37xc => exact Nat.ne_of_gt ht); (intro hyz))))) | walk1) | (leave1; (try dsimp only)) | fail "no step"))
    · have e : a = 46 := by
        have h9 := congrArg Str.cps hyz
        exact congrArg (fun q : Array Nat => q.toList.headD 0) h9
      exact turn_end (cv + 1, _) (by k_asm) (by k_asm) (by k_mem) (by intro q hq; cases hq) (by intro q hq; cases hq) (by kst_all) (by ((intro z h1 h2 h3; (simp only [List.forall_mem_cons, List.not_mem_nil, false_implies, implies_true, and_true, ne_eq] at h2); (try simp only [List.contains_cons, List.contains_nil, Bool.or_false, Bool.or_eq_false_iff, beq_eq_false_iff_ne, ne_eq] at h3); simp [kstB, h1, h2, h3]))) (by dsimp only; rw [ho, if_pos e, hP])
    · have e : a = 46 := by
        have h9 := congrArg Str.cps (eq_of_beq (by assumption : ((⟨#[a]⟩ : Str) == Str.ofString ".") = true))
        exact congrArg (fun q : Array Nat => q.toList.headD 0) h9
      exact turn_end (cv + 1, _) (by k_asm) (by k_asm) (by k_mem) (by intro q hq; cases hq) (by intro q hq; cases hq) (by kst_all) (by ((intro z h1 h2 h3; (simp only [List.forall_mem_cons, List.not_mem_nil, false_implies, implies_true, and_true, ne_eq] at h2); (try simp only [List.contains_cons, List.contains_nil, Bool.or_false, Bool.or_eq_false_iff, beq_eq_false_iff_ne, ne_eq] at h3); simp [kstB, h1, h2, h3]))) (by dsimp only; rw [ho, if_pos e, hP])
    · have e : ¬ a = 46 := by
        intro e
        have h9 : ((⟨#[a]⟩ : Str) == Str.ofString ".") = false := by assumption
        rw [e] at h9
        exact absurd h9 (by decide)
      exact turn_end (cv, _) (by k_asm) (by k_asm) (by k_mem) (by intro q hq; cases hq) (by intro q hq; cases hq) (by kst_all) (by ((intro z h1 h2 h3; (simp only [List.forall_mem_cons, List.not_mem_nil, false_implies, implies_true, and_true, ne_eq] at h2); (try simp only [List.contains_cons, List.contains_nil, Bool.or_false, Bool.or_eq_false_iff, beq_eq_false_iff_ne, ne_eq] at h3); simp [kstB, h1, h2, h3]))) (by dsimp only; rw [ho, if_neg e, hP, Int.add_zero])
  case done =>
    intro c u h tk hP Fk
    obtain ⟨cv, ct⟩ := c
    have Nk : News g L' h [] := fun q hq => nomatch hq
    dsimp only at hP Fk
    try k_sweep
    try k_fold
    k_steps
    rw [show cv = ones x.cps.toList by rw [hP, List.take_of_length_le (by simp)]]
    refine ret _ _ _ (by k_asm) ?_
    exact frame_gen (ns := []) N (fun b o e hb => Fr.keep (h₀ := g) (by k_asm) b o (hg b o e hb)) (by k_asm) fun q hq => frame_ro (ns := []) N (fun q hq => by cases hq) (fun q hq => by cases hq) hq
end
def strOf (l : List Nat) : Str := ⟨l.toArray⟩
def rowsS (l : Nat) (es : List Ent) : List Str := es.map fun e => strOf (rowAt l e)
def preS (l : Nat) (es : List Ent) : List Str := es.map fun e => strOf (preRow l e)
theorem EntOk.short {e : Ent} (h : EntOk e) : e.c.length ≤ 1000 := by
  obtain ⟨c, hc, _⟩ := h.one
  rw [hc]
  show (1 : Nat) ≤ 1000
  decide
theorem pre_zero {e : Ent} (h : EntOk e) : Str.ofString "." ++ e.c = strOf (preRow 0 e) := by
  have h0 := h.h0
  apply Str.ext'
  apply Array.toList_inj.mp
  rw [Str.cps_append, Array.toList_append]
  unfold strOf preRow
  rw [if_neg (by omega), show min e.h ((0 : Nat) : Int) = 0 by omega]
  rfl
theorem strs_of {f : Ent → Str} : ∀ {ys : List Value} {es : List Ent}, ys.length = es.length → (∀ (j : Nat) (y : Value), ys[j]? = some y → ∃ (e : Ent) (tk : Tok), es[j]? = some e ∧ y = Value.str (f e) tk) → StrsAre ys (es.map f)
  | [], [], _, _ => .nil
  | y :: ys, e :: es, hl, h => by
    obtain ⟨e', tk, h1, rfl⟩ := h 0 y rfl
    obtain rfl : e = e' := Option.some.inj h1
    exact .cons _ _ (strs_of (by simpa using hl) fun j y hy => h (j + 1) y hy)
theorem strs_get : ∀ {vs : List Value} {ss : List Str} {k : Nat} {x : Str}, StrsAre vs ss → ss[k]? = some x → ∃ t, vs[k]? = some (.str x t)
  | _, _, 0, x, .cons y t h, hx => by
    obtain rfl : y = x := Option.some.inj hx
    exact ⟨t, rfl⟩
  | _, _, k + 1, x, .cons y t h, hx => strs_get (k := k) h (by simpa using hx)
theorem strs_set {y : Str} {t : Tok} : ∀ {vs : List Value} {ss : List Str} {k : Nat}, StrsAre vs ss → StrsAre (vs.set k (.str y t)) (ss.set k y)
  | _, _, _, .nil => .nil
  | _, _, 0, .cons _ _ h => .cons _ _ h
  | _, _, k + 1, .cons _ _ h => .cons _ _ (strs_set (k := k) h)
theorem strs_take : ∀ {vs : List Value} {ss : List Str} {k : Nat}, StrsAre vs ss → StrsAre (vs.take k) (ss.take k)
  | _, _, k, .nil => by
    rw [List.take_nil, List.take_nil]
    exact .nil
  | _, _, 0, .cons _ _ h => .nil
  | _, _, k + 1, .cons _ _ h => .cons _ _ (strs_take (k := k) h)
theorem strs_len : ∀ {vs : List Value} {ss : List Str}, StrsAre vs ss → vs.length = ss.length
  | _, _, .nil => rfl
  | _, _, .cons _ _ h => congrArg (· + 1) (strs_len h)
theorem snoc_inv {R : Nat → Value → Prop} {ys : List Value} {y : Value} (h0 : ∀ (j : Nat) (z : Value), ys[j]? = some z → R j z) (hy : R ys.length y) : ∀ (j : Nat) (z : Value), (ys ++ [y])[j]? = some z → R j z := by
  intro j z hz
  rcases Nat.lt_trichotomy j ys.length with h | h | h
  · rw [List.getElem?_append_left h] at hz
    exact h0 j z hz
  · subst h
    rw [List.getElem?_append_right (Nat.le_refl _), Nat.sub_self] at hz
    obtain rfl : y = z := Option.some.inj hz
    exact hy
  · rw [List.getElem?_eq_none (by simp; omega)] at hz
    cases hz
/-- the rows at level l when j of them behind d have been marked -/
def markE (l d j : Nat) (es : List Ent) : List Str := es.mapIdx fun i e => strOf (if d ≤ i ∧ i < d + j then 45 :: preRow l e else preRow l e)
theorem mark_zero (l d : Nat) (es : List Ent) : markE l d 0 es = preS l es := by
  apply List.ext_getElem?
  intro i
  unfold markE preS
  rw [List.getElem?_mapIdx, List.getElem?_map]
  cases es[i]? with
  | none => rfl
  | some e =>
    simp only [Option.map_some]
    rw [if_neg (by omega)]
theorem mark_get {l d j : Nat} {es : List Ent} {e : Ent} (h : es[d + j]? = some e) : (markE l d j es)[d + j]? = some (strOf (preRow l e)) := by
  unfold markE
  rw [List.getElem?_mapIdx, h]
  simp only [Option.map_some]
  rw [if_neg (by omega)]
theorem mark_set {l d j : Nat} {es : List Ent} {e : Ent} (h : es[d + j]? = some e) : (markE l d j es).set (d + j) (strOf (45 :: preRow l e)) = markE l d (j + 1) es := by
  apply List.ext_getElem?
  intro i
  rw [List.getElem?_set]
  unfold markE
  rw [List.getElem?_mapIdx, List.getElem?_mapIdx, List.length_mapIdx]
  by_cases hi : d + j = i
  · subst hi
    rw [if_pos rfl, if_pos (List.getElem?_eq_some_iff.mp h).1, h]
    simp only [Option.map_some]
    rw [if_pos (by omega)]
  · rw [if_neg hi]
    cases es[i]? with
    | none => rfl
    | some e' =>
      simp only [Option.map_some]
      by_cases hj : d ≤ i ∧ i < d + j
      · rw [if_pos hj, if_pos (by omega)]
      · rw [if_neg hj, if_neg (by omega)]
theorem mark_end {l : Nat} {es : List Ent} (hs : Sorted es) : markE l (cnt ((l : Int) - 1) es) (cnt l es - cnt ((l : Int) - 1) es) es = rowsS l es := by
  apply List.ext_getElem?
  intro i
  unfold markE rowsS
  rw [List.getElem?_mapIdx, List.getElem?_map]
  cases h : es[i]? with
  | none => rfl
  | some e =>
    simp only [Option.map_some]
    have h1 := cnt_iff (v := (l : Int) - 1) hs i e h
    have h2 := cnt_iff (v := (l : Int)) hs i e h
    have h3 := cnt_mono (v := (l : Int) - 1) (v' := (l : Int)) (by omega) es
    rw [rowAt_eq]
    by_cases hl : e.h = (l : Int)
    · have a1 : ¬ i < cnt ((l : Int) - 1) es := fun h => by
        have := h1.mpr h
        omega
      have a2 : i < cnt (l : Int) es := h2.mp (by omega)
      rw [if_pos hl, if_pos (by omega)]
    · rw [if_neg hl, if_neg]
      rintro ⟨b1, b2⟩
      have a1 : ¬ e.h ≤ (l : Int) - 1 := fun h => by
        have := h1.mp h
        omega
      have a2 : e.h ≤ (l : Int) := h2.mpr (by omega)
      omega
theorem cnt_neg {es : List Ent} (h : ∀ e ∈ es, EntOk e) : cnt (-1) es = 0 := by
  cases es with
  | nil => rfl
  | cons x r =>
    have := (h x (.head _)).h0
    have hx : ¬ x.h ≤ -1 := by omega
    simp [cnt, hx]
theorem preRow_len {l : Nat} {e : Ent} (h : EntOk e) : (preRow l e).length ≤ 10 := by
  obtain ⟨c, hc, _⟩ := h.one
  have h5 := h.h5
  unfold preRow
  rw [hc]
  simp only [List.length_append, List.length_replicate, Array.length_toList, List.size_toArray, List.length_cons, List.length_nil]
  split <;> simp <;> omega
theorem pre_short {l : Nat} {e : Ent} (h : EntOk e) : (strOf (preRow l e)).length ≤ 1000 := by
  have := preRow_len (l := l) h
  show (preRow l e).toArray.size ≤ 1000
  rw [List.size_toArray]
  omega
theorem dash_row {l : Nat} {e : Ent} : Str.ofString "-" ++ strOf (preRow l e) = strOf (45 :: preRow l e) := by
  apply Str.ext'
  apply Array.toList_inj.mp
  rw [Str.cps_append, Array.toList_append]
  rfl
def mailS (l : Nat) (es : List Ent) : List (List Nat × List Nat) := es.map fun e => (rowAt l e, e.e.cps.toList)
theorem mail_ok {l : Nat} {es : List Ent} (h : ∀ e ∈ es, EntOk e) : ∀ p ∈ mailS l es, RowOk p.1 ∧ EndOk p.2 := by
  intro p hp
  obtain ⟨e, he, rfl⟩ := List.mem_map.mp hp
  exact ⟨rowAt_ok (h e he), (h e he).fin⟩
theorem fin_len {x : List Nat} (h : EndOk x) : x.length ≤ 2 := by
  rcases h with rfl | rfl | rfl <;> decide
theorem mail_len {l : Nat} : ∀ {es : List Ent}, (∀ e ∈ es, EntOk e) → (mailOf (mailS l es)).length ≤ 10 * es.length
  | [], _ => Nat.le_refl _
  | e :: es, h => by
    have ih := mail_len (l := l) (es := es) fun x hx => h x (List.mem_cons_of_mem _ hx)
    have h1 := rowAt_len (l := l) (h e (.head _))
    have h2 := fin_len (h e (.head _)).fin
    have e1 : mailOf (mailS l (e :: es)) = (rowAt l e ++ e.e.cps.toList) ++ mailOf (mailS l es) := by simp [mailOf, mailS]
    rw [e1, List.length_append, List.length_append, List.length_cons]
    omega
theorem mail_join0 (l : Nat) : ∀ (es : List Ent), Str.join (Str.ofString "") (es.map fun e => strOf (rowAt l e) ++ e.e) = strOf (mailOf (mailS l es))
  | [] => rfl
  | [e] => by
    apply Str.ext'
    apply Array.toList_inj.mp
    show ((strOf (rowAt l e) ++ e.e)).cps.toList = _
    rw [Str.cps_append, Array.toList_append]
    simp [strOf, mailOf, mailS]
  | e :: e' :: es => by
    have ih := mail_join0 l (e' :: es)
    have h1 : Str.join (Str.ofString "") ((e :: e' :: es).map fun e => strOf (rowAt l e) ++ e.e) = (strOf (rowAt l e) ++ e.e) ++ Str.ofString "" ++ Str.join (Str.ofString "") ((e' :: es).map fun e => strOf (rowAt l e) ++ e.e) := rfl
    rw [h1, ih]
    apply Str.ext'
    apply Array.toList_inj.mp
    rw [Str.cps_append, Str.cps_append, Str.cps_append, Array.toList_append, Array.toList_append, Array.toList_append]
    simp [strOf, mailOf, mailS]
    rfl
theorem mail_join (l : Nat) (es : List Ent) : Txt.join (Str.ofString "") (es.map fun e => strOf (rowAt l e) ++ e.e) = strOf (mailOf (mailS l es)) := by
  rw [← mail_join0]
  exact StrLaws.glued_eq_join _ _
theorem mail_split {l : Nat} {es : List Ent} (hne : es ≠ []) (h : ∀ e ∈ es, EntOk e) : Txt.split ⟨(quoted (strOf (mailOf (mailS l es))).cps.toList).toArray⟩ crlf2 = preS (l + 1) es ++ [⟨#[]⟩] := by
  have e1 : (strOf (mailOf (mailS l es))).cps.toList = mailOf (mailS l es) := by simp [strOf]
  rw [e1, split_mail (by simpa [mailS] using hne) (mail_ok h)]
  congr 1
  unfold mailS preS
  rw [List.map_map]
  apply List.map_congr_left
  intro e he
  show (⟨(stuff (rowAt l e)).toArray⟩ : Str) = _
  rw [stuff_row]
  rfl
theorem crlf_is : Str.ofString "\r\n" = crlf2 := by decide +kernel
theorem weight_le {l : Nat} : ∀ {es : List Ent}, (∀ e ∈ es, EntOk e) → ((es.map fun e => strOf (rowAt l e) ++ e.e).map (·.length)).sum ≤ 10 * es.length
  | [], _ => Nat.le_refl _
  | e :: es, h => by
    have ih := weight_le (l := l) (es := es) fun x hx => h x (List.mem_cons_of_mem _ hx)
    have h1 := rowAt_len (l := l) (h e (.head _))
    have h2 := fin_len (h e (.head _)).fin
    have e1 : (strOf (rowAt l e) ++ e.e).length = (rowAt l e).length + e.e.cps.toList.length := by
      rw [strLen_append]
      simp [strOf, Str.length]
    simp only [List.map_cons, List.sum_cons, List.length_cons]
    omega
theorem segs_len : ∀ {ls : List (List Nat)}, (∀ l ∈ ls, l.length ≤ 11) → (segs ls).length ≤ 13 * ls.length
  | [], _ => Nat.le_refl _
  | l :: r, h => by
    have ih := segs_len (ls := r) fun x hx => h x (List.mem_cons_of_mem _ hx)
    have h1 := h l (.head _)
    have e1 : segs (l :: r) = l ++ 13 :: 10 :: segs r := rfl
    rw [e1, List.length_append, List.length_cons, List.length_cons, List.length_cons]
    omega
theorem stuff_len (l : List Nat) : (stuff l).length ≤ l.length + 1 := by
  cases l with
  | nil => exact Nat.zero_le _
  | cons c r =>
    rw [show stuff (c :: r) = if c = 46 then 46 :: 46 :: r else c :: r from rfl]
    split <;> simp
theorem quoted_len {l : Nat} {es : List Ent} (h : ∀ e ∈ es, EntOk e) : (quoted (strOf (mailOf (mailS l es))).cps.toList).length ≤ 13 * es.length := by
  have e1 : (strOf (mailOf (mailS l es))).cps.toList = mailOf (mailS l es) := by simp [strOf]
  rw [e1, quoted_mail (mail_ok h)]
  refine Nat.le_trans (segs_len ?_) (by simp [mailS])
  intro x hx
  obtain ⟨q, hq, rfl⟩ := List.mem_map.mp hx
  obtain ⟨e, he, rfl⟩ := List.mem_map.mp hq
  have := stuff_len (rowAt l e)
  have := rowAt_len (l := l) (h e he)
  dsimp only
  omega
section
variable {w : World} {A : Around} {E : Value → Shared → Prop} {s : Shared} {h₀ : Heap} {L : Addr} {m : Str → Option Value} {news news' : List (Addr × Obj)} {es : List Ent} {l : Nat}
theorem mail_join_led {D : Addr} {ys : List Value} {t : Tok} {Q : Value → Shared → Prop} (N : News h₀ L s.heap news) (hm : (D, LCg.lst ys) ∈ news) (hi : StrsAre ys (es.map fun e => strOf (rowAt l e) ++ e.e)) (hok : ∀ e ∈ es, EntOk e) (hlen : es.length = 4)
    (h : ∀ t' k, Q (.str (strOf (mailOf (mailS l es))) t') { s with toks := k }) : wpAny (MM w) A (call (.builtin "str.join") [.str (Str.ofString "") t, .ref D]) Q E s := by
  refine join_listW (items := ys.toArray) ⟨_, (N _ hm).1, rfl, _, rfl⟩ hi (by decide +kernel) ?_ ?_
  · have h1 := weight_le (l := l) hok
    rw [List.length_map]
    omega
  · rw [mail_join]
    exact h
theorem mail_split_led {t u : Tok} {Q : Value → Shared → Prop} (F : Fr h₀ L s.heap m) (N : News h₀ L s.heap news) (hok : ∀ e ∈ es, EntOk e) (hlen : es.length = 4)
    (h : ∀ D vs h' k, StrsAre vs (preS (l + 1) es ++ [⟨#[]⟩]) → Fr h₀ L h' m → News h₀ L h' ((D, listOf vs.toArray 0) :: news) → (∀ p ∈ news, p.1 < D) → Q (.ref D) { s with heap := h', toks := k }) :
    wpAny (MM w) A (call (.builtin "str.split") [.str ⟨(quoted (strOf (mailOf (mailS l es))).cps.toList).toArray⟩ t, .str (Str.ofString "\r\n") u]) Q E s := by
  have hne : es ≠ [] := by
    rintro rfl
    cases hlen
  rw [crlf_is]
  refine KSpl.split1 F N (by decide) (fun D vs h' k e hi F N lt => h D _ h' k ?_ F N lt) ?_
  · rw [e, mail_split hne hok] at hi
    exact hi
  · have := quoted_len (l := l) hok
    show (List.toArray _).size + 2 ≤ sizeLine
    rw [List.size_toArray, sizeLine_eq]
    omega
theorem slice4_led {a : Addr} {vs : List Value} {n : Nat} {u : Tok} {value slice : PySem.Expr} {Q : Value → Shared → Prop} (F : Fr h₀ L s.heap m) (N : News h₀ L s.heap news) (hm : (a, listOf vs.toArray n) ∈ news) (h4 : 4 ≤ vs.length) (hsz : vs.length ≤ 1000)
    (h : ∀ D h', Fr h₀ L h' m → News h₀ L h' ((D, listOf (vs.take 4).toArray 0) :: news) → (∀ p ∈ news, p.1 < D) → Q (.ref D) { s with heap := h' })
    (hs : subscripted slice false (.ref a) (.ref s.heap.objs.size) = operate [.ref s.heap.objs.size, .ref a] (getItem (.ref a) (.ref s.heap.objs.size)) := by with_unfolding_all rfl) :
    wpAny (MM w) A (subscriptTail value slice (.ref a) (.ref s.heap.objs.size)) Q E { s with heap := s.heap.push { cls := .type "slice", data := .fields #[.none, .int 4 u, .none] } } := by
  refine kba_turn (value' := Expr.Name (Str.ofString "_") ⟨0, 0, 0, 0⟩) (fun _ => rfl) (kms_slice_lit (its := vs.toArray) F N ⟨_, (N _ hm).1, rfl, _, rfl⟩ IsPart.none (IsPart.int _ _) ?_ h hs (fun _ => rfl) ?_)
  · show ((vs.toArray.toList.drop _).take _) = vs.take 4
    show (vs.drop 0).take (min 4 vs.length - 0) = vs.take 4
    rw [List.drop_zero, Nat.sub_zero, Nat.min_eq_left h4]
  · rw [List.size_toArray, sizeLine_eq]
    omega
theorem append_led {D : Addr} {vs : List Value} {n : Nat} {x : Value} {Q : Value → Shared → Prop} (F : Fr h₀ L s.heap m) (N : News h₀ L s.heap news) (U : Upd D (listOf vs.toArray n) (listOf (vs ++ [x]).toArray (n + 1)) news news') (hsz : vs.length ≤ 1000)
    (h : ∀ h', Fr h₀ L h' m → News h₀ L h' news' → Q .none { s with heap := h' }) : wpAny (MM w) A (call (.builtin "list.append") [.ref D, x]) Q E s := by
  refine append_K F N (its := vs.toArray) (n := n) (x := x) ?_ h ?_
  · rw [List.push_toArray]
    exact U
  · rw [List.size_toArray, sizeLine_eq]
    omega
theorem allLt_ne {d : Addr} {l : List (Addr × Obj)} (h : AllLt d l) : ∀ p ∈ l, p.1 ≠ d := by
  induction l with
  | nil => intro p hp; cases hp
  | cons q r ih =>
    intro p hp
    rcases List.mem_cons.mp hp with rfl | hp
    · exact Nat.ne_of_lt h.1
    · exact ih h.2 p hp
theorem off1_ne {d : Addr} {l : List (Addr × Obj)} (h : LCg.Off1 d l) : ∀ p ∈ l, p.1 ≠ d := by
  induction l with
  | nil => intro p hp; cases hp
  | cons q r ih =>
    intro p hp
    rcases List.mem_cons.mp hp with rfl | hp
    · exact h.1
    · exact ih h.2 p hp
end
section
structure SC where
  S : Addr
  R : Addr
  vs : List Value
  vR : List Value
  nS : Nat
  nR : Nat
  tl : List (Addr × Obj)
  dn : Int
  td : Tok
def pastLed (ps : List (Addr × List Value × Nat)) : List (Addr × Obj) := ps.map fun p => (p.1, listOf p.2.1.toArray p.2.2)
structure LvP (news : List (Addr × Obj)) (es : List Ent) (i : Nat) (c : SC) : Prop where
  offS : ∀ p ∈ c.tl, p.1 ≠ c.S
  RS : @Ne Nat c.R c.S
  dn : c.dn = cnt ((i : Int) - 1) es
  rows : StrsAre c.vR (if i = 0 then preS 0 es else rowsS (i - 1) es)
  past : ∃ ps : List (Addr × List Value × Nat), ps.length = i ∧ c.vs = ps.map (fun p => .ref p.1) ∧ c.tl = pastLed ps ++ news ∧ ∀ (j : Nat) (p : Addr × List Value × Nat), ps[j]? = some p → StrsAre p.2.1 (rowsS j es)
  offR : i = 0 → ∀ p ∈ c.tl, p.1 ≠ c.R
/-- the walk halts here -/
theorem subL_of {l all : List (Addr × Obj)} (h : ∀ p ∈ l, p ∈ all) : SubL l all := by
  induction l with
  | nil => trivial
  | cons q r ih => exact ⟨h q (.head _), ih fun p hp => h p (.tail _ hp)⟩
theorem mail_fits {l : Nat} {es : List Ent} (hok : ∀ e ∈ es, EntOk e) (hlen : es.length = 4) : (strOf (mailOf (mailS l es))).cps.size ≤ 400 := by
  have := mail_len (l := l) hok
  show (List.toArray _).size ≤ 400
  rw [List.size_toArray]
  omega
theorem news_tail {h₀ h : Heap} {L : Addr} {a b c : Addr × Obj} {tl : List (Addr × Obj)} (N : News h₀ L h (a :: b :: tl ++ [c])) : News h₀ L h (a :: b :: c :: tl) := by
  intro q hq
  refine N q ?_
  simp only [List.mem_cons, List.mem_append, List.cons_append, List.not_mem_nil, or_false] at hq ⊢
  rcases hq with h | h | h | h
  · exact .inl h
  · exact .inr (.inl h)
  · exact .inr (.inr (.inr h))
  · exact .inr (.inr (.inl h))
theorem news_tail2 {h₀ h : Heap} {L : Addr} {a b c d : Addr × Obj} {tl : List (Addr × Obj)} (N : News h₀ L h (a :: b :: c :: tl ++ [d])) : News h₀ L h (a :: b :: c :: d :: tl) := by
  intro q hq
  refine N q ?_
  simp only [List.mem_cons, List.mem_append, List.cons_append, List.not_mem_nil, or_false] at hq ⊢
  rcases hq with h | h | h | h | h
  · exact .inl h
  · exact .inr (.inl h)
  · exact .inr (.inr (.inl h))
  · exact .inr (.inr (.inr (.inr h)))
  · exact .inr (.inr (.inr (.inl h)))
theorem row_short {l : Nat} {e : Ent} (h : EntOk e) : (strOf (rowAt l e)).length ≤ 1000 := by
  have := rowAt_len (l := l) h
  show (rowAt l e).toArray.size ≤ 1000
  rw [List.size_toArray]
  omega
theorem fin_short {e : Ent} (h : EntOk e) : e.e.length ≤ 1000 := by
  have := fin_len h.fin
  have h2 : e.e.length = e.e.cps.toList.length := by simp [Str.length]
  omega
theorem news_swap {h₀ h : Heap} {L : Addr} {a b : Addr × Obj} {tl : List (Addr × Obj)} (N : News h₀ L h (a :: b :: tl)) : News h₀ L h (b :: a :: tl) := by
  intro q hq
  refine N q ?_
  simp only [List.mem_cons] at hq ⊢
  rcases hq with h | h | h
  · exact .inr (.inl h)
  · exact .inl h
  · exact .inr (.inr h)
theorem past_snoc {ps : List (Addr × List Value × Nat)} {X : Addr} {v : List Value} {nv : Nat} {nw tl : List (Addr × Obj)} (htl : tl = pastLed ps ++ nw) : ∀ q ∈ pastLed (ps ++ [(X, v, nv)]) ++ nw, q = (X, listOf v.toArray nv) ∨ q ∈ tl := by
  intro q hq
  rw [htl]
  rcases List.mem_append.mp hq with h | h
  · unfold pastLed at h
    rw [List.map_append] at h
    rcases List.mem_append.mp h with h | h
    · exact .inr (List.mem_append_left _ h)
    · exact .inl (List.mem_singleton.mp h)
  · exact .inr (List.mem_append_right _ h)
theorem past_rows {ps : List (Addr × List Value × Nat)} {X : Addr} {v : List Value} {nv i : Nat} {es : List Ent} (h : ∀ (j : Nat) (p : Addr × List Value × Nat), ps[j]? = some p → StrsAre p.2.1 (rowsS j es)) (hl : ps.length = i) (hv : StrsAre v (rowsS i es)) :
    ∀ (j : Nat) (p : Addr × List Value × Nat), (ps ++ [(X, v, nv)])[j]? = some p → StrsAre p.2.1 (rowsS j es) := by
  intro j q hq
  rcases Nat.lt_trichotomy j ps.length with hj | hj | hj
  · rw [List.getElem?_append_left hj] at hq
    exact h j q hq
  · rw [List.getElem?_append_right (by omega), hj, Nat.sub_self] at hq
    obtain rfl := Option.some.inj hq
    rw [hj, hl]
    exact hv
  · rw [List.getElem?_eq_none (by simp; omega)] at hq
    cases hq
theorem pre_start {ys : List Value} {es : List Ent} (hok : ∀ e ∈ es, EntOk e) (hl : ys.length = es.length) (hY : ∀ (j : Nat) (y : Value), ys[j]? = some y → ∃ (e : Ent) (tk : Tok), es[j]? = some e ∧ y = Value.str (Str.ofString "." ++ e.c) tk) : StrsAre ys (preS 0 es) := by
  refine strs_of hl fun j y hy => ?_
  obtain ⟨e, tk, he, rfl⟩ := hY j y hy
  exact ⟨e, tk, he, by rw [pre_zero (hok e (List.mem_of_getElem? he))]⟩
theorem five_of {vs : List Value} {l : Nat} {es : List Ent} {x : Str} (h : StrsAre vs (preS l es ++ [x])) (hl : es.length = 4) : vs.length = 5 := by
  rw [strs_len h, List.length_append]
  simp [preS, hl]
theorem take_of {vs : List Value} {l : Nat} {es : List Ent} {x : Str} (h : StrsAre vs (preS l es ++ [x])) (hl : es.length = 4) : StrsAre (vs.take 4) (preS l es) := by
  have h2 := strs_take (k := 4) h
  have hp : (preS l es).length = 4 := by rw [preS, List.length_map, hl]
  have e : (preS l es ++ [x]).take 4 = preS l es := by rw [← hp, List.take_left]
  rw [e] at h2
  exact h2
local macro_rules | `(tactic| walk_at "short") => `(tactic| exact EntOk.short (by assumption))
section
variable {w : World} {p : Program} {loose : List Str} {mean : ExcName → Option Value} {mg mb : Str → Option Value} {A : Around} {h₀ : Heap} {L : Addr} {m : Str → Option Value} {news : List (Addr × Obj)} {s : Shared} {Q E : Value → Shared → Prop}
theorem ListComp_ZF {prog : Program} {elt iter : Expr} {env : Env} {x x₂ : Str} {px px₂ tp : Pos} {tk} {scope : Scope} {cl : List (Str × Addr)} {pos : Pos} {Q : Value → Shared → Prop} (_F₀ : Fr h₀ L s.heap m)
    (hclos : closureFor scope env = pure cl) (hcell : ∀ y ∈ scope.names, y.2 ≠ .cell) (hkind : scope.kind = .function)
    (hnames : ∀ y ∈ scope.names, y.2 = .local → scope.names.lookup y.1 = some .local) (hx : scope.names.lookup x = some .local) (hx₂ : scope.names.lookup x₂ = some .local) (hxx : x ≠ x₂)
    (h : wpAny (model prog w) A (eval iter env) (SrcZ prog w A h₀ L m env elt x x₂ scope cl Q) E s)
    (hs : ∀ x, foldedSetIterable iter env x = pure x := by intro _; rfl) :
    wpAny (model prog w) A (eval (.ListComp elt [⟨.Tuple [.Name x px, .Name x₂ px₂] tk tp, iter, [], 0⟩] scope pos) env) Q E s := ListComp_Z hclos hcell hkind hnames hx hx₂ hxx h hs
local macro_rules | `(tactic| k_all) => `(tactic| first | with_reducible assumption | exact allLt_ne (by assumption) | exact off1_ne (by assumption))
theorem add_short {a b : Nat} (h : a ≤ 1000) (h' : b ≤ 1000) : a + b ≤ sizeLine := by rw [sizeLine_eq]; omega
local macro_rules | `(tactic| walk_at "short") => `(tactic| first | decide | exact pre_short (by assumption))
local macro_rules | `(tactic| walk_at "mail fits") => `(tactic| exact mail_fits (by assumption) (by assumption))
theorem sendings_ok {H : Addr} {oH : Obj} {es : List Ent} (G : Grd w p loose mean mg mb A h₀ L m news s.heap 100) (hm : (H, oH) ∈ news) (hO : HeirObj news oH es) (hlen : es.length = 4) (hok : ∀ e ∈ es, EntOk e) (hs : Sorted es)
    (ret : ∀ S (ps : List (Addr × List Value × Nat)) nS h' tk', Fr h₀ L h' m → News h₀ L h' ((S, listOf (ps.map fun p => Value.ref p.1).toArray nS) :: (pastLed ps ++ news)) → ps.length = 6 →
      (∀ (j : Nat) (p : Addr × List Value × Nat), ps[j]? = some p → StrsAre p.2.1 (rowsS j es)) → Q (.ref S) { s with heap := h', toks := tk' }) :
    wpAny (MM w) A (call (.ref 148) [.ref H] []) Q E s := by
  have hO9 := hO
  obtain ⟨hs4, nH, rfl, hes, hE⟩ := hO
  have hl4 : hs4.length = 4 := by rw [← hlen, hes, List.length_map]
  (((rename Grd _ _ _ _ _ _ _ _ _ _ _ _ _ => G); refine Grd.elim G ?_; clear G; intro dp un gd cn cs a ccd cl outer A₀ base hA B hk hd hu F X N T; subst hA))
  walk_at "call ref"
  rename Fr _ _ _ _ => F8
  with_unfolding_all change Fr _ _ _ (fun y => List.lookup y [(Str.ofString "heirs", Value.ref H)]) at F8
  (repeat' (first | (k_unfold; (try dsimp only)) | (k_end; kc_close) | (with_reducible ((with_reducible show wpAny _ _ (exec (Stmt.Assign _ (Expr.ListComp _ _ _ _) _) _) _ _ _); (k_here; lcg_look; k_dflt (refine Assign_ListComp_S (by k_asm) (by rfl) (by with_unfolding_all rfl) (by rfl) (by decide) (by rfl) (by decide) (by rfl) (by rfl) (by rfl) ?_)))) | walk1 | (dsimp only; first | (with_reducible ((with_reducible show wpAny _ _ (exec (Stmt.Assign _ (Expr.ListComp _ _ _ _) _) _) _ _ _); (k_here; lcg_look; k_dflt (refine Assign_ListComp_S (by k_asm) (by rfl) (by with_unfolding_all rfl) (by rfl) (by decide) (by rfl) (by decide) (by rfl) (by rfl) (by rfl) ?_)))) | walk1) | (leave1; (try dsimp only)) | fail "no step"))
  refine ⟨H, hs4.map fun p => Value.ref p.1, nH, news, fun (_ : Nat) (ys : List Value) (nw : List (Addr × Obj)) => nw = news ∧ ∀ (j : Nat) (y : Value), ys[j]? = some y → ∃ (e : Ent) (tk : Tok), es[j]? = some e ∧ y = Value.str (Str.ofString "." ++ e.c) tk, rfl, by rfl, ?hsz, by k_asm, by k_asm, ?hsrc, ⟨rfl, by simp⟩, ?turn, ?fin⟩
  case hsz => rw [List.length_map, hl4, sizeLine_eq]; omega
  case hsrc => rintro i ys nw ⟨rfl, _⟩; exact hm
  case turn =>
    rintro i v ys nw I oI C oC D m₂ h tk E' hv ⟨rfl, hY⟩ hyl h1 hC hx F₁ N₁ off ne
    obtain ⟨q, hq, rfl⟩ : ∃ q, hs4[i]? = some q ∧ v = .ref q.1 := by
      rw [List.getElem?_map] at hv
      cases hq : hs4[i]? with
      | none => rw [hq] at hv; cases hv
      | some q => rw [hq] at hv; exact ⟨q, rfl, (Option.some.inj hv).symm⟩
    have hqm := List.mem_of_getElem? hq
    have hE1 : EntAt nw q.1 q.2 := hE q hqm
    have hk1 : EntOk q.2 := hok _ (by rw [hes]; exact List.mem_map_of_mem hqm)
    clear ret
    (repeat' (first | (k_unfold; (try dsimp only)) | (k_end; kc_close) | (with_reducible ((k_here; (with_reducible show wpAny _ _ (call (Value.ref 98) [Value.ref _, Value.int 1 _] _) _ _ _); k_dflt (refine' letter_ok ?z36xG ?z36xht ?_; (case z36xG => walk_at "grd"); (case z36xht => walk_at "ent"); k_whole; intro h' tk' tk F' N'; (try k_sweep))))) | (with_reducible ((k_here; (with_reducible show wpAny _ _ (call (Value.ref 84) [Value.str _ _, Value.str _ _] _) _ _ _); k_dflt (refine' concat_ok ?z30xG ?z30xx ?z30xy ?_; (case z30xG => walk_at "grd"); (case z30xx => walk_at "short"); (case z30xy => walk_at "short"); k_whole; intro h' tk' t' F' N'; (try k_sweep))))) | walk1 | (dsimp only; first | (with_reducible ((k_here; (with_reducible show wpAny _ _ (call (Value.ref 98) [Value.ref _, Value.int 1 _] _) _ _ _); k_dflt (refine' letter_ok ?z36xG ?z36xht ?_; (case z36xG => walk_at "grd"); (case z36xht => walk_at "ent"); k_whole; intro h' tk' tk F' N'; (try k_sweep))))) | (with_reducible ((k_here; (with_reducible show wpAny _ _ (call (Value.ref 84) [Value.str _ _, Value.str _ _] _) _ _ _); k_dflt (refine' concat_ok ?z30xG ?z30xx ?z30xy ?_; (case z30xG => walk_at "grd"); (case z30xx => walk_at "short"); (case z30xy => walk_at "short"); k_whole; intro h' tk' t' F' N'; (try k_sweep))))) | walk1) | (leave1; (try dsimp only)) | fail "no step"))
    refine SeqEnd.of nw (by k_asm) (by k_asm) (fun p hp => hp) off ⟨rfl, snoc_inv hY ⟨q.2, _, ?_, rfl⟩⟩
    rw [hyl, hes, List.getElem?_map, hq]
    rfl
  case fin =>
    rintro ys nw hyl ⟨rfl, hY⟩ R h tk F₁ N₁ o1
    dsimp only
    (repeat' (first | (k_unfold; (try dsimp only)) | (k_end; kc_close) | (with_reducible ((k_here; (with_reducible show wpAny _ _ (pyIter (Value.ref _)) _ _ _); refine Halt.of ?_))) | walk1 | (dsimp only; first | (with_reducible ((k_here; (with_reducible show wpAny _ _ (pyIter (Value.ref _)) _ _ _); refine Halt.of ?_))) | walk1) | (leave1; (try dsimp only)) | fail "no step"))
    refine' range_loop (fun c : SC => (c.S, listOf c.vs.toArray c.nS) :: (c.R, listOf c.vR.toArray c.nR) :: c.tl) (fun c => [(Str.ofString "heirs", .ref H), (Str.ofString "rows", .ref c.R), (Str.ofString "states", .ref c.S), (Str.ofString "done", .int c.dn c.td)])
      [Str.ofString "mail", Str.ofString "head", Str.ofString "k"] (LvP nw es) ⟨_, R, [], ys, _, _, nw, 0, _⟩ (by rfl) (by assumption) (by decide) (n := 6) (by decide) (by k_asm) (by k_asm) ?hk ?hp ?turn ?done
    case hk => kst_all
    case hp => exact ⟨fun q hq => allLt_ne (And.right (by assumption : _ < _ ∧ AllLt _ nw)) q hq, Nat.ne_of_lt (And.left (by assumption : _ < _ ∧ AllLt _ nw)), by (dsimp only; rw [show (((0 : Nat) : Int) - 1) = -1 by decide, cnt_neg hok]; rfl), by (rw [if_pos rfl]; exact pre_start hok (by rw [hyl, List.length_map, hl4, hlen]) hY), ⟨[], rfl, rfl, rfl, fun j q hq => by cases hq⟩, fun _ => off1_ne o1⟩
    case turn =>
      intro i c t u h tk I oI hi hP hI Fk Nk
      obtain ⟨S, R', vs, vR, nS, nR, tl, dn, td⟩ := c
      simp only [Int.zero_add] at Fk
      dsimp only at hP hI Fk Nk
      clear ret hY
      replace Nk := news_tail Nk
      have hIS : @Ne Nat S I := hI _ List.mem_cons_self
      have hIR : @Ne Nat R' I := hI _ (List.mem_cons_of_mem _ List.mem_cons_self)
      have hIt : ∀ p ∈ tl, p.1 ≠ I := fun p hp => hI p (List.mem_cons_of_mem _ (List.mem_cons_of_mem _ hp))
      have oS := hP.offS
      have oRS := hP.RS
      have hdn := hP.dn
      have hrows := hP.rows
      dsimp only at oS oRS hdn hrows
      obtain ⟨ps, hps, hvs, htl, hpast⟩ := hP.past
      dsimp only at hvs htl
      have hsub : ∀ q ∈ nw, q ∈ tl := fun q hq => by rw [htl]; exact List.mem_append_right _ hq
      have hmt := hsub _ hm
      have hO8 := hO9.mono hsub
      have hE8 : ∀ q ∈ hs4, EntAt tl q.1 q.2 := fun q hq => (hE q hq).mono hsub
      have hmono := cnt_mono (v := (i : Int) - 1) (v' := (i : Int)) (by omega) es
      have hvl : vs.length = i := by rw [hvs, List.length_map, hps]
      clear hI hO9 hE N hm
      rcases Nat.eq_zero_or_pos i with hi0 | hi0
      · rw [if_pos hi0] at hrows
        have oR := hP.offR hi0
        dsimp only at oR
        (repeat' (first | (k_unfold; (try dsimp only)) | (k_end; kc_close) | (with_reducible ((k_here; (with_reducible show wpAny _ _ (call (Value.ref 49) [_, _, _] _) _ _ _); k_dflt (refine' bis_ok3 (cnt _ _) ?z47xG ?z47xhm ?z47xhH ?z47xhT ?z47xhlen ?z47xhlo ?z47xhr0 ?z47xhr1 (cnt_iff ?z47xhs) ?_; (case z47xG => walk_at "grd"); (case z47xhm => k_mem); (case z47xhH => assumption); (case z47xhT => exact subL_of (by walk_at "sub")); (case z47xhlen => omega); (case z47xhlo => omega); (case z47xhr0 => omega); (case z47xhr1 => exact cnt_le _ _); (case z47xhs => assumption); k_whole; intro h5 tk5 tk6 F5 N5; (try k_sweep))))) | (with_reducible ((k_here; (with_reducible show wpAny _ _ (pyIter (Value.ref _)) _ _ _); refine Halt.of ?_))) | walk1 | (dsimp only; first | (with_reducible ((k_here; (with_reducible show wpAny _ _ (call (Value.ref 49) [_, _, _] _) _ _ _); k_dflt (refine' bis_ok3 (cnt _ _) ?z47xG ?z47xhm ?z47xhH ?z47xhT ?z47xhlen ?z47xhlo ?z47xhr0 ?z47xhr1 (cnt_iff ?z47xhs) ?_; (case z47xG => walk_at "grd"); (case z47xhm => k_mem); (case z47xhH => assumption); (case z47xhT => exact subL_of (by walk_at "sub")); (case z47xhlen => omega); (case z47xhlo => omega); (case z47xhr0 => omega); (case z47xhr1 => exact cnt_le _ _); (case z47xhs => assumption); k_whole; intro h5 tk5 tk6 F5 N5; (try k_sweep))))) | (with_reducible ((k_here; (with_reducible show wpAny _ _ (pyIter (Value.ref _)) _ _ _); refine Halt.of ?_))) | walk1) | (leave1; (try dsimp only)) | fail "no step"))
        unfold Halt
        rename News _ _ _ _ => N9
        obtain ⟨tlX, sX, oX, NX⟩ : ∃ tlX, (∀ q ∈ tl, q ∈ tlX) ∧ (∀ q ∈ tlX, q.1 ≠ R' ∧ q.1 ≠ S ∧ q.1 ≠ I) ∧ News _ _ _ ((R', listOf vR.toArray nR) :: (S, listOf vs.toArray nS) :: (I, oI) :: tlX) := ⟨tl, fun _ h => h, fun q hq => ⟨oR q hq, oS q hq, hIt q hq⟩, news_swap N9⟩
        have XS : @Ne Nat R' S := oRS
        have XI : @Ne Nat R' I := hIR
        have hiX : StrsAre vR (preS i es) := hi0 ▸ hrows
        clear N9 hP
        generalize vR = vX at *
        generalize nR = nX at *
        generalize R' = X at *
        ((
  have hc4 : cnt (i : Int) es ≤ 4 := hlen ▸ cnt_le _ _
  have oX1 : ∀ q ∈ tlX, q.1 ≠ X := fun q hq => (oX q hq).1
  have oX2 : ∀ q ∈ tlX, q.1 ≠ S := fun q hq => (oX q hq).2.1
  have oX3 : ∀ q ∈ tlX, q.1 ≠ I := fun q hq => (oX q hq).2.2
  refine' range_loop (fun c : List Value × Nat => (X, listOf c.1.toArray c.2) :: (S, listOf vs.toArray nS) :: (I, oI) :: tlX) (fun _ => [(Str.ofString "heirs", .ref H), (Str.ofString "rows", .ref X), (Str.ofString "states", .ref S)]) []
    (fun j c => StrsAre c.1 (markE i (cnt ((i : Int) - 1) es) j es)) (vX, nX) (by rfl) (by assumption) ?small (n := cnt i es - cnt ((i : Int) - 1) es) ?size (by k_asm) NX ?hk2 ?hp2 ?turn2 ?done2
  case small => exact small_one (by omega) (by omega) (by omega) (by omega)
  case size => (rw [rangeSize_one]; split <;> omega)
  case hk2 => kst_all
  case hp2 => (rw [mark_zero]; exact hiX)
  case turn2 =>
    intro j c t u h tk I2 oI2 hj hP2 hI2 Fk2 Nk2
    obtain ⟨v, nv⟩ := c
    dsimp only at hP2 hI2 Fk2 Nk2
    obtain ⟨e, he⟩ : ∃ e, es[cnt ((i : Int) - 1) es + j]? = some e := ⟨_, List.getElem?_eq_getElem (by omega)⟩
    have hk8 : EntOk e := hok _ (List.mem_of_getElem? he)
    obtain ⟨t8, ht8⟩ := strs_get hP2 (mark_get he)
    have hkn : (dn + (j : Int)).toNat = cnt ((i : Int) - 1) es + j := by omega
    have hgx : v[(dn + (j : Int)).toNat]? = some (.str (strOf (preRow i e)) t8) := by rw [hkn]; exact ht8
    have hv4 : v.length = 4 := by rw [strs_len hP2, markE, List.length_mapIdx, hlen]
    replace Nk2 := news_tail2 Nk2
    have i1 : @Ne Nat X I2 := hI2 (X, listOf v.toArray nv) (by k_mem)
    have i2 : @Ne Nat S I2 := hI2 (S, listOf vs.toArray nS) (by k_mem)
    have i3 : @Ne Nat I I2 := hI2 (I, oI) (by k_mem)
    have i4 : ∀ q ∈ tlX, q.1 ≠ I2 := fun q hq => hI2 q (List.mem_cons_of_mem _ (List.mem_cons_of_mem _ (List.mem_cons_of_mem _ hq)))
    clear hI2 ht8
    (repeat' (first | (k_unfold; (try dsimp only)) | (k_end; kc_close) | (with_reducible ((k_here; (with_reducible show wpAny _ _ (call (Value.ref 105) _ _) _ _ _); k_dflt (refine' setitem_ok ?z49xG ?z49xU ?z49xa ?z49xb ?z49xc ?_; (case z49xG => walk_at "grd"); (case z49xU => k_upd); (case z49xa => omega); (case z49xb => omega); (case z49xc => omega); k_whole; intro h5 tk5 F5 N5; (try k_sweep))))) | (with_reducible ((k_here; (with_reducible show wpAny _ _ (call (Value.ref 98) [Value.ref _, Value.int (_ + _) _] _) _ _ _); k_dflt (refine' getitem_ok ?z48xG ?z48xm ?z48xa ?z48xb ?z48xx ?_; (case z48xG => walk_at "grd"); (case z48xm => k_mem); (case z48xa => omega); (case z48xb => omega); (case z48xx => assumption); k_whole; intro h5 tk5 F5 N5; (try k_sweep))))) | (with_reducible ((k_here; (with_reducible show wpAny _ _ (call (Value.ref 84) [Value.str _ _, Value.str _ _] _) _ _ _); k_dflt (refine' concat_ok ?z30xG ?z30xx ?z30xy ?_; (case z30xG => walk_at "grd"); (case z30xx => walk_at "short"); (case z30xy => walk_at "short"); k_whole; intro h' tk' t' F' N'; (try k_sweep))))) | walk1 | (dsimp only; first | (with_reducible ((k_here; (with_reducible show wpAny _ _ (call (Value.ref 105) _ _) _ _ _); k_dflt (refine' setitem_ok ?z49xG ?z49xU ?z49xa ?z49xb ?z49xc ?_; (case z49xG => walk_at "grd"); (case z49xU => k_upd); (case z49xa => omega); (case z49xb => omega); (case z49xc => omega); k_whole; intro h5 tk5 F5 N5; (try k_sweep))))) | (with_reducible ((k_here; (with_reducible show wpAny _ _ (call (Value.ref 98) [Value.ref _, Value.int (_ + _) _] _) _ _ _); k_dflt (refine' getitem_ok ?z48xG ?z48xm ?z48xa ?z48xb ?z48xx ?_; (case z48xG => walk_at "grd"); (case z48xm => k_mem); (case z48xa => omega); (case z48xb => omega); (case z48xx => assumption); k_whole; intro h5 tk5 F5 N5; (try k_sweep))))) | (with_reducible ((k_here; (with_reducible show wpAny _ _ (call (Value.ref 84) [Value.str _ _, Value.str _ _] _) _ _ _); k_dflt (refine' concat_ok ?z30xG ?z30xx ?z30xy ?_; (case z30xG => walk_at "grd"); (case z30xx => walk_at "short"); (case z30xy => walk_at "short"); k_whole; intro h' tk' t' F' N'; (try k_sweep))))) | walk1) | (leave1; (try dsimp only)) | fail "no step"))
    refine' turn_end (_, _) (by k_asm) (by k_asm) (by k_mem) ?n2 ?e2 (by kst_all) (by ((intro z h1 h2 h3; (simp only [List.forall_mem_cons, List.not_mem_nil, false_implies, implies_true, and_true, ne_eq] at h2); (try simp only [List.contains_cons, List.contains_nil, Bool.or_false, Bool.or_eq_false_iff, beq_eq_false_iff_ne, ne_eq] at h3); simp [kstB, h1, h2, h3]))) ?p2
    case n2 => exact List.forall_mem_cons.mpr ⟨by k_mem, List.forall_mem_cons.mpr ⟨by k_mem, List.forall_mem_cons.mpr ⟨by k_mem, by walk_at "sub"⟩⟩⟩
    case e2 => exact List.forall_mem_cons.mpr ⟨i1, List.forall_mem_cons.mpr ⟨i2, List.forall_mem_cons.mpr ⟨i3, i4⟩⟩⟩
    case p2 => (dsimp only; rw [hkn, dash_row, ← mark_set he]; exact strs_set hP2)
  case done2 =>
    intro c u h tk hP2 Fk2 Nk2
    obtain ⟨v, nv⟩ := c
    dsimp only at hP2 Fk2 Nk2
    rw [mark_end hs] at hP2
    (repeat' (first | (k_unfold; (try dsimp only)) | (k_end; kc_close) | (with_reducible ((k_here; (with_reducible show wpAny _ _ (call (Value.builtin _) [Value.ref _, _]) _ _ _); k_dflt (refine' append_led ?z44xF ?z44xN ?z44xU ?z44xz ?_; (case z44xF => k_asm); (case z44xN => k_asm); (case z44xU => k_upd); (case z44xz => omega); k_whole; intro h5 F5 N5; (try k_sweep))))) | walk1 | (dsimp only; first | (with_reducible ((k_here; (with_reducible show wpAny _ _ (call (Value.builtin _) [Value.ref _, _]) _ _ _); k_dflt (refine' append_led ?z44xF ?z44xN ?z44xU ?z44xz ?_; (case z44xF => k_asm); (case z44xN => k_asm); (case z44xU => k_upd); (case z44xz => omega); k_whole; intro h5 F5 N5; (try k_sweep))))) | walk1) | (leave1; (try dsimp only)) | fail "no step"))
    have hq9 : ∀ q ∈ pastLed (ps ++ [(X, v, nv)]) ++ nw, q = (X, listOf v.toArray nv) ∨ q ∈ tl := past_snoc htl
    refine' turn_end (⟨S, X, vs ++ [Value.ref X], v, nS + 1, nv, pastLed (ps ++ [(X, v, nv)]) ++ nw, _, _⟩ : SC) (by k_asm) (by k_asm) (by k_mem) ?n3 ?e3 ?k3 (by ((intro z h1 h2 h3; (simp only [List.forall_mem_cons, List.not_mem_nil, false_implies, implies_true, and_true, ne_eq] at h2); (try simp only [List.contains_cons, List.contains_nil, Bool.or_false, Bool.or_eq_false_iff, beq_eq_false_iff_ne, ne_eq] at h3); simp [kstB, h1, h2, h3]))) ?p3
    case n3 => exact List.forall_mem_cons.mpr ⟨by k_mem, List.forall_mem_cons.mpr ⟨by k_mem, fun q hq => by rcases hq9 q hq with rfl | hq; k_mem; exact List.mem_cons_of_mem _ (List.mem_cons_of_mem _ (List.mem_cons_of_mem _ (sX q hq)))⟩⟩
    case e3 => exact List.forall_mem_cons.mpr ⟨hIS, List.forall_mem_cons.mpr ⟨XI, fun q hq => by rcases hq9 q hq with rfl | hq; exact XI; exact hIt q hq⟩⟩
    case k3 => kst_all
    case p3 => exact ⟨fun q hq => by rcases hq9 q hq with rfl | hq; exact XS; exact oS q hq, XS, by (show ((cnt (i : Int) es : Nat) : Int) = _; rw [show ((i + 1 : Nat) : Int) - 1 = (i : Int) by omega]), by (rw [if_neg (Nat.succ_ne_zero i)]; exact hP2), ⟨ps ++ [(X, v, nv)], by rw [List.length_append, hps]; rfl, by (dsimp only; rw [hvs, List.map_append]; rfl), rfl, past_rows hpast hps hP2⟩, fun h => absurd h (Nat.succ_ne_zero i)⟩))
      · rw [if_neg (by omega)] at hrows
        (repeat' (first | (k_unfold; (try dsimp only)) | (k_end; kc_close) | (with_reducible ((with_reducible show wpAny _ _ (call (Value.type "zip") _ _) _ _ _); (k_here; k_dflt (refine call_zip_led (by k_asm) (by k_asm) (by k_mem) (by k_mem) ?_; intro zn zh zF zN zZ z1 z2 zL zoff)))) | (with_reducible ((with_reducible show wpAny _ _ (eval (Expr.ListComp _ _ _ _) _) _ _ _); (k_here; k_dflt (refine ListComp_ZF (by k_asm) (by rfl) (by decide) (by rfl) (by decide) (by rfl) (by rfl) (by decide) ?_)))) | walk1 | (dsimp only; first | (with_reducible ((with_reducible show wpAny _ _ (call (Value.type "zip") _ _) _ _ _); (k_here; k_dflt (refine call_zip_led (by k_asm) (by k_asm) (by k_mem) (by k_mem) ?_; intro zn zh zF zN zZ z1 z2 zL zoff)))) | (with_reducible ((with_reducible show wpAny _ _ (eval (Expr.ListComp _ _ _ _) _) _ _ _); (k_here; k_dflt (refine ListComp_ZF (by k_asm) (by rfl) (by decide) (by rfl) (by decide) (by rfl) (by rfl) (by decide) ?_)))) | walk1) | (leave1; (try dsimp only)) | fail "no step"))
        refine ⟨zn, _, _, _, _, _, 4, fun (j : Nat) (y : Value) => ∃ (e : Ent) (tk : Tok), es[j]? = some e ∧ y = Value.str (strOf (rowAt (i - 1) e) ++ e.e) tk, rfl, by rfl, ?zs, ?za, ?zb, by k_asm, by k_asm, zZ, z1, z2, zL, zoff, ?zt, ?zf⟩
        case zs => rw [sizeLine_eq]; omega
        case za => rw [List.size_toArray, strs_len hrows, rowsS, List.length_map, hlen]
        case zb => rw [List.size_toArray, List.length_map, hl4]
        case zt =>
          intro j v1 v2 C oC m₂ h t E' q1 q2 hC x1 x2 F₁ N₁
          obtain ⟨q, hq, rfl⟩ : ∃ q, hs4[j]? = some q ∧ v2 = .ref q.1 := by
            rw [List.getElem?_toArray, List.getElem?_map] at q2
            cases hq : hs4[j]? with
            | none => rw [hq] at q2; cases q2
            | some q => rw [hq] at q2; exact ⟨q, rfl, (Option.some.inj q2).symm⟩
          have he : es[j]? = some q.2 := by rw [hes, List.getElem?_map, hq]; rfl
          obtain ⟨t8, ht8⟩ := strs_get (k := j) (x := strOf (rowAt (i - 1) q.2)) hrows (by rw [rowsS, List.getElem?_map, he]; rfl)
          rw [List.getElem?_toArray, ht8] at q1
          obtain rfl := Option.some.inj q1
          obtain ⟨k1, k2, k3, k4, hq8⟩ := hE8 q (List.mem_of_getElem? hq)
          clear q1 q2
          have hx8 : (strOf (rowAt (i - 1) q.2)).length ≤ 1000 := row_short (hok _ (List.mem_of_getElem? he))
          have hy8 : q.2.e.length ≤ 1000 := fin_short (hok _ (List.mem_of_getElem? he))
          (repeat' (first | (k_unfold; (try dsimp only)) | (k_end; kc_close) | (with_reducible ((k_here; (with_reducible show wpAny _ _ (binaryOp Operator.Add (Value.str _ _) (Value.str _ _)) _ _ _); refine PyProof.Rows.add_str ?_ (add_short (by assumption) (by assumption)); intro t9 k9))) | walk1 | (dsimp only; first | (with_reducible ((k_here; (with_reducible show wpAny _ _ (binaryOp Operator.Add (Value.str _ _) (Value.str _ _)) _ _ _); refine PyProof.Rows.add_str ?_ (add_short (by assumption) (by assumption)); intro t9 k9))) | walk1) | (leave1; (try dsimp only)) | fail "no step"))
        case zf =>
          intro D h t ys2 F₁ N₁ o2 hl2 hY2
          have hi1 := strs_of (f := fun e => strOf (rowAt (i - 1) e) ++ e.e) (by rw [hl2, hlen]) hY2
          simp only [LCg.Off1] at o2
          dsimp only
          (repeat' (first | (k_unfold; (try dsimp only)) | (k_end; kc_close) | (with_reducible ((k_here; (with_reducible show wpAny _ _ (subscriptTail _ (PySem.Expr.Slice _ _ _ _) (Value.ref _) (Value.ref _)) _ _ _); k_dflt (refine' slice4_led ?z58xF ?z58xN ?z58xm ?z58xh4 ?z58xhsz ?_; (case z58xF => k_asm); (case z58xN => k_asm); (case z58xm => k_mem); (case z58xh4 => omega); (case z58xhsz => omega); intro D3 h3 F3 N3 lt3; k_lt lt3; have hi3 := take_of hi2 hlen)))) | (with_reducible ((with_reducible show wpAny _ _ (call (Value.builtin "str.split") _ _) _ _ _); (k_here; k_dflt (refine' mail_split_led ?z46xF ?z46xN ?z46xok ?z46xlen ?_; (case z46xF => k_asm); (case z46xN => k_asm); (case z46xok => assumption); (case z46xlen => assumption); intro D2 vs2 h2 k2 hi2 F2 N2 lt2; k_lt lt2; have h52 := five_of hi2 hlen)))) | (with_reducible ((with_reducible show wpAny _ _ (call (Value.builtin "str.join") _ _) _ _ _); (k_here; k_dflt (refine' mail_join_led ?z45xN ?z45xm ?z45xi ?z45xok ?z45xlen ?_; (case z45xN => k_asm); (case z45xm => k_mem); (case z45xi => assumption); (case z45xok => assumption); (case z45xlen => assumption); intro t9 k9)))) | (with_reducible ((k_here; (with_reducible show wpAny _ _ (call (Value.ref 49) [_, _, _] _) _ _ _); k_dflt (refine' bis_ok3 (cnt _ _) ?z47xG ?z47xhm ?z47xhH ?z47xhT ?z47xhlen ?z47xhlo ?z47xhr0 ?z47xhr1 (cnt_iff ?z47xhs) ?_; (case z47xG => walk_at "grd"); (case z47xhm => k_mem); (case z47xhH => assumption); (case z47xhT => exact subL_of (by walk_at "sub")); (case z47xhlen => omega); (case z47xhlo => omega); (case z47xhr0 => omega); (case z47xhr1 => exact cnt_le _ _); (case z47xhs => assumption); k_whole; intro h5 tk5 tk6 F5 N5; (try k_sweep))))) | (with_reducible ((k_here; (with_reducible show wpAny _ _ (pyIter (Value.ref _)) _ _ _); refine Halt.of ?_))) | (with_reducible ((k_here; (with_reducible show wpAny _ _ (call (Value.ref 122) [Value.str _ _] _) _ _ _); k_dflt (refine' quo_ok ?z26xG ?z26xx ?_; (case z26xG => walk_at "grd"); (case z26xx => walk_at "mail fits"); k_whole; intro h' tk' t' F' N'; (try k_sweep))))) | walk1 | (dsimp only; first | (with_reducible ((k_here; (with_reducible show wpAny _ _ (subscriptTail _ (PySem.Expr.Slice _ _ _ _) (Value.ref _) (Value.ref _)) _ _ _); k_dflt (refine' slice4_led ?z58xF ?z58xN ?z58xm ?z58xh4 ?z58xhsz ?_; (case z58xF => k_asm); (case z58xN => k_asm); (case z58xm => k_mem); (case z58xh4 => omega); (case z58xhsz => omega); intro D3 h3 F3 N3 lt3; k_lt lt3; have hi3 := take_of hi2 hlen)))) | (with_reducible ((with_reducible show wpAny _ _ (call (Value.builtin "str.split") _ _) _ _ _); (k_here; k_dflt (refine' mail_split_led ?z46xF ?z46xN ?z46xok ?z46xlen ?_; (case z46xF => k_asm); (case z46xN => k_asm); (case z46xok => assumption); (case z46xlen => assumption); intro D2 vs2 h2 k2 hi2 F2 N2 lt2; k_lt lt2; have h52 := five_of hi2 hlen)))) | (with_reducible ((with_reducible show wpAny _ _ (call (Value.builtin "str.join") _ _) _ _ _); (k_here; k_dflt (refine' mail_join_led ?z45xN ?z45xm ?z45xi ?z45xok ?z45xlen ?_; (case z45xN => k_asm); (case z45xm => k_mem); (case z45xi => assumption); (case z45xok => assumption); (case z45xlen => assumption); intro t9 k9)))) | (with_reducible ((k_here; (with_reducible show wpAny _ _ (call (Value.ref 49) [_, _, _] _) _ _ _); k_dflt (refine' bis_ok3 (cnt _ _) ?z47xG ?z47xhm ?z47xhH ?z47xhT ?z47xhlen ?z47xhlo ?z47xhr0 ?z47xhr1 (cnt_iff ?z47xhs) ?_; (case z47xG => walk_at "grd"); (case z47xhm => k_mem); (case z47xhH => assumption); (case z47xhT => exact subL_of (by walk_at "sub")); (case z47xhlen => omega); (case z47xhlo => omega); (case z47xhr0 => omega); (case z47xhr1 => exact cnt_le _ _); (case z47xhs => assumption); k_whole; intro h5 tk5 tk6 F5 N5; (try k_sweep))))) | (with_reducible ((k_here; (with_reducible show wpAny _ _ (pyIter (Value.ref _)) _ _ _); refine Halt.of ?_))) | (with_reducible ((k_here; (with_reducible show wpAny _ _ (call (Value.ref 122) [Value.str _ _] _) _ _ _); k_dflt (refine' quo_ok ?z26xG ?z26xx ?_; (case z26xG => walk_at "grd"); (case z26xx => walk_at "mail fits"); k_whole; intro h' tk' t' F' N'; (try k_sweep))))) | walk1) | (leave1; (try dsimp only)) | fail "no step"))
          unfold Halt
          rw [Nat.sub_add_cancel hi0] at hi3
          rename News _ _ _ _ => N9
          obtain ⟨tlX, sX, oX, NX⟩ : ∃ tlX, (∀ q ∈ tl, q ∈ tlX) ∧ (∀ q ∈ tlX, q.1 ≠ D3 ∧ q.1 ≠ S ∧ q.1 ≠ I) ∧ News _ _ _ ((D3, listOf (vs2.take 4).toArray 0) :: (S, listOf vs.toArray nS) :: (I, oI) :: tlX) := by
            refine ⟨(D2, listOf vs2.toArray 0) :: (D, LCg.lst ys2) :: (R', listOf vR.toArray nR) :: tl, ?_, ?_, ?_⟩
            · walk_at "sub"
            · refine List.forall_mem_cons.mpr ⟨⟨neN (by dsimp only; omega), neN (by dsimp only; omega), neN (by dsimp only; omega)⟩, List.forall_mem_cons.mpr ⟨⟨neN (by dsimp only; omega), neN (by dsimp only; omega), neN (by dsimp only; omega)⟩, List.forall_mem_cons.mpr ⟨⟨neN (by dsimp only; omega), neN (by dsimp only; omega), neN (by dsimp only; omega)⟩, fun q hq => ⟨allLt_ne lt3.2.2.2.2.2 q hq, oS q hq, hIt q hq⟩⟩⟩⟩
            · intro q hq
              refine N9 q ?_
              simp only [List.mem_cons] at hq ⊢
              rcases hq with h | h | h | h | h | h | h
              · exact .inl h
              · exact .inr (.inr (.inr (.inl h)))
              · exact .inr (.inr (.inr (.inr (.inr (.inl h)))))
              · exact .inr (.inl h)
              · exact .inr (.inr (.inl h))
              · exact .inr (.inr (.inr (.inr (.inl h))))
              · exact .inr (.inr (.inr (.inr (.inr (.inr h)))))
          have XS : @Ne Nat D3 S := by omega
          have XI : @Ne Nat D3 I := by omega
          clear N9 lt2 hi1 hi2 h52 o2 zF zN zZ z1 z2 zL zoff hY2
          generalize vs2.take 4 = vX at *
          generalize (0 : Nat) = nX at NX
          generalize D3 = X at *
          have hiX := hi3
          ((
  have hc4 : cnt (i : Int) es ≤ 4 := hlen ▸ cnt_le _ _
  have oX1 : ∀ q ∈ tlX, q.1 ≠ X := fun q hq => (oX q hq).1
  have oX2 : ∀ q ∈ tlX, q.1 ≠ S := fun q hq => (oX q hq).2.1
  have oX3 : ∀ q ∈ tlX, q.1 ≠ I := fun q hq => (oX q hq).2.2
  refine' range_loop (fun c : List Value × Nat => (X, listOf c.1.toArray c.2) :: (S, listOf vs.toArray nS) :: (I, oI) :: tlX) (fun _ => [(Str.ofString "heirs", .ref H), (Str.ofString "rows", .ref X), (Str.ofString "states", .ref S)]) []
    (fun j c => StrsAre c.1 (markE i (cnt ((i : Int) - 1) es) j es)) (vX, nX) (by rfl) (by assumption) ?small (n := cnt i es - cnt ((i : Int) - 1) es) ?size (by k_asm) NX ?hk2 ?hp2 ?turn2 ?done2
  case small => exact small_one (by omega) (by omega) (by omega) (by omega)
  case size => (rw [rangeSize_one]; split <;> omega)
  case hk2 => kst_all
  case hp2 => (rw [mark_zero]; exact hiX)
  case turn2 =>
    intro j c t u h tk I2 oI2 hj hP2 hI2 Fk2 Nk2
    obtain ⟨v, nv⟩ := c
    dsimp only at hP2 hI2 Fk2 Nk2
    obtain ⟨e, he⟩ : ∃ e, es[cnt ((i : Int) - 1) es + j]? = some e := ⟨_, List.getElem?_eq_getElem (by omega)⟩
    have hk8 : EntOk e := hok _ (List.mem_of_getElem? he)
    obtain ⟨t8, ht8⟩ := strs_get hP2 (mark_get he)
    have hkn : (dn + (j : Int)).toNat = cnt ((i : Int) - 1) es + j := by omega
    have hgx : v[(dn + (j : Int)).toNat]? = some (.str (strOf (preRow i e)) t8) := by rw [hkn]; exact ht8
    have hv4 : v.length = 4 := by rw [strs_len hP2, markE, List.length_mapIdx, hlen]
    replace Nk2 := news_tail2 Nk2
    have i1 : @Ne Nat X I2 := hI2 (X, listOf v.toArray nv) (by k_mem)
    have i2 : @Ne Nat S I2 := hI2 (S, listOf vs.toArray nS) (by k_mem)
    have i3 : @Ne Nat I I2 := hI2 (I, oI) (by k_mem)
    have i4 : ∀ q ∈ tlX, q.1 ≠ I2 := fun q hq => hI2 q (List.mem_cons_of_mem _ (List.mem_cons_of_mem _ (List.mem_cons_of_mem _ hq)))
    clear hI2 ht8
    (repeat' (first | (k_unfold; (try dsimp only)) | (k_end; kc_close) | (with_reducible ((k_here; (with_reducible show wpAny _ _ (call (Value.ref 105) _ _) _ _ _); k_dflt (refine' setitem_ok ?z49xG ?z49xU ?z49xa ?z49xb ?z49xc ?_; (case z49xG => walk_at "grd"); (case z49xU => k_upd); (case z49xa => omega); (case z49xb => omega); (case z49xc => omega); k_whole; intro h5 tk5 F5 N5; (try k_sweep))))) | (with_reducible ((k_here; (with_reducible show wpAny _ _ (call (Value.ref 98) [Value.ref _, Value.int (_ + _) _] _) _ _ _); k_dflt (refine' getitem_ok ?z48xG ?z48xm ?z48xa ?z48xb ?z48xx ?_; (case z48xG => walk_at "grd"); (case z48xm => k_mem); (case z48xa => omega); (case z48xb => omega); (case z48xx => assumption); k_whole; intro h5 tk5 F5 N5; (try k_sweep))))) | (with_reducible ((k_here; (with_reducible show wpAny _ _ (call (Value.ref 84) [Value.str _ _, Value.str _ _] _) _ _ _); k_dflt (refine' concat_ok ?z30xG ?z30xx ?z30xy ?_; (case z30xG => walk_at "grd"); (case z30xx => walk_at "short"); (case z30xy => walk_at "short"); k_whole; intro h' tk' t' F' N'; (try k_sweep))))) | walk1 | (dsimp only; first | (with_reducible ((k_here; (with_reducible show wpAny _ _ (call (Value.ref 105) _ _) _ _ _); k_dflt (refine' setitem_ok ?z49xG ?z49xU ?z49xa ?z49xb ?z49xc ?_; (case z49xG => walk_at "grd"); (case z49xU => k_upd); (case z49xa => omega); (case z49xb => omega); (case z49xc => omega); k_whole; intro h5 tk5 F5 N5; (try k_sweep))))) | (with_reducible ((k_here; (with_reducible show wpAny _ _ (call (Value.ref 98) [Value.ref _, Value.int (_ + _) _] _) _ _ _); k_dflt (refine' getitem_ok ?z48xG ?z48xm ?z48xa ?z48xb ?z48xx ?_; (case z48xG => walk_at "grd"); (case z48xm => k_mem); (case z48xa => omega); (case z48xb => omega); (case z48xx => assumption); k_whole; intro h5 tk5 F5 N5; (try k_sweep))))) | (with_reducible ((k_here; (with_reducible show wpAny _ _ (call (Value.ref 84) [Value.str _ _, Value.str _ _] _) _ _ _); k_dflt (refine' concat_ok ?z30xG ?z30xx ?z30xy ?_; (case z30xG => walk_at "grd"); (case z30xx => walk_at "short"); (case z30xy => walk_at "short"); k_whole; intro h' tk' t' F' N'; (try k_sweep))))) | walk1) | (leave1; (try dsimp only)) | fail "no step"))
    refine' turn_end (_, _) (by k_asm) (by k_asm) (by k_mem) ?n2 ?e2 (by kst_all) (by ((intro z h1 h2 h3; (simp only [List.forall_mem_cons, List.not_mem_nil, false_implies, implies_true, and_true, ne_eq] at h2); (try simp only [List.contains_cons, List.contains_nil, Bool.or_false, Bool.or_eq_false_iff, beq_eq_false_iff_ne, ne_eq] at h3); simp [kstB, h1, h2, h3]))) ?p2
    case n2 => exact List.forall_mem_cons.mpr ⟨by k_mem, List.forall_mem_cons.mpr ⟨by k_mem, List.forall_mem_cons.mpr ⟨by k_mem, by walk_at "sub"⟩⟩⟩
    case e2 => exact List.forall_mem_cons.mpr ⟨i1, List.forall_mem_cons.mpr ⟨i2, List.forall_mem_cons.mpr ⟨i3, i4⟩⟩⟩
    case p2 => (dsimp only; rw [hkn, dash_row, ← mark_set he]; exact strs_set hP2)
  case done2 =>
    intro c u h tk hP2 Fk2 Nk2
    obtain ⟨v, nv⟩ := c
    dsimp only at hP2 Fk2 Nk2
    rw [mark_end hs] at hP2
    (repeat' (first | (k_unfold; (try dsimp only)) | (k_end; kc_close) | (with_reducible ((k_here; (with_reducible show wpAny _ _ (call (Value.builtin _) [Value.ref _, _]) _ _ _); k_dflt (refine' append_led ?z44xF ?z44xN ?z44xU ?z44xz ?_; (case z44xF => k_asm); (case z44xN => k_asm); (case z44xU => k_upd); (case z44xz => omega); k_whole; intro h5 F5 N5; (try k_sweep))))) | walk1 | (dsimp only; first | (with_reducible ((k_here; (with_reducible show wpAny _ _ (call (Value.builtin _) [Value.ref _, _]) _ _ _); k_dflt (refine' append_led ?z44xF ?z44xN ?z44xU ?z44xz ?_; (case z44xF => k_asm); (case z44xN => k_asm); (case z44xU => k_upd); (case z44xz => omega); k_whole; intro h5 F5 N5; (try k_sweep))))) | walk1) | (leave1; (try dsimp only)) | fail "no step"))
    have hq9 : ∀ q ∈ pastLed (ps ++ [(X, v, nv)]) ++ nw, q = (X, listOf v.toArray nv) ∨ q ∈ tl := past_snoc htl
    refine' turn_end (⟨S, X, vs ++ [Value.ref X], v, nS + 1, nv, pastLed (ps ++ [(X, v, nv)]) ++ nw, _, _⟩ : SC) (by k_asm) (by k_asm) (by k_mem) ?n3 ?e3 ?k3 (by ((intro z h1 h2 h3; (simp only [List.forall_mem_cons, List.not_mem_nil, false_implies, implies_true, and_true, ne_eq] at h2); (try simp only [List.contains_cons, List.contains_nil, Bool.or_false, Bool.or_eq_false_iff, beq_eq_false_iff_ne, ne_eq] at h3); simp [kstB, h1, h2, h3]))) ?p3
    case n3 => exact List.forall_mem_cons.mpr ⟨by k_mem, List.forall_mem_cons.mpr ⟨by k_mem, fun q hq => by rcases hq9 q hq with rfl | hq; k_mem; exact List.mem_cons_of_mem _ (List.mem_cons_of_mem _ (List.mem_cons_of_mem _ (sX q hq)))⟩⟩
    case e3 => exact List.forall_mem_cons.mpr ⟨hIS, List.forall_mem_cons.mpr ⟨XI, fun q hq => by rcases hq9 q hq with rfl | hq; exact XI; exact hIt q hq⟩⟩
    case k3 => kst_all
    case p3 => exact ⟨fun q hq => by rcases hq9 q hq with rfl | hq; exact XS; exact oS q hq, XS, by (show ((cnt (i : Int) es : Nat) : Int) = _; rw [show ((i + 1 : Nat) : Int) - 1 = (i : Int) by omega]), by (rw [if_neg (Nat.succ_ne_zero i)]; exact hP2), ⟨ps ++ [(X, v, nv)], by rw [List.length_append, hps]; rfl, by (dsimp only; rw [hvs, List.map_append]; rfl), rfl, past_rows hpast hps hP2⟩, fun h => absurd h (Nat.succ_ne_zero i)⟩))
    case done =>
      intro c u h tk hP Fk Nk
      obtain ⟨S, R', vs, vR, nS, nR, tl, dn, td⟩ := c
      obtain ⟨ps, hps, hvs, htl, hpast⟩ := hP.past
      dsimp only at Fk Nk hvs htl
      clear hP hY
      k_steps
      refine ret S ps nS _ _ (by k_asm) ?_ hps hpast
      rename News _ _ _ _ => N9
      intro q hq
      refine N9 q ?_
      rw [hvs, htl]
      rcases List.mem_cons.mp hq with h | h
      · exact List.mem_cons.mpr (.inl h)
      · exact List.mem_cons_of_mem _ (List.mem_cons_of_mem _ h)
end
end
theorem ints_get : ∀ {vs : List Value} {ns : List Int} {k : Nat} {x : Int}, IntsAre vs ns → ns[k]? = some x → ∃ t, vs[k]? = some (.int x t)
  | _, _, 0, x, .cons y t h, hx => by
    obtain rfl : y = x := Option.some.inj hx
    exact ⟨t, rfl⟩
  | _, _, k + 1, x, .cons y t h, hx => ints_get (k := k) h (by simpa using hx)
theorem ints_snoc {x : Int} {t : Tok} : ∀ {vs : List Value} {ns : List Int}, IntsAre vs ns → IntsAre (vs ++ [.int x t]) (ns ++ [x])
  | _, _, .nil => .cons _ _ .nil
  | _, _, .cons _ _ h => .cons _ _ (ints_snoc h)
theorem ints_of {f : Ent → Int} : ∀ {ys : List Value} {es : List Ent}, ys.length = es.length → (∀ (j : Nat) (y : Value), ys[j]? = some y → ∃ (e : Ent) (tk : Tok), es[j]? = some e ∧ y = Value.int (f e) tk) → IntsAre ys (es.map f)
  | [], [], _, _ => .nil
  | y :: ys, e :: es, hl, h => by
    obtain ⟨e', tk, h1, rfl⟩ := h 0 y rfl
    obtain rfl : e = e' := Option.some.inj h1
    exact .cons _ _ (ints_of (by simpa using hl) fun j y hy => h (j + 1) y hy)
section
variable {w : World} {p : Program} {loose : List Str} {mean : ExcName → Option Value} {mg mb : Str → Option Value} {A : Around} {h₀ : Heap} {L : Addr} {m : Str → Option Value} {news : List (Addr × Obj)} {s : Shared} {Q E : Value → Shared → Prop}
theorem muli_ok {a b : Int} {t u : Tok} (G : Grd w p loose mean mg mb A h₀ L m news s.heap 10) (ha : Builtin.Int.intBits a ≤ 64) (ret : ∀ h' tk' tk, Fr h₀ L h' m → News h₀ L h' news → Q (.int (a * b) tk) { s with heap := h', toks := tk' }) :
    wpAny (MM w) A (call (.ref 70) [.int a t, .int b u] []) Q E s := by
  (((rename Grd _ _ _ _ _ _ _ _ _ _ _ _ _ => G); refine Grd.elim G ?_; clear G; intro dp un gd cn cs a ccd cl outer A₀ base hA B hk hd hu F X N T; subst hA))
  walk_at "call ref"
  (repeat' (first | (k_unfold; (try dsimp only)) | (k_end; kc_close) | (with_reducible ((with_reducible show wpAny _ _ (binaryOp Operator.Mult (Value.int _ _) (Value.int _ _)) _ _ _); (k_here; refine PyProof.Rows.mul_int ?_ (IntMulOk.of_left (by assumption))))) | walk1 | (dsimp only; first | (with_reducible ((with_reducible show wpAny _ _ (binaryOp Operator.Mult (Value.int _ _) (Value.int _ _)) _ _ _); (k_here; refine PyProof.Rows.mul_int ?_ (IntMulOk.of_left (by assumption))))) | walk1) | (leave1; (try dsimp only)) | fail "no step"))
  exact ret _ _ _ (by k_asm) (by k_asm)
theorem subi_ok {a b : Int} {t u : Tok} (G : Grd w p loose mean mg mb A h₀ L m news s.heap 10) (ret : ∀ h' tk' tk, Fr h₀ L h' m → News h₀ L h' news → Q (.int (a - b) tk) { s with heap := h', toks := tk' }) :
    wpAny (MM w) A (call (.ref 77) [.int a t, .int b u] []) Q E s := by
  (((rename Grd _ _ _ _ _ _ _ _ _ _ _ _ _ => G); refine Grd.elim G ?_; clear G; intro dp un gd cn cs a ccd cl outer A₀ base hA B hk hd hu F X N T; subst hA))
  walk_at "call ref"
  k_steps
  exact ret _ _ _ (by k_asm) (by k_asm)
theorem addi_ok {a b : Int} {t u : Tok} (G : Grd w p loose mean mg mb A h₀ L m news s.heap 10) (ret : ∀ h' tk' tk, Fr h₀ L h' m → News h₀ L h' news → Q (.int (a + b) tk) { s with heap := h', toks := tk' }) :
    wpAny (MM w) A (call (.ref 56) [.int a t, .int b u] []) Q E s := by
  (((rename Grd _ _ _ _ _ _ _ _ _ _ _ _ _ => G); refine Grd.elim G ?_; clear G; intro dp un gd cn cs a ccd cl outer A₀ base hA B hk hd hu F X N T; subst hA))
  walk_at "call ref"
  k_steps
  exact ret _ _ _ (by k_asm) (by k_asm)
theorem fdivi_ok {a b : Int} {t u : Tok} (G : Grd w p loose mean mg mb A h₀ L m news s.heap 10) (hb : 0 < b) (hb2 : b < 1000) (ret : ∀ h' tk' tk, Fr h₀ L h' m → News h₀ L h' news → Q (.int (a.fdiv b) tk) { s with heap := h', toks := tk' }) :
    wpAny (MM w) A (call (.ref 63) [.int a t, .int b u] []) Q E s := by
  (((rename Grd _ _ _ _ _ _ _ _ _ _ _ _ _ => G); refine Grd.elim G ?_; clear G; intro dp un gd cn cs a ccd cl outer A₀ base hA B hk hd hu F X N T; subst hA))
  walk_at "call ref"
  (repeat' (first | (k_unfold; (try dsimp only)) | (k_end; kc_close) | (with_reducible ((with_reducible show wpAny _ _ (binaryOp Operator.FloorDiv (Value.int _ _) (Value.int _ _)) _ _ _); (k_here; refine PyProof.Rows.floordiv_int (by omega) ?_ (Or.inl (PyProof.noPylong_small (by omega)))))) | walk1 | (dsimp only; first | (with_reducible ((with_reducible show wpAny _ _ (binaryOp Operator.FloorDiv (Value.int _ _) (Value.int _ _)) _ _ _); (k_here; refine PyProof.Rows.floordiv_int (by omega) ?_ (Or.inl (PyProof.noPylong_small (by omega)))))) | walk1) | (leave1; (try dsimp only)) | fail "no step"))
  exact ret _ _ _ (by k_asm) (by k_asm)
end
section
variable {w : World} {p : Program} {loose : List Str} {mean : ExcName → Option Value} {mg mb : Str → Option Value} {A : Around} {h₀ : Heap} {L : Addr} {m : Str → Option Value} {news : List (Addr × Obj)} {s : Shared} {Q E : Value → Shared → Prop}
theorem bisi_ok {D : Addr} {vs : List Value} {ns : List Int} {n : Nat} {x : Int} {tx : Tok} (r : Nat) (G : Grd w p loose mean mg mb A h₀ L m news s.heap 20) (hm : (D, listOf vs.toArray n) ∈ news) (hi : IntsAre vs ns)
    (hlen : ns.length < 100) (hr1 : r ≤ ns.length) (hr : ∀ (i : Nat) (y : Int), ns[i]? = some y → (y ≤ x ↔ i < r))
    (ret : ∀ h' tk' tk, Fr h₀ L h' m → News h₀ L h' news → Q (.int r tk) { s with heap := h', toks := tk' }) :
    wpAny (MM w) A (call (.ref 49) [.ref D, .int x tx] []) Q E s := by
  (((rename Grd _ _ _ _ _ _ _ _ _ _ _ _ _ => G); refine Grd.elim G ?_; clear G; intro dp un gd cn cs a ccd cl outer A₀ base hA B hk hd hu F X N T; subst hA))
  (k_dflt (refine wpAny_call ?_; (refine' code_def ?k1 ?k2 ?k3 ?k4 ?k5 ?kA ?kF ?kK ?k6 ?k7 ?k8 ?k9 ?kB ?_ ?c2 ?c3 ?c4 ?c5; (case kA => exact rfl); (case kF => exact rfl); (case kK => first | exact rfl | assumption); (case k1 => k_asm); (case k2 => k_asm); (case k3 => k_asm); (case k4 => k_asm); (case k5 => k_asm); (case k6 => k_is); (case k7 => k_is); (case k8 => ktr_room); (case c5 => decide); (case c2 => exact rfl); (case c3 => exact rfl); (case c4 => exact rfl))))
  case k9 =>
    intro M A E Q hq
    have X9 : (Mine.hd.heap_39 w.params).In s.heap := by k_in
    have e1 := X9 41 _ (by k_is)
    have e2 := X9 42 _ (by k_is)
    obtain ⟨mk, n2, hmk⟩ : ∃ mk, s.heap.Ns 42 mk ∧ mk (Str.ofString "key") = some Value.none := ⟨fun x => nsFind _ x, ⟨_, _, _, e2, rfl, fun e he => by (simp at he; subst he; exact ⟨_, _, rfl⟩), fun _ => rfl⟩, rfl⟩
    show wpAny M A (seqItems? (.ref 41) >>= _) Q E s
    refine wpAny_bind (wpAny_seqItems e1 rfl ?_)
    dsimp only [List.map_nil, List.map_cons, List.nil_append, List.cons_append, List.append_nil]
    refine wpAny_ite_false rfl ?_
    refine wpAny_ite_false rfl ?_
    refine wpAny_bind (wpAny_of_eq rfl ?_)
    refine wpAny_bind ?_
    show wpAny M A (forIn [Str.ofString "key"] _ _) _ E s
    rw [List.forIn_cons]
    refine wpAny_bind ?_
    refine wpAny_ite_true rfl ?_
    refine wpAny_bind (wpAny_nsGet n2 ?_)
    rw [hmk]
    refine wpAny_of_eq rfl ?_
    dsimp only
    rw [List.forIn_nil]
    refine wpAny_pure ?_
    refine wpAny_of_eq rfl hq
  case kB => exact locs rfl
  k_whole
  intro g' L' h' FG' F' N' B' X' T'
  (try dsimp only)
  (try k_lift B')
  (try k_fold)
  (repeat' (first | (k_unfold; (try dsimp only)) | (k_end; kc_close) | (with_reducible ((k_here; (with_reducible show wpAny _ _ (subscriptTail _ _ (Value.ref _) (Value.int (Int.fdiv _ 2) _)) _ _ _); k_dflt (have hq := fdiv_two (lo1 + hi1); (obtain ⟨y, hy⟩ : ∃ y, ns[((lo1 + hi1).fdiv 2).toNat]? = some y := ⟨_, List.getElem?_eq_getElem (by omega)⟩); (obtain ⟨ty, hvy⟩ := ints_get hi hy); have hx := hr _ _ hy; refine' item_led ?z63xsN hm ?z63xsa ?z63xsb hvy ?_; (case z63xsN => k_asm); (case z63xsa => omega); (case z63xsb => omega))))) | (with_reducible ((k_here; (with_reducible show wpAny _ _ (call (Value.builtin "len") [Value.ref _]) _ _ _); k_dflt (refine' len_led (k := ns.length) ?z61xlN hm ?z61xle ?z61xlf ?_; (case z61xlN => k_asm); (case z61xle => (rw [List.size_toArray]; exact hi.length)); (case z61xlf => omega))))) | (with_reducible ((with_reducible show wpAny _ _ (exec (Stmt.While _ _ _ _) _) _ _ _); (k_dflt (refine' ksw_while (σ := Int × Tok × Int × Tok) (fun _ => news) (fun c => [(Str.ofString "lo", Value.int c.1 c.2.1), (Str.ofString "hi", Value.int c.2.2.1 c.2.2.2)]) (fun _ => True) [Str.ofString "mid"] (fun c => 0 ≤ c.1 ∧ c.1 ≤ r ∧ (r : Int) ≤ c.2.2.1 ∧ c.2.2.1 ≤ ns.length) (fun c => (c.2.2.1 - c.1).toNat) (_, _, (ns.length : Int), _) ?z62xF ?z62xN trivial ?z62xhk ?z62xhp ?turn; (case z62xF => k_asm); (case z62xN => k_asm); (case z62xhk => kst_all); (case z62xhp => (dsimp only; omega)); intro c u hh tkk hf hp Fk Nk; obtain ⟨lo1, tlo, hi1, thi⟩ := c; obtain ⟨hp1, hp2, hp3, hp4⟩ := hp; dsimp only at hp1 hp2 hp3 hp4 Fk; (try dsimp only); (try k_sweep); (try k_fold))))) | (with_reducible ((with_reducible show wpAny _ _ (binaryOp Operator.FloorDiv (Value.int _ _) (Value.int _ _)) _ _ _); (k_here; refine PyProof.Rows.floordiv_int (by omega) ?_ (Or.inl (PyProof.noPylong_small (by omega)))))) | walk1 | (dsimp only; first | (with_reducible ((k_here; (with_reducible show wpAny _ _ (subscriptTail _ _ (Value.ref _) (Value.int (Int.fdiv _ 2) _)) _ _ _); k_dflt (have hq := fdiv_two (lo1 + hi1); (obtain ⟨y, hy⟩ : ∃ y, ns[((lo1 + hi1).fdiv 2).toNat]? = some y := ⟨_, List.getElem?_eq_getElem (by omega)⟩); (obtain ⟨ty, hvy⟩ := ints_get hi hy); have hx := hr _ _ hy; refine' item_led ?z63xsN hm ?z63xsa ?z63xsb hvy ?_; (case z63xsN => k_asm); (case z63xsa => omega); (case z63xsb => omega))))) | (with_reducible ((k_here; (with_reducible show wpAny _ _ (call (Value.builtin "len") [Value.ref _]) _ _ _); k_dflt (refine' len_led (k := ns.length) ?z61xlN hm ?z61xle ?z61xlf ?_; (case z61xlN => k_asm); (case z61xle => (rw [List.size_toArray]; exact hi.length)); (case z61xlf => omega))))) | (with_reducible ((with_reducible show wpAny _ _ (exec (Stmt.While _ _ _ _) _) _ _ _); (k_dflt (refine' ksw_while (σ := Int × Tok × Int × Tok) (fun _ => news) (fun c => [(Str.ofString "lo", Value.int c.1 c.2.1), (Str.ofString "hi", Value.int c.2.2.1 c.2.2.2)]) (fun _ => True) [Str.ofString "mid"] (fun c => 0 ≤ c.1 ∧ c.1 ≤ r ∧ (r : Int) ≤ c.2.2.1 ∧ c.2.2.1 ≤ ns.length) (fun c => (c.2.2.1 - c.1).toNat) (_, _, (ns.length : Int), _) ?z62xF ?z62xN trivial ?z62xhk ?z62xhp ?turn; (case z62xF => k_asm); (case z62xN => k_asm); (case z62xhk => kst_all); (case z62xhp => (dsimp only; omega)); intro c u hh tkk hf hp Fk Nk; obtain ⟨lo1, tlo, hi1, thi⟩ := c; obtain ⟨hp1, hp2, hp3, hp4⟩ := hp; dsimp only at hp1 hp2 hp3 hp4 Fk; (try dsimp only); (try k_sweep); (try k_fold))))) | (with_reducible ((with_reducible show wpAny _ _ (binaryOp Operator.FloorDiv (Value.int _ _) (Value.int _ _)) _ _ _); (k_here; refine PyProof.Rows.floordiv_int (by omega) ?_ (Or.inl (PyProof.noPylong_small (by omega)))))) | walk1) | (leave1; (try dsimp only)) | fail "no step"))
  · exact ksw_end (lo1, _, (lo1 + hi1).fdiv 2, _) (by k_asm) (by k_asm) (fun _ h => h) trivial (by kst_all) (by ((intro z h2 h3; (simp only [List.forall_mem_cons, List.not_mem_nil, false_implies, implies_true, and_true, ne_eq] at h2); (try simp only [List.contains_cons, List.contains_nil, Bool.or_false, Bool.or_eq_false_iff, beq_eq_false_iff_ne, ne_eq] at h3); simp [kstB, h2, h3]))) (by dsimp only; omega) (by dsimp only; omega)
  · exact ksw_end ((lo1 + hi1).fdiv 2 + 1, _, hi1, _) (by k_asm) (by k_asm) (fun _ h => h) trivial (by kst_all) (by ((intro z h2 h3; (simp only [List.forall_mem_cons, List.not_mem_nil, false_implies, implies_true, and_true, ne_eq] at h2); (try simp only [List.contains_cons, List.contains_nil, Bool.or_false, Bool.or_eq_false_iff, beq_eq_false_iff_ne, ne_eq] at h3); simp [kstB, h2, h3]))) (by dsimp only; omega) (by dsimp only; omega)
  · have e : lo1 = (r : Int) := by omega
    rw [e]
    exact ret _ _ _ (by k_asm) (by k_asm)
end
def gotRow (l : Nat) (es : List Ent) : List Int := es.map fun e => min e.h l
def tot (es : List Ent) (l : Nat) : Int := (gotRow l es).sum
def sumH (es : List Ent) : Int := (es.map fun e => e.h).sum
/-- how many of the first n totals are at most x -/
def countR (f : Nat → Int) (x : Int) : Nat → Nat
  | 0 => 0
  | n + 1 => if f n ≤ x then n + 1 else countR f x n
theorem countR_le (f : Nat → Int) (x : Int) : ∀ n, countR f x n ≤ n
  | 0 => Nat.le_refl _
  | n + 1 => by
    have := countR_le f x n
    unfold countR
    split <;> omega
theorem countR_iff {f : Nat → Int} (hf : ∀ a b, a ≤ b → f a ≤ f b) {x : Int} : ∀ {n i : Nat}, i < n → (f i ≤ x ↔ i < countR f x n)
  | 0, i, h => by omega
  | n + 1, i, h => by
    have hle := countR_le f x n
    unfold countR
    by_cases hx : f n ≤ x
    · rw [if_pos hx]
      have := hf i n (by omega)
      omega
    · rw [if_neg hx]
      rcases Nat.lt_or_ge i n with hi | hi
      · exact countR_iff hf hi
      · obtain rfl : i = n := by omega
        omega
theorem tot_mono (es : List Ent) {a b : Nat} (h : a ≤ b) : tot es a ≤ tot es b := by
  unfold tot gotRow
  induction es with
  | nil => exact Int.le_refl _
  | cons e r ih =>
    simp only [List.map_cons, List.sum_cons]
    omega
theorem tot_zero {es : List Ent} (h : ∀ e ∈ es, EntOk e) : tot es 0 = 0 := by
  unfold tot gotRow
  induction es with
  | nil => rfl
  | cons e r ih =>
    have h0 := (h e (.head _)).h0
    have := ih fun x hx => h x (.tail _ hx)
    simp only [List.map_cons, List.sum_cons]
    omega
theorem tot_five {es : List Ent} (h : ∀ e ∈ es, EntOk e) : tot es 5 = sumH es := by
  unfold tot gotRow sumH
  induction es with
  | nil => rfl
  | cons e r ih =>
    have h0 := (h e (.head _)).h5
    have := ih fun x hx => h x (.tail _ hx)
    simp only [List.map_cons, List.sum_cons]
    omega
/-- the common bound t of the shares at the level l, with `rest` beyond it -/
def tee (es : List Ent) (low : Int) : Int :=
  let l : Nat := countR (tot es) low 6 - 1
  12 * (l : Int) + Int.fdiv (12 * (low - tot es l)) (4 - (cnt (l : Int) es : Int))
def shareF (est low t : Int) (e : Ent) : Int := if low < est then 24 * e.h - min (12 * e.h) t else min (12 * e.h) t
theorem four_cases {es : List Ent} (h : es.length = 4) : ∃ a b c d, es = [a, b, c, d] := by
  match es, h with
  | [a, b, c, d], _ => exact ⟨a, b, c, d, rfl⟩
theorem fdiv4 {x : Int} (k : Int) (hk : 0 < k) : k * Int.fdiv x k ≤ x ∧ x < k * Int.fdiv x k + k := by
  rw [Int.fdiv_eq_ediv_of_nonneg _ (Int.le_of_lt hk)]
  exact ⟨Int.mul_ediv_self_le (by omega), Int.lt_mul_ediv_self_add hk⟩
theorem level_ok {es : List Ent} (hok : ∀ e ∈ es, EntOk e) {low : Int} (h0 : 0 ≤ low) :
    1 ≤ countR (tot es) low 6 ∧ countR (tot es) low 6 ≤ 6 ∧ tot es (countR (tot es) low 6 - 1) ≤ low ∧ (countR (tot es) low 6 - 1 < 5 → low < tot es (countR (tot es) low 6 - 1 + 1)) := by
  have hz := tot_zero hok
  have i0 := countR_iff (f := tot es) (fun _ _ h => tot_mono es h) (x := low) (n := 6) (i := 0) (by omega)
  have hle := countR_le (tot es) low 6
  have h1 : 1 ≤ countR (tot es) low 6 := by omega
  have i1 := countR_iff (f := tot es) (fun _ _ h => tot_mono es h) (x := low) (n := 6) (i := countR (tot es) low 6 - 1) (by omega)
  refine ⟨h1, hle, i1.mpr (by omega), fun h5 => ?_⟩
  have i2 := countR_iff (f := tot es) (fun _ _ h => tot_mono es h) (x := low) (n := 6) (i := countR (tot es) low 6 - 1 + 1) (by omega)
  omega
theorem lt_of_iff {x : Int} {l k n : Nat} (h : x ≤ (l : Int) ↔ k < n) (hk : ¬ k < n) : (l : Int) + 1 ≤ x := by
  have : ¬ x ≤ (l : Int) := fun h' => hk (h.mp h')
  omega
theorem le_pred {x : Int} {l : Nat} (h : (l : Int) + 1 ≤ x) : (l : Int) ≤ x := by omega
theorem le_succ (l : Nat) : (l : Int) ≤ ((l + 1 : Nat) : Int) := by omega
theorem five_nats {n : Nat} (h : n ≤ 0 + 1 + 1 + 1 + 1) : n = 0 ∨ n = 1 ∨ n = 2 ∨ n = 3 ∨ n = 4 := by omega
/-- the plain law of the shares: each heir's part is the smaller of twelve halves and the bound -/
theorem share_law {es : List Ent} (hlen : es.length = 4) (hok : ∀ e ∈ es, EntOk e) (hs : Sorted es) {low : Int} (h0 : 0 ≤ low) (h1 : low ≤ sumH es) :
    0 ≤ tee es low ∧ (es.map fun e => min (12 * e.h) (tee es low)).sum = 12 * low ∧
      ∀ (k : Nat) (e : Ent), es[k]? = some e → (if cnt ((countR (tot es) low 6 - 1 : Nat) : Int) es ≤ k then 12 * min e.h ((countR (tot es) low 6 - 1 : Nat) : Int) + Int.fdiv (12 * (low - tot es (countR (tot es) low 6 - 1))) (4 - (cnt ((countR (tot es) low 6 - 1 : Nat) : Int) es : Int)) else 12 * min e.h ((countR (tot es) low 6 - 1 : Nat) : Int)) = min (12 * e.h) (tee es low) := by
  obtain ⟨l1, l2, l3, l4⟩ := level_ok hok h0
  have ht : tee es low = 12 * ((countR (tot es) low 6 - 1 : Nat) : Int) + Int.fdiv (12 * (low - tot es (countR (tot es) low 6 - 1))) (4 - (cnt ((countR (tot es) low 6 - 1 : Nat) : Int) es : Int)) := rfl
  generalize hl : countR (tot es) low 6 - 1 = l at *
  have l5 : l ≤ 5 := by omega
  obtain ⟨a, b, c, d, rfl⟩ := four_cases hlen
  have oa := hok a (by simp)
  have ob := hok b (by simp)
  have oc := hok c (by simp)
  have od := hok d (by simp)
  have ca := cnt_iff (v := (l : Int)) hs 0 a rfl
  have cb := cnt_iff (v := (l : Int)) hs 1 b rfl
  have cc := cnt_iff (v := (l : Int)) hs 2 c rfl
  have cd := cnt_iff (v := (l : Int)) hs 3 d rfl
  have cl := cnt_le (l : Int) [a, b, c, d]
  have a0 := oa.h0; have b0 := ob.h0; have c0 := oc.h0; have d0 := od.h0
  have a5 := oa.h5; have b5 := ob.h5; have c5 := oc.h5; have d5 := od.h5
  have tl : tot [a, b, c, d] l = min a.h l + min b.h l + min c.h l + min d.h l := by simp [tot, gotRow]; omega
  have tl' : tot [a, b, c, d] (l + 1) = min a.h (l + 1 : Nat) + min b.h (l + 1 : Nat) + min c.h (l + 1 : Nat) + min d.h (l + 1 : Nat) := by simp [tot, gotRow]; omega
  have sl : sumH [a, b, c, d] = a.h + b.h + c.h + d.h := by simp [sumH]; omega
  rw [sl] at h1
  rw [tl] at l3 ht ⊢
  rw [tl'] at l4
  simp only [List.length_cons, List.length_nil] at cl
  have key : 0 ≤ tee [a, b, c, d] low ∧ (min (12 * a.h) (tee [a, b, c, d] low) + min (12 * b.h) (tee [a, b, c, d] low) + min (12 * c.h) (tee [a, b, c, d] low) + min (12 * d.h) (tee [a, b, c, d] low) = 12 * low) ∧ (∀ k e, [a, b, c, d][k]? = some e → (cnt (l : Int) [a, b, c, d] ≤ k → tee [a, b, c, d] low ≤ 12 * e.h) ∧ (k < cnt (l : Int) [a, b, c, d] → 12 * e.h ≤ tee [a, b, c, d] low)) := by
    generalize tee [a, b, c, d] low = t at *
    generalize hn : cnt (l : Int) [a, b, c, d] = n at *
    have at4 : ∀ {P : Nat → Ent → Prop}, P 0 a → P 1 b → P 2 c → P 3 d → ∀ k e, [a, b, c, d][k]? = some e → P k e := by
      intro P p0 p1 p2 p3 k e he
      match k, he with
      | 0, he => exact (Option.some.inj he) ▸ p0
      | 1, he => exact (Option.some.inj he) ▸ p1
      | 2, he => exact (Option.some.inj he) ▸ p2
      | 3, he => exact (Option.some.inj he) ▸ p3
      | k + 4, he => simp at he
    obtain rfl | rfl | rfl | rfl | rfl : n = 0 ∨ n = 1 ∨ n = 2 ∨ n = 3 ∨ n = 4 := five_nats cl
    · have xa : (l : Int) + 1 ≤ a.h := lt_of_iff ca (by decide)
      have xb : (l : Int) + 1 ≤ b.h := lt_of_iff cb (by decide)
      have xc : (l : Int) + 1 ≤ c.h := lt_of_iff cc (by decide)
      have xd : (l : Int) + 1 ≤ d.h := lt_of_iff cd (by decide)
      rw [Int.min_eq_right (le_pred xa), Int.min_eq_right (le_pred xb), Int.min_eq_right (le_pred xc), Int.min_eq_right (le_pred xd)] at l3 ht
      rw [Int.min_eq_right (Int.le_trans (Int.le_of_eq (Int.natCast_succ l)) xa), Int.min_eq_right (Int.le_trans (Int.le_of_eq (Int.natCast_succ l)) xb), Int.min_eq_right (Int.le_trans (Int.le_of_eq (Int.natCast_succ l)) xc), Int.min_eq_right (Int.le_trans (Int.le_of_eq (Int.natCast_succ l)) xd), Int.natCast_succ] at l4
      clear ca cb cc cd tl tl' cl hn sl
      have q := fdiv4 (x := 12 * (low - ((l : Int) + (l : Int) + (l : Int) + (l : Int)))) 4 (by decide)
      rw [show (4 : Int) - ((0 : Nat) : Int) = 4 by decide] at ht
      generalize Int.fdiv (12 * (low - ((l : Int) + (l : Int) + (l : Int) + (l : Int)))) 4 = z at *
      have lx : l < 5 := by omega
      have l4 := l4 lx
      have t0 : 0 ≤ t := by omega
      have ta : t ≤ 12 * a.h := by omega
      have tb : t ≤ 12 * b.h := by omega
      have tc : t ≤ 12 * c.h := by omega
      have td : t ≤ 12 * d.h := by omega
      refine ⟨t0, by rw [Int.min_eq_right ta, Int.min_eq_right tb, Int.min_eq_right tc, Int.min_eq_right td]; omega, at4 ?_ ?_ ?_ ?_⟩
      · exact ⟨fun _ => ta, fun h => absurd h (by decide)⟩
      · exact ⟨fun _ => tb, fun h => absurd h (by decide)⟩
      · exact ⟨fun _ => tc, fun h => absurd h (by decide)⟩
      · exact ⟨fun _ => td, fun h => absurd h (by decide)⟩
    · have xa : a.h ≤ (l : Int) := ca.mpr (by decide)
      have xb : (l : Int) + 1 ≤ b.h := lt_of_iff cb (by decide)
      have xc : (l : Int) + 1 ≤ c.h := lt_of_iff cc (by decide)
      have xd : (l : Int) + 1 ≤ d.h := lt_of_iff cd (by decide)
      rw [Int.min_eq_left xa, Int.min_eq_right (le_pred xb), Int.min_eq_right (le_pred xc), Int.min_eq_right (le_pred xd)] at l3 ht
      rw [Int.min_eq_left (Int.le_trans xa (le_succ l)), Int.min_eq_right (Int.le_trans (Int.le_of_eq (Int.natCast_succ l)) xb), Int.min_eq_right (Int.le_trans (Int.le_of_eq (Int.natCast_succ l)) xc), Int.min_eq_right (Int.le_trans (Int.le_of_eq (Int.natCast_succ l)) xd), Int.natCast_succ] at l4
      clear ca cb cc cd tl tl' cl hn sl
      have q := fdiv4 (x := 12 * (low - (a.h + (l : Int) + (l : Int) + (l : Int)))) 3 (by decide)
      rw [show (4 : Int) - ((1 : Nat) : Int) = 3 by decide] at ht
      generalize Int.fdiv (12 * (low - (a.h + (l : Int) + (l : Int) + (l : Int)))) 3 = z at *
      have lx : l < 5 := by omega
      have l4 := l4 lx
      have t0 : 0 ≤ t := by omega
      have ta : 12 * a.h ≤ t := by omega
      have tb : t ≤ 12 * b.h := by omega
      have tc : t ≤ 12 * c.h := by omega
      have td : t ≤ 12 * d.h := by omega
      refine ⟨t0, by rw [Int.min_eq_left ta, Int.min_eq_right tb, Int.min_eq_right tc, Int.min_eq_right td]; omega, at4 ?_ ?_ ?_ ?_⟩
      · exact ⟨fun h => absurd h (by decide), fun _ => ta⟩
      · exact ⟨fun _ => tb, fun h => absurd h (by decide)⟩
      · exact ⟨fun _ => tc, fun h => absurd h (by decide)⟩
      · exact ⟨fun _ => td, fun h => absurd h (by decide)⟩
    · have xa : a.h ≤ (l : Int) := ca.mpr (by decide)
      have xb : b.h ≤ (l : Int) := cb.mpr (by decide)
      have xc : (l : Int) + 1 ≤ c.h := lt_of_iff cc (by decide)
      have xd : (l : Int) + 1 ≤ d.h := lt_of_iff cd (by decide)
      rw [Int.min_eq_left xa, Int.min_eq_left xb, Int.min_eq_right (le_pred xc), Int.min_eq_right (le_pred xd)] at l3 ht
      rw [Int.min_eq_left (Int.le_trans xa (le_succ l)), Int.min_eq_left (Int.le_trans xb (le_succ l)), Int.min_eq_right (Int.le_trans (Int.le_of_eq (Int.natCast_succ l)) xc), Int.min_eq_right (Int.le_trans (Int.le_of_eq (Int.natCast_succ l)) xd), Int.natCast_succ] at l4
      clear ca cb cc cd tl tl' cl hn sl
      have q := fdiv4 (x := 12 * (low - (a.h + b.h + (l : Int) + (l : Int)))) 2 (by decide)
      rw [show (4 : Int) - ((2 : Nat) : Int) = 2 by decide] at ht
      generalize Int.fdiv (12 * (low - (a.h + b.h + (l : Int) + (l : Int)))) 2 = z at *
      have lx : l < 5 := by omega
      have l4 := l4 lx
      have t0 : 0 ≤ t := by omega
      have ta : 12 * a.h ≤ t := by omega
      have tb : 12 * b.h ≤ t := by omega
      have tc : t ≤ 12 * c.h := by omega
      have td : t ≤ 12 * d.h := by omega
      refine ⟨t0, by rw [Int.min_eq_left ta, Int.min_eq_left tb, Int.min_eq_right tc, Int.min_eq_right td]; omega, at4 ?_ ?_ ?_ ?_⟩
      · exact ⟨fun h => absurd h (by decide), fun _ => ta⟩
      · exact ⟨fun h => absurd h (by decide), fun _ => tb⟩
      · exact ⟨fun _ => tc, fun h => absurd h (by decide)⟩
      · exact ⟨fun _ => td, fun h => absurd h (by decide)⟩
    · have xa : a.h ≤ (l : Int) := ca.mpr (by decide)
      have xb : b.h ≤ (l : Int) := cb.mpr (by decide)
      have xc : c.h ≤ (l : Int) := cc.mpr (by decide)
      have xd : (l : Int) + 1 ≤ d.h := lt_of_iff cd (by decide)
      rw [Int.min_eq_left xa, Int.min_eq_left xb, Int.min_eq_left xc, Int.min_eq_right (le_pred xd)] at l3 ht
      rw [Int.min_eq_left (Int.le_trans xa (le_succ l)), Int.min_eq_left (Int.le_trans xb (le_succ l)), Int.min_eq_left (Int.le_trans xc (le_succ l)), Int.min_eq_right (Int.le_trans (Int.le_of_eq (Int.natCast_succ l)) xd), Int.natCast_succ] at l4
      clear ca cb cc cd tl tl' cl hn sl
      have q := fdiv4 (x := 12 * (low - (a.h + b.h + c.h + (l : Int)))) 1 (by decide)
      rw [show (4 : Int) - ((3 : Nat) : Int) = 1 by decide] at ht
      generalize Int.fdiv (12 * (low - (a.h + b.h + c.h + (l : Int)))) 1 = z at *
      have lx : l < 5 := by omega
      have l4 := l4 lx
      have t0 : 0 ≤ t := by omega
      have ta : 12 * a.h ≤ t := by omega
      have tb : 12 * b.h ≤ t := by omega
      have tc : 12 * c.h ≤ t := by omega
      have td : t ≤ 12 * d.h := by omega
      refine ⟨t0, by rw [Int.min_eq_left ta, Int.min_eq_left tb, Int.min_eq_left tc, Int.min_eq_right td]; omega, at4 ?_ ?_ ?_ ?_⟩
      · exact ⟨fun h => absurd h (by decide), fun _ => ta⟩
      · exact ⟨fun h => absurd h (by decide), fun _ => tb⟩
      · exact ⟨fun h => absurd h (by decide), fun _ => tc⟩
      · exact ⟨fun _ => td, fun h => absurd h (by decide)⟩
    · have xa : a.h ≤ (l : Int) := ca.mpr (by decide)
      have xb : b.h ≤ (l : Int) := cb.mpr (by decide)
      have xc : c.h ≤ (l : Int) := cc.mpr (by decide)
      have xd : d.h ≤ (l : Int) := cd.mpr (by decide)
      rw [Int.min_eq_left xa, Int.min_eq_left xb, Int.min_eq_left xc, Int.min_eq_left xd] at l3 ht
      rw [Int.min_eq_left (Int.le_trans xa (le_succ l)), Int.min_eq_left (Int.le_trans xb (le_succ l)), Int.min_eq_left (Int.le_trans xc (le_succ l)), Int.min_eq_left (Int.le_trans xd (le_succ l))] at l4
      clear ca cb cc cd tl tl' cl hn sl
      rw [show (4 : Int) - ((4 : Nat) : Int) = 0 by decide, Int.fdiv_zero] at ht
      have t0 : 0 ≤ t := by omega
      have ta : 12 * a.h ≤ t := by omega
      have tb : 12 * b.h ≤ t := by omega
      have tc : 12 * c.h ≤ t := by omega
      have td : 12 * d.h ≤ t := by omega
      refine ⟨t0, by rw [Int.min_eq_left ta, Int.min_eq_left tb, Int.min_eq_left tc, Int.min_eq_left td]; omega, at4 ?_ ?_ ?_ ?_⟩
      · exact ⟨fun h => absurd h (by decide), fun _ => ta⟩
      · exact ⟨fun h => absurd h (by decide), fun _ => tb⟩
      · exact ⟨fun h => absurd h (by decide), fun _ => tc⟩
      · exact ⟨fun h => absurd h (by decide), fun _ => td⟩
  refine ⟨key.1, ?_, fun k e he => ?_⟩
  · simp only [List.map_cons, List.map_nil, List.sum_cons, List.sum_nil]
    have := key.2.1
    omega
  · have h2 := key.2.2 k e he
    have h3 := cnt_iff (v := (l : Int)) hs k e he
    split
    · rename_i hk
      have := h2.1 hk
      have : ¬ e.h ≤ (l : Int) := fun h => by
        have := h3.mp h
        omega
      omega
    · rename_i hk
      have := h2.2 (by omega)
      have : e.h ≤ (l : Int) := h3.mpr (by omega)
      omega
/-- the garment equation for two heirs -/
theorem garment_law {est low t : Int} {e e' : Ent} (ht : 0 ≤ t) (h0 : 0 ≤ e.h) (h : e.h ≤ e'.h) :
    2 * shareF est low t e = 2 * max (shareF est low t e + shareF est low t e' - 24 * e'.h) 0 + ((shareF est low t e + shareF est low t e') - max (shareF est low t e + shareF est low t e' - 24 * e'.h) 0 - max (shareF est low t e + shareF est low t e' - 24 * e.h) 0) := by
  unfold shareF
  split <;> omega
/-- the shares together are twelve estates -/
theorem sum_law {es : List Ent} {est t : Int} (hlen : es.length = 4) (hsum : (es.map fun e => min (12 * e.h) t).sum = 12 * (if 2 * sumH es - est < est then 2 * sumH es - est else est)) :
    (es.map (shareF est (if 2 * sumH es - est < est then 2 * sumH es - est else est) t)).sum = 12 * est := by
  obtain ⟨a, b, c, d, rfl⟩ := four_cases hlen
  have sl : sumH [a, b, c, d] = a.h + b.h + c.h + d.h := by simp [sumH]; omega
  rw [sl] at hsum ⊢
  simp only [List.map_cons, List.map_nil, List.sum_cons, List.sum_nil] at hsum ⊢
  by_cases h : 2 * (a.h + b.h + c.h + d.h) - est < est
  · simp only [if_pos h, shareF] at hsum ⊢
    omega
  · simp only [if_neg h, shareF, if_neg (Int.lt_irrefl est)] at hsum ⊢
    omega
section
def lowOf (es : List Ent) (est : Int) : Int := if 2 * sumH es - est < est then 2 * sumH es - est else est
theorem sum24 : ∀ es : List Ent, (es.map fun e => 24 * e.h).sum = 24 * sumH es
  | [] => rfl
  | e :: es => by
    have ih := sum24 es
    unfold sumH at *
    simp only [List.map_cons, List.sum_cons]
    omega
theorem half_sum (es : List Ent) : Int.fdiv (es.map fun e => 24 * e.h).sum 12 = 2 * sumH es := by
  rw [sum24, Int.fdiv_eq_ediv_of_nonneg _ (by decide)]
  omega
theorem gps_get {gps : List (Addr × List Value × Nat)} {i : Nat} {v : Value} (h : (gps.map fun p => Value.ref p.1)[i]? = some v) : ∃ q, gps[i]? = some q ∧ v = .ref q.1 := by
  rw [List.getElem?_map] at h
  cases hq : gps[i]? with
  | none => rw [hq] at h; cases h
  | some q => rw [hq] at h; exact ⟨q, rfl, (Option.some.inj h).symm⟩
theorem hs_get {hs4 : List (Addr × Ent)} {i : Nat} {v : Value} (h : (hs4.map fun p => Value.ref p.1)[i]? = some v) : ∃ q, hs4[i]? = some q ∧ v = .ref q.1 := by
  rw [List.getElem?_map] at h
  cases hq : hs4[i]? with
  | none => rw [hq] at h; cases h
  | some q => rw [hq] at h; exact ⟨q, rfl, (Option.some.inj h).symm⟩
theorem ints_from {f : Nat → Int} : ∀ (ys : List Value) (o : Nat), (∀ (j : Nat) (y : Value), ys[j]? = some y → ∃ tk, y = Value.int (f (o + j)) tk) → IntsAre ys ((List.range' o ys.length).map f)
  | [], _, _ => .nil
  | y :: ys, o, h => by
    obtain ⟨tk, rfl⟩ := h 0 y rfl
    have ih := ints_from ys (o + 1) fun j z hz => by
      obtain ⟨tk, e⟩ := h (j + 1) z hz
      exact ⟨tk, by rw [e, show o + (j + 1) = o + 1 + j by omega]⟩
    exact .cons _ _ ih
theorem ints_of_n {f : Nat → Int} {ys : List Value} {n : Nat} (hl : ys.length = n) (h : ∀ (j : Nat) (y : Value), ys[j]? = some y → ∃ tk, y = Value.int (f j) tk) : IntsAre ys ((List.range n).map f) := by
  subst hl
  rw [List.range_eq_range']
  exact ints_from ys 0 fun j y hy => by rw [Nat.zero_add]; exact h j y hy
section
variable {w : World} {p : Program} {loose : List Str} {mean : ExcName → Option Value} {mg mb : Str → Option Value} {A : Around} {h₀ : Heap} {L : Addr} {m : Str → Option Value} {news : List (Addr × Obj)} {s : Shared} {Q E : Value → Shared → Prop}
theorem sum_led {l : Addr} {vs : List Value} {ns : List Int} {n : Nat} (hh : A.handled = none) (F : Fr h₀ L s.heap m) (N : News h₀ L s.heap news) (hm : (l, listOf vs.toArray n) ∈ news) (hi : IntsAre vs ns)
    (h : ∀ h' tk t', Fr h₀ L h' m → News h₀ L h' news → Q (.int ns.sum t') { s with heap := h', toks := tk }) :
    wpAny (MM w) A (call (.builtin "sum") [.ref l]) Q E s := sumK hh F N ⟨_, (N _ hm).1, rfl, n, rfl⟩ hi h
theorem len4_led {l : Addr} {its : Array Value} {n : Nat} (N : News h₀ L s.heap news) (hm : (l, listOf its n) ∈ news) (hk : its.size = 4)
    (h : Q (.int 4 (s.toks + 1)) { s with toks := s.toks + 1 + 1 }) : wpAny (MM w) A (call (.builtin "len") [.ref l]) Q E s := len_led (k := 4) N hm hk (by decide) h
theorem subl_ok {l : Nat} {t u : Tok} (G : Grd w p loose mean mg mb A h₀ L m news s.heap 10) (ret : ∀ h' tk' tk, Fr h₀ L h' m → News h₀ L h' news → Q (.int (l : Int) tk) { s with heap := h', toks := tk' }) :
    wpAny (MM w) A (call (.ref 77) [.int ((l + 1 : Nat) : Int) t, .int 1 u] []) Q E s := by
  refine subi_ok G fun h' tk' tk F N => ?_
  rw [show ((l + 1 : Nat) : Int) - 1 = (l : Int) by omega]
  exact ret h' tk' tk F N
theorem tot_iff {es : List Ent} {low : Int} : ∀ (i : Nat) (y : Int), ((List.range 6).map (tot es))[i]? = some y → (y ≤ low ↔ i < countR (tot es) low 6) := by
  intro i y hy
  have hi : i < 6 := by
    have := (List.getElem?_eq_some_iff.mp hy).1
    simpa using this
  have e : y = tot es i := by
    rw [List.getElem?_map, List.getElem?_range hi] at hy
    exact (Option.some.inj hy).symm
  rw [e]
  exact countR_iff (fun _ _ h => tot_mono es h) hi
theorem row_get {es : List Ent} {l j : Nat} {e : Ent} (h : es[j]? = some e) : (gotRow l es)[j]? = some (min e.h l) := by
  unfold gotRow
  rw [List.getElem?_map, h]
  rfl
theorem take_ints {es : List Ent} {f : Ent → Int} {vs : List Value} {j : Nat} {e : Ent} {x : Int} {t : Tok} (h : IntsAre vs ((es.take j).map f)) (he : es[j]? = some e) (hx : x = f e) : IntsAre (vs ++ [.int x t]) ((es.take (j + 1)).map f) := by
  rw [List.take_add_one, he, hx, List.map_append]
  exact ints_snoc h
section
variable {es : List Ent} {e : Ent} {low est z y : Int} {c j : Nat}
theorem share_pp {t : Int} (h : (if c ≤ j then z else y) = min (12 * e.h) t) (a : low < est) (b : c ≤ j) : 24 * e.h - z = shareF est low t e := by
  unfold shareF
  rw [if_pos a, ← h, if_pos b]
theorem share_pn {t : Int} (h : (if c ≤ j then z else y) = min (12 * e.h) t) (a : low < est) (b : ¬ c ≤ j) : 24 * e.h - y = shareF est low t e := by
  unfold shareF
  rw [if_pos a, ← h, if_neg b]
theorem share_np {t : Int} (h : (if c ≤ j then z else y) = min (12 * e.h) t) (a : ¬ low < est) (b : c ≤ j) : z = shareF est low t e := by
  unfold shareF
  rw [if_neg a, ← h, if_pos b]
theorem share_nn {t : Int} (h : (if c ≤ j then z else y) = min (12 * e.h) t) (a : ¬ low < est) (b : ¬ c ≤ j) : y = shareF est low t e := by
  unfold shareF
  rw [if_neg a, ← h, if_neg b]
end
local macro_rules | `(tactic| k_all) => `(tactic| first | with_reducible assumption | exact allLt_ne (by assumption) | exact off1_ne (by assumption))
theorem shares_ok {H Gd : Addr} {oH : Obj} {es : List Ent} {gps : List (Addr × List Value × Nat)} {nG : Nat} {est : Int} {te : Tok} (G : Grd w p loose mean mg mb A h₀ L m news s.heap 100) (hm : (H, oH) ∈ news) (hO : HeirObj news oH es) (hlen : es.length = 4) (hok : ∀ e ∈ es, EntOk e) (hs : Sorted es)
    (hG : (Gd, listOf (gps.map fun p => Value.ref p.1).toArray nG) ∈ news) (hgl : gps.length = 6) (hgm : ∀ p ∈ gps, (p.1, listOf p.2.1.toArray p.2.2) ∈ news) (hgr : ∀ (j : Nat) (p : Addr × List Value × Nat), gps[j]? = some p → IntsAre p.2.1 (gotRow j es)) (e0 : 0 ≤ est) (e1 : est ≤ 2 * sumH es)
    (ret : ∀ D vs n h' tk', Fr h₀ L h' m → News h₀ L h' ((D, listOf vs.toArray n) :: news) → IntsAre vs (es.map (shareF est (lowOf es est) (tee es (lowOf es est)))) → Q (.ref D) { s with heap := h', toks := tk' }) :
    wpAny (MM w) A (call (.ref 153) [.ref H, .ref Gd, .int est te] []) Q E s := by
  have hO9 := hO
  obtain ⟨hs4, nH, rfl, hes, hE⟩ := hO
  have hl4 : hs4.length = 4 := by rw [← hlen, hes, List.length_map]
  (((rename Grd _ _ _ _ _ _ _ _ _ _ _ _ _ => G); refine Grd.elim G ?_; clear G; intro dp un gd cn cs a ccd cl outer A₀ base hA B hk hd hu F X N T; subst hA))
  walk_at "call ref"
  rename Fr _ _ _ _ => F8
  with_unfolding_all change Fr _ _ _ (fun y => List.lookup y [(Str.ofString "estate", Value.int est te), (Str.ofString "got", Value.ref Gd), (Str.ofString "heirs", Value.ref H)]) at F8
  (repeat' (first | (k_unfold; (try dsimp only)) | (k_end; kc_close) | (with_reducible ((with_reducible show wpAny _ _ (exec (Stmt.Assign _ (Expr.ListComp _ _ _ _) _) _) _ _ _); (k_here; lcg_look; k_dflt (refine Assign_ListComp_S (by k_asm) (by rfl) (by with_unfolding_all rfl) (by rfl) (by decide) (by rfl) (by decide) (by rfl) (by rfl) (by rfl) ?_)))) | walk1 | (dsimp only; first | (with_reducible ((with_reducible show wpAny _ _ (exec (Stmt.Assign _ (Expr.ListComp _ _ _ _) _) _) _ _ _); (k_here; lcg_look; k_dflt (refine Assign_ListComp_S (by k_asm) (by rfl) (by with_unfolding_all rfl) (by rfl) (by decide) (by rfl) (by decide) (by rfl) (by rfl) (by rfl) ?_)))) | walk1) | (leave1; (try dsimp only)) | fail "no step"))
  refine ⟨H, hs4.map fun p => Value.ref p.1, nH, news, fun (_ : Nat) (ys : List Value) (nw : List (Addr × Obj)) => nw = news ∧ ∀ (j : Nat) (y : Value), ys[j]? = some y → ∃ (e : Ent) (tk : Tok), es[j]? = some e ∧ y = Value.int (24 * e.h) tk, rfl, by rfl, ?hsz, by k_asm, by k_asm, ?hsrc, ⟨rfl, by simp⟩, ?turn, ?fin⟩
  case hsz => rw [List.length_map, hl4, sizeLine_eq]; omega
  case hsrc => rintro i ys nw ⟨rfl, _⟩; exact hm
  case turn =>
    rintro i v ys nw I oI C oC D m₂ h tk E' hv ⟨rfl, hY⟩ hyl h1 hC hx F₁ N₁ off ne
    obtain ⟨q, hq, rfl⟩ := hs_get hv
    have hE1 : EntAt nw q.1 q.2 := hE q (List.mem_of_getElem? hq)
    clear ret
    refine hideQ ?_
    intro g9 d9 o9 Q9 hQ9
    (repeat' (first | (k_unfold; (try dsimp only)) | (k_end; kc_close) | (with_reducible ((k_here; (with_reducible show wpAny _ _ (call (Value.ref 70) [Value.int _ _, Value.int _ _] _) _ _ _); k_dflt (refine' muli_ok ?z64xG ?z64xha ?_; (case z64xG => walk_at "grd"); (case z64xha => decide); k_whole; intro h5 tk5 t5 F5 N5; (try k_sweep))))) | (with_reducible ((k_here; (with_reducible show wpAny _ _ (call (Value.ref 136) [Value.ref _]) _ _ _); k_dflt (refine' half_ok ?z11xG ?z11xht ?_; (case z11xG => walk_at "grd"); (case z11xht => first | assumption | walk_at "ent"); k_whole; intro h' tk' tk F' N'; (try k_sweep))))) | walk1 | (dsimp only; first | (with_reducible ((k_here; (with_reducible show wpAny _ _ (call (Value.ref 70) [Value.int _ _, Value.int _ _] _) _ _ _); k_dflt (refine' muli_ok ?z64xG ?z64xha ?_; (case z64xG => walk_at "grd"); (case z64xha => decide); k_whole; intro h5 tk5 t5 F5 N5; (try k_sweep))))) | (with_reducible ((k_here; (with_reducible show wpAny _ _ (call (Value.ref 136) [Value.ref _]) _ _ _); k_dflt (refine' half_ok ?z11xG ?z11xht ?_; (case z11xG => walk_at "grd"); (case z11xht => first | assumption | walk_at "ent"); k_whole; intro h' tk' tk F' N'; (try k_sweep))))) | walk1) | (leave1; (try dsimp only)) | fail "no step"))
    refine hQ9 _ _ _ (SeqEnd.of nw (by k_asm) (by k_asm) (fun p hp => hp) off ⟨rfl, snoc_inv hY ⟨q.2, _, ?_, rfl⟩⟩)
    rw [hyl, hes, List.getElem?_map, hq]
    rfl
  case fin =>
    rintro ys nw hyl ⟨rfl, hY⟩ D1 h tk F₁ N₁ o1
    have hi1 := ints_of (f := fun e => 24 * e.h) (by rw [hyl, List.length_map, hl4, hlen]) hY
    dsimp only
    (repeat' (first | (k_unfold; (try dsimp only)) | (k_end; kc_close) | (with_reducible ((with_reducible show wpAny _ _ (call (Value.builtin "min") _ _) _ _ _); (k_here; k_dflt (refine' PyProof.Rows.min_two_N ?z70xsh ?z70xsF ?z70xsN ?_; (case z70xsh => with_unfolding_all rfl); (case z70xsF => k_asm); (case z70xsN => k_asm); intro h5 tk5 F5 N5; (try k_sweep))))) | (with_reducible ((with_reducible show wpAny _ _ (call (Value.builtin "sum") _ _) _ _ _); (k_here; k_dflt (refine' sum_led ?z71xsh ?z71xsF ?z71xsN ?z71xsm ?z71xsi ?_; (case z71xsh => with_unfolding_all rfl); (case z71xsF => k_asm); (case z71xsN => k_asm); (case z71xsm => k_mem); (case z71xsi => assumption); intro h5 tk5 t5 F5 N5; (try k_sweep))))) | (with_reducible ((k_here; (with_reducible show wpAny _ _ (call (Value.ref 63) [Value.int _ _, Value.int _ _] _) _ _ _); k_dflt (refine' fdivi_ok ?z67xG ?z67xhb ?z67xhb2 ?_; (case z67xG => walk_at "grd"); (case z67xhb => first | decide | omega); (case z67xhb2 => first | decide | omega); k_whole; intro h5 tk5 t5 F5 N5; (try k_sweep))))) | (with_reducible ((k_here; (with_reducible show wpAny _ _ (call (Value.ref 77) [Value.int _ _, Value.int _ _] _) _ _ _); k_dflt (refine' subi_ok ?z65xG ?_; (case z65xG => walk_at "grd"); k_whole; intro h5 tk5 t5 F5 N5; (try k_sweep))))) | (with_reducible ((with_reducible show wpAny _ _ (exec (Stmt.Assign _ (Expr.ListComp _ _ _ _) _) _) _ _ _); (k_here; lcg_look; k_dflt (refine Assign_ListComp_S (by k_asm) (by rfl) (by with_unfolding_all rfl) (by rfl) (by decide) (by rfl) (by decide) (by rfl) (by rfl) (by rfl) ?_)))) | walk1 | (dsimp only; first | (with_reducible ((with_reducible show wpAny _ _ (call (Value.builtin "min") _ _) _ _ _); (k_here; k_dflt (refine' PyProof.Rows.min_two_N ?z70xsh ?z70xsF ?z70xsN ?_; (case z70xsh => with_unfolding_all rfl); (case z70xsF => k_asm); (case z70xsN => k_asm); intro h5 tk5 F5 N5; (try k_sweep))))) | (with_reducible ((with_reducible show wpAny _ _ (call (Value.builtin "sum") _ _) _ _ _); (k_here; k_dflt (refine' sum_led ?z71xsh ?z71xsF ?z71xsN ?z71xsm ?z71xsi ?_; (case z71xsh => with_unfolding_all rfl); (case z71xsF => k_asm); (case z71xsN => k_asm); (case z71xsm => k_mem); (case z71xsi => assumption); intro h5 tk5 t5 F5 N5; (try k_sweep))))) | (with_reducible ((k_here; (with_reducible show wpAny _ _ (call (Value.ref 63) [Value.int _ _, Value.int _ _] _) _ _ _); k_dflt (refine' fdivi_ok ?z67xG ?z67xhb ?z67xhb2 ?_; (case z67xG => walk_at "grd"); (case z67xhb => first | decide | omega); (case z67xhb2 => first | decide | omega); k_whole; intro h5 tk5 t5 F5 N5; (try k_sweep))))) | (with_reducible ((k_here; (with_reducible show wpAny _ _ (call (Value.ref 77) [Value.int _ _, Value.int _ _] _) _ _ _); k_dflt (refine' subi_ok ?z65xG ?_; (case z65xG => walk_at "grd"); k_whole; intro h5 tk5 t5 F5 N5; (try k_sweep))))) | (with_reducible ((with_reducible show wpAny _ _ (exec (Stmt.Assign _ (Expr.ListComp _ _ _ _) _) _) _ _ _); (k_here; lcg_look; k_dflt (refine Assign_ListComp_S (by k_asm) (by rfl) (by with_unfolding_all rfl) (by rfl) (by decide) (by rfl) (by decide) (by rfl) (by rfl) (by rfl) ?_)))) | walk1) | (leave1; (try dsimp only)) | fail "no step"))
    rename Fr _ _ _ _ => F9
    rw [half_sum] at F9 ⊢
    obtain ⟨low, hlow⟩ : ∃ low, lowOf es est = low := ⟨_, rfl⟩
    rw [show (if 2 * sumH es - est < est then 2 * sumH es - est else est) = low from hlow] at F9 ⊢
    have lo0 : 0 ≤ low := by rw [← hlow]; unfold lowOf; split <;> omega
    have lo1 : low ≤ sumH es := by rw [← hlow]; unfold lowOf; split <;> omega
    obtain ⟨lv1, lv2, lv3, lv4⟩ := level_ok hok lo0
    obtain ⟨l, hl⟩ : ∃ l, countR (tot es) low 6 = l + 1 := ⟨countR (tot es) low 6 - 1, by omega⟩
    obtain ⟨sh1, sh2, sh3⟩ := share_law hlen hok hs lo0 lo1
    have hri := tot_iff (es := es) (low := low)
    rw [hl] at lv1 lv2 lv3 lv4 sh3 hri
    rw [Nat.add_sub_cancel] at lv3 sh3
    clear lv4 lv1
    refine ⟨Gd, gps.map fun p => Value.ref p.1, nG, (D1, LCg.lst ys) :: nw, fun (_ : Nat) (ys' : List Value) (nw' : List (Addr × Obj)) => nw' = (D1, LCg.lst ys) :: nw ∧ ∀ (j : Nat) (y : Value), ys'[j]? = some y → ∃ (tk : Tok), y = Value.int (tot es j) tk, rfl, by rfl, ?hsz2, by k_asm, by k_asm, ?hsrc2, ⟨rfl, by simp⟩, ?turn2, ?fin2⟩
    case hsz2 => rw [List.length_map, hgl, sizeLine_eq]; omega
    case hsrc2 => rintro i ys nw ⟨rfl, _⟩; exact List.mem_cons_of_mem _ hG
    case turn2 =>
      rintro i v ys' nw' I oI C oC D m₂ h tk E' hv ⟨rfl, hY'⟩ hyl' h1 hC hx F₁ N₁ off ne
      obtain ⟨q, hq, rfl⟩ := gps_get hv
      have hq1 := hgm q (List.mem_of_getElem? hq)
      have hq2 := hgr i q hq
      clear ret
      refine hideQ ?_
      intro g9 d9 o9 Q9 hQ9
      (repeat' (first | (k_unfold; (try dsimp only)) | (k_end; kc_close) | (with_reducible ((with_reducible show wpAny _ _ (call (Value.builtin "sum") _ _) _ _ _); (k_here; k_dflt (refine' sum_led ?z71xsh ?z71xsF ?z71xsN ?z71xsm ?z71xsi ?_; (case z71xsh => with_unfolding_all rfl); (case z71xsF => k_asm); (case z71xsN => k_asm); (case z71xsm => k_mem); (case z71xsi => assumption); intro h5 tk5 t5 F5 N5; (try k_sweep))))) | walk1 | (dsimp only; first | (with_reducible ((with_reducible show wpAny _ _ (call (Value.builtin "sum") _ _) _ _ _); (k_here; k_dflt (refine' sum_led ?z71xsh ?z71xsF ?z71xsN ?z71xsm ?z71xsi ?_; (case z71xsh => with_unfolding_all rfl); (case z71xsF => k_asm); (case z71xsN => k_asm); (case z71xsm => k_mem); (case z71xsi => assumption); intro h5 tk5 t5 F5 N5; (try k_sweep))))) | walk1) | (leave1; (try dsimp only)) | fail "no step"))
      refine hQ9 _ _ _ (SeqEnd.of ((D1, LCg.lst ys) :: nw) (by k_asm) (by k_asm) (fun p hp => hp) off ⟨rfl, snoc_inv hY' (by rw [hyl']; exact ⟨_, rfl⟩)⟩)
    case fin2 =>
      rintro ys2 nw' hyl2 ⟨rfl, hY2⟩ D2 h tk F₁ N₁ o2
      have hi2 := ints_of_n (f := tot es) (n := 6) (by rw [hyl2, List.length_map, hgl]) hY2
      obtain ⟨t8, ht8⟩ := ints_get (k := ((l : Nat) : Int).toNat) (x := tot es l) hi2 (by rw [Int.toNat_natCast, List.getElem?_map, List.getElem?_range (by omega)]; rfl)
      simp only [LCg.Off1] at o2
      dsimp only
      (repeat' (first | (k_unfold; (try dsimp only)) | (k_end; kc_close) | (with_reducible ((k_here; (with_reducible show wpAny _ _ (call (Value.ref 49) [_, _] []) _ _ _); k_dflt (refine' bisi_ok (l + 1) ?z75xxG ?z75xxm hi2 ?z75xxl ?z75xxr hri ?_; (case z75xxG => walk_at "grd"); (case z75xxm => k_mem); (case z75xxl => (rw [List.length_map, List.length_range]; decide)); (case z75xxr => (rw [List.length_map, List.length_range]; omega)); k_whole; intro h5 tk5 t5 F5 N5; (try k_sweep))))) | (with_reducible ((k_here; (with_reducible show wpAny _ _ (call (Value.ref 49) [_, _] _) _ _ _); k_dflt (refine' bis_ok2 (tl := 0) (cnt _ _) ?z74xG ?z74xhm ?z74xhH ?z74xhT ?z74xhlen ?z74xhlo ?z74xhr0 ?z74xhr1 (cnt_iff ?z74xhs) ?_; (case z74xG => walk_at "grd"); (case z74xhm => k_mem); (case z74xhH => assumption); (case z74xhT => exact subL_of (by walk_at "sub")); (case z74xhlen => omega); (case z74xhlo => rfl); (case z74xhr0 => omega); (case z74xhr1 => exact cnt_le _ _); (case z74xhs => assumption); k_whole; intro h5 tk5 tk6 F5 N5; (try k_sweep))))) | (with_reducible ((k_here; (with_reducible show wpAny _ _ (call (Value.ref 98) [Value.ref _, Value.int _ _] _) _ _ _); k_dflt (refine' getitem_ok ?z73xG ?z73xm ?z73xa ?z73xb ?z73xx ?_; (case z73xG => walk_at "grd"); (case z73xm => k_mem); (case z73xa => omega); (case z73xb => omega); (case z73xx => assumption); k_whole; intro h5 tk5 F5 N5; (try k_sweep))))) | (with_reducible ((k_here; (with_reducible show wpAny _ _ (call (Value.ref 77) [Value.int (((_ + 1 : Nat) : Nat) : Int) _, Value.int 1 _] _) _ _ _); k_dflt (refine' subl_ok ?z72xG ?_; (case z72xG => walk_at "grd"); k_whole; intro h5 tk5 t5 F5 N5; (try k_sweep))))) | (with_reducible ((k_here; (with_reducible show wpAny _ _ (call (Value.builtin "len") [Value.ref _]) _ _ _); k_dflt (refine' len4_led ?z68xlN ?z68xlm ?z68xlk ?_; (case z68xlN => k_asm); (case z68xlm => k_mem); (case z68xlk => first | assumption | (rw [List.size_toArray, List.length_map]; assumption)))))) | (with_reducible ((k_here; (with_reducible show wpAny _ _ (pyIter (Value.ref _)) _ _ _); refine Halt.of ?_))) | (with_reducible ((k_here; (with_reducible show wpAny _ _ (call (Value.ref 77) [Value.int _ _, Value.int _ _] _) _ _ _); k_dflt (refine' subi_ok ?z65xG ?_; (case z65xG => walk_at "grd"); k_whole; intro h5 tk5 t5 F5 N5; (try k_sweep))))) | walk1 | (dsimp only; first | (with_reducible ((k_here; (with_reducible show wpAny _ _ (call (Value.ref 49) [_, _] []) _ _ _); k_dflt (refine' bisi_ok (l + 1) ?z75xxG ?z75xxm hi2 ?z75xxl ?z75xxr hri ?_; (case z75xxG => walk_at "grd"); (case z75xxm => k_mem); (case z75xxl => (rw [List.length_map, List.length_range]; decide)); (case z75xxr => (rw [List.length_map, List.length_range]; omega)); k_whole; intro h5 tk5 t5 F5 N5; (try k_sweep))))) | (with_reducible ((k_here; (with_reducible show wpAny _ _ (call (Value.ref 49) [_, _] _) _ _ _); k_dflt (refine' bis_ok2 (tl := 0) (cnt _ _) ?z74xG ?z74xhm ?z74xhH ?z74xhT ?z74xhlen ?z74xhlo ?z74xhr0 ?z74xhr1 (cnt_iff ?z74xhs) ?_; (case z74xG => walk_at "grd"); (case z74xhm => k_mem); (case z74xhH => assumption); (case z74xhT => exact subL_of (by walk_at "sub")); (case z74xhlen => omega); (case z74xhlo => rfl); (case z74xhr0 => omega); (case z74xhr1 => exact cnt_le _ _); (case z74xhs => assumption); k_whole; intro h5 tk5 tk6 F5 N5; (try k_sweep))))) | (with_reducible ((k_here; (with_reducible show wpAny _ _ (call (Value.ref 98) [Value.ref _, Value.int _ _] _) _ _ _); k_dflt (refine' getitem_ok ?z73xG ?z73xm ?z73xa ?z73xb ?z73xx ?_; (case z73xG => walk_at "grd"); (case z73xm => k_mem); (case z73xa => omega); (case z73xb => omega); (case z73xx => assumption); k_whole; intro h5 tk5 F5 N5; (try k_sweep))))) | (with_reducible ((k_here; (with_reducible show wpAny _ _ (call (Value.ref 77) [Value.int (((_ + 1 : Nat) : Nat) : Int) _, Value.int 1 _] _) _ _ _); k_dflt (refine' subl_ok ?z72xG ?_; (case z72xG => walk_at "grd"); k_whole; intro h5 tk5 t5 F5 N5; (try k_sweep))))) | (with_reducible ((k_here; (with_reducible show wpAny _ _ (call (Value.builtin "len") [Value.ref _]) _ _ _); k_dflt (refine' len4_led ?z68xlN ?z68xlm ?z68xlk ?_; (case z68xlN => k_asm); (case z68xlm => k_mem); (case z68xlk => first | assumption | (rw [List.size_toArray, List.length_map]; assumption)))))) | (with_reducible ((k_here; (with_reducible show wpAny _ _ (pyIter (Value.ref _)) _ _ _); refine Halt.of ?_))) | (with_reducible ((k_here; (with_reducible show wpAny _ _ (call (Value.ref 77) [Value.int _ _, Value.int _ _] _) _ _ _); k_dflt (refine' subi_ok ?z65xG ?_; (case z65xG => walk_at "grd"); k_whole; intro h5 tk5 t5 F5 N5; (try k_sweep))))) | walk1) | (leave1; (try dsimp only)) | fail "no step"))
      unfold Halt
      refine' range_loop (fun c : Addr × List Value × Nat => (c.1, listOf c.2.1.toArray c.2.2) :: (D2, LCg.lst ys2) :: (D1, LCg.lst ys) :: nw) (fun c => [(Str.ofString "shares", .ref c.1), (Str.ofString "got", .ref Gd), (Str.ofString "heirs", .ref H), (Str.ofString "claims", .ref D1)])
        [Str.ofString "share"] (fun j c => IntsAre c.2.1 ((es.take j).map (shareF est low (tee es low))) ∧ (@Ne Nat D2 c.1 ∧ @Ne Nat D1 c.1 ∧ ∀ p ∈ nw, p.1 ≠ c.1)) (_, [], _) (by rfl) (by assumption) (by decide) (n := 4) (by decide) (by k_asm) (by k_asm) ?hk ?hp ?turn3 ?done3
      case hk => kst_all
      case hp => exact ⟨.nil, Nat.ne_of_lt (And.left (by assumption : _ < _ ∧ _ < _ ∧ AllLt _ nw)), Nat.ne_of_lt (And.left (And.right (by assumption : _ < _ ∧ _ < _ ∧ AllLt _ nw))), allLt_ne (And.right (And.right (by assumption : _ < _ ∧ _ < _ ∧ AllLt _ nw)))⟩
      case turn3 =>
        intro j c t u h tk I oI hj hP hI Fk Nk
        obtain ⟨D3, v, nv⟩ := c
        obtain ⟨hP1, hP2, hP3, hP4⟩ := hP
        simp only [Int.zero_add] at Fk
        dsimp only at hP1 hP2 hP3 hP4 hI Fk Nk
        replace Nk := news_tail2 Nk
        obtain ⟨e, he⟩ : ∃ e, es[j]? = some e := ⟨_, List.getElem?_eq_getElem (by omega)⟩
        obtain ⟨q, hq⟩ : ∃ q, gps[l]? = some q := ⟨_, List.getElem?_eq_getElem (by omega)⟩
        have hq1 := hgm q (List.mem_of_getElem? hq)
        have hgx1 : (gps.map fun p => Value.ref p.1)[((l : Nat) : Int).toNat]? = some (.ref q.1) := by rw [Int.toNat_natCast, List.getElem?_map, hq]; rfl
        obtain ⟨t9, hgx2⟩ := ints_get (k := ((j : Nat) : Int).toNat) (hgr l q hq) (by rw [Int.toNat_natCast]; exact row_get he)
        obtain ⟨t10, hgx3⟩ := ints_get (k := ((j : Nat) : Int).toNat) (x := 24 * e.h) hi1 (by rw [Int.toNat_natCast, List.getElem?_map, he]; rfl)
        have i1 : @Ne Nat D3 I := hI (D3, listOf v.toArray nv) (by k_mem)
        have i2 : @Ne Nat D2 I := hI (D2, LCg.lst ys2) (by k_mem)
        have i3 : @Ne Nat D1 I := hI (D1, LCg.lst ys) (by k_mem)
        have i4 : ∀ q ∈ nw, q.1 ≠ I := fun q hq => hI q (List.mem_cons_of_mem _ (List.mem_cons_of_mem _ (List.mem_cons_of_mem _ hq)))
        have hs9 := sh3 j e he
        have hvl : v.length = j := by rw [hP1.length, List.length_map, List.length_take]; omega
        clear hI ret
        refine hideQ ?_
        intro g9 d9 o9 Q9 hQ9
        (repeat' (first | (k_unfold; (try dsimp only)) | (k_end; kc_close) | (with_reducible ((k_here; (with_reducible show wpAny _ _ (call (Value.builtin _) [Value.ref _, _]) _ _ _); k_dflt (refine' append_led ?z69xF ?z69xN ?z69xU ?z69xz ?_; (case z69xF => k_asm); (case z69xN => k_asm); (case z69xU => k_upd); (case z69xz => omega); k_whole; intro h5 F5 N5; (try k_sweep))))) | (with_reducible ((k_here; (with_reducible show wpAny _ _ (call (Value.ref 98) [Value.ref _, Value.int _ _] _) _ _ _); k_dflt (refine' getitem_ok ?z73xG ?z73xm ?z73xa ?z73xb ?z73xx ?_; (case z73xG => walk_at "grd"); (case z73xm => k_mem); (case z73xa => omega); (case z73xb => omega); (case z73xx => assumption); k_whole; intro h5 tk5 F5 N5; (try k_sweep))))) | (with_reducible ((k_here; (with_reducible show wpAny _ _ (call (Value.builtin "len") [Value.ref _]) _ _ _); k_dflt (refine' len4_led ?z68xlN ?z68xlm ?z68xlk ?_; (case z68xlN => k_asm); (case z68xlm => k_mem); (case z68xlk => first | assumption | (rw [List.size_toArray, List.length_map]; assumption)))))) | (with_reducible ((k_here; (with_reducible show wpAny _ _ (call (Value.ref 63) [Value.int _ _, Value.int _ _] _) _ _ _); k_dflt (refine' fdivi_ok ?z67xG ?z67xhb ?z67xhb2 ?_; (case z67xG => walk_at "grd"); (case z67xhb => first | decide | omega); (case z67xhb2 => first | decide | omega); k_whole; intro h5 tk5 t5 F5 N5; (try k_sweep))))) | (with_reducible ((k_here; (with_reducible show wpAny _ _ (call (Value.ref 56) [Value.int _ _, Value.int _ _] _) _ _ _); k_dflt (refine' addi_ok ?z66xG ?_; (case z66xG => walk_at "grd"); k_whole; intro h5 tk5 t5 F5 N5; (try k_sweep))))) | (with_reducible ((k_here; (with_reducible show wpAny _ _ (call (Value.ref 77) [Value.int _ _, Value.int _ _] _) _ _ _); k_dflt (refine' subi_ok ?z65xG ?_; (case z65xG => walk_at "grd"); k_whole; intro h5 tk5 t5 F5 N5; (try k_sweep))))) | (with_reducible ((k_here; (with_reducible show wpAny _ _ (call (Value.ref 70) [Value.int _ _, Value.int _ _] _) _ _ _); k_dflt (refine' muli_ok ?z64xG ?z64xha ?_; (case z64xG => walk_at "grd"); (case z64xha => decide); k_whole; intro h5 tk5 t5 F5 N5; (try k_sweep))))) | walk1 | (dsimp only; first | (with_reducible ((k_here; (with_reducible show wpAny _ _ (call (Value.builtin _) [Value.ref _, _]) _ _ _); k_dflt (refine' append_led ?z69xF ?z69xN ?z69xU ?z69xz ?_; (case z69xF => k_asm); (case z69xN => k_asm); (case z69xU => k_upd); (case z69xz => omega); k_whole; intro h5 F5 N5; (try k_sweep))))) | (with_reducible ((k_here; (with_reducible show wpAny _ _ (call (Value.ref 98) [Value.ref _, Value.int _ _] _) _ _ _); k_dflt (refine' getitem_ok ?z73xG ?z73xm ?z73xa ?z73xb ?z73xx ?_; (case z73xG => walk_at "grd"); (case z73xm => k_mem); (case z73xa => omega); (case z73xb => omega); (case z73xx => assumption); k_whole; intro h5 tk5 F5 N5; (try k_sweep))))) | (with_reducible ((k_here; (with_reducible show wpAny _ _ (call (Value.builtin "len") [Value.ref _]) _ _ _); k_dflt (refine' len4_led ?z68xlN ?z68xlm ?z68xlk ?_; (case z68xlN => k_asm); (case z68xlm => k_mem); (case z68xlk => first | assumption | (rw [List.size_toArray, List.length_map]; assumption)))))) | (with_reducible ((k_here; (with_reducible show wpAny _ _ (call (Value.ref 63) [Value.int _ _, Value.int _ _] _) _ _ _); k_dflt (refine' fdivi_ok ?z67xG ?z67xhb ?z67xhb2 ?_; (case z67xG => walk_at "grd"); (case z67xhb => first | decide | omega); (case z67xhb2 => first | decide | omega); k_whole; intro h5 tk5 t5 F5 N5; (try k_sweep))))) | (with_reducible ((k_here; (with_reducible show wpAny _ _ (call (Value.ref 56) [Value.int _ _, Value.int _ _] _) _ _ _); k_dflt (refine' addi_ok ?z66xG ?_; (case z66xG => walk_at "grd"); k_whole; intro h5 tk5 t5 F5 N5; (try k_sweep))))) | (with_reducible ((k_here; (with_reducible show wpAny _ _ (call (Value.ref 77) [Value.int _ _, Value.int _ _] _) _ _ _); k_dflt (refine' subi_ok ?z65xG ?_; (case z65xG => walk_at "grd"); k_whole; intro h5 tk5 t5 F5 N5; (try k_sweep))))) | (with_reducible ((k_here; (with_reducible show wpAny _ _ (call (Value.ref 70) [Value.int _ _, Value.int _ _] _) _ _ _); k_dflt (refine' muli_ok ?z64xG ?z64xha ?_; (case z64xG => walk_at "grd"); (case z64xha => decide); k_whole; intro h5 tk5 t5 F5 N5; (try k_sweep))))) | walk1) | (leave1; (try dsimp only)) | fail "no step"))
        all_goals exact hQ9 _ _ _ (turn_end (D3, v ++ [Value.int _ _], nv + 1) (by k_asm) (by k_asm) (by exact List.Mem.tail _ (List.Mem.tail _ (List.Mem.tail _ (List.Mem.head _)))) (by exact List.forall_mem_cons.mpr ⟨List.Mem.head _, List.forall_mem_cons.mpr ⟨List.Mem.tail _ (List.Mem.head _), List.forall_mem_cons.mpr ⟨List.Mem.tail _ (List.Mem.tail _ (List.Mem.head _)), fun q hq => List.Mem.tail _ (List.Mem.tail _ (List.Mem.tail _ (List.Mem.tail _ hq)))⟩⟩⟩) (by exact List.forall_mem_cons.mpr ⟨i1, List.forall_mem_cons.mpr ⟨i2, List.forall_mem_cons.mpr ⟨i3, i4⟩⟩⟩) (by kst_all) (by ((intro z h1 h2 h3; (simp only [List.forall_mem_cons, List.not_mem_nil, false_implies, implies_true, and_true, ne_eq] at h2); (try simp only [List.contains_cons, List.contains_nil, Bool.or_false, Bool.or_eq_false_iff, beq_eq_false_iff_ne, ne_eq] at h3); simp [kstB, h1, h2, h3]))) (by exact ⟨take_ints hP1 he (by first | exact share_pp hs9 (by assumption) (by omega) | exact share_pn hs9 (by assumption) (by omega) | exact share_np hs9 (by assumption) (by omega) | exact share_nn hs9 (by assumption) (by omega)), hP2, hP3, hP4⟩))
      case done3 =>
        intro c u h tk hP Fk Nk
        obtain ⟨D3, v, nv⟩ := c
        obtain ⟨hP1, hP2, hP3, hP4⟩ := hP
        rw [List.take_of_length_le (by omega)] at hP1
        dsimp only at hP1 Fk Nk
        k_steps
        refine ret D3 v nv _ _ (by k_asm) ?_ (by rw [hlow]; exact hP1)
        rename News _ _ _ _ => N9
        intro q hq
        refine N9 q ?_
        rcases List.mem_cons.mp hq with h | h
        · exact List.mem_cons.mpr (.inl h)
        · exact List.mem_cons_of_mem _ (List.mem_cons_of_mem _ (List.mem_cons_of_mem _ h))
end
end
section
variable {w : World} {p : Program} {loose : List Str} {mean : ExcName → Option Value} {mg mb : Str → Option Value} {A : Around} {h₀ : Heap} {L : Addr} {m : Str → Option Value} {news : List (Addr × Obj)} {s : Shared} {Q E : Value → Shared → Prop}
theorem garment_ok {k b x y : Int} {ta tb tx ty : Tok} (G : Grd w p loose mean mg mb A h₀ L m news s.heap 20)
    (he : 2 * x = 2 * max (x + y - b) 0 + ((x + y) - max (x + y - b) 0 - max (x + y - k) 0))
    (ret : ∀ h' tk', Fr h₀ L h' m → News h₀ L h' news → Q (.bool true) { s with heap := h', toks := tk' }) :
    wpAny (MM w) A (call (.ref 160) [.int k ta, .int b tb, .int x tx, .int y ty] []) Q E s := by
  (((rename Grd _ _ _ _ _ _ _ _ _ _ _ _ _ => G); refine Grd.elim G ?_; clear G; intro dp un gd cn cs a ccd cl outer A₀ base hA B hk hd hu F X N T; subst hA))
  walk_at "call ref"
  (repeat' (first | (k_unfold; (try dsimp only)) | (k_end; kc_close) | (with_reducible ((with_reducible show wpAny _ _ (call (Value.builtin "max") _ _) _ _ _); (k_here; k_dflt (refine' PyProof.Rows.max_two_N ?z78xsh ?z78xsF ?z78xsN ?_; (case z78xsh => with_unfolding_all rfl); (case z78xsF => k_asm); (case z78xsN => k_asm); intro h5 tk5 F5 N5; (try k_sweep))))) | walk1 | (dsimp only; first | (with_reducible ((with_reducible show wpAny _ _ (call (Value.builtin "max") _ _) _ _ _); (k_here; k_dflt (refine' PyProof.Rows.max_two_N ?z78xsh ?z78xsF ?z78xsN ?_; (case z78xsh => with_unfolding_all rfl); (case z78xsF => k_asm); (case z78xsN => k_asm); intro h5 tk5 F5 N5; (try k_sweep))))) | walk1) | (leave1; (try dsimp only)) | fail "no step"))
  have e9 : (2 * x == (2 * if 0 > x + y - b then 0 else x + y - b) + ((x + y - if 0 > x + y - b then 0 else x + y - b) - if 0 > x + y - k then 0 else x + y - k)) = true := by
    rw [beq_iff_eq]
    split <;> split <;> omega
  rw [e9]
  exact ret _ _ (by k_asm) (by k_asm)
end
/-- an item of the line: where its tuple stands, the half claim, the number -/
abbrev Itm := Addr × Int × Int
def insT (t : Itm) : List Itm → List Itm
  | [] => [t]
  | x :: r => if x.2.1 ≤ t.2.1 then x :: insT t r else t :: x :: r
def line4 (a0 a1 a2 a3 : Addr) (h0 h1 h2 h3 : Int) : List Itm := insT (a3, h3, 3) (insT (a2, h2, 2) (insT (a1, h1, 1) (insT (a0, h0, 0) [])))
def runT {α : Type} (f : Nat → Nat → Bool) : KasT α → α
  | .ret a => a
  | .ask i j k => runT f (k (f i j))
def okT {α : Type} (n : Nat) : KasT α → Bool
  | .ret _ => true
  | .ask i j k => decide (i < n) && decide (j < n) && okT n (k true) && okT n (k false)
theorem kasWp_run {α : Type} {cmp : Nat → Nat → (Bool → Shared → Prop) → Shared → Prop} {f : Nat → Nat → Bool} {n : Nat} {I : Shared → Prop} {Q : α → Shared → Prop}
    (hc : ∀ i j (C : Bool → Shared → Prop) s, i < n → j < n → I s → (∀ s', I s' → C (f i j) s') → cmp i j C s) :
    ∀ (t : KasT α) (s : Shared), okT n t = true → I s → (∀ s', I s' → Q (runT f t) s') → t.kasWp cmp Q s
  | .ret a, s, _, hi, h => h s hi
  | .ask i j k, s, ho, hi, h => by
    have h0 : (decide (i < n) && decide (j < n) && okT n (k true) && okT n (k false)) = true := ho
    simp only [Bool.and_eq_true, decide_eq_true_eq] at h0
    obtain ⟨⟨⟨h1, h2⟩, h3⟩, h4⟩ := h0
    refine hc i j _ s h1 h2 hi fun s' hi' => kasWp_run hc (k (f i j)) s' ?_ hi' h
    cases f i j
    · exact h4
    · exact h3
/-- the answers by six comparisons: b for 'the later one is smaller' -/
def ansB (b01 b02 b03 b12 b13 b23 : Bool) (i j : Nat) : Bool :=
  match i, j with
  | 0, 1 => !b01 | 1, 0 => b01 | 0, 2 => !b02 | 2, 0 => b02 | 0, 3 => !b03 | 3, 0 => b03
  | 1, 2 => !b12 | 2, 1 => b12 | 1, 3 => !b13 | 3, 1 => b13 | 2, 3 => !b23 | 3, 2 => b23
  | _, _ => false
def insB (le : Nat → Nat → Bool) (t : Nat) : List Nat → List Nat
  | [] => [t]
  | x :: r => if le x t = true then x :: insB le t r else t :: x :: r
def lineB (le : Nat → Nat → Bool) : List Nat := insB le 3 (insB le 2 (insB le 1 (insB le 0 [])))
def consB (x y z : Bool) : Bool := (x || y || !z) && (!x || !y || z)
theorem sort_lines : ∀ b01 b02 b03 b12 b13 b23 : Bool, consB b01 b12 b02 = true → consB b01 b13 b03 = true → consB b02 b23 b03 = true → consB b12 b23 b13 = true →
    (runT (ansB b01 b02 b03 b12 b13 b23) (kas_sort 4)).toList = lineB (ansB b01 b02 b03 b12 b13 b23) := by decide +kernel
theorem sort_ok4 : okT 4 (kas_sort 4) = true := by decide +kernel
section
variable {w : World} {p : Program} {loose : List Str} {mean : ExcName → Option Value} {mg mb : Str → Option Value} {A : Around} {h₀ : Heap} {L : Addr} {m : Str → Option Value} {news : List (Addr × Obj)} {s : Shared} {C : Bool → Shared → Prop} {Q E : Value → Shared → Prop}
theorem ask_ok {a b : Addr} {h h' k k' : Int} {t u t' u' : Tok} {n n' : Nat} (X : (hd.heap_39 w.params).In h₀) (F : Fr h₀ L s.heap m) (N : News h₀ L s.heap news) (ma : (a, tupObj [.int h t, .int k u] n) ∈ news) (mb : (b, tupObj [.int h' t', .int k' u'] n') ∈ news)
    (ret : C (decide (h < h' ∨ (h = h' ∧ k < k'))) s) :
    wpAny (MM w) A (keyLt' (tuples' (Value.type "int" != Value.type "tuple")) (.ref a) (.ref b)) C (fun _ _ => False) s := by
  (repeat' (first | (k_unfold; (try dsimp only)) | (k_end; kc_close) | (with_reducible ((with_reducible show KatGo _ _ _ _ _ _ _ _ _ _ _ _); first | (kat_known; first | refine kat_yes ?_ | refine kat_no ?_) | (refine kat_go (fun hk' => ?_) (fun hk' => ?_) <;> (try simp only [beq_iff_eq, beq_eq_false_iff_ne, ne_eq, decide_eq_true_eq, decide_eq_false_iff_not] at hk')))) | walk1 | (dsimp only; first | (with_reducible ((with_reducible show KatGo _ _ _ _ _ _ _ _ _ _ _ _); first | (kat_known; first | refine kat_yes ?_ | refine kat_no ?_) | (refine kat_go (fun hk' => ?_) (fun hk' => ?_) <;> (try simp only [beq_iff_eq, beq_eq_false_iff_ne, ne_eq, decide_eq_true_eq, decide_eq_false_iff_not] at hk')))) | walk1) | (leave1; (try dsimp only)) | fail "no step"))
  · refine Eq.mp (congrArg (fun b => C b s) ?_) ret
    rw [decide_eq_decide]
    show _ ↔ (2 : Nat) < 2
    omega
  · refine Eq.mp (congrArg (fun b => C b s) ?_) ret
    rw [decide_eq_decide]
    omega
  · refine Eq.mp (congrArg (fun b => C b s) ?_) ret
    rw [decide_eq_decide]
    omega
end
/-- the asked-for order of the four halves -/
def ansH (h0 h1 h2 h3 : Int) : Nat → Nat → Bool := ansB (decide (h1 < h0)) (decide (h2 < h0)) (decide (h3 < h0)) (decide (h2 < h1)) (decide (h3 < h1)) (decide (h3 < h2))
theorem cons_of {x y z : Int} : consB (decide (y < x)) (decide (z < y)) (decide (z < x)) = true := by
  unfold consB
  by_cases a : y < x <;> by_cases b : z < y <;> by_cases c : z < x <;> simp [a, b, c] <;> omega
theorem sort_run (h0 h1 h2 h3 : Int) : (runT (ansH h0 h1 h2 h3) (kas_sort 4)).toList = lineB (ansH h0 h1 h2 h3) := sort_lines _ _ _ _ _ _ cons_of cons_of cons_of cons_of
def itm (a0 a1 a2 a3 : Addr) (h0 h1 h2 h3 : Int) (i : Nat) : Itm := if i = 0 then (a0, h0, 0) else if i = 1 then (a1, h1, 1) else if i = 2 then (a2, h2, 2) else (a3, h3, 3)
theorem ins_line {f : Nat → Itm} {le : Nat → Nat → Bool} (t : Nat) : ∀ l : List Nat, (∀ x ∈ l, (le x t = true ↔ (f x).2.1 ≤ (f t).2.1)) → insT (f t) (l.map f) = (insB le t l).map f
  | [], _ => rfl
  | x :: r, h => by
    have ih := ins_line (f := f) (le := le) t r fun y hy => h y (.tail _ hy)
    have h1 := h x (.head _)
    show (if (f x).2.1 ≤ (f t).2.1 then f x :: insT (f t) (r.map f) else f t :: f x :: r.map f) = (if le x t = true then x :: insB le t r else t :: x :: r).map f
    by_cases hx : le x t = true
    · rw [if_pos hx, if_pos (h1.mp hx), ih]
      rfl
    · rw [if_neg hx, if_neg (fun h => hx (h1.mpr h))]
      rfl
theorem insB_mem {le : Nat → Nat → Bool} {t y : Nat} : ∀ {l : List Nat}, y ∈ insB le t l → y = t ∨ y ∈ l
  | [], h => .inl (List.mem_singleton.mp h)
  | x :: r, h => by
    rw [show insB le t (x :: r) = if le x t = true then x :: insB le t r else t :: x :: r from rfl] at h
    split at h
    · rcases List.mem_cons.mp h with h | h
      · exact .inr (h ▸ .head _)
      · rcases insB_mem h with h | h
        · exact .inl h
        · exact .inr (.tail _ h)
    · rcases List.mem_cons.mp h with h | h
      · exact .inl h
      · exact .inr h
theorem lineB_lt {le : Nat → Nat → Bool} {x : Nat} (h : x ∈ lineB le) : x < 4 := by
  unfold lineB at h
  rcases insB_mem h with h | h
  · omega
  rcases insB_mem h with h | h
  · omega
  rcases insB_mem h with h | h
  · omega
  rcases insB_mem h with h | h
  · omega
  cases h
theorem ans_le {a0 a1 a2 a3 : Addr} {h0 h1 h2 h3 : Int} {x t : Nat} (hx : x < t) (ht : t < 4) : ansH h0 h1 h2 h3 x t = true ↔ (itm a0 a1 a2 a3 h0 h1 h2 h3 x).2.1 ≤ (itm a0 a1 a2 a3 h0 h1 h2 h3 t).2.1 := by
  obtain ⟨rfl, rfl⟩ | ⟨rfl, rfl⟩ | ⟨rfl, rfl⟩ | ⟨rfl, rfl⟩ | ⟨rfl, rfl⟩ | ⟨rfl, rfl⟩ : (x = 0 ∧ t = 1) ∨ (x = 0 ∧ t = 2) ∨ (x = 0 ∧ t = 3) ∨ (x = 1 ∧ t = 2) ∨ (x = 1 ∧ t = 3) ∨ (x = 2 ∧ t = 3) := by omega
  all_goals (simp [ansH, ansB, itm])
theorem line_eq (a0 a1 a2 a3 : Addr) (h0 h1 h2 h3 : Int) : line4 a0 a1 a2 a3 h0 h1 h2 h3 = (lineB (ansH h0 h1 h2 h3)).map (itm a0 a1 a2 a3 h0 h1 h2 h3) := by
  have key : ∀ t, ∀ l : List Nat, t < 4 → (∀ x ∈ l, x < t) → insT (itm a0 a1 a2 a3 h0 h1 h2 h3 t) (l.map (itm a0 a1 a2 a3 h0 h1 h2 h3)) = (insB (ansH h0 h1 h2 h3) t l).map (itm a0 a1 a2 a3 h0 h1 h2 h3) := fun t l ht hl =>
    ins_line t l fun x hx => ans_le (hl x hx) ht
  have k0 := key 0 [] (by decide) (fun x hx => by cases hx)
  have l0 : ∀ x ∈ insB (ansH h0 h1 h2 h3) 0 [], x < 1 := fun x hx => by
    rcases insB_mem hx with h | h
    · omega
    · cases h
  have k1 := key 1 _ (by decide) l0
  have l1 : ∀ x ∈ insB (ansH h0 h1 h2 h3) 1 (insB (ansH h0 h1 h2 h3) 0 []), x < 2 := fun x hx => by
    rcases insB_mem hx with h | h
    · omega
    · have := l0 x h
      omega
  have k2 := key 2 _ (by decide) l1
  have l2 : ∀ x ∈ insB (ansH h0 h1 h2 h3) 2 (insB (ansH h0 h1 h2 h3) 1 (insB (ansH h0 h1 h2 h3) 0 [])), x < 3 := fun x hx => by
    rcases insB_mem hx with h | h
    · omega
    · have := l1 x h
      omega
  have k3 := key 3 _ (by decide) l2
  unfold lineB line4
  rw [← k3, ← k2, ← k1, ← k0]
  rfl
section
variable {w : World} {p : Program} {loose : List Str} {mean : ExcName → Option Value} {mg mb : Str → Option Value} {A : Around} {h₀ : Heap} {L : Addr} {m : Str → Option Value} {news : List (Addr × Obj)} {s : Shared} {Q E : Value → Shared → Prop}
theorem sorted4 {D0 a0 a1 a2 a3 : Addr} {h0 h1 h2 h3 : Int} {t0 t1 t2 t3 u0 u1 u2 u3 : Tok} {n k0 k1 k2 k3 : Nat} (X : (hd.heap_39 w.params).In h₀) (F : Fr h₀ L s.heap m) (N : News h₀ L s.heap news)
    (hl : (D0, listOf #[.ref a0, .ref a1, .ref a2, .ref a3] n) ∈ news) (m0 : (a0, tupObj [.int h0 t0, .int 0 u0] k0) ∈ news) (m1 : (a1, tupObj [.int h1 t1, .int 1 u1] k1) ∈ news) (m2 : (a2, tupObj [.int h2 t2, .int 2 u2] k2) ∈ news) (m3 : (a3, tupObj [.int h3 t3, .int 3 u3] k3) ∈ news)
    (ret : ∀ D e h' tk, Fr h₀ L h' m → News h₀ L h' ((D, listOf ((line4 a0 a1 a2 a3 h0 h1 h2 h3).map fun t => Value.ref t.1).toArray e) :: news) → (∀ q ∈ news, q.1 < D) → Q (.ref D) { s with heap := h', toks := tk }) :
    wpAny (MM w) A (call (.builtin "sorted") [.ref D0]) Q E s := by
  refine kat_sorted (vs := [.ref a0, .ref a1, .ref a2, .ref a3]) F N ⟨_, (N _ hl).1, rfl, _, rfl⟩ (by show 2 ≤ 4; decide) (by show 4 < 64; decide) ?_
  intro D e h' F' N' l1
  have M0 : (a0, tupObj [.int h0 t0, .int 0 u0] k0) ∈ (D, seqObj "list" #[] e) :: news := .tail _ m0
  have M1 : (a1, tupObj [.int h1 t1, .int 1 u1] k1) ∈ (D, seqObj "list" #[] e) :: news := .tail _ m1
  have M2 : (a2, tupObj [.int h2 t2, .int 2 u2] k2) ∈ (D, seqObj "list" #[] e) :: news := .tail _ m2
  have M3 : (a3, tupObj [.int h3 t3, .int 3 u3] k3) ∈ (D, seqObj "list" #[] e) :: news := .tail _ m3
  kat_kinds
  refine kasWp_run (n := 4) (f := ansH h0 h1 h2 h3) (I := fun s' => ∃ h'' tk, s' = { s with heap := h'', toks := tk } ∧ Fr h₀ L h'' m ∧ News h₀ L h'' ((D, seqObj "list" #[] e) :: news)) ?_ _ _ sort_ok4 ⟨h', s.toks, rfl, F', N'⟩ ?_
  · rintro i j C s' hi hj ⟨h'', tk, rfl, F2, N2⟩ hC
    have hC' : C (ansH h0 h1 h2 h3 i j) { s with heap := h'', toks := tk } := hC _ ⟨h'', tk, rfl, F2, N2⟩
    unfold kas_ask
    obtain rfl | rfl | rfl | rfl : i = 0 ∨ i = 1 ∨ i = 2 ∨ i = 3 := by omega
    · obtain rfl | rfl | rfl | rfl : j = 0 ∨ j = 1 ∨ j = 2 ∨ j = 3 := by omega
      · exact ask_ok X F2 N2 M0 M0 (Eq.mp (congrArg (fun b => C b _) (by rw [Bool.eq_iff_iff]; simp [ansH, ansB])) hC')
      · exact ask_ok X F2 N2 M0 M1 (Eq.mp (congrArg (fun b => C b _) (by rw [Bool.eq_iff_iff]; simp [ansH, ansB]; omega)) hC')
      · exact ask_ok X F2 N2 M0 M2 (Eq.mp (congrArg (fun b => C b _) (by rw [Bool.eq_iff_iff]; simp [ansH, ansB]; omega)) hC')
      · exact ask_ok X F2 N2 M0 M3 (Eq.mp (congrArg (fun b => C b _) (by rw [Bool.eq_iff_iff]; simp [ansH, ansB]; omega)) hC')
    · obtain rfl | rfl | rfl | rfl : j = 0 ∨ j = 1 ∨ j = 2 ∨ j = 3 := by omega
      · exact ask_ok X F2 N2 M1 M0 (Eq.mp (congrArg (fun b => C b _) (by rw [Bool.eq_iff_iff]; simp [ansH, ansB])) hC')
      · exact ask_ok X F2 N2 M1 M1 (Eq.mp (congrArg (fun b => C b _) (by rw [Bool.eq_iff_iff]; simp [ansH, ansB])) hC')
      · exact ask_ok X F2 N2 M1 M2 (Eq.mp (congrArg (fun b => C b _) (by rw [Bool.eq_iff_iff]; simp [ansH, ansB]; omega)) hC')
      · exact ask_ok X F2 N2 M1 M3 (Eq.mp (congrArg (fun b => C b _) (by rw [Bool.eq_iff_iff]; simp [ansH, ansB]; omega)) hC')
    · obtain rfl | rfl | rfl | rfl : j = 0 ∨ j = 1 ∨ j = 2 ∨ j = 3 := by omega
      · exact ask_ok X F2 N2 M2 M0 (Eq.mp (congrArg (fun b => C b _) (by rw [Bool.eq_iff_iff]; simp [ansH, ansB])) hC')
      · exact ask_ok X F2 N2 M2 M1 (Eq.mp (congrArg (fun b => C b _) (by rw [Bool.eq_iff_iff]; simp [ansH, ansB])) hC')
      · exact ask_ok X F2 N2 M2 M2 (Eq.mp (congrArg (fun b => C b _) (by rw [Bool.eq_iff_iff]; simp [ansH, ansB])) hC')
      · exact ask_ok X F2 N2 M2 M3 (Eq.mp (congrArg (fun b => C b _) (by rw [Bool.eq_iff_iff]; simp [ansH, ansB]; omega)) hC')
    · obtain rfl | rfl | rfl | rfl : j = 0 ∨ j = 1 ∨ j = 2 ∨ j = 3 := by omega
      · exact ask_ok X F2 N2 M3 M0 (Eq.mp (congrArg (fun b => C b _) (by rw [Bool.eq_iff_iff]; simp [ansH, ansB])) hC')
      · exact ask_ok X F2 N2 M3 M1 (Eq.mp (congrArg (fun b => C b _) (by rw [Bool.eq_iff_iff]; simp [ansH, ansB])) hC')
      · exact ask_ok X F2 N2 M3 M2 (Eq.mp (congrArg (fun b => C b _) (by rw [Bool.eq_iff_iff]; simp [ansH, ansB])) hC')
      · exact ask_ok X F2 N2 M3 M3 (Eq.mp (congrArg (fun b => C b _) (by rw [Bool.eq_iff_iff]; simp [ansH, ansB])) hC')
  · rintro s' ⟨h'', tk, rfl, F2, N2⟩
    refine KasFin.intro F2 N2 (UpdF.head fun q hq => Nat.ne_of_lt (l1 q hq)) fun h3' c F3 N3 => ret D c h3' tk F3 ?_ l1
    have e9 : ((runT (ansH h0 h1 h2 h3) (kas_sort 4)).toList.map fun i => [Value.ref a0, Value.ref a1, Value.ref a2, Value.ref a3].getD i Value.none) = (line4 a0 a1 a2 a3 h0 h1 h2 h3).map fun t => Value.ref t.1 := by
      rw [sort_run, line_eq, List.map_map]
      refine List.map_congr_left fun i hi => ?_
      have h4 := lineB_lt hi
      obtain rfl | rfl | rfl | rfl : i = 0 ∨ i = 1 ∨ i = 2 ∨ i = 3 := by omega
      all_goals rfl
    rw [← e9]
    exact N3
end
section
open LCg
variable {prog : Program} {w : World} {A : Around} {E : Value → Shared → Prop} {s : Shared} {h₀ : Heap} {L : Addr} {m : Str → Option Value} {env : Env}
/-- the kit's turns of a block, by an invariant -/
theorem rest_inv {elt : Expr} {x : Str} {scope : Scope} {cl : List (Str × Addr)} {P : Nat → Value → Prop} {Fin : List Value → List (Addr × Obj) → Prop} {n : Nat} (Inv : Nat → List Value → List (Addr × Obj) → Prop)
    (step : ∀ i v ys nw I oI C oC D m₂ h tk (E' : Value → Shared → Prop), i < n → P i v → Inv i ys nw → ys.length = i → NsObj oC m₂ → m₂ x = some v → Fr h₀ L h m → News h₀ L h ((I, oI) :: (C, oC) :: (D, lst ys) :: nw) → Off3 I C D nw → ((@Ne Nat I C) ∧ (@Ne Nat I D) ∧ (@Ne Nat C D)) →
      wpAny (model prog w) A (eval elt (compEnvC scope cl C env)) (SeqEnd h₀ L m { s with heap := h, toks := tk } I oI C oC D (lst ys) (fun y nw' => Inv (i + 1) (ys ++ [y]) nw')) E' { s with heap := h, toks := tk })
    (fin : ∀ ys nw, ys.length = n → Inv n ys nw → Fin ys nw) :
    ∀ k i ys nw, i + k = n → ys.length = i → Inv i ys nw → CompRest prog w A h₀ L m env elt x scope cl s (fun _ => True) P Fin k i ys nw
  | 0, i, ys, nw, hn, hl, hi => by
    obtain rfl : i = n := hn
    exact fin ys nw hl hi
  | k + 1, i, ys, nw, hn, hl, hi => by
    intro v I oI C oC D m₂ h tk E' hP hC hx F N off ne
    refine wpAny_mono (step i v ys nw I oI C oC D m₂ h tk E' (by omega) hP hi hl hC hx F N off ne) (fun y s' h' => ?_) fun _ _ e => e
    obtain ⟨h2, tk2, nw2, rfl, F2, N2, o2, i2⟩ := h'
    exact ⟨h2, tk2, nw2, rfl, F2, N2, o2, trivial, rest_inv Inv step fin k (i + 1) (ys ++ [y]) nw2 (by omega) (by rw [List.length_append, List.length_singleton, hl]) i2⟩
theorem seq_new {s₁ : Shared} {I : Addr} {oI : Obj} {C : Addr} {oC : Obj} {D a : Addr} {oD o : Obj} {rest : Value → List (Addr × Obj) → Prop} {y : Value} {h' : Heap} {tk : Nat} {nw : List (Addr × Obj)}
    (F : Fr h₀ L h' m) (N : News h₀ L h' ((a, o) :: (I, oI) :: (C, oC) :: (D, oD) :: nw)) (l1 : I < a ∧ C < a ∧ D < a ∧ AllLt a nw) (off : Off3 I C D nw) (r : rest y ((a, o) :: nw)) :
    SeqEnd h₀ L m s₁ I oI C oC D oD rest y { s₁ with heap := h', toks := tk } := by
  refine SeqEnd.of ((a, o) :: nw) F N ?_ ⟨⟨Ne.symm (Nat.ne_of_lt l1.1), Ne.symm (Nat.ne_of_lt l1.2.1), Ne.symm (Nat.ne_of_lt l1.2.2.1)⟩, off⟩ r
  intro p hp
  simp only [List.mem_cons] at hp ⊢
  rcases hp with h | h | h | h | h
  · exact .inr (.inl h)
  · exact .inr (.inr (.inl h))
  · exact .inr (.inr (.inr (.inl h)))
  · exact .inl h
  · exact .inr (.inr (.inr (.inr h)))
end
section
variable {prog : Program} {w : World} {A : Around} {E : Value → Shared → Prop} {s : Shared} {env : Env} {h₀ : Heap} {x y : Str} {body : List Stmt} {Q : Flow → Shared → Prop}
/-- what is owed when a loop over pairs has its list: a list of the ledger, a tuple of two of the ledger behind each item -/
inductive SrcP (prog : Program) (w : World) (A : Around) (h₀ : Heap) (env : Env) (x y : Str) (body : List Stmt) (Q : Flow → Shared → Prop) (E : Value → Shared → Prop) (xv : Value) (s₁ : Shared) : Prop
  | mk : ∀ (σ : Type) (ax : Addr) (its : List Value) (k : Nat) (Led : σ → List (Addr × Obj)) (ps : σ → List (Str × Value)) (stored : List Str) (m₀ : Str → Option Value) (P : Nat → σ → Prop) (c₀ : σ),
    xv = .ref ax →
    A.handled = none →
    stored.contains y = true →
    Fr h₀ env.locals s₁.heap m₀ →
    News h₀ env.locals s₁.heap (Led c₀) →
    (∀ c, (ax, listOf its.toArray k) ∈ Led c) →
    (∀ (i : Nat) (v : Value), its[i]? = some v → ∃ b v1 v2 n, v = .ref b ∧ ∀ c, (b, tupObj [v1, v2] n) ∈ Led c) →
    (∀ p ∈ ps c₀, m₀ p.1 = some p.2) →
    P 0 c₀ →
    (∀ (i : Nat) (c : σ) b v1 v2 n (u : Str → Option Value) h tk I oI, its[i]? = some (.ref b) → (∀ c, (b, tupObj [v1, v2] n) ∈ Led c) → P i c → (∀ p ∈ Led c, @Ne Nat p.1 I) →
      Fr h₀ env.locals h (fun z => if z = y then some v2 else if z = x then some v1 else kstB (fun z => if stored.contains z then u z else m₀ z) (ps c) z) → News h₀ env.locals h (Led c ++ [(I, oI)]) →
      wpAny (model prog w) A (execs body env) (TurnPost h₀ env.locals { s₁ with heap := h, toks := tk } Led ps x stored m₀ P I oI (i + 1) Q) E { s₁ with heap := h, toks := tk }) →
    (∀ (c : σ) (u : Str → Option Value) h tk, P its.length c → Fr h₀ env.locals h (fun z => if z = x then u z else kstB (fun z => if stored.contains z then u z else m₀ z) (ps c) z) → News h₀ env.locals h (Led c) → Q .next { s₁ with heap := h, toks := tk }) →
    SrcP prog w A h₀ env x y body Q E xv s₁
theorem For_pair {px py pt pos : Pos} {q1 : Nat} {iter : Expr} (hx : env.kindOf x = some .local) (hy : env.kindOf y = some .local) (_hxy : x ≠ y) (hp : (env.scope.kind == .class || (env.scope.kind == .module && env.locals != env.globals)) = false)
    (h : wpAny (model prog w) A (eval iter env) (SrcP prog w A h₀ env x y body Q E) E s)
    (hs : ∀ x, foldedSetIterable iter env x = pure x := by intro _; rfl)
    (hE : PassesOwn (model prog w) A env E := by passes_own) :
    wpAny (model prog w) A (exec (.For (.Tuple [.Name x px, .Name y py] q1 pt) iter body [] pos) env) Q E s := by
  refine wpAny_For (wpAny_mono h (fun xv s₁ h₁ => ?_) fun _ _ e => e) hs
  obtain ⟨σ, ax, its, k, Led, ps, stored, m₀, P, c₀, rfl, hh, hst, F, N, hsrc, htup, hk, hp0, turn, done⟩ := h₁
  have src := (N _ (hsrc c₀)).1
  refine wpAny_pyIter_list (items := its.toArray) ⟨_, src, rfl, k, rfl⟩ ?_
  have hIL : @Ne Nat s₁.heap.objs.size env.locals := fun e => absurd F.ns.lt (e ▸ Nat.lt_irrefl _)
  have hI₀ : h₀.get? s₁.heap.objs.size = none := next_is_new F
  refine codeAny_forLoop_any (R := fun r s' => match r with | .ok f => Q f s' | .error e => cameBackBy (model prog w) A env E e s')
    (fun q s' => ∃ h' tk m' i c, s' = { s₁ with heap := h', toks := tk } ∧ h'.IsListIter s₁.heap.objs.size ax i ∧ Fr h₀ env.locals h' m' ∧ News h₀ env.locals h' (Led c) ∧ (∀ p ∈ Led c, @Ne Nat p.1 s₁.heap.objs.size) ∧ (∀ p ∈ ps c, m' p.1 = some p.2) ∧
      (∀ z, z ≠ x → (∀ p ∈ ps c, z ≠ p.1) → stored.contains z = false → m' z = m₀ z) ∧ P i c ∧ i ≤ its.length ∧ q = its.length + 1 - i) ?_ (its.length + 1)
    ⟨_, s₁.toks, m₀, 0, c₀, rfl, ⟨_, Heap.get?_push_size _ rfl, rfl, rfl⟩, F.push _, fun p hp => ⟨Heap.get?_push_of_some _ (N p hp).1, (N p hp).2⟩, fun p hp => Nat.ne_of_lt (Heap.lt_size (N p hp).1), hk, fun _ _ _ _ => rfl, hp0, Nat.zero_le _, rfl⟩
  rintro q s' ⟨h', tk, m', i, c, rfl, it', F', N', hne, hk', hr', hP, hi, rfl⟩
  generalize hIe : s₁.heap.objs.size = I at *
  have hl' : h'.IsList ax its.toArray := ⟨_, (N' _ (hsrc c)).1, rfl, k, rfl⟩
  by_cases hlt : i < its.length
  · have hv : its[i]? = some its[i] := List.getElem?_eq_getElem hlt
    refine wpAny_pyNext_list_item it' hl' (x := its[i]) (by simp) fun h₁ it₁ hs₁ => ?_
    replace hs₁ : Heap.SameBut I h' h₁ := hs₁
    refine letGo_listiter it₁ ?_
    obtain ⟨b, v1, v2, n, hvb, hbm⟩ := htup i _ hv
    have F₁ : Fr h₀ env.locals h₁ m' := F'.change hs₁ (neN hIL) hI₀
    have N₁ : News h₀ env.locals h₁ (Led c) := fun p hp => ⟨hs₁.extBut _ _ (neN (hne p hp)) (N' p hp).1, (N' p hp).2⟩
    rw [hvb]
    have htp : IsTup h₁ b #[v1, v2] := ⟨_, (N₁ _ (hbm c)).1, rfl, n, rfl⟩
    refine assign_Tuple_tuple hh htp rfl rfl fun h₂ he₂ => ?_
    have up2 : ∀ a o, h₁.get? a = some o → h₂.get? a = some o := fun a o e => he₂ a o (Nat.ne_of_lt (Heap.lt_size e)) e
    have F₂ : Fr h₀ env.locals h₂ m' := F₁.keeps up2
    have N₂ : News h₀ env.locals h₂ (Led c) := N₁.grown up2
    obtain ⟨oI, heI, hoI⟩ := it₁
    refine assignInOrder_cons (wpAny_assign_Name (wpAny_storeName_local hx F₂.ns (fun h₃ hn₃ hs₃ => ?_) hp))
    have F₃ := F₂.set hn₃ hs₃
    have N₃ := N₂.set hs₃
    refine assignInOrder_cons (wpAny_assign_Name (wpAny_storeName_local hy F₃.ns (fun h₄ hn₄ hs₄ => ?_) hp))
    have F₄ := F₃.set hn₄ hs₄
    have N₄ := N₃.set hs₄
    refine assignInOrder_nil ?_
    have zI : h₄.get? I = some oI := hs₄.extBut _ _ (neN hIL) (hs₃.extBut _ _ (neN hIL) (up2 _ _ heI))
    have N₅ : News h₀ env.locals h₄ (Led c ++ [(I, oI)]) := fun p hp => by
      rcases List.mem_append.mp hp with hp | hp
      · exact N₄ p hp
      · rw [List.mem_singleton.mp hp]
        exact ⟨zI, neN hIL, hI₀⟩
    have em : (fun z => if z = y then some v2 else if z = x then some v1 else m' z) = fun z => if z = y then some v2 else if z = x then some v1 else kstB (fun z => if stored.contains z then m' z else m₀ z) (ps c) z := by
      funext z
      by_cases h1 : z = y
      · simp [h1]
      · by_cases h2 : z = x
        · simp [h2]
        · simp only [if_neg h1, if_neg h2]
          exact (kst_off hk' hr' h2).symm
    have F₅ : Fr h₀ env.locals h₄ (fun z => if z = y then some v2 else if z = x then some v1 else kstB (fun z => if stored.contains z then m' z else m₀ z) (ps c) z) := em ▸ F₄
    refine wpAny_mono (wpAny_passesOwn hE (turn i c b v1 v2 n m' h₄ _ I oI (hvb ▸ hv) hbm hP hne F₅ N₅)) (fun f s₃ h₃ => ?_) fun _ _ e => e
    have again : TurnEnd h₀ env.locals { s₁ with heap := h₄, toks := tk + 1 + 1 } Led ps x stored m₀ P I oI (i + 1) s₃ → ∃ q', q' < its.length + 1 - i ∧ ∃ h' tk m' i c, s₃ = { s₁ with heap := h', toks := tk } ∧ h'.IsListIter I ax i ∧ Fr h₀ env.locals h' m' ∧ News h₀ env.locals h' (Led c) ∧ (∀ p ∈ Led c, @Ne Nat p.1 I) ∧ (∀ p ∈ ps c, m' p.1 = some p.2) ∧
        (∀ z, z ≠ x → (∀ p ∈ ps c, z ≠ p.1) → stored.contains z = false → m' z = m₀ z) ∧ P i c ∧ i ≤ its.length ∧ q' = its.length + 1 - i := by
      rintro ⟨c', h6, tk6, m6, nw6, rfl, F6, N6, hI6, hn6, hne6, hk6, hr6, hP6⟩
      exact ⟨its.length + 1 - (i + 1), by omega, h6, tk6, m6, i + 1, c', rfl, ⟨oI, (N6 _ hI6).1, hoI⟩, F6, fun p hp => N6 p (hn6 p hp), hne6, hk6, hr6, hP6, hlt, rfl⟩
    cases f with
    | ret v => exact h₃
    | brk => exact h₃
    | next => exact again h₃
    | cont => exact again h₃
  · obtain rfl : i = its.length := Nat.le_antisymm hi (Nat.not_lt.mp hlt)
    refine wpAny_pyNext_list_end hh it' hl' (by simp) fun h₁ he => wpAny_execs_nil ?_
    replace he : Heap.ExtBut I h' h₁ := he
    have F₁ : Fr h₀ env.locals h₁ m' := ⟨F'.ns.at' fun o e => he _ o (neN (Ne.symm hIL)) e, fun a o e => he a o (fun q => by rw [q, hI₀] at e; cases e) (F'.keep a o e), F'.above⟩
    exact done c m' h₁ tk hP (kst_frOut hk' hr' F₁) fun p hp => ⟨he _ _ (neN (hne p hp)) (N' p hp).1, (N' p hp).2⟩
end
def entI (n0 n1 n2 n3 : Int) (i : Nat) : Ent := if i = 0 then entOf n0 0 else if i = 1 then entOf n1 1 else if i = 2 then entOf n2 2 else entOf n3 3
theorem ins_ents {f : Nat → Ent} {le : Nat → Nat → Bool} (t : Nat) : ∀ l : List Nat, (∀ x ∈ l, (le x t = true ↔ (f x).h ≤ (f t).h)) → insE (f t) (l.map f) = (insB le t l).map f
  | [], _ => by simp [insE, cnt, insB]
  | x :: r, h => by
    have ih := ins_ents (f := f) (le := le) t r fun y hy => h y (.tail _ hy)
    have h1 := h x (.head _)
    rw [List.map_cons, insE_cons, show insB le t (x :: r) = if le x t = true then x :: insB le t r else t :: x :: r from rfl]
    by_cases hx : le x t = true
    · rw [if_pos hx, if_pos (h1.mp hx), ih]
      rfl
    · rw [if_neg hx, if_neg (fun h => hx (h1.mpr h))]
      rfl
theorem ans_ent {n0 n1 n2 n3 : Int} {x t : Nat} (hx : x < t) (ht : t < 4) : ansH (Int.fmod n0 6) (Int.fmod n1 6) (Int.fmod n2 6) (Int.fmod n3 6) x t = true ↔ (entI n0 n1 n2 n3 x).h ≤ (entI n0 n1 n2 n3 t).h := by
  obtain ⟨rfl, rfl⟩ | ⟨rfl, rfl⟩ | ⟨rfl, rfl⟩ | ⟨rfl, rfl⟩ | ⟨rfl, rfl⟩ | ⟨rfl, rfl⟩ : (x = 0 ∧ t = 1) ∨ (x = 0 ∧ t = 2) ∨ (x = 0 ∧ t = 3) ∨ (x = 1 ∧ t = 2) ∨ (x = 1 ∧ t = 3) ∨ (x = 2 ∧ t = 3) := by omega
  all_goals (simp [ansH, ansB, entI, entOf])
theorem heirs_line (n0 n1 n2 n3 : Int) : heirs4 n0 n1 n2 n3 = (lineB (ansH (Int.fmod n0 6) (Int.fmod n1 6) (Int.fmod n2 6) (Int.fmod n3 6))).map (entI n0 n1 n2 n3) := by
  have key : ∀ t, ∀ l : List Nat, t < 4 → (∀ x ∈ l, x < t) → insE (entI n0 n1 n2 n3 t) (l.map (entI n0 n1 n2 n3)) = (insB (ansH (Int.fmod n0 6) (Int.fmod n1 6) (Int.fmod n2 6) (Int.fmod n3 6)) t l).map (entI n0 n1 n2 n3) := fun t l ht hl =>
    ins_ents t l fun x hx => ans_ent (hl x hx) ht
  have k0 := key 0 [] (by decide) (fun x hx => by cases hx)
  have l0 : ∀ x ∈ insB (ansH (Int.fmod n0 6) (Int.fmod n1 6) (Int.fmod n2 6) (Int.fmod n3 6)) 0 [], x < 1 := fun x hx => by
    rcases insB_mem hx with h | h
    · omega
    · cases h
  have k1 := key 1 _ (by decide) l0
  have l1 : ∀ x ∈ insB (ansH (Int.fmod n0 6) (Int.fmod n1 6) (Int.fmod n2 6) (Int.fmod n3 6)) 1 (insB (ansH (Int.fmod n0 6) (Int.fmod n1 6) (Int.fmod n2 6) (Int.fmod n3 6)) 0 []), x < 2 := fun x hx => by
    rcases insB_mem hx with h | h
    · omega
    · have := l0 x h
      omega
  have k2 := key 2 _ (by decide) l1
  have l2 : ∀ x ∈ insB (ansH (Int.fmod n0 6) (Int.fmod n1 6) (Int.fmod n2 6) (Int.fmod n3 6)) 2 (insB (ansH (Int.fmod n0 6) (Int.fmod n1 6) (Int.fmod n2 6) (Int.fmod n3 6)) 1 (insB (ansH (Int.fmod n0 6) (Int.fmod n1 6) (Int.fmod n2 6) (Int.fmod n3 6)) 0 [])), x < 3 := fun x hx => by
    rcases insB_mem hx with h | h
    · omega
    · have := l1 x h
      omega
  have k3 := key 3 _ (by decide) l2
  unfold lineB heirs4
  rw [← k3, ← k2, ← k1, ← k0]
  rfl
/-- the line in the law: a list of the ledger, its items tuples of the heirs' halves and numbers -/
theorem line_facts {n0 n1 n2 n3 : Int} {b0 b1 b2 b3 : Addr} {nw : List (Addr × Obj)} {x0 x1 x2 x3 z0 z1 z2 z3 : Tok} {k0 k1 k2 k3 : Nat}
    (mb0 : (b0, tupObj [.int (Int.fmod n0 6) x0, .int 0 z0] k0) ∈ nw) (mb1 : (b1, tupObj [.int (Int.fmod n1 6) x1, .int 1 z1] k1) ∈ nw) (mb2 : (b2, tupObj [.int (Int.fmod n2 6) x2, .int 2 z2] k2) ∈ nw) (mb3 : (b3, tupObj [.int (Int.fmod n3 6) x3, .int 3 z3] k3) ∈ nw) :
    ∀ (j : Nat) (v : Value), ((line4 b0 b1 b2 b3 (Int.fmod n0 6) (Int.fmod n1 6) (Int.fmod n2 6) (Int.fmod n3 6)).map fun t => Value.ref t.1)[j]? = some v →
      ∃ (e : Ent) (q : Nat) (b : Addr) (t u : Tok) (n : Nat), (heirs4 n0 n1 n2 n3)[j]? = some e ∧ v = .ref b ∧ q < 4 ∧ e.c = letterS q ∧ (b, tupObj [.int e.h t, .int (q : Int) u] n) ∈ nw := by
  intro j v hv
  rw [line_eq, List.map_map, List.getElem?_map] at hv
  rw [heirs_line, List.getElem?_map]
  cases hq : (lineB (ansH (Int.fmod n0 6) (Int.fmod n1 6) (Int.fmod n2 6) (Int.fmod n3 6)))[j]? with
  | none => rw [hq] at hv; cases hv
  | some q =>
    rw [hq] at hv
    obtain rfl := Option.some.inj hv
    have h4 := lineB_lt (List.mem_of_getElem? hq)
    obtain rfl | rfl | rfl | rfl : q = 0 ∨ q = 1 ∨ q = 2 ∨ q = 3 := by omega
    · exact ⟨_, 0, b0, x0, z0, k0, rfl, rfl, by decide, rfl, mb0⟩
    · exact ⟨_, 1, b1, x1, z1, k1, rfl, rfl, by decide, rfl, mb1⟩
    · exact ⟨_, 2, b2, x2, z2, k2, rfl, rfl, by decide, rfl, mb2⟩
    · exact ⟨_, 3, b3, x3, z3, k3, rfl, rfl, by decide, rfl, mb3⟩
theorem line_len (b0 b1 b2 b3 : Addr) (h0 h1 h2 h3 : Int) : (line4 b0 b1 b2 b3 h0 h1 h2 h3).length = 4 := by
  have hi : ∀ (t : Itm) (l : List Itm), (insT t l).length = l.length + 1 := by
    intro t l
    induction l with
    | nil => rfl
    | cons x r ih =>
      rw [show insT t (x :: r) = if x.2.1 ≤ t.2.1 then x :: insT t r else t :: x :: r from rfl]
      split
      · rw [List.length_cons, ih, List.length_cons]
      · rfl
  unfold line4
  rw [hi, hi, hi, hi]
  rfl
section
open PyProof.V PySem.Spec
theorem lay_strs : ∀ ss : List Str, (∀ x ∈ ss, PyData.strOk x = true) → PyData.canLayAll0 (ss.map PyData.str) = true
  | [], _ => rfl
  | x :: r, h => by simp [PyData.canLayAll0, PyData.canLay0, lay_strs r fun y hy => h y (.tail _ hy), h x (.head _)]
theorem depth_strs : ∀ ss : List Str, PyData.depthAll (ss.map PyData.str) = 0
  | [] => rfl
  | _ :: r => by simp [PyData.depthAll, PyData.depth, depth_strs r]
theorem shaped_strs (ss : List Str) (h : ∀ x ∈ ss, PyData.strOk x = true) : SeqAt.shaped (.list (ss.map PyData.str)) = true := by
  simp [SeqAt.shaped, PyData.canLay0, PyData.depth, lay_strs ss h, depth_strs]
theorem same_strs0 : ∀ ss : List Str, PySem.Spec.sameAll (ss.map PyData.str) (ss.map PyData.str) = true
  | [] => by simp [PySem.Spec.sameAll]
  | a :: r => by simp [PySem.Spec.sameAll, PySem.Spec.same, same_strs0 r]
theorem same_strs (ss : List Str) : PySem.Spec.same (.list (ss.map PyData.str)) (.list (ss.map PyData.str)) = true := by
  simp only [PySem.Spec.same]
  exact same_strs0 ss
theorem carried_strs : ∀ {vs : List Value} {ss : List Str}, StrsAre vs ss → CarriedAll vs (ss.map PyData.str)
  | _, _, .nil => .nil
  | _, _, .cons _ t r => .cons (.str _ t) (carried_strs r)
variable {prog : Program} {w : World} {A : Around} {E : Value → Shared → Prop} {s : Shared} {a b : Addr} {xs ys : List Value} {ss : List Str} {Q : Value → Shared → Prop}
/-- two lists of the same strs do not differ -/
theorem ne_same_strs (ha : s.heap.IsList a xs.toArray) (hb : s.heap.IsList b ys.toArray) (hi : StrsAre xs ss) (hj : StrsAre ys ss) (ho : ∀ x ∈ ss, PyData.strOk x = true) (hu : A.units + 64 < cLine) (h : Q (.bool false) s) :
    wpAny (model prog w) A (compareOp .NotEq (.ref a) (.ref b)) Q E s :=
  ne_dataH_same (reads_newData ha (carried_strs hi)) (reads_newData hb (carried_strs hj)) (shaped_strs _ ho) (shaped_strs _ ho) hu (SeqAt.noMix_of_shape (.list .str) rfl _ _ (list_map_has fun _ => rfl) (list_map_has fun _ => rfl)) (by rw [same_strs]; exact h)
end
/-- the law's own text of a row -/
theorem due_row {e : Ent} {l : Nat} {y : Str} (h : EntOk e) (hy : y = if e.h ≤ (l : Int) then Str.ofString "-" else Str.ofString "") :
    (y ++ Txt.mul (Str.ofString ".") ((if (l : Int) < e.h then (l : Int) else e.h) + 1)) ++ e.c = strOf (rowAt l e) := by
  have h0 := h.h0
  have hm : (if (l : Int) < e.h then (l : Int) else e.h) = min e.h (l : Int) := by split <;> omega
  rw [hm]
  obtain ⟨n, hn⟩ : ∃ n : Nat, min e.h (l : Int) = n := ⟨(min e.h (l : Int)).toNat, by omega⟩
  rw [hn, hy]
  apply Str.ext'
  apply Array.toList_inj.mp
  rw [Str.cps_append, Str.cps_append, Array.toList_append, Array.toList_append]
  have e1 : (Txt.mul (Str.ofString ".") ((n : Int) + 1)).cps.toList = List.replicate (n + 1) 46 := by
    have h5 := h.h5
    obtain rfl | rfl | rfl | rfl | rfl | rfl : n = 0 ∨ n = 1 ∨ n = 2 ∨ n = 3 ∨ n = 4 ∨ n = 5 := by omega
    all_goals rfl
  rw [e1]
  unfold rowAt strOf
  rw [hn, Int.toNat_natCast]
  by_cases hl : e.h ≤ (l : Int)
  · simp [hl]
    rfl
  · simp [hl]
    rfl
theorem row_strOk {l : Nat} {e : Ent} (h : EntOk e) : PyData.strOk (strOf (rowAt l e)) = true := by
  have hr := h
  obtain ⟨c, hc, h1, h2⟩ := h.one
  have hb : ∀ d ∈ rowAt l e, d < 128 := by
    intro d hd
    unfold rowAt at hd
    rw [hc] at hd
    rcases List.mem_append.mp hd with hd | hd
    · rcases List.mem_append.mp hd with hd | hd
      · split at hd
        · have := List.mem_singleton.mp hd
          omega
        · cases hd
      · have := (List.mem_replicate.mp hd).2
        omega
    · have : d = c := by simpa using hd
      omega
  unfold PyData.strOk strOf
  simp only [List.all_toArray, List.all_eq_true, decide_eq_true_eq]
  intro d hd
  have := hb d hd
  omega
theorem rows_strOk {l : Nat} {es : List Ent} (h : ∀ e ∈ es, EntOk e) : ∀ x ∈ rowsS l es, PyData.strOk x = true := by
  intro x hx
  obtain ⟨e, he, rfl⟩ := List.mem_map.mp hx
  exact row_strOk (h e he)
section
open LCg
variable {prog : Program} {w : World} {A : Around} {E : Value → Shared → Prop} {s : Shared} {h₀ : Heap} {L : Addr} {m : Str → Option Value} {env : Env}
theorem pair_block {elt iter : Expr} {x x₂ : Str} {px px₂ tp : Pos} {tq : Nat} {scope : Scope} {cl : List (Str × Addr)} {pos : Pos} {s₂ : Shared} {ax : Addr} {its : List Value} {k : Nat} {nw₀ : List (Addr × Obj)} {Inv : Nat → List Value → List (Addr × Obj) → Prop}
    {RR : Value → Addr → Result → Shared → Prop} (hsz : its.length ≤ sizeLine) (hcell : ∀ y ∈ scope.names, y.2 ≠ .cell) (hkind : scope.kind = .function) (hx : scope.names.lookup x = some .local) (hx₂ : scope.names.lookup x₂ = some .local) (hxx : x ≠ x₂) (hh : A.handled = none)
    (F : Fr h₀ L s₂.heap m) (N : News h₀ L s₂.heap nw₀) (hsrc : ∀ i ys nw, Inv i ys nw → (ax, listOf its.toArray k) ∈ nw) (hI0 : Inv 0 [] nw₀)
    (htup : ∀ (i : Nat) (v : Value) ys nw, its[i]? = some v → Inv i ys nw → ∃ b v1 v2 n, v = .ref b ∧ (b, tupObj [v1, v2] n) ∈ nw)
    (turn : ∀ i b v1 v2 n ys nw I oI C oC D m₂ h tk (E' : Value → Shared → Prop), its[i]? = some (.ref b) → (b, tupObj [v1, v2] n) ∈ nw → Inv i ys nw → ys.length = i → 1 ≤ tk → NsObj oC m₂ → m₂ x = some v1 → m₂ x₂ = some v2 → Fr h₀ L h m → News h₀ L h ((I, oI) :: (C, oC) :: (D, lst ys) :: nw) → Off3 I C D nw →
      ((@Ne Nat I C) ∧ (@Ne Nat I D) ∧ (@Ne Nat C D)) →
      wpAny (model prog w) A (eval elt (compEnvC scope cl C env)) (SeqEnd h₀ L m { s₂ with heap := h, toks := tk } I oI C oC D (lst ys) (fun y nw' => Inv (i + 1) (ys ++ [y]) nw')) E' { s₂ with heap := h, toks := tk })
    (hRR : ∀ D C h tk m' ys nw, Fr h₀ L h m → News h₀ L h ((D, lst ys) :: nw) → Off1 D nw → h.Ns C m' → h₀.get? C = none → h₀.get? D = none → C ≠ L → D ≠ L → C ≠ D → (∀ p ∈ nw, p.1 ≠ C) → ys.length = its.length → Inv its.length ys nw →
      RR (.ref D) C (.ok .next) { s₂ with heap := h, toks := tk }) :
    wpAny (model prog w) A (pyIter (.ref ax)) (fun it s₃ => wpAny (model prog w) A (newList []) (fun acc s₄ => wpAny (model prog w) A (newFunctionEnv scope env.globals cl [] env.qual none .none (some env)) (fun cenv s₅ =>
      codeAny (model prog w) A (.compStart (.ListComp elt [⟨.Tuple [.Name x px, .Name x₂ px₂] tq tp, iter, [], 0⟩] scope pos) 0 it acc { cenv with scope := relabel scope env }) (RR acc cenv.locals) s₅) E s₄) E s₃) E s₂ := by
  have src := (N _ (hsrc _ _ _ hI0)).1
  have hax : @LT.lt Nat _ ax s₂.heap.objs.size := Heap.lt_size src
  refine wpAny_pyIter_list (items := its.toArray) ⟨_, src, rfl, k, rfl⟩ ?_
  refine wpAny_newObj_type (wpAny_newFunctionEnv hcell (by intro y hy; simp at hy) (fun h₁ hns₁ hsb₁ => ?_) hkind)
  dsimp only at hns₁ hsb₁ ⊢
  generalize hHI : s₂.heap.push { cls := .type "list_iterator", data := .fields #[.ref ax, .int 0 0] } = HI at hns₁ hsb₁ ⊢
  have sI : HI.objs.size = s₂.heap.objs.size + 1 := by rw [← hHI, Heap.size_push]
  generalize hHD : HI.push { cls := .type "list", dict := none, data := .seq ([] : List Value).toArray } = HD at hns₁ hsb₁ ⊢
  have sD : HD.objs.size = s₂.heap.objs.size + 2 := by rw [← hHD, Heap.size_push, sI]
  have gI : HI.get? s₂.heap.objs.size = some { cls := .type "list_iterator", data := .fields #[.ref ax, .int 0 0] } := hHI ▸ Heap.get?_push_size _ rfl
  have gD : HD.get? HI.objs.size = some (lst []) := hHD ▸ Heap.get?_push_size _ rfl
  have upI : ∀ b o, s₂.heap.get? b = some o → HI.get? b = some o := fun b o e => hHI ▸ Heap.get?_push_of_some _ e
  have upD : ∀ b o, HI.get? b = some o → HD.get? b = some o := fun b o e => hHD ▸ Heap.get?_push_of_some _ e
  generalize hI : s₂.heap.objs.size = I at *
  generalize hD : HI.objs.size = D at *
  generalize hC : HD.objs.size = C at *
  have up1 : ∀ b o, (@Ne Nat b C) → HD.get? b = some o → h₁.get? b = some o := fun b o d e => hsb₁.extBut b o (neN d) (Heap.get?_push_of_some _ e)
  have old : ∀ b o, s₂.heap.get? b = some o → h₁.get? b = some o := fun b o e => up1 b o (by have z : @LT.lt Nat _ b s₂.heap.objs.size := Heap.lt_size e; omega) (upD b o (upI b o e))
  have zI : h₁.get? I = some { cls := .type "list_iterator", data := .fields #[.ref ax, .int 0 0] } := up1 _ _ (by omega) (upD _ _ gI)
  have zD : h₁.get? D = some (lst []) := up1 _ _ (by omega) gD
  have nIC : @Ne Nat I C := by omega
  have nID : @Ne Nat I D := by omega
  have nCD : @Ne Nat C D := by omega
  have hab : @LE.le Nat _ h₀.objs.size L := F.above
  have hL2 : @LT.lt Nat _ L I := hI ▸ F.ns.lt
  have fresh₀ : ∀ a : Nat, I ≤ a → h₀.get? a = none := fun a ha => Heap.get?_none_of_le (by show h₀.objs.size ≤ a; omega)
  have hI₀ : h₀.get? I = none := fresh₀ _ (Nat.le_refl _)
  have hD₀ : h₀.get? D = none := fresh₀ _ (by omega)
  have hC₀ : h₀.get? C = none := fresh₀ _ (by omega)
  have hIL : I ≠ L := neN (by omega)
  have hDL : D ≠ L := neN (by omega)
  have hCL : C ≠ L := neN (by omega)
  have off₀ : Off3 I C D nw₀ := Off3.of fun p hp => by
    have z : @LT.lt Nat _ p.1 s₂.heap.objs.size := Heap.lt_size (N p hp).1
    exact ⟨neN (by omega), neN (by omega), neN (by omega)⟩
  have neAx : @Ne Nat ax I := by omega
  have loop : ∀ s₃ : Shared, s₃ = { s₂ with heap := h₁, toks := s₂.toks + ([] : List (Str × Value)).length } →
      codeAny (model prog w) A (.compLoop (.ListComp elt [⟨.Tuple [.Name x px, .Name x₂ px₂] tq tp, iter, [], 0⟩] scope pos) 0 (.ref I) (.ref D) (compEnvC scope cl C env)) (RR (.ref D) C) s₃ := by
    rintro s₃ rfl
    refine LCp.codeAny_compLoop_pair
      (fun q s' => ∃ h' tk i ys m' nw, s' = { s₂ with heap := h', toks := tk } ∧ i ≤ its.length ∧ q = its.length + 1 - i ∧ ys.length = i ∧ h'.IsListIter I ax i ∧ Fr h₀ L h' m ∧ h'.Ns C m' ∧ News h₀ L h' ((D, lst ys) :: nw) ∧ Off3 I C D nw ∧ Inv i ys nw)
      ?_ (its.length + 1) ⟨h₁, _, 0, [], _, nw₀, rfl, Nat.zero_le _, rfl, rfl, ⟨_, zI, rfl, rfl⟩, F.keeps old, hns₁, fun p hp => ?_, off₀, hI0⟩
    · rintro q s' ⟨h', tk, i, ys, m', nw, rfl, hi, rfl, hyl, it', F', hn', N', off', inv⟩
      have O := off'.mem
      have al : ∀ {h'' : Heap}, News h₀ L h'' nw → h''.IsList ax its.toArray := fun N => ⟨_, (N _ (hsrc _ _ _ inv)).1, rfl, k, rfl⟩
      by_cases hlt : i < its.length
      · have hv : its[i]? = some its[i] := List.getElem?_eq_getElem hlt
        refine wpAny_pyNext_list_item it' (al fun p hp => N' p (List.mem_cons_of_mem _ hp)) (x := its[i]) (by simp) fun h₂ it₂ hs₂ => ?_
        replace hs₂ : Heap.SameBut I h' h₂ := hs₂
        refine letGo_listiter it₂ ?_
        obtain ⟨b, v1, v2, n, hvb, hbm⟩ := htup i _ ys nw hv inv
        obtain ⟨oI, heI, hoI⟩ := it₂
        have F2' : Fr h₀ L h₂ m := F'.change hs₂ hIL hI₀
        have N2' : News h₀ L h₂ ((D, lst ys) :: nw) := fun p hp => by
          have z := N' p hp
          refine ⟨hs₂.extBut _ _ ?_ z.1, z.2⟩
          rcases List.mem_cons.mp hp with rfl | hp
          · exact neN (Ne.symm nID)
          · exact (O p hp).1
        have ht : IsTup h₂ b #[v1, v2] := ⟨_, (N2' _ (List.mem_cons_of_mem _ hbm)).1, rfl, n, rfl⟩
        rw [hvb]
        refine assign_Tuple_tuple hh ht rfl rfl fun h₅ he => ?_
        have up5 : ∀ a o, h₂.get? a = some o → h₅.get? a = some o := fun a o e => he a o (Nat.ne_of_lt (Heap.lt_size e)) e
        refine assignInOrder_cons (wpAny_assign_Name (wpAny_storeName_local (lookup_relabel_local hx) ((hn'.sameBut hs₂ (neN (Ne.symm nIC))).at' fun o e => up5 C o e) (fun h₆ hn₆ hs₆ => ?_) (by simp [compEnvC, relabel, hkind])))
        refine assignInOrder_cons (wpAny_assign_Name (wpAny_storeName_local (lookup_relabel_local hx₂) hn₆ (fun h₃ hn₃ hs₃ => ?_) (by simp [compEnvC, relabel, hkind])))
        refine assignInOrder_nil ?_
        replace hs₆ : Heap.SameBut C h₅ h₆ := hs₆
        replace hs₃ : Heap.SameBut C h₆ h₃ := hs₃
        have up3 : ∀ a o, (@Ne Nat a C) → h₂.get? a = some o → h₃.get? a = some o := fun a o d e => hs₃.extBut a o (neN d) (hs₆.extBut a o (neN d) (up5 a o e))
        obtain ⟨oC, heC, hoC⟩ := ns_obj hn₃
        have F₃ : Fr h₀ L h₃ m := ((F2'.keeps up5).change hs₆ hCL hC₀).change hs₃ hCL hC₀
        have N₃ : News h₀ L h₃ ((I, oI) :: (C, oC) :: (D, lst ys) :: nw) := fun p hp => by
          rcases List.mem_cons.mp hp with rfl | hp
          · exact ⟨up3 _ _ nIC heI, hIL, hI₀⟩
          · rcases List.mem_cons.mp hp with rfl | hp
            · exact ⟨heC, hCL, hC₀⟩
            · have z := N2' p hp
              refine ⟨up3 _ _ ?_ z.1, z.2⟩
              rcases List.mem_cons.mp hp with rfl | hp
              · exact Ne.symm nCD
              · exact (O p hp).2.1
        refine wpAny_mono (turn i b v1 v2 n ys nw I oI C oC D _ h₃ _ _ (hvb ▸ hv) hbm inv hyl (Nat.le_add_left _ _) hoC (by simp [hxx]) (by simp) F₃ N₃ off' ⟨nIC, nID, nCD⟩) (fun y s₄ h₄ => ?_) fun _ _ e => e
        obtain ⟨h₄, tk₄, nw₄, rfl, F₄, N₄, off₄, inv₄⟩ := h₄
        have zI := (N₄ (I, oI) List.mem_cons_self).1
        have zC := (N₄ (C, oC) (List.mem_cons_of_mem _ List.mem_cons_self)).1
        have zD := (N₄ (D, lst ys) (List.mem_cons_of_mem _ (List.mem_cons_of_mem _ List.mem_cons_self))).1
        have N₄' : News h₀ L h₄ nw₄ := fun p hp => N₄ p (List.mem_cons_of_mem _ (List.mem_cons_of_mem _ (List.mem_cons_of_mem _ hp)))
        refine append_at (hsz := by show ys.toArray.size ≤ sizeLine; rw [List.size_toArray, hyl]; exact Nat.le_trans hi hsz) zD fun h₅ hs₅ hD₅ => ?_
        replace hs₅ : Heap.SameBut D h₄ h₅ := hs₅
        have O4 := off₄.mem
        refine ⟨its.length + 1 - (i + 1), by omega, h₅, tk₄, i + 1, ys ++ [y], _, nw₄, rfl, hlt, rfl, by rw [List.length_append, List.length_singleton, hyl], ⟨oI, hs₅.extBut _ _ (neN nID) zI, hoI⟩, F₄.change hs₅ hDL hD₀,
          (hoC.ns zC).sameBut hs₅ (neN nCD), fun p hp => ?_, off₄, inv₄⟩
        rcases List.mem_cons.mp hp with rfl | hp
        · exact ⟨hD₅.trans (congrArg some (lst_snoc ys y)), hDL, hD₀⟩
        · exact ⟨hs₅.extBut _ _ (O4 p hp).2.2 (N₄' p hp).1, (N₄' p hp).2⟩
      · obtain rfl : i = its.length := Nat.le_antisymm hi (Nat.not_lt.mp hlt)
        refine wpAny_pyNext_list_end hh it' (al fun p hp => N' p (List.mem_cons_of_mem _ hp)) (by simp) fun h₂ he₂ => ?_
        replace he₂ : Heap.ExtBut I h' h₂ := he₂
        refine hRR D C h₂ tk m' ys nw ⟨F'.ns.at' fun o e => he₂ _ o (Ne.symm hIL) e, fun b o e => he₂ b o (fun q => by rw [q, hI₀] at e; cases e) (F'.keep b o e), F'.above⟩ (fun p hp => ?_) off'.one (hn'.at' fun o e => he₂ _ o (neN (Ne.symm nIC)) e) hC₀ hD₀ hCL hDL (neN nCD) (fun p hp => (O p hp).2.1) hyl inv
        have z := N' p hp
        refine ⟨he₂ _ _ ?_ z.1, z.2⟩
        rcases List.mem_cons.mp hp with rfl | hp
        · exact neN (Ne.symm nID)
        · exact (O p hp).1
    · rcases List.mem_cons.mp hp with rfl | hp
      · exact ⟨zD, hDL, hD₀⟩
      · exact ⟨old _ _ (N p hp).1, (N p hp).2⟩
  exact codeAny_compStart_list (loop _ rfl) (wpAny_pyIter_listiter ⟨_, zI, rfl, rfl⟩ (loop _ rfl))
/-- what is owed when the iterable of a block turns out to be a list of the ledger -/
inductive SrcQ (prog : Program) (w : World) (A : Around) (h₀ : Heap) (L : Addr) (m : Str → Option Value) (env : Env) (elt : Expr) (x x₂ : Str) (scope : Scope) (cl : List (Str × Addr)) (Fin : Shared → List Value → List (Addr × Obj) → Prop) (xv : Value) (s₁ : Shared) : Prop
  | mk : ∀ (ax : Addr) (its : List Value) (k : Nat) (nw₀ : List (Addr × Obj)) (Inv : Nat → List Value → List (Addr × Obj) → Prop),
    xv = .ref ax →
    A.handled = none →
    its.length ≤ sizeLine →
    Fr h₀ L s₁.heap m →
    News h₀ L s₁.heap nw₀ →
    (∀ i ys nw, Inv i ys nw → (ax, listOf its.toArray k) ∈ nw) →
    Inv 0 [] nw₀ →
    (∀ (i : Nat) (v : Value) ys nw, its[i]? = some v → Inv i ys nw → ∃ b v1 v2 n, v = .ref b ∧ (b, tupObj [v1, v2] n) ∈ nw) →
    (∀ i b v1 v2 n ys nw I oI C oC D m₂ h tk (E' : Value → Shared → Prop), its[i]? = some (.ref b) → (b, tupObj [v1, v2] n) ∈ nw → Inv i ys nw → ys.length = i → 1 ≤ tk → NsObj oC m₂ → m₂ x = some v1 → m₂ x₂ = some v2 → Fr h₀ L h m → News h₀ L h ((I, oI) :: (C, oC) :: (D, lst ys) :: nw) → Off3 I C D nw →
      ((@Ne Nat I C) ∧ (@Ne Nat I D) ∧ (@Ne Nat C D)) →
      wpAny (model prog w) A (eval elt (compEnvC scope cl C env)) (SeqEnd h₀ L m { s₁ with heap := h, toks := tk } I oI C oC D (lst ys) (fun y nw' => Inv (i + 1) (ys ++ [y]) nw')) E' { s₁ with heap := h, toks := tk }) →
    (∀ ys nw, ys.length = its.length → Inv its.length ys nw → Fin s₁ ys nw) →
    SrcQ prog w A h₀ L m env elt x x₂ scope cl Fin xv s₁
theorem Assign_ListComp_P2 {elt iter : Expr} {x x₂ y : Str} {px px₂ tp py : Pos} {tq : Nat} {scope : Scope} {cl : List (Str × Addr)} {pos spos : Pos} {Q : Flow → Shared → Prop} (_F₀ : Fr h₀ L s.heap m) (hLe : env.locals = L)
    (hsw : swapsWith (.ListComp elt [⟨.Tuple [.Name x px, .Name x₂ px₂] tq tp, iter, [], 0⟩] scope pos) (some (.Name y py)) spos.line env = pure true)
    (hclos : closureFor scope env = pure cl) (hcell : ∀ z ∈ scope.names, z.2 ≠ .cell) (hkind : scope.kind = .function)
    (hnames : ∀ z ∈ scope.names, z.2 = .local → scope.names.lookup z.1 = some .local) (hx : scope.names.lookup x = some .local) (hx₂ : scope.names.lookup x₂ = some .local) (hxx : x ≠ x₂)
    (hy : env.kindOf y = some .local) (hp : (env.scope.kind == .class || (env.scope.kind == .module && env.locals != env.globals)) = false)
    (h : wpAny (model prog w) A (eval iter env) (SrcQ prog w A h₀ L m env elt x x₂ scope cl (FinSA h₀ L m y Q)) E s)
    (hs : ∀ x, foldedSetIterable iter env x = pure x := by intro _; rfl) :
    wpAny (model prog w) A (exec (.Assign [.Name y py] (.ListComp elt [⟨.Tuple [.Name x px, .Name x₂ px₂] tq tp, iter, [], 0⟩] scope pos) spos) env) Q E s := by
  subst hLe
  rw [exec_Assign_Name_used _ _ _ _ hsw]
  refine wpAny_bind (wpAny_standAt (wpAny_bind ?_))
  show wpAny _ A (do let _ ← comprehension (.ListComp elt [⟨.Tuple [.Name x px, .Name x₂ px₂] tq tp, iter, [], 0⟩] scope pos) scope env _ (newList []) false (eval iter env) (some (assign (.Name y py) env))) _ _ s
  refine wpAny_bind (wpAny_mono (wpAny_comprehension_free (use := some (assign (.Name y py) env)) (Q := fun _ s' => Q .next s') rfl hs hclos hkind hnames
    (wpAny_mono h (fun xv s₁ h₁ => ?_) fun _ _ e => e)) (fun _ s' hq => wpAny_pure (wpAny_pure hq)) fun _ _ e => e)
  obtain ⟨ax, its, k, nw₀, Inv, rfl, hh, hsz, F, N, hsrc, hI0, htup, turn, fin⟩ := h₁
  refine pair_block hsz hcell hkind hx hx₂ hxx hh F N hsrc hI0 htup turn ?_
  intro D C h' tk m' ys nw F' N' o1 hn hC₀ hD₀ hCL hDL hCD offC hyl hinv
  show wpAny _ A (assign (.Name y py) env (.ref D)) _ _ _
  refine wpAny_assign_Name (wpAny_storeName_local hy F'.ns (fun h₂ hn₂ hs₂ => ?_) hp)
  have hL₀ : h₀.get? env.locals = none := Heap.get?_none_of_le F'.above
  have F₂ : Fr h₀ env.locals h₂ (fun z => if z = y then some (.ref D) else m z) := ⟨hn₂, fun b o e => hs₂.extBut b o (fun q => by rw [q, hL₀] at e; cases e) (F'.keep b o e), F'.above⟩
  refine ⟨m', hn.sameBut hs₂ hCL, fun h'' hs'' => fin ys nw hyl hinv D h'' _ (F₂.change hs'' hCL hC₀) (fun p hp => ?_) o1⟩
  have z : h₂.get? p.1 = some p.2 := hs₂.extBut _ _ (N' p hp).2.1 (N' p hp).1
  refine ⟨hs''.extBut _ _ ?_ z, (N' p hp).2⟩
  rcases List.mem_cons.mp hp with rfl | hp
  · exact Ne.symm hCD
  · exact offC p hp
end
theorem ones_row {l : Nat} {e : Ent} (h : EntOk e) : ones (strOf (rowAt l e)).cps.toList - 1 = min e.h (l : Int) := by
  obtain ⟨c, hc, h1, h2⟩ := h.one
  have h0 := h.h0
  have e1 : (strOf (rowAt l e)).cps.toList = rowAt l e := by simp [strOf]
  obtain ⟨n, hn⟩ : ∃ n : Nat, min e.h (l : Int) = n := ⟨(min e.h (l : Int)).toNat, by omega⟩
  rw [e1]
  unfold rowAt ones
  rw [hn, hc, Int.toNat_natCast]
  have hc46 : (c == 46) = false := by
    rw [beq_eq_false_iff_ne]
    omega
  have e2 : ((if e.h ≤ (l : Int) then [45] else []).filter (· == 46) : List Nat) = [] := by split <;> rfl
  have e3 : ((List.replicate (n + 1) 46).filter (· == 46) : List Nat) = List.replicate (n + 1) 46 := by simp
  rw [List.filter_append, List.filter_append, e2, e3]
  simp [hc46]
theorem strs_at : ∀ {vs : List Value} {es : List Ent} {f : Ent → Str} {j : Nat} {v : Value}, StrsAre vs (es.map f) → vs[j]? = some v → ∃ e t, es[j]? = some e ∧ v = Value.str (f e) t
  | [], _, _, _, _, _, hv => by simp at hv
  | _ :: _, e :: es, f, 0, v, .cons _ t _, hv => ⟨e, t, rfl, (Option.some.inj hv).symm⟩
  | _ :: _, e :: es, f, j + 1, v, .cons _ t h, hv => strs_at (j := j) h (by simpa using hv)
section
open LCg
theorem seq_new1 {h₀ : Heap} {L : Addr} {m : Str → Option Value} {s₁ : Shared} {I : Addr} {oI : Obj} {C : Addr} {oC : Obj} {D a : Addr} {oD o : Obj} {rest : Value → List (Addr × Obj) → Prop} {y : Value} {h' : Heap} {tk : Nat} {nw : List (Addr × Obj)}
    (F : Fr h₀ L h' m) (N : News h₀ L h' ((a, o) :: (I, oI) :: (C, oC) :: (D, oD) :: nw)) (o1 : Off1 a ((I, oI) :: (C, oC) :: (D, oD) :: nw)) (off : Off3 I C D nw) (r : rest y ((a, o) :: nw)) :
    SeqEnd h₀ L m s₁ I oI C oC D oD rest y { s₁ with heap := h', toks := tk } := by
  refine SeqEnd.of ((a, o) :: nw) F N ?_ ⟨⟨Ne.symm o1.1, Ne.symm o1.2.1, Ne.symm o1.2.2.1⟩, off⟩ r
  intro p hp
  simp only [List.mem_cons] at hp ⊢
  rcases hp with h | h | h | h | h
  · exact .inr (.inl h)
  · exact .inr (.inr (.inl h))
  · exact .inr (.inr (.inr (.inl h)))
  · exact .inl h
  · exact .inr (.inr (.inr (.inr h)))
end
section
variable {prog : Program} {w : World} {A : Around} {E : Value → Shared → Prop} {s : Shared} {env : Env} {h₀ : Heap} {x : Str} {body : List Stmt} {Q : Flow → Shared → Prop}
/-- a loop over a list of the ledger with a free ledger, the iterator told -/
theorem list_loop {σ : Type} {ax : Addr} {its : List Value} {k : Nat} {m₀ : Str → Option Value} (Led : σ → List (Addr × Obj)) (ps : σ → List (Str × Value)) (stored : List Str) (P : Nat → σ → Prop) (c₀ : σ)
    (hh : A.handled = none) (hsrc : ∀ c, (ax, listOf its.toArray k) ∈ Led c) (F : Fr h₀ env.locals s.heap m₀) (N : News h₀ env.locals s.heap (Led c₀)) (hk : ∀ p ∈ ps c₀, m₀ p.1 = some p.2) (hp : P 0 c₀)
    (turn : ∀ (i : Nat) (v : Value) (c : σ) (u : Str → Option Value) h tk I oI, its[i]? = some v → P i c → (∀ p ∈ Led c, @Ne Nat p.1 I) →
      Fr h₀ env.locals h (fun y => if y = x then some v else kstB (fun z => if stored.contains z then u z else m₀ z) (ps c) y) → News h₀ env.locals h (Led c ++ [(I, oI)]) →
      wpAny (model prog w) A (execs body env) (TurnPost h₀ env.locals { s with heap := h, toks := tk } Led ps x stored m₀ P I oI (i + 1) Q) E { s with heap := h, toks := tk })
    (done : ∀ (c : σ) (u : Str → Option Value) h tk, P its.length c → Fr h₀ env.locals h (fun y => if y = x then u y else kstB (fun z => if stored.contains z then u z else m₀ z) (ps c) y) → News h₀ env.locals h (Led c) → Q .next { s with heap := h, toks := tk }) :
    wpAny (model prog w) A (pyIter (.ref ax)) (fun it s₂ => LoopAtV prog w A h₀ env x body Q E it s₂) E s := by
  have src := (N _ (hsrc c₀)).1
  have srcL := (N _ (hsrc c₀)).2.1
  refine wpAny_pyIter_list (items := its.toArray) ⟨_, src, rfl, k, rfl⟩ ?_
  have hax : ax ≠ s.heap.objs.size := neN (by have z : @LT.lt Nat _ ax s.heap.objs.size := Heap.lt_size src; omega)
  have W : Walks prog w A s.heap.objs.size [s.heap.objs.size, ax] [s.heap.objs.size] its.toArray.size (fun i v => its.toArray[i]? = some v)
      (fun i h => h.IsListIter s.heap.objs.size ax i ∧ h.IsList ax its.toArray) := Walks.list hh _ ax hax its.toArray
  let J : Nat → (Str → Option Value) → List (Addr × Obj) → Prop := fun i m nx => ∃ c : σ, nx = Led c ∧ (∀ p ∈ ps c, m p.1 = some p.2) ∧ (∀ z, z ≠ x → (∀ p ∈ ps c, z ≠ p.1) → stored.contains z = false → m z = m₀ z) ∧ P i c
  refine ⟨_, _, _, its.toArray.size, _, _, m₀, Led c₀, J, rfl, W, ?_, ?_, ?_, ⟨⟨_, Heap.get?_push_size _ rfl, rfl, rfl⟩, ⟨_, Heap.get?_push_of_some _ src, rfl, k, rfl⟩⟩, F.push _, (fun p hp => ⟨Heap.get?_push_of_some _ (N p hp).1, (N p hp).2⟩), ⟨c₀, rfl, hk, fun _ _ _ _ => rfl, hp⟩, ?_, ?_⟩
  · intro hm
    rcases List.mem_cons.mp hm with hm | hm
    · exact absurd F.ns.lt (hm ▸ Nat.lt_irrefl _)
    · exact srcL (List.mem_singleton.mp hm).symm
  · intro b hb
    rw [List.mem_singleton.mp hb]
    exact next_is_new F
  · intro p hp hI
    exact absurd (Heap.lt_size (N p hp).1) ((List.mem_singleton.mp hI) ▸ Nat.lt_irrefl _)
  · rintro i v m₁ news₁ s₁ own ⟨h1, tk1, rfl⟩ hi hv ⟨c, rfl, h1k, h1r, hp'⟩ hoff hown howng hall hst F₁ N₁
    have hv' : its[i]? = some v := by simpa using hv
    obtain ⟨oI, hoI⟩ : ∃ oI : Obj, h1.get? s.heap.objs.size = some oI := ⟨_, hst.1.choose_spec.1⟩
    have hin := hall s.heap.objs.size List.mem_cons_self (next_is_new F) _ hoI
    have hsx := (N₁ _ (List.mem_append_right _ (hsrc c))).1
    have one : ∀ q ∈ own, q = (s.heap.objs.size, oI) ∨ q = (ax, listOf its.toArray k) := fun q hq => by
      have e3 := howng q hq
      rcases List.mem_cons.mp (hown q hq) with e2 | e2
      · rw [e2] at e3
        exact .inl (Prod.ext e2 (Option.some.inj (e3.symm.trans hoI)))
      · have e2 := List.mem_singleton.mp e2
        rw [e2] at e3
        exact .inr (Prod.ext e2 (Option.some.inj (e3.symm.trans hsx)))
    have hne : ∀ p ∈ Led c, @Ne Nat p.1 s.heap.objs.size := fun p hp => by
      intro e
      exact hoff p hp (List.mem_singleton.mpr e)
    have N₂ : News h₀ env.locals h1 (Led c ++ [(s.heap.objs.size, oI)]) := fun p hp => N₁ p ((List.mem_append.mp hp).elim (fun h => List.mem_append_right _ h) fun h => List.mem_append_left _ ((List.mem_singleton.mp h).symm ▸ hin))
    refine wpAny_mono (turn i v c m₁ h1 tk1 s.heap.objs.size oI hv' hp' hne (kst_fr h1k h1r F₁) N₂) (fun f s₂ p => ?_) fun _ _ e => e
    have fin : TurnEnd h₀ env.locals { s with heap := h1, toks := tk1 } Led ps x stored m₀ P s.heap.objs.size oI (i + 1) s₂ → LoopStepU h₀ env.locals [s.heap.objs.size] own (J (i + 1)) { s with heap := h1, toks := tk1 } .next s₂ := by
      rintro ⟨c', h', tk, m', news', e, F', N', hI, hn', hne', hk', hr', hp9⟩
      refine ⟨rfl, h', tk, m', Led c', e, F', fun p hp => N' p ((List.mem_append.mp hp).elim (fun h => (one p h).elim (fun e => e.symm ▸ hI) fun e => e.symm ▸ hn' _ (hsrc c')) (hn' p)), fun p hp hq => ?_, ⟨c', rfl, hk', hr', hp9⟩⟩
      exact hne' p hp (List.mem_singleton.mp hq)
    cases f with
    | ret v => exact .ret p
    | brk => exact .brk p
    | next => exact .next (fin p)
    | cont => exact .cont (fin p)
  · rintro h' tk m' news' F' N' _ ⟨c, rfl, hk', hr', hp'⟩
    exact done c m' h' tk (by simpa using hp') (kst_frOut hk' hr' F') N'
end
theorem sumH_pos {es : List Ent} (hok : ∀ e ∈ es, EntOk e) : 0 ≤ sumH es := by
  induction es with
  | nil => exact Int.le_refl _
  | cons e es ih =>
    have h1 := (hok e List.mem_cons_self).h0
    have h2 := ih fun x hx => hok x (List.mem_cons_of_mem _ hx)
    unfold sumH at *
    rw [List.map_cons, List.sum_cons]
    omega
theorem shares_sum {es : List Ent} {est : Int} (hlen : es.length = 4) (hok : ∀ e ∈ es, EntOk e) (hs : Sorted es) (e0 : 0 ≤ est) (e1 : est ≤ 2 * sumH es) :
    (es.map (shareF est (lowOf es est) (tee es (lowOf es est)))).sum = 12 * est ∧ 0 ≤ tee es (lowOf es est) := by
  have lo0 : 0 ≤ lowOf es est := by unfold lowOf; split <;> omega
  have lo1 : lowOf es est ≤ sumH es := by unfold lowOf; split <;> omega
  obtain ⟨sh1, sh2, _⟩ := share_law hlen hok hs lo0 lo1
  exact ⟨sum_law hlen sh2, sh1⟩
theorem pair_facts {es : List Ent} {ys vs : List Value} {est low t : Int} (hi1 : IntsAre ys (es.map fun e => 24 * e.h)) (hi2 : IntsAre vs (es.map (shareF est low t))) (hlen : es.length = 4) (hok : ∀ e ∈ es, EntOk e) (hs : Sorted es) (ht : 0 ≤ t) {i j : Nat} (hij : i < j) (hj : j < 4) :
    ∃ (ci cj si sj : Int) (t1 t2 t3 t4 : Tok), ys[((i : Nat) : Int).toNat]? = some (.int ci t1) ∧ ys[((j : Nat) : Int).toNat]? = some (.int cj t2) ∧ vs[((i : Nat) : Int).toNat]? = some (.int si t3) ∧ vs[((j : Nat) : Int).toNat]? = some (.int sj t4) ∧
      2 * si = 2 * max (si + sj - cj) 0 + ((si + sj) - max (si + sj - cj) 0 - max (si + sj - ci) 0) := by
  obtain ⟨a, ha⟩ : ∃ e, es[i]? = some e := ⟨_, List.getElem?_eq_getElem (by omega)⟩
  obtain ⟨b, hb⟩ : ∃ e, es[j]? = some e := ⟨_, List.getElem?_eq_getElem (by omega)⟩
  have hab : a.h ≤ b.h := by
    obtain ⟨h1, rfl⟩ := List.getElem?_eq_some_iff.mp ha
    obtain ⟨h2, rfl⟩ := List.getElem?_eq_some_iff.mp hb
    exact List.pairwise_iff_getElem.mp hs i j h1 h2 hij
  obtain ⟨t1, g1⟩ := ints_get (k := ((i : Nat) : Int).toNat) (x := 24 * a.h) hi1 (by rw [Int.toNat_natCast, List.getElem?_map, ha]; rfl)
  obtain ⟨t2, g2⟩ := ints_get (k := ((j : Nat) : Int).toNat) (x := 24 * b.h) hi1 (by rw [Int.toNat_natCast, List.getElem?_map, hb]; rfl)
  obtain ⟨t3, g3⟩ := ints_get (k := ((i : Nat) : Int).toNat) (x := shareF est low t a) hi2 (by rw [Int.toNat_natCast, List.getElem?_map, ha]; rfl)
  obtain ⟨t4, g4⟩ := ints_get (k := ((j : Nat) : Int).toNat) (x := shareF est low t b) hi2 (by rw [Int.toNat_natCast, List.getElem?_map, hb]; rfl)
  exact ⟨_, _, _, _, t1, t2, t3, t4, g1, g2, g3, g4, garment_law ht (hok a (List.mem_of_getElem? ha)).h0 hab⟩
theorem four_ints {n4 n5 n6 n7 : Int} {t4 t5 t6 t7 : Tok} {i : Nat} {v : Value} (h : [Value.int n4 t4, .int n5 t5, .int n6 t6, .int n7 t7][i]? = some v) : ∃ n t, v = .int n t := by
  match i, h with
  | 0, h => exact ⟨n4, t4, (Option.some.inj h).symm⟩
  | 1, h => exact ⟨n5, t5, (Option.some.inj h).symm⟩
  | 2, h => exact ⟨n6, t6, (Option.some.inj h).symm⟩
  | 3, h => exact ⟨n7, t7, (Option.some.inj h).symm⟩
  | i + 4, h => simp at h
section
variable {prog : Program} {w : World} {A : Around} {E : Value → Shared → Prop} {s : Shared} {h₀ : Heap} {L : Addr} {m : Str → Option Value} {Q : Value → Shared → Prop} {news : List (Addr × Obj)}
theorem half_div {es : List Ent} {t u : Tok} (h : Q (.int (2 * sumH es) s.toks) { s with toks := s.toks + 1 }) : wpAny (model prog w) A (binaryOp .FloorDiv (.int (24 * sumH es) t) (.int 12 u)) Q E s := by
  have e : Int.fdiv (24 * sumH es) 12 = 2 * sumH es := by
    rw [Int.fdiv_eq_ediv_of_nonneg _ (by decide)]
    omega
  refine floordiv_int (by decide) ?_ (Or.inl (PyProof.noPylong_small (by decide)))
  rw [e]
  exact h
theorem estate_mod {es : List Ent} {n : Int} {t u : Tok} (hH : 0 ≤ sumH es) (h : ∀ est, 0 ≤ est → est ≤ 2 * sumH es → Q (.int est s.toks) { s with toks := s.toks + 1 }) : wpAny (model prog w) A (binaryOp .Mod (.int n t) (.int (2 * sumH es + 1) u)) Q E s := by
  refine mod_int' (by omega) ?_
  have h9 := fmod_range n (b := 2 * sumH es + 1) (by omega)
  exact h _ h9.1 (by omega)
theorem sum_val {l : Addr} {vs : List Value} {ns : List Int} {n : Nat} {x : Int} (hh : A.handled = none) (F : Fr h₀ L s.heap m) (N : News h₀ L s.heap news) (hm : (l, listOf vs.toArray n) ∈ news) (hi : IntsAre vs ns) (hx : ns.sum = x)
    (h : ∀ h' tk t', Fr h₀ L h' m → News h₀ L h' news → Q (.int x t') { s with heap := h', toks := tk }) :
    wpAny (model prog w) A (call (.builtin "sum") [.ref l]) Q E s := by
  subst hx
  exact sumK hh F N ⟨_, (N _ hm).1, rfl, n, rfl⟩ hi h
end
theorem small_range {j : Nat} (h : j < 4) : Builtin.Range.small 0 (j : Int) 1 = true := by
  obtain rfl | rfl | rfl | rfl : j = 0 ∨ j = 1 ∨ j = 2 ∨ j = 3 := by omega
  all_goals decide
theorem size_range {j : Nat} (h : j < 4) : Builtin.Range.rangeSize 0 (j : Int) 1 = (j : Int) := by
  obtain rfl | rfl | rfl | rfl : j = 0 ∨ j = 1 ∨ j = 2 ∨ j = 3 := by omega
  all_goals decide
section
theorem news_one {h₀ h : Heap} {L : Addr} {d : Addr × Obj} {tl : List (Addr × Obj)} (N : News h₀ L h (tl ++ [d])) : News h₀ L h (d :: tl) := by
  intro q hq
  refine N q ?_
  rcases List.mem_cons.mp hq with rfl | h
  · exact List.mem_append_right _ (List.mem_singleton.mpr rfl)
  · exact List.mem_append_left _ h
def heirsN (f : Nat → Int) : Nat → List Ent
  | 0 => []
  | k + 1 => insE (entOf (f k) k) (heirsN f k)
theorem heirsN_len (f : Nat → Int) : ∀ k, (heirsN f k).length = k
  | 0 => rfl
  | k + 1 => by rw [heirsN, insE_len, heirsN_len f k]
theorem heirsN_sorted (f : Nat → Int) : ∀ k, Sorted (heirsN f k)
  | 0 => .nil
  | k + 1 => insE_sorted (heirsN_sorted f k)
theorem four_list {α : Type} {l : List α} (h : l.length = 4) : ∃ a b c d, l = [a, b, c, d] := by
  match l, h with
  | [a, b, c, d], _ => exact ⟨a, b, c, d, rfl⟩
theorem abcd_item {w : World} {A : Around} {E : Value → Shared → Prop} {s : Shared} {h₀ : Heap} {p1 p2 : Pos} {x : Str} {q c1 : Nat} {ta tu : Tok} {Q : Value → Shared → Prop} (X : (hd.heap_39 w.params).In h₀) (hq : q < 4) (h : ∀ t k, Q (.str (letterS q) t) { s with toks := k }) :
    wpAny (MM w) A (subscriptTail (.Constant (.str (Str.ofString "abcd")) c1 p1) (.Name x p2) (.str (Str.ofString "abcd") ta) (.int (q : Int) tu)) Q E s := by
  obtain rfl | rfl | rfl | rfl : q = 0 ∨ q = 1 ∨ q = 2 ∨ q = 3 := by omega
  · walk1
    exact h _ _
  · walk1
    exact h _ _
  · walk1
    exact h _ _
  · walk1
    exact h _ _
section
variable {w : World} {p : Program} {loose : List Str} {mean : ExcName → Option Value} {mg mb : Str → Option Value} {A : Around} {h₀ : Heap} {L : Addr} {m : Str → Option Value} {news news' : List (Addr × Obj)} {s : Shared} {Q E : Value → Shared → Prop}
local macro_rules | `(tactic| k_all) => `(tactic| first | with_reducible assumption | exact allLt_ne (by assumption) | exact off1_ne (by assumption))
theorem heirs_ok {NL : Addr} {n0 n1 n2 n3 : Int} {t0 t1 t2 t3 : Tok} {ep : Nat} (G : Grd w p loose mean mg mb A h₀ L m news s.heap 60) (hm : (NL, listOf #[.int n0 t0, .int n1 t1, .int n2 t2, .int n3 t3] ep) ∈ news)
    (ret : ∀ H oH a0 o0 a1 o1 a2 o2 a3 o3 h' tk', Fr h₀ L h' m → News h₀ L h' ((H, oH) :: (a0, o0) :: (a1, o1) :: (a2, o2) :: (a3, o3) :: news) → HeirObj [(a0, o0), (a1, o1), (a2, o2), (a3, o3)] oH (heirs4 n0 n1 n2 n3) →
      Q (.ref H) { s with heap := h', toks := tk' }) :
    wpAny (MM w) A (call (.ref 143) [.ref NL] []) Q E s := by
  (((rename Grd _ _ _ _ _ _ _ _ _ _ _ _ _ => G); refine Grd.elim G ?_; clear G; intro dp un gd cn cs a ccd cl outer A₀ base hA B hk hd hu F X N T; subst hA))
  walk_at "call ref"
  (repeat' (first | (k_unfold; (try dsimp only)) | (k_end; kc_close) | (with_reducible ((k_here; (with_reducible show wpAny _ _ (pyIter (Value.ref _)) _ _ _); refine Halt.of ?_))) | walk1 | (dsimp only; first | (with_reducible ((k_here; (with_reducible show wpAny _ _ (pyIter (Value.ref _)) _ _ _); refine Halt.of ?_))) | walk1) | (leave1; (try dsimp only)) | fail "no step"))
  unfold Halt
  rename Fr _ _ _ _ => F9
  rename News _ _ _ _ => N9
  obtain ⟨H, nH, mH, FH, NH, hkH, hoff⟩ : ∃ (H : Addr) (nH : Nat) (mH : Str → Option Value), Fr _ _ _ mH ∧ News _ _ _ ((H, listOf ([] : List Value).toArray nH) :: news) ∧ (∀ p ∈ ([(Str.ofString "heirs", .ref H), (Str.ofString "numbers", .ref NL)] : List (Str × Value)), mH p.1 = some p.2) ∧ (∀ p ∈ news, p.1 ≠ H) :=
    ⟨_, _, _, F9, N9, by kst_all, fun p hp => Nat.ne_of_lt ((by assumption : ∀ p ∈ news, p.1 < _) p hp)⟩
  clear F9 N9
  refine' range_loop (fun c : Obj × List (Addr × Obj) × List (Addr × Obj) => (H, c.1) :: c.2.2) (fun _ => [(Str.ofString "heirs", .ref H), (Str.ofString "numbers", .ref NL)]) [Str.ofString "end"]
    (fun k c => HeirObj c.2.1 c.1 (heirsN (fun k => [n0, n1, n2, n3].getD k 0) k) ∧ c.2.1.length = k ∧ (∀ q ∈ c.2.1, q ∈ c.2.2) ∧ (∀ q ∈ news, q ∈ c.2.2) ∧ ∀ q ∈ c.2.2, q.1 ≠ H) (listOf ([] : List Value).toArray nH, [], news) (by rfl) (by assumption) (by decide) (n := 4) (by decide) FH NH hkH ⟨⟨[], nH, rfl, rfl, fun _ h => nomatch h⟩, rfl, (fun _ h => nomatch h), fun _ h => h, hoff⟩ ?turn ?done
  case turn =>
    clear FH NH hkH ret
    intro k c t u h tk I oI hk hP hI Fk Nk
    obtain ⟨oH, ts, nw⟩ := c
    obtain ⟨hP1, hP2, hP3, hP4, hP5⟩ := hP
    simp only [Int.zero_add] at Fk
    dsimp only at hP1 hP2 hP3 hP4 hP5 hI Fk
    replace Nk := news_one (tl := (H, oH) :: nw) Nk
    have hm7 := hP4 _ hm
    have i1 : @Ne Nat H I := hI _ List.mem_cons_self
    have i2 : ∀ q ∈ nw, q.1 ≠ I := fun q hq => hI q (List.mem_cons_of_mem _ hq)
    obtain ⟨nk, tn, hgx, hnk⟩ : ∃ nk tn, [Value.int n0 t0, .int n1 t1, .int n2 t2, .int n3 t3][((k : Nat) : Int).toNat]? = some (.int nk tn) ∧ nk = [n0, n1, n2, n3].getD k 0 := by
      obtain rfl | rfl | rfl | rfl : k = 0 ∨ k = 1 ∨ k = 2 ∨ k = 3 := by omega
      · exact ⟨n0, t0, rfl, rfl⟩
      · exact ⟨n1, t1, rfl, rfl⟩
      · exact ⟨n2, t2, rfl, rfl⟩
      · exact ⟨n3, t3, rfl, rfl⟩
    have hl9 : (heirsN (fun k => [n0, n1, n2, n3].getD k 0) k).length < 90 := by rw [heirsN_len]; omega
    clear hI hm
    refine hideQ ?_
    intro g9 d9 o9 Q9 hQ9
    (repeat' (first | (k_unfold; (try dsimp only)) | (k_end; kc_close) | (with_reducible ((k_here; (with_reducible show wpAny _ _ (call (Value.ref 40) _ _) _ _ _); k_dflt (refine' insort_ok ?z81xG ?z81xhm ?z81xhH ?z81xhT ?z81xht ?z81xU ?z81xhlen ?z81xhs ?_; (case z81xG => walk_at "grd"); (case z81xhm => k_mem); (case z81xht => k_mem); (case z81xhH => exact hP1); (case z81xhT => exact subL_of (fun q hq => List.Mem.tail _ (List.Mem.tail _ (List.Mem.tail _ (List.Mem.tail _ (hP3 q hq)))))); (case z81xU => (intro o9; k_upd)); (case z81xhlen => assumption); (case z81xhs => exact heirsN_sorted _ _); intro its' n' h' tk' F' N' hO'; (try dsimp only at N' hO'); (try k_sweep))))) | (with_reducible ((k_here; (with_reducible show wpAny _ _ (subscriptTail _ _ (Value.ref _) (Value.int (Int.fmod _ 3) _)) _ _ _); k_dflt (refine' item_ends ?z86xN ?z86xm ?z86xa ?z86xb ?_; (case z86xN => k_asm); (case z86xm => k_mem); (case z86xa => exact (fmod_range _ (by decide)).1); (case z86xb => exact (fmod_range _ (by decide)).2); k_whole; intro tk)))) | (with_reducible ((k_here; (with_reducible show wpAny _ _ (subscriptTail _ _ (Value.str _ _) (Value.int (Nat.cast _) _)) _ _ _); k_dflt (refine' abcd_item ?z85xsX ?z85xsq ?_; (case z85xsq => assumption); (case z85xsX => assumption); intro t9 k9)))) | (with_reducible ((k_here; (with_reducible show wpAny _ _ (subscriptTail _ _ (Value.ref _) (Value.int (Nat.cast _) _)) _ _ _); k_dflt (refine' item_led ?z84xsN ?z84xsm ?z84xsa ?z84xsb ?z84xsx ?_; (case z84xsN => k_asm); (case z84xsm => k_mem); (case z84xsa => omega); (case z84xsb => omega); (case z84xsx => assumption))))) | walk1 | (dsimp only; first | (with_reducible ((k_here; (with_reducible show wpAny _ _ (call (Value.ref 40) _ _) _ _ _); k_dflt (refine' insort_ok ?z81xG ?z81xhm ?z81xhH ?z81xhT ?z81xht ?z81xU ?z81xhlen ?z81xhs ?_; (case z81xG => walk_at "grd"); (case z81xhm => k_mem); (case z81xht => k_mem); (case z81xhH => exact hP1); (case z81xhT => exact subL_of (fun q hq => List.Mem.tail _ (List.Mem.tail _ (List.Mem.tail _ (List.Mem.tail _ (hP3 q hq)))))); (case z81xU => (intro o9; k_upd)); (case z81xhlen => assumption); (case z81xhs => exact heirsN_sorted _ _); intro its' n' h' tk' F' N' hO'; (try dsimp only at N' hO'); (try k_sweep))))) | (with_reducible ((k_here; (with_reducible show wpAny _ _ (subscriptTail _ _ (Value.ref _) (Value.int (Int.fmod _ 3) _)) _ _ _); k_dflt (refine' item_ends ?z86xN ?z86xm ?z86xa ?z86xb ?_; (case z86xN => k_asm); (case z86xm => k_mem); (case z86xa => exact (fmod_range _ (by decide)).1); (case z86xb => exact (fmod_range _ (by decide)).2); k_whole; intro tk)))) | (with_reducible ((k_here; (with_reducible show wpAny _ _ (subscriptTail _ _ (Value.str _ _) (Value.int (Nat.cast _) _)) _ _ _); k_dflt (refine' abcd_item ?z85xsX ?z85xsq ?_; (case z85xsq => assumption); (case z85xsX => assumption); intro t9 k9)))) | (with_reducible ((k_here; (with_reducible show wpAny _ _ (subscriptTail _ _ (Value.ref _) (Value.int (Nat.cast _) _)) _ _ _); k_dflt (refine' item_led ?z84xsN ?z84xsm ?z84xsa ?z84xsb ?z84xsx ?_; (case z84xsN => k_asm); (case z84xsm => k_mem); (case z84xsa => omega); (case z84xsb => omega); (case z84xsx => assumption))))) | walk1) | (leave1; (try dsimp only)) | fail "no step"))
    exact hQ9 _ _ _ (turn_end (listOf its'.toArray n', (_, _) :: ts, (_, _) :: nw) (by k_asm) (by k_asm) (by exact List.Mem.tail _ (List.Mem.tail _ (List.Mem.head _))) (by exact List.forall_mem_cons.mpr ⟨List.Mem.tail _ (List.Mem.tail _ (List.Mem.tail _ (List.Mem.head _))), List.forall_mem_cons.mpr ⟨List.Mem.head _, fun q hq => List.Mem.tail _ (List.Mem.tail _ (List.Mem.tail _ (List.Mem.tail _ hq)))⟩⟩)
      (by exact List.forall_mem_cons.mpr ⟨i1, List.forall_mem_cons.mpr ⟨Nat.ne_of_gt (And.left (And.right (by assumption : _ < _ ∧ _ < _ ∧ _ < _ ∧ AllLt _ nw))), i2⟩⟩) (by kst_all) (by ((intro z h1 h2 h3; (simp only [List.forall_mem_cons, List.not_mem_nil, false_implies, implies_true, and_true, ne_eq] at h2); (try simp only [List.contains_cons, List.contains_nil, Bool.or_false, Bool.or_eq_false_iff, beq_eq_false_iff_ne, ne_eq] at h3); simp [kstB, h1, h2, h3])))
      (by exact ⟨by subst hnk; exact hO', by rw [List.length_cons, hP2], List.forall_mem_cons.mpr ⟨List.Mem.head _, fun q hq => List.Mem.tail _ (hP3 q hq)⟩, fun q hq => List.Mem.tail _ (hP4 q hq), List.forall_mem_cons.mpr ⟨Nat.ne_of_gt (And.left (And.right (And.right (by assumption : _ < _ ∧ _ < _ ∧ _ < _ ∧ AllLt _ nw)))), hP5⟩⟩))
  case done =>
    clear FH NH hkH
    intro c u h tk hP Fd Nd
    obtain ⟨oH, ts, nw⟩ := c
    obtain ⟨hP1, hP2, hP3, hP4, hP5⟩ := hP
    dsimp only at hP1 hP2 hP3 hP4 hP5 Fd Nd
    k_steps
    obtain ⟨⟨a0, o0⟩, ⟨a1, o1⟩, ⟨a2, o2⟩, ⟨a3, o3⟩, rfl⟩ := four_list hP2
    refine ret H oH a0 o0 a1 o1 a2 o2 a3 o3 _ _ (by k_asm) ?_ hP1
    rename News _ _ _ _ => N9
    have key : ∀ q ∈ (H, oH) :: (a0, o0) :: (a1, o1) :: (a2, o2) :: (a3, o3) :: news, q ∈ (H, oH) :: nw := List.forall_mem_cons.mpr ⟨List.Mem.head _, List.forall_mem_cons.mpr ⟨List.Mem.tail _ (hP3 _ (List.Mem.head _)), List.forall_mem_cons.mpr ⟨List.Mem.tail _ (hP3 _ (List.Mem.tail _ (List.Mem.head _))), List.forall_mem_cons.mpr ⟨List.Mem.tail _ (hP3 _ (List.Mem.tail _ (List.Mem.tail _ (List.Mem.head _)))), List.forall_mem_cons.mpr ⟨List.Mem.tail _ (hP3 _ (List.Mem.tail _ (List.Mem.tail _ (List.Mem.tail _ (List.Mem.head _))))), fun q hq => List.Mem.tail _ (hP4 _ hq)⟩⟩⟩⟩⟩
    exact fun q hq => N9 q (key q hq)
end
end
section
theorem ints_un {us : List Value} {n : Int} {ms : List Int} (h : IntsAre us (n :: ms)) : ∃ t us', us = .int n t :: us' ∧ IntsAre us' ms := by
  cases h with
  | cons y t h => exact ⟨t, _, rfl, h⟩
theorem ints8 {us : List Value} {ms : List Int} (h : IntsAre us ms) (hl : ms.length = 8) : ∃ (n0 n1 n2 n3 n4 n5 n6 n7 : Int) (t0 t1 t2 t3 t4 t5 t6 t7 : Tok), us = [.int n0 t0, .int n1 t1, .int n2 t2, .int n3 t3, .int n4 t4, .int n5 t5, .int n6 t6, .int n7 t7] ∧ ms = [n0, n1, n2, n3, n4, n5, n6, n7] := by
  match ms, hl with
  | [n0, n1, n2, n3, n4, n5, n6, n7], _ =>
    obtain ⟨t0, _, rfl, g1⟩ := ints_un h
    obtain ⟨t1, _, rfl, g2⟩ := ints_un g1
    obtain ⟨t2, _, rfl, g3⟩ := ints_un g2
    obtain ⟨t3, _, rfl, g4⟩ := ints_un g3
    obtain ⟨t4, _, rfl, g5⟩ := ints_un g4
    obtain ⟨t5, _, rfl, g6⟩ := ints_un g5
    obtain ⟨t6, _, rfl, g7⟩ := ints_un g6
    obtain ⟨t7, _, rfl, g8⟩ := ints_un g7
    cases g8
    exact ⟨n0, n1, n2, n3, n4, n5, n6, n7, t0, t1, t2, t3, t4, t5, t6, t7, rfl, rfl⟩
theorem six {α : Type} {ps : List α} (h : ps.length = 6) : ∃ a b c d e f, ps = [a, b, c, d, e, f] := by
  match ps, h with
  | [a, b, c, d, e, f], _ => exact ⟨a, b, c, d, e, f, rfl⟩
theorem end_ok {k : Int} (h0 : 0 ≤ k) (h1 : k < 3) : EndOk (endS k).cps.toList := by
  obtain rfl | rfl | rfl : k = 0 ∨ k = 1 ∨ k = 2 := by omega
  · exact .inl (by decide)
  · exact .inr (.inl (by decide))
  · exact .inr (.inr (by decide))
theorem ent_ok (n : Int) {k : Nat} (hk : k < 4) : EntOk (entOf n k) where
  h0 := (fmod_range n (by decide)).1
  h5 := by
    have := (fmod_range n (show (0 : Int) < 6 by decide)).2
    show Int.fmod n 6 ≤ 5
    omega
  one := by
    obtain rfl | rfl | rfl | rfl : k = 0 ∨ k = 1 ∨ k = 2 ∨ k = 3 := by omega
    · exact ⟨97, rfl, by decide, by decide⟩
    · exact ⟨98, rfl, by decide, by decide⟩
    · exact ⟨99, rfl, by decide, by decide⟩
    · exact ⟨100, rfl, by decide, by decide⟩
  fin := end_ok (fmod_range _ (by decide)).1 (fmod_range _ (by decide)).2
theorem heirs4_len (a b c d : Int) : (heirs4 a b c d).length = 4 := by
  unfold heirs4
  rw [insE_len, insE_len, insE_len, insE_len]
  rfl
theorem heirs4_sorted (a b c d : Int) : Sorted (heirs4 a b c d) := insE_sorted (insE_sorted (insE_sorted (insE_sorted .nil)))
theorem heirs4_ok (a b c d : Int) : ∀ e ∈ heirs4 a b c d, EntOk e := by
  intro e he
  unfold heirs4 at he
  rcases insE_mem.mp he with rfl | he
  · exact ent_ok _ (by decide)
  rcases insE_mem.mp he with rfl | he
  · exact ent_ok _ (by decide)
  rcases insE_mem.mp he with rfl | he
  · exact ent_ok _ (by decide)
  rcases insE_mem.mp he with rfl | he
  · exact ent_ok _ (by decide)
  cases he
local macro_rules | `(tactic| walk_at "grd") => `(tactic| (refine Grd.of rfl (by k_asm) (by rfl) (by decide) (by decide) (by k_asm) (by k_asm) (by k_asm) (by k_asm)))
theorem four {α : Type} {ps : List α} (h : ps.length = 4) : ∃ a b c d, ps = [a, b, c, d] := by
  match ps, h with
  | [a, b, c, d], _ => exact ⟨a, b, c, d, rfl⟩
theorem For_pairF {prog : Program} {w : World} {A : Around} {E : Value → Shared → Prop} {s : Shared} {env : Env} {h₀ : Heap} {x y : Str} {body : List Stmt} {Q : Flow → Shared → Prop} {m : Str → Option Value} (_F : Fr h₀ env.locals s.heap m) {px py pt pos : Pos} {q1 : Nat} {iter : Expr} (hx : env.kindOf x = some .local) (hy : env.kindOf y = some .local) (hxy : x ≠ y) (hp : (env.scope.kind == .class || (env.scope.kind == .module && env.locals != env.globals)) = false)
    (h : wpAny (model prog w) A (eval iter env) (SrcP prog w A h₀ env x y body Q E) E s)
    (hs : ∀ x, foldedSetIterable iter env x = pure x := by intro _; rfl)
    (hE : PassesOwn (model prog w) A env E := by passes_own) :
    wpAny (model prog w) A (exec (.For (.Tuple [.Name x px, .Name y py] q1 pt) iter body [] pos) env) Q E s := For_pair hx hy hxy hp h hs hE
theorem mul_len {e : Ent} {i : Nat} (h : EntOk e) : (Txt.mul (Str.ofString ".") ((if (i : Int) < e.h then (i : Int) else e.h) + 1)).length ≤ 10 := by
  have h0 := h.h0
  have h5 := h.h5
  obtain ⟨n, hn⟩ : ∃ n : Nat, (if (i : Int) < e.h then (i : Int) else e.h) = n := ⟨(if (i : Int) < e.h then (i : Int) else e.h).toNat, by split <;> omega⟩
  rw [hn]
  have hn5 : n ≤ 5 := by
    have : (n : Int) ≤ 5 := by rw [← hn]; split <;> omega
    omega
  obtain rfl | rfl | rfl | rfl | rfl | rfl : n = 0 ∨ n = 1 ∨ n = 2 ∨ n = 3 ∨ n = 4 ∨ n = 5 := by omega
  all_goals decide
theorem len_dash : (Str.ofString "-").length = 1 := by decide
theorem len_none : (Str.ofString "").length = 0 := by decide
theorem len_a : (Str.ofString "a").length = 1 := by decide
theorem len_b : (Str.ofString "b").length = 1 := by decide
theorem len_c : (Str.ofString "c").length = 1 := by decide
theorem len_d : (Str.ofString "d").length = 1 := by decide
theorem len_letter (q : Nat) : (letterS q).length = 1 := by
  unfold letterS
  split
  · decide
  split
  · decide
  split <;> decide
theorem len_sgl (c : Nat) : (⟨#[c]⟩ : Str).length = 1 := rfl
local macro_rules | `(tactic| k_all) => `(tactic| first | with_reducible assumption | exact allLt_ne (by assumption) | exact off1_ne (by assumption))
theorem take_strs {es : List Ent} {f : Ent → Str} {vs : List Value} {j : Nat} {e : Ent} {x : Str} {t : Tok} (h : StrsAre vs ((es.take j).map f)) (he : es[j]? = some e) (hx : x = f e) : StrsAre (vs ++ [.str x t]) ((es.take (j + 1)).map f) := by
  rw [List.take_add_one, he, hx, List.map_append]
  exact h.append' (.cons _ _ .nil)
theorem due_pos {e : Ent} {l : Nat} {c : Str} (h : EntOk e) (hc : e.c = c) (hl : e.h ≤ (l : Int)) : (Str.ofString "-" ++ Txt.mul (Str.ofString ".") ((if (l : Int) < e.h then (l : Int) else e.h) + 1)) ++ c = strOf (rowAt l e) := by
  rw [← hc]
  exact due_row h (by rw [if_pos hl])
theorem due_neg {e : Ent} {l : Nat} {c : Str} (h : EntOk e) (hc : e.c = c) (hl : ¬ e.h ≤ (l : Int)) : (Str.ofString "" ++ Txt.mul (Str.ofString ".") ((if (l : Int) < e.h then (l : Int) else e.h) + 1)) ++ c = strOf (rowAt l e) := by
  rw [← hc]
  exact due_row h (by rw [if_neg hl])
theorem ne_led {prog : Program} {w : World} {A : Around} {E : Value → Shared → Prop} {s : Shared} {h₀ : Heap} {L : Addr} {news : List (Addr × Obj)} {a b : Addr} {xs ys : List Value} {n k : Nat} {ss : List Str} {Q : Value → Shared → Prop} (N : News h₀ L s.heap news) (ma : (a, listOf xs.toArray n) ∈ news) (mb : (b, listOf ys.toArray k) ∈ news) (hi : StrsAre xs ss) (hj : StrsAre ys ss) (ho : ∀ x ∈ ss, PyData.strOk x = true) (hu : A.units + 64 < cLine) (h : Q (.bool false) s) :
    wpAny (model prog w) A (compareOp .NotEq (.ref a) (.ref b)) Q E s := ne_same_strs ⟨_, (N _ ma).1, rfl, n, rfl⟩ ⟨_, (N _ mb).1, rfl, k, rfl⟩ hi hj ho hu h
theorem tup_same {h₀ h : Heap} {L b : Addr} {news : List (Addr × Obj)} {v1 v2 w1 w2 : Value} {n k : Nat} (N : News h₀ L h news) (m1 : (b, tupObj [v1, v2] n) ∈ news) (m2 : (b, tupObj [w1, w2] k) ∈ news) : v1 = w1 ∧ v2 = w2 := by
  have o3 := Option.some.inj ((N _ m1).1.symm.trans (N _ m2).1)
  injection o3 with _ _ o4 _
  injection o4 with o5 _
  have o6 := congrArg Array.toList o5
  injection o6 with o7 o8
  injection o8 with o9 _
  exact ⟨o7, o9⟩
theorem got_snoc {gps : List (Addr × List Value × Nat)} {D : Addr} {v : List Value} {n i : Nat} {es : List Ent} (h : ∀ (j : Nat) (p : Addr × List Value × Nat), gps[j]? = some p → IntsAre p.2.1 (gotRow j es)) (hl : gps.length = i) (hv : IntsAre v (gotRow i es)) :
    ∀ (j : Nat) (p : Addr × List Value × Nat), (gps ++ [(D, v, n)])[j]? = some p → IntsAre p.2.1 (gotRow j es) := by
  intro j q hq
  rcases Nat.lt_trichotomy j gps.length with hj | hj | hj
  · rw [List.getElem?_append_left hj] at hq
    exact h j q hq
  · rw [List.getElem?_append_right (by omega), hj, Nat.sub_self] at hq
    obtain rfl := Option.some.inj hq
    rw [hj, hl]
    exact hv
  · rw [List.getElem?_eq_none (by simp; omega)] at hq
    cases hq
def Same (x : Str) (ps : List (Str × Value)) (stored : List Str) (m' m₀ : Str → Option Value) : Prop := ∀ z, z ≠ x → (∀ p ∈ ps, z ≠ p.1) → stored.contains z = false → m' z = m₀ z
theorem Same.trans {x : Str} {ps : List (Str × Value)} {stored : List Str} {m1 m2 m3 : Str → Option Value} (h : Same x ps stored m1 m2) (g : Same x ps stored m2 m3) : Same x ps stored m1 m3 := fun z a b c => (h z a b c).trans (g z a b c)
def Hide (p : Prop) : Prop := p
theorem For_listF {prog : Program} {w : World} {A : Around} {E : Value → Shared → Prop} {s : Shared} {env : Env} {h₀ : Heap} {x : Str} {body : List Stmt} {Q : Flow → Shared → Prop} {m : Str → Option Value} (_F : Fr h₀ env.locals s.heap m) {px pos : Pos} {iter : Expr} (hx : env.kindOf x = some .local) (hp : (env.scope.kind == .class || (env.scope.kind == .module && env.locals != env.globals)) = false)
    (h : wpAny (model prog w) A (eval iter env) (fun xv s₁ => wpAny (model prog w) A (pyIter xv) (fun it s₂ => LoopAtV prog w A h₀ env x body Q E it s₂) E s₁) E s)
    (hs : ∀ x, foldedSetIterable iter env x = pure x := by intro _; rfl)
    (hE : PassesOwn (model prog w) A env E := by passes_own) :
    wpAny (model prog w) A (exec (.For (.Name x px) iter body [] pos) env) Q E s := For_invV h₀ hx hp h hs hE
theorem law_holds : PySem.Challenge.rw_sw0010_01.Holds := by
  refine Mine.hd ?_
  k_go0
  all_goals try k_fold
  rename Fr _ _ _ _ => F0
  have F1 := Fr.known0 (n := Str.ofString "script") F0 (by rfl)
  clear F0
  generalize bindL _ _ = mm at F1
  (try (rename Dflts _ _ _ _ _ _ => hz; clear hz))
  (try (rename Tables _ _ _ _ => hz; clear hz))
  (try (rename TopE _ _ _ _ => hz; clear hz))
  (try (rename TopW _ _ _ => hz; clear hz))
  (try (rename Flt.MathXP _ _ _ => hz; clear hz))
  (try (rename LooseAre _ _ _ => hz; clear hz))
  (try (rename Glob _ _ _ _ _ _ _ _ => hz; clear hz))
  (try (rename BMod _ _ _ _ _ => hz; clear hz))
  (repeat' (first | (k_unfold; (try dsimp only)) | (k_end; kc_close) | (with_reducible ((with_reducible show LCg.CompSrc _ _ _ _ _ _ _ _ _ _ _ _ _ _); (k_here; refine Halt.of ?_))) | (with_reducible ((with_reducible show wpAny _ _ (eval (Expr.ListComp _ _ _ _) _) _ _ _); (k_here; lcf_look; k_dflt (refine LCg.ListComp_U (F₀ := by k_asm) (by with_unfolding_all rfl) (by decide) (by rfl) (by decide) (by rfl) ?_)))) | (with_reducible ((k_here; (with_reducible show wpAny _ _ (call (Value.ref 148) [Value.ref _] _) _ _ _); k_dflt (refine' sendings_ok ?z98xxG ?z98xxm ?z98xxO hln hkn hsn ?_; (case z98xxG => walk_at "grd"); (case z98xxm => k_mem); (case z98xxO => exact HeirObj.mono hO5 (by lcg_sub)); k_whole; intro S ps nS h5 tk5 F5 N5 hps5 hrw5; (obtain ⟨⟨r0, v0, q0⟩, ⟨r1, v1, q1⟩, ⟨r2, v2, q2⟩, ⟨r3, v3, q3⟩, ⟨r4, v4, q4⟩, ⟨r5, v5, q5⟩, rfl⟩ := six hps5); (have w0 := hrw5 0 _ rfl); (have w1 := hrw5 1 _ rfl); (have w2 := hrw5 2 _ rfl); (have w3 := hrw5 3 _ rfl); (have w4 := hrw5 4 _ rfl); (have w5 := hrw5 5 _ rfl); clear hrw5 hps5; (simp only [pastLed, List.map_cons, List.map_nil, List.cons_append, List.nil_append] at N5); (dsimp only at w0 w1 w2 w3 w4 w5); (try k_sweep))))) | (with_reducible ((k_here; (with_reducible show wpAny _ _ (call (Value.ref 143) [Value.ref _] _) _ _ _); k_dflt (refine' heirs_ok ?z97xxG ?z97xxm ?_; (case z97xxG => walk_at "grd"); (case z97xxm => k_mem); k_whole; intro H oH a0 o0 a1 o1 a2 o2 a3 o3 h5 tk5 F5 N5 hO5; (try k_sweep); have hsn := heirs4_sorted n0 n1 n2 n3; have hln := heirs4_len n0 n1 n2 n3; have hkn := heirs4_ok n0 n1 n2 n3)))) | (with_reducible ((k_here; (with_reducible show wpAny _ _ (call (Value.ref 129) [Value.ref _] _) _ _ _); k_dflt (refine' numbers_ok ?z96xxG ?z96xxl ?z96xxi ?z96xxn ?_; (case z96xxG => walk_at "grd"); (case z96xxl => assumption); (case z96xxi => assumption); (case z96xxn => omega); k_whole; intro NL us ms ep h5 tk5 F5 N5 hI5 hl5 h05; obtain ⟨n0, n1, n2, n3, n4, n5, n6, n7, t0, t1, t2, t3, t4, t5, t6, t7, rfl, rfl⟩ := ints8 hI5 hl5; (try k_sweep))))) | walk1 | (dsimp only; first | (with_reducible ((with_reducible show LCg.CompSrc _ _ _ _ _ _ _ _ _ _ _ _ _ _); (k_here; refine Halt.of ?_))) | (with_reducible ((with_reducible show wpAny _ _ (eval (Expr.ListComp _ _ _ _) _) _ _ _); (k_here; lcf_look; k_dflt (refine LCg.ListComp_U (F₀ := by k_asm) (by with_unfolding_all rfl) (by decide) (by rfl) (by decide) (by rfl) ?_)))) | (with_reducible ((k_here; (with_reducible show wpAny _ _ (call (Value.ref 148) [Value.ref _] _) _ _ _); k_dflt (refine' sendings_ok ?z98xxG ?z98xxm ?z98xxO hln hkn hsn ?_; (case z98xxG => walk_at "grd"); (case z98xxm => k_mem); (case z98xxO => exact HeirObj.mono hO5 (by lcg_sub)); k_whole; intro S ps nS h5 tk5 F5 N5 hps5 hrw5; (obtain ⟨⟨r0, v0, q0⟩, ⟨r1, v1, q1⟩, ⟨r2, v2, q2⟩, ⟨r3, v3, q3⟩, ⟨r4, v4, q4⟩, ⟨r5, v5, q5⟩, rfl⟩ := six hps5); (have w0 := hrw5 0 _ rfl); (have w1 := hrw5 1 _ rfl); (have w2 := hrw5 2 _ rfl); (have w3 := hrw5 3 _ rfl); (have w4 := hrw5 4 _ rfl); (have w5 := hrw5 5 _ rfl); clear hrw5 hps5; (simp only [pastLed, List.map_cons, List.map_nil, List.cons_append, List.nil_append] at N5); (dsimp only at w0 w1 w2 w3 w4 w5); (try k_sweep))))) | (with_reducible ((k_here; (with_reducible show wpAny _ _ (call (Value.ref 143) [Value.ref _] _) _ _ _); k_dflt (refine' heirs_ok ?z97xxG ?z97xxm ?_; (case z97xxG => walk_at "grd"); (case z97xxm => k_mem); k_whole; intro H oH a0 o0 a1 o1 a2 o2 a3 o3 h5 tk5 F5 N5 hO5; (try k_sweep); have hsn := heirs4_sorted n0 n1 n2 n3; have hln := heirs4_len n0 n1 n2 n3; have hkn := heirs4_ok n0 n1 n2 n3)))) | (with_reducible ((k_here; (with_reducible show wpAny _ _ (call (Value.ref 129) [Value.ref _] _) _ _ _); k_dflt (refine' numbers_ok ?z96xxG ?z96xxl ?z96xxi ?z96xxn ?_; (case z96xxG => walk_at "grd"); (case z96xxl => assumption); (case z96xxi => assumption); (case z96xxn => omega); k_whole; intro NL us ms ep h5 tk5 F5 N5 hI5 hl5 h05; obtain ⟨n0, n1, n2, n3, n4, n5, n6, n7, t0, t1, t2, t3, t4, t5, t6, t7, rfl, rfl⟩ := ints8 hI5 hl5; (try k_sweep))))) | walk1) | (leave1; (try dsimp only)) | fail "no step"))
  unfold Halt
  rename News _ _ _ _ => N9
  obtain ⟨base, hbase, Nb⟩ : ∃ base, base = _ ∧ News _ _ _ base := ⟨_, rfl, N9⟩
  have mS : (S, listOf #[.ref r0, .ref r1, .ref r2, .ref r3, .ref r4, .ref r5] nS) ∈ base := by rw [hbase]; (repeat (first | exact List.Mem.head _ | refine List.Mem.tail _ ?_))
  have mr : ∀ q ∈ [(r0, v0, q0), (r1, v1, q1), (r2, v2, q2), (r3, v3, q3), (r4, v4, q4), (r5, v5, q5)], (q.1, listOf q.2.1.toArray q.2.2) ∈ base := by
    rw [hbase]
    exact List.forall_mem_cons.mpr ⟨by (repeat (first | exact List.Mem.head _ | refine List.Mem.tail _ ?_)), List.forall_mem_cons.mpr ⟨by (repeat (first | exact List.Mem.head _ | refine List.Mem.tail _ ?_)), List.forall_mem_cons.mpr ⟨by (repeat (first | exact List.Mem.head _ | refine List.Mem.tail _ ?_)), List.forall_mem_cons.mpr ⟨by (repeat (first | exact List.Mem.head _ | refine List.Mem.tail _ ?_)), List.forall_mem_cons.mpr ⟨by (repeat (first | exact List.Mem.head _ | refine List.Mem.tail _ ?_)), List.forall_mem_cons.mpr ⟨by (repeat (first | exact List.Mem.head _ | refine List.Mem.tail _ ?_)), List.forall_mem_nil _⟩⟩⟩⟩⟩⟩
  have mNL : (NL, listOf #[.int n0 t0, .int n1 t1, .int n2 t2, .int n3 t3, .int n4 t4, .int n5 t5, .int n6 t6, .int n7 t7] ep) ∈ base := by rw [hbase]; (repeat (first | exact List.Mem.head _ | refine List.Mem.tail _ ?_))
  have mH : (H, oH) ∈ base := by rw [hbase]; (repeat (first | exact List.Mem.head _ | refine List.Mem.tail _ ?_))
  have hOb : HeirObj base oH (heirs4 n0 n1 n2 n3) := HeirObj.mono hO5 (by rw [hbase]; exact List.forall_mem_cons.mpr ⟨by (repeat (first | exact List.Mem.head _ | refine List.Mem.tail _ ?_)), List.forall_mem_cons.mpr ⟨by (repeat (first | exact List.Mem.head _ | refine List.Mem.tail _ ?_)), List.forall_mem_cons.mpr ⟨by (repeat (first | exact List.Mem.head _ | refine List.Mem.tail _ ?_)), List.forall_mem_cons.mpr ⟨by (repeat (first | exact List.Mem.head _ | refine List.Mem.tail _ ?_)), List.forall_mem_nil _⟩⟩⟩⟩)
  rename Shared => s1
  rename Obj.data _ = Data.cell (some (Value.ref NL)) => hcell
  obtain ⟨oL, mC, hcell⟩ : ∃ oL, (s1.heap.objs.size + 1, oL) ∈ base ∧ oL.data = Data.cell (some (Value.ref NL)) := ⟨_, by rw [hbase]; (repeat (first | exact List.mem_singleton.mpr rfl | refine List.Mem.tail _ ?_)), hcell⟩
  clear hbase N9 hO5
  refine LCg.CompSrc.range (by rfl) (by k_asm) Nb (by assumption) (by decide) (n := 4) (by decide) (by rw [sizeLine_eq]; omega) ?_
  intro g9
  clear Nb
  refine rest_inv (fun _ ys nw => (∀ q ∈ base, q ∈ nw) ∧ ∀ (j : Nat) (y : Value), ys[j]? = some y → ∃ (b : Addr) (t u : Tok) (k : Nat), y = Value.ref b ∧ (b, tupObj [.int (Int.fmod ([n0, n1, n2, n3].getD j 0) 6) t, .int (j : Int) u] k) ∈ nw) ?step ?fin 4 0 [] base rfl rfl ⟨fun _ h => h, by simp⟩
  case step =>
    rintro i v ys nw I oI C oC D m₂ h tk E' hi hv ⟨hsub, hY⟩ hyl hC hx F₁ N₁ off ne
    obtain ⟨tv, rfl⟩ := hv
    obtain ⟨ni, ti, hgx⟩ : ∃ ni ti, [Value.int n0 t0, .int n1 t1, .int n2 t2, .int n3 t3, .int n4 t4, .int n5 t5, .int n6 t6, .int n7 t7][((0 : Int) + (i : Int)).toNat]? = some (.int ni ti) ∧ ni = [n0, n1, n2, n3].getD i 0 := by
      obtain rfl | rfl | rfl | rfl : i = 0 ∨ i = 1 ∨ i = 2 ∨ i = 3 := by omega
      · exact ⟨n0, t0, rfl, rfl⟩
      · exact ⟨n1, t1, rfl, rfl⟩
      · exact ⟨n2, t2, rfl, rfl⟩
      · exact ⟨n3, t3, rfl, rfl⟩
    obtain ⟨hgx, hni⟩ := hgx
    have mNL' := hsub _ mNL
    have mC' := hsub _ mC
    clear mS mr mNL mH hOb mC w0 w1 w2 w3 w4 w5
    refine hideQ ?_
    intro g6 d6 o6 Q6 hQ6
    k_steps
    have e1 : [n0, n1, n2, n3, n4, n5, n6, n7].getD ((0 : Int) + (i : Int)).toNat 0 = [n0, n1, n2, n3].getD i 0 := by
      obtain rfl | rfl | rfl | rfl : i = 0 ∨ i = 1 ∨ i = 2 ∨ i = 3 := by omega
      all_goals rfl
    rename News _ _ _ _ => N9
    rw [e1, Int.zero_add] at N9
    refine hQ6 _ _ _ (seq_new (by k_asm) N9 (by assumption) off ⟨fun q hq => List.mem_cons_of_mem _ (hsub q hq), snoc_inv (fun j z hz => ?_) ?_⟩)
    · obtain ⟨b, t, u, k, e, hb⟩ := hY j z hz
      exact ⟨b, t, u, k, e, List.mem_cons_of_mem _ hb⟩
    · rw [hyl]
      exact ⟨_, _, _, _, rfl, List.Mem.head _⟩
  case fin =>
    rintro ys nw hyl ⟨hsub, hY⟩
    replace mS := hsub _ mS
    replace mr := fun q hq => hsub _ (mr q hq)
    replace mNL := hsub _ mNL
    replace mH := hsub _ mH
    replace hOb := hOb.mono hsub
    replace mC := hsub _ mC
    clear hsub
    obtain ⟨y0, y1, y2, y3, rfl⟩ := four hyl
    obtain ⟨b0, x0, z0, k0, rfl, mb0⟩ := hY 0 _ rfl
    obtain ⟨b1, x1, z1, k1, rfl, mb1⟩ := hY 1 _ rfl
    obtain ⟨b2, x2, z2, k2, rfl, mb2⟩ := hY 2 _ rfl
    obtain ⟨b3, x3, z3, k3, rfl, mb3⟩ := hY 3 _ rfl
    replace mb0 : (b0, tupObj [.int (Int.fmod n0 6) x0, .int 0 z0] k0) ∈ nw := mb0
    replace mb1 : (b1, tupObj [.int (Int.fmod n1 6) x1, .int 1 z1] k1) ∈ nw := mb1
    replace mb2 : (b2, tupObj [.int (Int.fmod n2 6) x2, .int 2 z2] k2) ∈ nw := mb2
    replace mb3 : (b3, tupObj [.int (Int.fmod n3 6) x3, .int 3 z3] k3) ∈ nw := mb3
    clear hY
    intro D h tk F₁ N₁ o1
    dsimp only
    (repeat' (first | (k_unfold; (try dsimp only)) | (k_end; kc_close) | (with_reducible ((k_here; (with_reducible show wpAny _ _ (pyIter (Value.ref _)) _ _ _); refine Halt.of ?_))) | (with_reducible ((with_reducible show wpAny _ _ (call (Value.builtin "sorted") _ _) _ _ _); (k_here; k_dflt (refine' sorted4 ?z94xq1 ?z94xq2 ?z94xq3 (List.Mem.head _) (List.Mem.tail _ mb0) (List.Mem.tail _ mb1) (List.Mem.tail _ mb2) (List.Mem.tail _ mb3) ?_; (case z94xq2 => k_asm); (case z94xq3 => k_asm); (case z94xq1 => k_in); k_whole; intro Dl el h5 tk5 F5 N5 l15; k_lt l15; (try k_sweep))))) | walk1 | (dsimp only; first | (with_reducible ((k_here; (with_reducible show wpAny _ _ (pyIter (Value.ref _)) _ _ _); refine Halt.of ?_))) | (with_reducible ((with_reducible show wpAny _ _ (call (Value.builtin "sorted") _ _) _ _ _); (k_here; k_dflt (refine' sorted4 ?z94xq1 ?z94xq2 ?z94xq3 (List.Mem.head _) (List.Mem.tail _ mb0) (List.Mem.tail _ mb1) (List.Mem.tail _ mb2) (List.Mem.tail _ mb3) ?_; (case z94xq2 => k_asm); (case z94xq3 => k_asm); (case z94xq1 => k_in); k_whole; intro Dl el h5 tk5 F5 N5 l15; k_lt l15; (try k_sweep))))) | walk1) | (leave1; (try dsimp only)) | fail "no step"))
    unfold Halt
    rename News _ _ _ _ => N9
    obtain ⟨nw2, hnw2, Nb⟩ : ∃ nw2, nw2 = _ ∧ News _ _ _ nw2 := ⟨_, rfl, N9⟩
    have up2 : ∀ q ∈ nw, q ∈ nw2 := by rw [hnw2]; exact fun q hq => List.Mem.tail _ (List.Mem.tail _ hq)
    have mLine : (Dl, listOf ((line4 b0 b1 b2 b3 (Int.fmod n0 6) (Int.fmod n1 6) (Int.fmod n2 6) (Int.fmod n3 6)).map fun t => Value.ref t.1).toArray el) ∈ nw2 := by rw [hnw2]; exact List.Mem.head _
    have hline := line_facts (up2 _ mb0) (up2 _ mb1) (up2 _ mb2) (up2 _ mb3)
    have hll : ((line4 b0 b1 b2 b3 (Int.fmod n0 6) (Int.fmod n1 6) (Int.fmod n2 6) (Int.fmod n3 6)).map fun t => Value.ref t.1).length = 4 := by rw [List.length_map]; exact line_len ..
    replace mS := up2 _ mS
    replace mr := fun q hq => up2 _ (mr q hq)
    replace mNL := up2 _ mNL
    replace mH := up2 _ mH
    replace hOb := hOb.mono up2
    replace mC := up2 _ mC
    generalize ((line4 b0 b1 b2 b3 (Int.fmod n0 6) (Int.fmod n1 6) (Int.fmod n2 6) (Int.fmod n3 6)).map fun t => Value.ref t.1) = ll at mLine hline hll
    obtain ⟨es, hes⟩ : ∃ es, heirs4 n0 n1 n2 n3 = es := ⟨_, rfl⟩
    rw [hes] at hsn hln hkn w0 w1 w2 w3 w4 w5 hline hOb
    have hw : ∀ (j : Nat) (q : Addr × List Value × Nat), [(r0, v0, q0), (r1, v1, q1), (r2, v2, q2), (r3, v3, q3), (r4, v4, q4), (r5, v5, q5)][j]? = some q → StrsAre q.2.1 (rowsS j es) := by
      intro j q hq
      match j, hq with
      | 0, hq => obtain rfl := Option.some.inj hq; exact w0
      | 1, hq => obtain rfl := Option.some.inj hq; exact w1
      | 2, hq => obtain rfl := Option.some.inj hq; exact w2
      | 3, hq => obtain rfl := Option.some.inj hq; exact w3
      | 4, hq => obtain rfl := Option.some.inj hq; exact w4
      | 5, hq => obtain rfl := Option.some.inj hq; exact w5
      | j + 6, hq => simp at hq
    clear hnw2 up2 N9 mb0 mb1 mb2 mb3 w0 w1 w2 w3 w4 w5 o1 l15
    replace mS : (S, listOf ([(r0, v0, q0), (r1, v1, q1), (r2, v2, q2), (r3, v3, q3), (r4, v4, q4), (r5, v5, q5)].map fun p => Value.ref p.1).toArray nS) ∈ nw2 := mS
    obtain ⟨gs, hgs, hgl⟩ : ∃ gs, [(r0, v0, q0), (r1, v1, q1), (r2, v2, q2), (r3, v3, q3), (r4, v4, q4), (r5, v5, q5)] = gs ∧ gs.length = 6 := ⟨_, rfl, rfl⟩
    rw [hgs] at mS mr hw
    rename Fr _ _ _ _ => F9
    obtain ⟨mL, FL, hkL⟩ : ∃ mL, Fr _ _ _ mL ∧ ∀ p ∈ ([(Str.ofString "states", .ref S), (Str.ofString "line", .ref Dl), (Str.ofString "heirs", .ref H)] : List (Str × Value)), mL p.1 = some p.2 := ⟨_, F9, by kst_all⟩
    clear F9
    refine' range_loop (fun _ : Unit => nw2) (fun _ => [(Str.ofString "states", .ref S), (Str.ofString "line", .ref Dl), (Str.ofString "heirs", .ref H)]) [Str.ofString "due", Str.ofString "half", Str.ofString "k", Str.ofString "hyphen"] (fun _ _ => True) () (by rfl) (by assumption) (by decide) (n := 6) (by decide) FL Nb hkL (by trivial) ?turnL ?doneL
    case turnL =>
      clear FL hkL
      intro i c t u h tk I oI hi hP hI Fk Nk
      simp only [Int.zero_add] at Fk
      (try dsimp only at hI); (try dsimp only at Fk); (try dsimp only at Nk)
      replace Nk := news_one Nk
      clear Nb
      refine hideQ ?_
      intro gL dL oL9 QL hQL
      (repeat' (first | (k_unfold; (try dsimp only)) | (k_end; kc_close) | (with_reducible ((k_here; (with_reducible show wpAny _ _ (exec (Stmt.For (Expr.Tuple _ _ _) _ _ _ _) _) _ _ _); (rename Fr _ _ _ _ => lF'); (with_unfolding_all refine' For_pairF lF' ?z103xk1 ?z103xk2 ?z103xk3 ?z103xk4 ?_; (case z103xk1 => exact rfl); (case z103xk2 => exact rfl); (case z103xk3 => decide); (case z103xk4 => exact rfl))))) | walk1 | (dsimp only; first | (with_reducible ((k_here; (with_reducible show wpAny _ _ (exec (Stmt.For (Expr.Tuple _ _ _) _ _ _ _) _) _ _ _); (rename Fr _ _ _ _ => lF'); (with_unfolding_all refine' For_pairF lF' ?z103xk1 ?z103xk2 ?z103xk3 ?z103xk4 ?_; (case z103xk1 => exact rfl); (case z103xk2 => exact rfl); (case z103xk3 => decide); (case z103xk4 => exact rfl))))) | walk1) | (leave1; (try dsimp only)) | fail "no step"))
      rename Fr _ _ _ _ => F9
      rename News _ _ _ _ => N9
      obtain ⟨Du, nD, mP, FP, NP, hkP, hp0, hmP⟩ : ∃ (Du : Addr) (nD : Nat) (mP : Str → Option Value), Fr _ _ _ mP ∧ News _ _ _ ((Du, listOf ([] : List Value).toArray nD) :: (I, oI) :: nw2) ∧ (∀ p ∈ ([(Str.ofString "due", .ref Du), (Str.ofString "level", .int (i : Int) t), (Str.ofString "states", .ref S), (Str.ofString "line", .ref Dl), (Str.ofString "heirs", .ref H)] : List (Str × Value)), mP p.1 = some p.2) ∧ (@Ne Nat I Du ∧ ∀ p ∈ nw2, p.1 ≠ Du) ∧
          Same (Str.ofString "level") [(Str.ofString "states", .ref S), (Str.ofString "line", .ref Dl), (Str.ofString "heirs", .ref H)] [Str.ofString "due", Str.ofString "half", Str.ofString "k", Str.ofString "hyphen"] mP mL :=
        ⟨_, _, _, F9, N9, by kst_all, ⟨Nat.ne_of_lt (And.left (by assumption : _ < _ ∧ AllLt _ nw2)), allLt_ne (And.right (by assumption : _ < _ ∧ AllLt _ nw2))⟩, by unfold Same; ((intro z h1 h2 h3; (simp only [List.forall_mem_cons, List.not_mem_nil, false_implies, implies_true, and_true, ne_eq] at h2); (try simp only [List.contains_cons, List.contains_nil, Bool.or_false, Bool.or_eq_false_iff, beq_eq_false_iff_ne, ne_eq] at h3); simp [kstB, h1, h2, h3]))⟩
      clear F9 N9
      refine' ⟨Addr × List Value × Nat, Dl, ll, el, fun c => (c.1, listOf c.2.1.toArray c.2.2) :: (I, oI) :: nw2, fun c => [(Str.ofString "due", .ref c.1), (Str.ofString "level", .int (i : Int) t), (Str.ofString "states", .ref S), (Str.ofString "line", .ref Dl), (Str.ofString "heirs", .ref H)], [Str.ofString "k", Str.ofString "hyphen"], mP,
        fun j c => StrsAre c.2.1 ((es.take j).map fun e => strOf (rowAt i e)) ∧ (@Ne Nat I c.1 ∧ ∀ p ∈ nw2, p.1 ≠ c.1), (Du, [], nD), rfl, by rfl, by decide, FP, NP, fun c => List.Mem.tail _ (List.Mem.tail _ mLine), ?tup, hkP, ?p0, ?turnP, ?doneP⟩
      case tup =>
        intro j v hv
        obtain ⟨e, q, b, t', u', n', he, rfl, hq4, hec, hb⟩ := hline j v hv
        exact ⟨b, _, _, n', rfl, fun c => List.Mem.tail _ (List.Mem.tail _ hb)⟩
      case p0 => exact ⟨.nil, hp0⟩
      case turnP =>
        clear FP NP hkP hmP hp0
        intro j c b v1 v2 n u2 h2 tk2 I2 oI2 hjv hbm hPj hne Fp Np
        obtain ⟨Dd, dv, nd⟩ := c
        obtain ⟨hP1, hP2, hP3⟩ := hPj
        obtain ⟨e, q, b', t', u', n', he, hbb, hq4, hec, hb⟩ := hline j _ hjv
        obtain rfl : b = b' := by injection hbb
        have o1 := (Np _ (List.mem_append_left _ (hbm (Dd, dv, nd)))).1
        have o2 := (Np _ (List.mem_append_left _ (List.Mem.tail _ (List.Mem.tail _ hb)))).1
        have o3 := Option.some.inj (o1.symm.trans o2)
        obtain ⟨rfl, rfl⟩ : v1 = .int e.h t' ∧ v2 = .int (q : Int) u' := by
          injection o3 with _ _ o4 _
          injection o4 with o5 _
          have o6 := congrArg Array.toList o5
          injection o6 with o7 o8
          injection o8 with o9 _
          exact ⟨o7, o9⟩
        have hk9 := hkn e (List.mem_of_getElem? he)
        have h09 := hk9.h0
        have h59 := hk9.h5
        have i1 : @Ne Nat Dd I2 := hne (Dd, listOf dv.toArray nd) (List.Mem.head _)
        have i2 : @Ne Nat I I2 := hne (I, oI) (List.Mem.tail _ (List.Mem.head _))
        have i3 : ∀ q ∈ nw2, q.1 ≠ I2 := fun q hq => hne q (List.Mem.tail _ (List.Mem.tail _ hq))
        replace Np := news_tail Np
        have hm1 := mul_len (i := i) hk9
        have hj4 : j < 4 := by
          have := (List.getElem?_eq_some_iff.mp he).1
          omega
        have hdl : dv.length = j := by
          have := (List.getElem?_eq_some_iff.mp he).1
          rw [strs_len hP1, List.length_map, List.length_take]
          omega
        clear hne o1 o2 o3 hbm hbb hI
        (try dsimp only at Fp)
        (try dsimp only at Np)
        refine hideQ ?_
        intro gP dP oP QP hQP
        (repeat' (first | (k_unfold; (try dsimp only)) | (k_end; kc_close) | (with_reducible ((k_here; (with_reducible show wpAny _ _ (subscriptTail _ _ (Value.str _ _) (Value.int (Nat.cast _) _)) _ _ _); k_dflt (refine' abcd_item ?z112xsX ?z112xsq ?_; (case z112xsq => assumption); (case z112xsX => assumption); intro t9 k9)))) | (with_reducible ((k_here; (with_reducible show wpAny _ _ (call (Value.builtin _) [Value.ref _, _]) _ _ _); k_dflt (refine' append_led ?z92xF ?z92xN ?z92xU ?z92xz ?_; (case z92xF => k_asm); (case z92xN => k_asm); (case z92xU => k_upd); (case z92xz => omega); k_whole; intro h5 F5 N5; (try k_sweep))))) | (with_reducible ((with_reducible show wpAny _ _ (call (Value.builtin "min") _ _) _ _ _); (k_here; k_dflt (refine' PyProof.Rows.min_two_N ?z93xsh ?z93xsF ?z93xsN ?_; (case z93xsh => with_unfolding_all rfl); (case z93xsF => k_asm); (case z93xsN => k_asm); intro h5 tk5 F5 N5; (try k_sweep))))) | (with_reducible ((k_here; (with_reducible show wpAny _ _ (binaryOp Operator.Add (Value.str _ _) (Value.str _ _)) _ _ _); refine PyProof.Rows.add_str ?_ (by simp only [strLen_append, sizeLine_eq, len_dash, len_none, len_a, len_b, len_c, len_d, len_sgl, len_letter]; omega); intro t9 k9))) | (with_reducible ((k_here; (with_reducible show wpAny _ _ (binaryOp Operator.Mult (Value.str _ _) (Value.int _ _)) _ _ _); refine SB.mul (mulOk_of 16 16 (by decide) (by split <;> omega) (by split <;> omega) (by decide) (by decide)) ?_; intro t9 k9))) | walk1 | (dsimp only; first | (with_reducible ((k_here; (with_reducible show wpAny _ _ (subscriptTail _ _ (Value.str _ _) (Value.int (Nat.cast _) _)) _ _ _); k_dflt (refine' abcd_item ?z112xsX ?z112xsq ?_; (case z112xsq => assumption); (case z112xsX => assumption); intro t9 k9)))) | (with_reducible ((k_here; (with_reducible show wpAny _ _ (call (Value.builtin _) [Value.ref _, _]) _ _ _); k_dflt (refine' append_led ?z92xF ?z92xN ?z92xU ?z92xz ?_; (case z92xF => k_asm); (case z92xN => k_asm); (case z92xU => k_upd); (case z92xz => omega); k_whole; intro h5 F5 N5; (try k_sweep))))) | (with_reducible ((with_reducible show wpAny _ _ (call (Value.builtin "min") _ _) _ _ _); (k_here; k_dflt (refine' PyProof.Rows.min_two_N ?z93xsh ?z93xsF ?z93xsN ?_; (case z93xsh => with_unfolding_all rfl); (case z93xsF => k_asm); (case z93xsN => k_asm); intro h5 tk5 F5 N5; (try k_sweep))))) | (with_reducible ((k_here; (with_reducible show wpAny _ _ (binaryOp Operator.Add (Value.str _ _) (Value.str _ _)) _ _ _); refine PyProof.Rows.add_str ?_ (by simp only [strLen_append, sizeLine_eq, len_dash, len_none, len_a, len_b, len_c, len_d, len_sgl, len_letter]; omega); intro t9 k9))) | (with_reducible ((k_here; (with_reducible show wpAny _ _ (binaryOp Operator.Mult (Value.str _ _) (Value.int _ _)) _ _ _); refine SB.mul (mulOk_of 16 16 (by decide) (by split <;> omega) (by split <;> omega) (by decide) (by decide)) ?_; intro t9 k9))) | walk1) | (leave1; (try dsimp only)) | fail "no step"))
        all_goals exact hQP _ _ _ (turn_end (Dd, dv ++ [Value.str _ _], nd + 1) (by k_asm) (by k_asm) (by exact List.Mem.tail _ (List.Mem.tail _ (List.Mem.head _))) (by exact List.forall_mem_cons.mpr ⟨List.Mem.head _, List.forall_mem_cons.mpr ⟨List.Mem.tail _ (List.Mem.head _), fun q hq => List.Mem.tail _ (List.Mem.tail _ (List.Mem.tail _ hq))⟩⟩) (by exact List.forall_mem_cons.mpr ⟨i1, List.forall_mem_cons.mpr ⟨i2, i3⟩⟩) (by kst_all) (by ((intro z h1 h2 h3; (simp only [List.forall_mem_cons, List.not_mem_nil, false_implies, implies_true, and_true, ne_eq] at h2); (try simp only [List.contains_cons, List.contains_nil, Bool.or_false, Bool.or_eq_false_iff, beq_eq_false_iff_ne, ne_eq] at h3); simp [kstB, h1, h2, h3]))) (by exact ⟨take_strs hP1 he (by first | exact due_pos hk9 hec (by assumption) | exact due_neg hk9 hec (by assumption)), hP2, hP3⟩))
      case doneP =>
        clear FP NP hkP hp0
        intro c u2 h2 tk2 hPd Fd Nd
        obtain ⟨Dd, dv, nd⟩ := c
        obtain ⟨hP1, hP2, hP3⟩ := hPd
        replace hP1 : StrsAre dv (rowsS i es) := by
          have h9 := hP1
          rw [List.take_of_length_le (by rw [hll, hln]; omega)] at h9
          exact h9
        obtain ⟨q, hq⟩ : ∃ q, gs[i]? = some q := ⟨_, List.getElem?_eq_getElem (by omega)⟩
        have hwq := hw i q hq
        have mrq := mr q (List.mem_of_getElem? hq)
        have hgx : (gs.map fun p => Value.ref p.1)[((i : Nat) : Int).toNat]? = some (.ref q.1) := by rw [Int.toNat_natCast, List.getElem?_map, hq]; rfl
        (try dsimp only at Fd)
        (try dsimp only at Nd)
        (repeat' (first | (k_unfold; (try dsimp only)) | (k_end; kc_close) | (with_reducible ((k_here; (with_reducible show wpAny _ _ (subscriptTail _ _ (Value.ref _) (Value.int (Nat.cast _) _)) _ _ _); k_dflt (refine' item_led ?z111xsN ?z111xsm ?z111xsa ?z111xsb ?z111xsx ?_; (case z111xsN => k_asm); (case z111xsm => k_mem); (case z111xsa => omega); (case z111xsb => omega); (case z111xsx => assumption))))) | (with_reducible ((with_reducible show wpAny _ _ (compareOp CmpOp.NotEq (Value.ref _) (Value.ref _)) _ _ _); (k_here; k_dflt (refine' ne_led ?z100xN ?z100xma ?z100xmb ?z100xhi ?z100xhj ?z100xho ?z100xhu ?_; (case z100xN => k_asm); (case z100xma => k_mem); (case z100xmb => k_mem); (case z100xhi => assumption); (case z100xhj => assumption); (case z100xho => exact rows_strOk (by assumption)); (case z100xhu => ke_room))))) | walk1 | (dsimp only; first | (with_reducible ((k_here; (with_reducible show wpAny _ _ (subscriptTail _ _ (Value.ref _) (Value.int (Nat.cast _) _)) _ _ _); k_dflt (refine' item_led ?z111xsN ?z111xsm ?z111xsa ?z111xsb ?z111xsx ?_; (case z111xsN => k_asm); (case z111xsm => k_mem); (case z111xsa => omega); (case z111xsb => omega); (case z111xsx => assumption))))) | (with_reducible ((with_reducible show wpAny _ _ (compareOp CmpOp.NotEq (Value.ref _) (Value.ref _)) _ _ _); (k_here; k_dflt (refine' ne_led ?z100xN ?z100xma ?z100xmb ?z100xhi ?z100xhj ?z100xho ?z100xhu ?_; (case z100xN => k_asm); (case z100xma => k_mem); (case z100xmb => k_mem); (case z100xhi => assumption); (case z100xhj => assumption); (case z100xho => exact rows_strOk (by assumption)); (case z100xhu => ke_room))))) | walk1) | (leave1; (try dsimp only)) | fail "no step"))
        exact hQL _ _ _ (turn_end () (by k_asm) (by k_asm) (by exact List.Mem.tail _ (List.Mem.head _)) (by exact fun q hq => List.Mem.tail _ (List.Mem.tail _ hq)) (by exact hI) (by kst_all) (by exact Same.trans (by unfold Same; ((intro z h1 h2 h3; (simp only [List.forall_mem_cons, List.not_mem_nil, false_implies, implies_true, and_true, ne_eq] at h2); (try simp only [List.contains_cons, List.contains_nil, Bool.or_false, Bool.or_eq_false_iff, beq_eq_false_iff_ne, ne_eq] at h3); simp [kstB, h1, h2, h3]))) hmP) trivial)
    case doneL =>
      clear FL hkL
      intro c u h tk hP Fk Nk
      (try dsimp only at Fk)
      (try dsimp only at Nk)
      clear Nb
      (repeat' (first | (k_unfold; (try dsimp only)) | (k_end; kc_close) | (with_reducible ((k_here; (with_reducible show wpAny _ _ (exec (Stmt.Assign _ (Expr.ListComp _ [⟨Expr.Tuple _ _ _, _, _, _⟩] _ _) _) _) _ _ _); k_dflt (refine Assign_ListComp_P2 (by k_asm) (by rfl) (by with_unfolding_all rfl) (by with_unfolding_all rfl) (by decide) (by rfl) (by decide) (by rfl) (by rfl) (by decide) (by rfl) (by rfl) ?_)))) | walk1 | (dsimp only; first | (with_reducible ((k_here; (with_reducible show wpAny _ _ (exec (Stmt.Assign _ (Expr.ListComp _ [⟨Expr.Tuple _ _ _, _, _, _⟩] _ _) _) _) _ _ _); k_dflt (refine Assign_ListComp_P2 (by k_asm) (by rfl) (by with_unfolding_all rfl) (by with_unfolding_all rfl) (by decide) (by rfl) (by decide) (by rfl) (by rfl) (by decide) (by rfl) (by rfl) ?_)))) | walk1) | (leave1; (try dsimp only)) | fail "no step"))
      refine ⟨Dl, ll, el, nw2, fun (_ : Nat) (ys : List Value) (nw : List (Addr × Obj)) => nw = nw2 ∧ ∀ (j : Nat) (y : Value), ys[j]? = some y → ∃ (e : Ent) (tk : Tok), es[j]? = some e ∧ y = Value.int (24 * e.h) tk, rfl, by rfl, ?csz, by k_asm, by k_asm, ?csrc, ⟨rfl, by simp⟩, ?ctup, ?cturn, ?cfin⟩
      case csz => rw [hll, sizeLine_eq]; omega
      case csrc => rintro i ys nw ⟨rfl, _⟩; exact mLine
      case ctup =>
        rintro j v ys nw hv ⟨rfl, _⟩
        obtain ⟨e, q, b, t', u', n', he, rfl, hq4, hec, hb⟩ := hline j v hv
        exact ⟨b, _, _, n', rfl, hb⟩
      case cturn =>
        rintro j b v1 v2 n ys nw I oI C oC D m₂ h tk E' hjv hbm ⟨rfl, hY⟩ hyl h1 hC hx hx2 F₁ N₁ off ne
        obtain ⟨e, q, b', t', u', n', he, hbb, hq4, hec, hb⟩ := hline j _ hjv
        obtain rfl : b = b' := by injection hbb
        obtain ⟨rfl, rfl⟩ := tup_same N₁ (List.Mem.tail _ (List.Mem.tail _ (List.Mem.tail _ hbm))) (List.Mem.tail _ (List.Mem.tail _ (List.Mem.tail _ hb)))
        refine hideQ ?_
        intro gC dC o7 QC hQC
        k_steps
        refine hQC _ _ _ (SeqEnd.of nw (by k_asm) (by k_asm) (fun p hp => hp) off ⟨rfl, snoc_inv hY ⟨e, _, ?_, rfl⟩⟩)
        rw [hyl]
        exact he
      case cfin =>
        rintro ys nw hyl ⟨rfl, hY⟩ Dc h tk F₁ N₁ o1
        have hiC := ints_of (f := fun e => 24 * e.h) (by rw [hyl, hll, hln]) hY
        clear hY
        dsimp only
        (repeat' (first | (k_unfold; (try dsimp only)) | (k_end; kc_close) | (with_reducible ((with_reducible show wpAny _ _ (exec (Stmt.Assign _ (Expr.ListComp _ _ _ _) _) _) _ _ _); (k_here; lcg_look; k_dflt (refine Assign_ListComp_S (by k_asm) (by rfl) (by with_unfolding_all rfl) (by rfl) (by decide) (by rfl) (by decide) (by rfl) (by rfl) (by rfl) ?_)))) | walk1 | (dsimp only; first | (with_reducible ((with_reducible show wpAny _ _ (exec (Stmt.Assign _ (Expr.ListComp _ _ _ _) _) _) _ _ _); (k_here; lcg_look; k_dflt (refine Assign_ListComp_S (by k_asm) (by rfl) (by with_unfolding_all rfl) (by rfl) (by decide) (by rfl) (by decide) (by rfl) (by rfl) (by rfl) ?_)))) | walk1) | (leave1; (try dsimp only)) | fail "no step"))
        refine ⟨S, gs.map fun p => Value.ref p.1, nS, (Dc, LCg.lst ys) :: nw, fun (i : Nat) (ys' : List Value) (nw' : List (Addr × Obj)) => (∀ q ∈ (Dc, LCg.lst ys) :: nw, q ∈ nw') ∧ ∃ gps : List (Addr × List Value × Nat), gps.length = i ∧ ys' = gps.map (fun p => Value.ref p.1) ∧ (∀ p ∈ gps, (p.1, listOf p.2.1.toArray p.2.2) ∈ nw') ∧ ∀ (j : Nat) (p : Addr × List Value × Nat), gps[j]? = some p → IntsAre p.2.1 (gotRow j es), rfl, by rfl, ?gsz, by k_asm, by k_asm, ?gsrc, ⟨fun _ h => h, [], rfl, rfl, by simp, by simp⟩, ?gturn, ?gfin⟩
        case gsz => rw [List.length_map, hgl, sizeLine_eq]; omega
        case gsrc => rintro i ys' nw' ⟨hsub, _⟩; exact hsub _ (List.Mem.tail _ mS)
        case gturn =>
          rintro i v ys' nw' I oI C oC D m₂ h tk E' hv ⟨hsub, gps, hgpl, rfl, hgpm, hgpr⟩ hyl' h1 hC hx F₁ N₁ off ne
          obtain ⟨q, hq, rfl⟩ := gps_get hv
          have mq := hsub _ (List.Mem.tail _ (mr q (List.mem_of_getElem? hq)))
          have hwq := hw i q hq
          refine hideQ ?_
          intro gG dG o7 QG hQG
          refine' ListComp_S F₁ ?xb ?xc ?xd ?xe ?xf ?_
          case xb => rfl
          case xc => decide
          case xd => rfl
          case xe => decide
          case xf => rfl
          k_steps
          refine ⟨q.1, q.2.1, q.2.2, (I, oI) :: (C, oC) :: (D, LCg.lst (gps.map fun p => Value.ref p.1)) :: nw', fun (_ : Nat) (ys3 : List Value) (nw3 : List (Addr × Obj)) => nw3 = (I, oI) :: (C, oC) :: (D, LCg.lst (gps.map fun p => Value.ref p.1)) :: nw' ∧ ∀ (j : Nat) (y : Value), ys3[j]? = some y → ∃ (e : Ent) (tk : Tok), es[j]? = some e ∧ y = Value.int (min e.h (i : Int)) tk, rfl, by rfl, ?isz, by k_asm, by k_asm, ?isrc, ⟨rfl, by simp⟩, ?iturn, ?ifin⟩
          case isz => rw [strs_len hwq, rowsS, List.length_map, hln, sizeLine_eq]; omega
          case isrc => rintro j ys3 nw3 ⟨rfl, _⟩; exact List.Mem.tail _ (List.Mem.tail _ (List.Mem.tail _ mq))
          case iturn =>
            rintro j v ys3 nw3 I3 oI3 C3 oC3 D3 m₃ h3 tk3 E3 hv3 ⟨rfl, hY3⟩ hyl3 h13 hC3 hx3 F₃ N₃ off3 ne3
            obtain ⟨e, t3, he, rfl⟩ := strs_at hwq hv3
            have hk9 := hkn e (List.mem_of_getElem? he)
            have hs9 := row_short (l := i) hk9
            refine hideQ ?_
            intro g6 d6 o6 Q6 hQ6
            (repeat' (first | (k_unfold; (try dsimp only)) | (k_end; kc_close) | (with_reducible ((k_here; (with_reducible show wpAny _ _ (call (Value.ref 77) [Value.int _ _, Value.int _ _] _) _ _ _); k_dflt (refine' subi_ok ?z65xG ?_; (case z65xG => walk_at "grd"); k_whole; intro h5 tk5 t5 F5 N5; (try k_sweep))))) | (with_reducible ((k_here; (with_reducible show wpAny _ _ (call (Value.ref 91) [Value.str _ _, Value.str _ _] _) _ _ _); k_dflt (refine' count_ok ?z41xG ?z41xx ?z41xa ?z41xb ?_; (case z41xG => walk_at "grd"); (case z41xx => walk_at "short"); (case z41xa => assumption); (case z41xb => exact Nat.lt_succ_self _); k_whole; intro h' tk' tk F' N'; (try k_sweep))))) | walk1 | (dsimp only; first | (with_reducible ((k_here; (with_reducible show wpAny _ _ (call (Value.ref 77) [Value.int _ _, Value.int _ _] _) _ _ _); k_dflt (refine' subi_ok ?z65xG ?_; (case z65xG => walk_at "grd"); k_whole; intro h5 tk5 t5 F5 N5; (try k_sweep))))) | (with_reducible ((k_here; (with_reducible show wpAny _ _ (call (Value.ref 91) [Value.str _ _, Value.str _ _] _) _ _ _); k_dflt (refine' count_ok ?z41xG ?z41xx ?z41xa ?z41xb ?_; (case z41xG => walk_at "grd"); (case z41xx => walk_at "short"); (case z41xa => assumption); (case z41xb => exact Nat.lt_succ_self _); k_whole; intro h' tk' tk F' N'; (try k_sweep))))) | walk1) | (leave1; (try dsimp only)) | fail "no step"))
            refine hQ6 _ _ _ (SeqEnd.of _ (by k_asm) (by k_asm) (fun p hp => hp) off3 ⟨rfl, snoc_inv hY3 ⟨e, _, by rw [hyl3]; exact he, congrArg (fun z => Value.int z _) (ones_row hk9)⟩⟩)
          case ifin =>
            rintro ys3 nw3 hyl3 ⟨rfl, hY3⟩ D' h3 tk3 F₃ N₃ o3
            have hi3 := ints_of (f := fun e => min e.h (i : Int)) (by rw [hyl3, strs_len hwq, rowsS, List.length_map]) hY3
            exact hQG _ _ _ (seq_new1 F₃ N₃ o3 off ⟨fun q hq => List.Mem.tail _ (hsub q hq), gps ++ [(D', ys3, ys3.length)], by rw [List.length_append, hgpl]; rfl, by rw [List.map_append]; rfl,
              fun p hp => by rcases List.mem_append.mp hp with h | h; exact List.Mem.tail _ (hgpm p h); (rw [List.mem_singleton.mp h]; exact List.Mem.head _), got_snoc hgpr hgpl hi3⟩)
        case gfin =>
          rintro ys' nw' hyl' ⟨hsub, gps, hgpl, rfl, hgpm, hgpr⟩ Dg h tk F₁ N₁ o2
          dsimp only
          have hg6 : gps.length = 6 := by rw [hgpl, List.length_map, hgl]
          obtain ⟨nw5, hnw5, Nb⟩ : ∃ nw5, nw5 = _ ∧ News _ _ _ nw5 := ⟨_, rfl, N₁⟩
          have mG : (Dg, listOf (gps.map fun p => Value.ref p.1).toArray (gps.map fun p => Value.ref p.1).length) ∈ nw5 := by rw [hnw5]; exact List.Mem.head _
          have up5 : ∀ q ∈ nw', q ∈ nw5 := by rw [hnw5]; exact fun q hq => List.Mem.tail _ hq
          have mCl : (Dc, listOf ys.toArray ys.length) ∈ nw5 := up5 _ (hsub _ (List.Mem.head _))
          replace mNL := up5 _ (hsub _ (List.Mem.tail _ mNL))
          replace mH := up5 _ (hsub _ (List.Mem.tail _ mH))
          replace hOb := hOb.mono fun q hq => up5 _ (hsub _ (List.Mem.tail _ hq))
          replace mC := up5 _ (hsub _ (List.Mem.tail _ mC))
          have hgm := fun p hp => up5 _ (hgpm p hp)
          clear hnw5 up5 N₁ hsub hgpm mS mr mLine hline hw hgl hgs hgpl hyl' o2 o1
          (repeat' (first | (k_unfold; (try dsimp only)) | (k_end; kc_close) | (with_reducible ((k_here; (with_reducible show wpAny _ _ (exec (Stmt.For (Expr.Name _ _) (Expr.Subscript _ _ _) _ _ _) _) _ _ _); (rename Fr _ _ _ _ => lF'); (with_unfolding_all refine' For_listF lF' ?z104xk1 ?z104xk2 ?_; (case z104xk1 => exact rfl); (case z104xk2 => exact rfl))))) | (with_reducible ((k_here; (with_reducible show wpAny _ _ (pyIter (Value.ref _)) _ _ _); refine Halt.of ?_))) | walk1 | (dsimp only; first | (with_reducible ((k_here; (with_reducible show wpAny _ _ (exec (Stmt.For (Expr.Name _ _) (Expr.Subscript _ _ _) _ _ _) _) _ _ _); (rename Fr _ _ _ _ => lF'); (with_unfolding_all refine' For_listF lF' ?z104xk1 ?z104xk2 ?_; (case z104xk1 => exact rfl); (case z104xk2 => exact rfl))))) | (with_reducible ((k_here; (with_reducible show wpAny _ _ (pyIter (Value.ref _)) _ _ _); refine Halt.of ?_))) | walk1) | (leave1; (try dsimp only)) | fail "no step"))
          unfold Halt
          rename News _ _ _ _ => N9
          obtain ⟨nw6, hnw6, Nc⟩ : ∃ nw6, nw6 = _ ∧ News _ _ _ nw6 := ⟨_, rfl, N9⟩
          rename Addr => Nu
          have mNu : ∃ kN, (Nu, listOf [Value.int n4 t4, .int n5 t5, .int n6 t6, .int n7 t7].toArray kN) ∈ nw6 := ⟨_, by rw [hnw6]; exact List.Mem.head _⟩
          obtain ⟨kN, mNu⟩ := mNu
          have up6 : ∀ q ∈ nw5, q ∈ nw6 := by rw [hnw6]; exact fun q hq => List.Mem.tail _ hq
          replace mG := up6 _ mG
          replace mCl := up6 _ mCl
          replace mH := up6 _ mH
          replace hOb := hOb.mono up6
          replace hgm := fun p hp => up6 _ (hgm p hp)
          clear hnw6 up6 mNL mC N9
          rename Fr _ _ _ _ => F9
          obtain ⟨mN, FN, hkN⟩ : ∃ mN, Fr _ _ _ mN ∧ ∀ p ∈ ([(Str.ofString "heirs", .ref H), (Str.ofString "got", .ref Dg), (Str.ofString "claims", .ref Dc)] : List (Str × Value)), mN p.1 = some p.2 := ⟨_, F9, by kst_all⟩
          clear F9
          refine' list_loop (its := [Value.int n4 t4, .int n5 t5, .int n6 t6, .int n7 t7]) (k := kN) (fun _ : Unit => nw6) (fun _ => [(Str.ofString "heirs", .ref H), (Str.ofString "got", .ref Dg), (Str.ofString "claims", .ref Dc)]) [Str.ofString "estate", Str.ofString "shares", Str.ofString "j", Str.ofString "i"] (fun _ _ => True) () (by rfl) (fun _ => mNu) FN Nc hkN trivial ?turnN ?doneN
          case turnN =>
            clear FN hkN
            intro i v c u h tk I oI hv hP hI Fk Nk
            obtain ⟨number, tn, rfl⟩ := four_ints hv
            (try dsimp only at hI); (try dsimp only at Fk); (try dsimp only at Nk)
            replace Nk := news_one Nk
            obtain ⟨nw7, hnw7, Nd⟩ : ∃ nw7, nw7 = _ ∧ News _ _ _ nw7 := ⟨_, rfl, Nk⟩
            have up7 : ∀ q ∈ nw6, q ∈ nw7 := by rw [hnw7]; exact fun q hq => List.Mem.tail _ hq
            have mI : (I, oI) ∈ nw7 := by rw [hnw7]; exact List.Mem.head _
            have mG7 := up7 _ mG
            have mC7 := up7 _ mCl
            have mH7 := up7 _ mH
            have hO7 := hOb.mono up7
            have hgm7 := fun p hp => up7 _ (hgm p hp)
            have hsC := sum24 es
            have hH0 := sumH_pos hkn
            clear hnw7 Nk Nc mNu mG mCl mH hOb hgm hv
            refine hideQ ?_
            intro g9 d9 o9 Q9 hQ9
            (repeat' (first | (k_unfold; (try dsimp only)) | (k_end; kc_close) | (with_reducible ((k_here; (with_reducible show wpAny _ _ (call (Value.ref 153) _ _) _ _ _); k_dflt (refine' shares_ok ?z99xxG ?z99xxm hO7 hln hkn hsn mG7 hg6 hgm7 hgpr est0 est1 ?_; (case z99xxG => walk_at "grd"); (case z99xxm => exact mH7); k_whole; intro Sh vs nS9 h5 tk5 F5 N5 hiS; (try k_sweep); (obtain ⟨hsS, htee⟩ := shares_sum hln hkn hsn est0 est1))))) | (with_reducible ((k_here; (with_reducible show wpAny _ _ (binaryOp Operator.Mod (Value.int _ _) (Value.int (2 * sumH _ + 1) _)) _ _ _); refine estate_mod hH0 ?_; intro est est0 est1))) | (with_reducible ((k_here; (with_reducible show wpAny _ _ (binaryOp Operator.FloorDiv (Value.int (24 * sumH _) _) (Value.int 12 _)) _ _ _); refine half_div ?_))) | (with_reducible ((with_reducible show wpAny _ _ (call (Value.builtin "sum") _ _) _ _ _); (k_here; k_dflt (refine' sum_val ?z95xsh ?z95xsF ?z95xsN ?z95xsm ?z95xsi ?z95xsx ?_; (case z95xsh => with_unfolding_all rfl); (case z95xsF => k_asm); (case z95xsN => k_asm); (case z95xsm => k_mem); (case z95xsi => assumption); (case z95xsx => assumption); intro h5 tk5 t5 F5 N5; (try k_sweep))))) | (with_reducible ((k_here; (with_reducible show wpAny _ _ (pyIter (Value.ref _)) _ _ _); refine Halt.of ?_))) | walk1 | (dsimp only; first | (with_reducible ((k_here; (with_reducible show wpAny _ _ (call (Value.ref 153) _ _) _ _ _); k_dflt (refine' shares_ok ?z99xxG ?z99xxm hO7 hln hkn hsn mG7 hg6 hgm7 hgpr est0 est1 ?_; (case z99xxG => walk_at "grd"); (case z99xxm => exact mH7); k_whole; intro Sh vs nS9 h5 tk5 F5 N5 hiS; (try k_sweep); (obtain ⟨hsS, htee⟩ := shares_sum hln hkn hsn est0 est1))))) | (with_reducible ((k_here; (with_reducible show wpAny _ _ (binaryOp Operator.Mod (Value.int _ _) (Value.int (2 * sumH _ + 1) _)) _ _ _); refine estate_mod hH0 ?_; intro est est0 est1))) | (with_reducible ((k_here; (with_reducible show wpAny _ _ (binaryOp Operator.FloorDiv (Value.int (24 * sumH _) _) (Value.int 12 _)) _ _ _); refine half_div ?_))) | (with_reducible ((with_reducible show wpAny _ _ (call (Value.builtin "sum") _ _) _ _ _); (k_here; k_dflt (refine' sum_val ?z95xsh ?z95xsF ?z95xsN ?z95xsm ?z95xsi ?z95xsx ?_; (case z95xsh => with_unfolding_all rfl); (case z95xsF => k_asm); (case z95xsN => k_asm); (case z95xsm => k_mem); (case z95xsi => assumption); (case z95xsx => assumption); intro h5 tk5 t5 F5 N5; (try k_sweep))))) | (with_reducible ((k_here; (with_reducible show wpAny _ _ (pyIter (Value.ref _)) _ _ _); refine Halt.of ?_))) | walk1) | (leave1; (try dsimp only)) | fail "no step"))
            · exact absurd rfl (by assumption : 12 * est ≠ 12 * est)
            unfold Halt
            rename Fr _ _ _ _ => F9
            obtain ⟨mJ, FJ, hkJ, hmJ⟩ : ∃ mJ, Fr _ _ _ mJ ∧ (∀ p ∈ ([(Str.ofString "shares", .ref Sh), (Str.ofString "claims", .ref Dc), (Str.ofString "got", .ref Dg), (Str.ofString "heirs", .ref H)] : List (Str × Value)), mJ p.1 = some p.2) ∧ Same (Str.ofString "number") [(Str.ofString "heirs", .ref H), (Str.ofString "got", .ref Dg), (Str.ofString "claims", .ref Dc)] [Str.ofString "estate", Str.ofString "shares", Str.ofString "j", Str.ofString "i"] mJ mN := ⟨_, F9, by kst_all, by unfold Same; ((intro z h1 h2 h3; (simp only [List.forall_mem_cons, List.not_mem_nil, false_implies, implies_true, and_true, ne_eq] at h2); (try simp only [List.contains_cons, List.contains_nil, Bool.or_false, Bool.or_eq_false_iff, beq_eq_false_iff_ne, ne_eq] at h3); simp [kstB, h1, h2, h3]))⟩
            clear F9
            refine' range_loop (fun _ : Unit => (Sh, listOf vs.toArray nS9) :: nw7) (fun _ => [(Str.ofString "shares", .ref Sh), (Str.ofString "claims", .ref Dc), (Str.ofString "got", .ref Dg), (Str.ofString "heirs", .ref H)]) [Str.ofString "i"] (fun _ _ => True) () (by rfl) (by assumption) (by decide) (n := 4) (by decide) FJ (by k_asm) hkJ trivial ?turnJ ?doneJ
            case turnJ =>
              clear FJ hkJ hmJ
              intro j cj tj uj hpj tkj J oJ hj hPj hJ Fj Nj
              simp only [Int.zero_add] at Fj
              (try dsimp only at hJ); (try dsimp only at Fj)
              replace Nj := news_one (tl := (Sh, listOf vs.toArray nS9) :: nw7) Nj
              replace hj : Hide (j < 4) := hj
              refine hideQ ?_
              intro gJ dJ o8 QJ hQJ
              (repeat' (first | (k_unfold; (try dsimp only)) | (k_end; kc_close) | (with_reducible ((k_here; (with_reducible show wpAny _ _ (pyIter (Value.ref _)) _ _ _); refine Halt.of ?_))) | walk1 | (dsimp only; first | (with_reducible ((k_here; (with_reducible show wpAny _ _ (pyIter (Value.ref _)) _ _ _); refine Halt.of ?_))) | walk1) | (leave1; (try dsimp only)) | fail "no step"))
              replace hj : j < 4 := hj
              unfold Halt
              rename Fr _ _ _ _ => F9
              obtain ⟨mI9, FI, hkI, hmI⟩ : ∃ mI9, Fr _ _ _ mI9 ∧ (∀ p ∈ ([(Str.ofString "j", .int (j : Int) tj), (Str.ofString "shares", .ref Sh), (Str.ofString "claims", .ref Dc), (Str.ofString "got", .ref Dg), (Str.ofString "heirs", .ref H)] : List (Str × Value)), mI9 p.1 = some p.2) ∧ Same (Str.ofString "j") [(Str.ofString "shares", .ref Sh), (Str.ofString "claims", .ref Dc), (Str.ofString "got", .ref Dg), (Str.ofString "heirs", .ref H)] [Str.ofString "i"] mI9 mJ := ⟨_, F9, by kst_all, by unfold Same; ((intro z h1 h2 h3; (simp only [List.forall_mem_cons, List.not_mem_nil, false_implies, implies_true, and_true, ne_eq] at h2); (try simp only [List.contains_cons, List.contains_nil, Bool.or_false, Bool.or_eq_false_iff, beq_eq_false_iff_ne, ne_eq] at h3); simp [kstB, h1, h2, h3]))⟩
              clear F9
              refine' range_loop (fun _ : Unit => (J, oJ) :: (Sh, listOf vs.toArray nS9) :: nw7) (fun _ => [(Str.ofString "j", .int (j : Int) tj), (Str.ofString "shares", .ref Sh), (Str.ofString "claims", .ref Dc), (Str.ofString "got", .ref Dg), (Str.ofString "heirs", .ref H)]) [] (fun _ _ => True) () (by rfl) (by assumption) (small_range hj) (n := j) (size_range hj) FI (by k_asm) hkI trivial ?turnI ?doneI
              case turnI =>
                clear FI hkI hmI
                intro a ci ti ui hpi tki K oK ha hPi hK Fi Ni
                simp only [Int.zero_add] at Fi
                (try dsimp only at hK); (try dsimp only at Fi)
                replace Ni := news_one (tl := (J, oJ) :: (Sh, listOf vs.toArray nS9) :: nw7) Ni
                obtain ⟨ca, cb, sa, sb, t11, t12, t13, t14, g1, g2, g3, g4, hg⟩ := pair_facts hiC hiS hln hkn hsn htee ha hj
                clear hiC hiS hsS
                have mC8 : (Dc, listOf ys.toArray ys.length) ∈ (K, oK) :: (J, oJ) :: (Sh, listOf vs.toArray nS9) :: nw7 := List.Mem.tail _ (List.Mem.tail _ (List.Mem.tail _ mC7))
                refine hideQ ?_
                intro gI dI o7 QI hQI
                (repeat' (first | (k_unfold; (try dsimp only)) | (k_end; kc_close) | (with_reducible ((k_here; (with_reducible show wpAny _ _ (subscriptTail _ _ (Value.ref _) (Value.int (Nat.cast _) _)) _ _ _); k_dflt (refine' item_led ?z111xsN ?z111xsm ?z111xsa ?z111xsb ?z111xsx ?_; (case z111xsN => k_asm); (case z111xsm => k_mem); (case z111xsa => omega); (case z111xsb => omega); (case z111xsx => assumption))))) | (with_reducible ((k_here; (with_reducible show wpAny _ _ (call (Value.ref 160) _ _) _ _ _); k_dflt (refine' garment_ok ?z79xG ?z79xhe ?_; (case z79xG => walk_at "grd"); (case z79xhe => first | assumption | walk_at "garment"); k_whole; intro h5 tk5 F5 N5; (try k_sweep))))) | walk1 | (dsimp only; first | (with_reducible ((k_here; (with_reducible show wpAny _ _ (subscriptTail _ _ (Value.ref _) (Value.int (Nat.cast _) _)) _ _ _); k_dflt (refine' item_led ?z111xsN ?z111xsm ?z111xsa ?z111xsb ?z111xsx ?_; (case z111xsN => k_asm); (case z111xsm => k_mem); (case z111xsa => omega); (case z111xsb => omega); (case z111xsx => assumption))))) | (with_reducible ((k_here; (with_reducible show wpAny _ _ (call (Value.ref 160) _ _) _ _ _); k_dflt (refine' garment_ok ?z79xG ?z79xhe ?_; (case z79xG => walk_at "grd"); (case z79xhe => first | assumption | walk_at "garment"); k_whole; intro h5 tk5 F5 N5; (try k_sweep))))) | walk1) | (leave1; (try dsimp only)) | fail "no step"))
                exact hQI _ _ _ (turn_end () (by k_asm) (by k_asm) (by exact List.Mem.head _) (by exact fun q hq => List.Mem.tail _ hq) (by exact hK) (by kst_all) (by ((intro z h1 h2 h3; (simp only [List.forall_mem_cons, List.not_mem_nil, false_implies, implies_true, and_true, ne_eq] at h2); (try simp only [List.contains_cons, List.contains_nil, Bool.or_false, Bool.or_eq_false_iff, beq_eq_false_iff_ne, ne_eq] at h3); simp [kstB, h1, h2, h3]))) trivial)
              case doneI =>
                clear FI hkI
                intro ci ui hpi tki hPi Fi Ni
                (try dsimp only at Fi); (try dsimp only at Ni)
                k_steps
                exact hQJ _ _ _ (turn_end () (by k_asm) (by k_asm) (by exact List.Mem.head _) (by exact fun q hq => List.Mem.tail _ hq) (by exact hJ) (by kst_all) (by exact Same.trans (by unfold Same; ((intro z h1 h2 h3; (simp only [List.forall_mem_cons, List.not_mem_nil, false_implies, implies_true, and_true, ne_eq] at h2); (try simp only [List.contains_cons, List.contains_nil, Bool.or_false, Bool.or_eq_false_iff, beq_eq_false_iff_ne, ne_eq] at h3); simp [kstB, h1, h2, h3]))) hmI) trivial)
            case doneJ =>
              clear FJ hkJ
              intro cj uj hpj tkj hPj Fj Nj
              (try dsimp only at Fj); (try dsimp only at Nj)
              k_steps
              exact hQ9 _ _ _ (turn_end () (by k_asm) (by k_asm) (by exact List.Mem.tail _ mI) (by exact fun q hq => List.Mem.tail _ (up7 q hq)) (by exact hI) (by kst_all) (by exact Same.trans (by unfold Same; ((intro z h1 h2 h3; (simp only [List.forall_mem_cons, List.not_mem_nil, false_implies, implies_true, and_true, ne_eq] at h2); (try simp only [List.contains_cons, List.contains_nil, Bool.or_false, Bool.or_eq_false_iff, beq_eq_false_iff_ne, ne_eq] at h3); simp [kstB, h1, h2, h3]))) hmJ) trivial)
          case doneN =>
            clear FN hkN
            intro c u h tk hP Fd Nd
            (try dsimp only at Fd)
            (try dsimp only at Nd)
            k_steps
end
end Mine
theorem PySem.Challenge.cw_sw0010_01_holds : PySem.Challenge.rw_sw0010_01.Holds :=
  Mine.law_holds

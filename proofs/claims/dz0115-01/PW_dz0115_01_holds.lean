import PyProof.Rows.All
import Wide.All
import OpenK.AllK
import Wide.FinOn
import KE.KItemsList
import KE.LcSums
import PySem.Challenge.RW_dz0115_01
open PySem PySem.W PyProof.Rows PySem.Calls
set_option Elab.async false
namespace Mine
set_option maxRecDepth 100000
set_option maxHeartbeats 8000000
open_top hd for PySem.Challenge.rw_dz0115_01
end Mine
namespace Mine
set_option maxRecDepth 100000
set_option maxHeartbeats 8000000

noncomputable abbrev PG : Program := PySem.Challenge.rw_dz0115_01.row.prog
noncomputable abbrev LS : List Str := looseW hd.view_39 [Str.ofString "Statistic", Str.ofString "StatisticDiff"]

/-- what stands at every heap of the call -/
structure Gd (w : World) (mg mb : Str → Option Value) (h : Heap) : Prop where
  X : (hd.heap_39 w.params).In h
  T : TopRead hd.view_39 LS mg mb h
theorem Gd.keeps {w mg mb} {h h' : Heap} (g : Gd w mg mb h) (k : ∀ b o, h.get? b = some o → h'.get? b = some o) : Gd w mg mb h' := ⟨g.X.keeps k, g.T.keeps k⟩

/-- a place in the stack: nothing handled, so deep, so many units -/
abbrev A0 (d u : Nat) : Around := ⟨none, d, none, none, u⟩
theorem wk {α : Type} {M : Model} {A : Around} {t : Sem α} {Q : α → Shared → Prop} {E : Value → Shared → Prop} {s : Shared} (d u : Nat)
    (h : wpAny M (A0 d u) t Q E s) (hh : A.handled = none) (hd : A.depth ≤ d) (hu : A.units ≤ u) : wpAny M A t Q E s :=
  fun Γ p hΓ => h Γ p (And.intro (hΓ.1.trans hh) (And.intro (Nat.le_trans hΓ.2.1 hd) (And.intro (fun l e => by cases e) (And.intro (fun g e => by cases e) (Nat.le_trans hΓ.2.2.2.2 hu)))))

theorem wkc {M : Model} {A : Around} {c : Code} {R : Result → Shared → Prop} {s : Shared} (d u : Nat)
    (h : codeAny M (A0 d u) c R s) (hh : A.handled = none) (hd : A.depth ≤ d) (hu : A.units ≤ u) : codeAny M A c R s :=
  fun Γ p hc hΓ => h Γ p hc (And.intro (hΓ.1.trans hh) (And.intro (Nat.le_trans hΓ.2.1 hd) (And.intro (fun l e => by cases e) (And.intro (fun g e => by cases e) (Nat.le_trans hΓ.2.2.2.2 hu)))))

/-- all that stands stays -/
abbrev Ke (h h' : Heap) : Prop := ∀ b o, h.get? b = some o → h'.get? b = some o
theorem Ke.trans {h h' h'' : Heap} (a : Ke h h') (b : Ke h' h'') : Ke h h'' := fun x o e => b x o (a x o e)
theorem Ke.push (h : Heap) (o : Obj) : Ke h (h.push o) := fun _ _ e => Heap.get?_push_of_some _ e

section
variable {w : World} {mg mb : Str → Option Value} {s : Shared} {d u : Nat}
/-- a def of the text's is entered: its frame is new, nothing else is turned -/
theorem enter {R : Result → Shared → Prop} {name qual : Str} {params : Arguments} {body : List Stmt} {scope : Scope} {dV kV doc pm cdv ct oc : Value} {an od : Option Addr} {osl : Array (Option Value)} {f : Addr} {args : Args} {binds : List (Str × Value)}
    (G : Gd w mg mb s.heap) (ho : (hd.heap_39 w.params).lookup f = some ⟨oc, od, .func (fnOf name qual params body scope dV kV doc pm an cdv ct), osl⟩) (hcd : codeIn (hd.heap_39 w.params) cdv qual = true) (hroom : d < recursionLimit)
    (hbind : BindsTo s (fnOf name qual params body scope dV kV doc pm an cdv ct) args binds) (hloc : ∀ y ∈ binds, scope.names.lookup y.1 = some .local)
    (hcell : ∀ x ∈ scope.names, x.2 ≠ .cell)
    (h : ∀ h₁, Fr s.heap s.heap.objs.size h₁ (fun y => binds.reverse.lookup y) → News s.heap s.heap.objs.size h₁ [] →
      wpAny (model PG w) (A0 (d + 1) (u + 3)) (execs body (envOf qual scope s.heap.objs.size f cdv))
        (fun fl s' => R (.ok (.ret (match fl with | .ret v => v | _ => .none))) s') (fun _ _ => False)
        { s with heap := h₁, toks := s.toks + binds.length })
    (hco : scope.isCoroutine = false := by rfl) (hgen : scope.isGenerator = false := by rfl) (hk : scope.kind = .function := by rfl) :
    codeAny (model PG w) (A0 d u) (.call (.ref f) args) R s := by
  refine codeAny_call_def (fd := fnOf name qual params body scope dV kV doc pm an cdv ct) (body := body) (binds := binds) hroom (G.X _ _ ho) rfl G.T.nolimit (codeRec_of G.X hcd) rfl hbind hcell hloc (fun h₁ hns hk₁ => ?_) hco hgen hk
  exact wpAny_mono (h h₁ ⟨hns, hk₁, Nat.le_refl _⟩ .nil) (fun _ _ x => x) (fun _ _ x => x.elim)
/-- the same, with objects of the ledger that the def may turn -/
theorem enterN {R : Result → Shared → Prop} {name qual : Str} {params : Arguments} {body : List Stmt} {scope : Scope} {dV kV doc pm cdv ct oc : Value} {an od : Option Addr} {osl : Array (Option Value)} {f : Addr} {args : Args} {binds : List (Str × Value)}
    (g : Heap) (news : List (Addr × Obj)) (G : Gd w mg mb g) (hg : Ke g s.heap) (hnew : ∀ p ∈ news, s.heap.get? p.1 = some p.2 ∧ g.get? p.1 = none)
    (ho : (hd.heap_39 w.params).lookup f = some ⟨oc, od, .func (fnOf name qual params body scope dV kV doc pm an cdv ct), osl⟩) (hcd : codeIn (hd.heap_39 w.params) cdv qual = true) (hroom : d < recursionLimit)
    (hbind : BindsTo s (fnOf name qual params body scope dV kV doc pm an cdv ct) args binds) (hloc : ∀ y ∈ binds, scope.names.lookup y.1 = some .local)
    (hcell : ∀ x ∈ scope.names, x.2 ≠ .cell)
    (h : ∀ g' h₁, Ke g g' → Ke g' s.heap → (∀ b o, s.heap.get? b = some o → b ∉ news.map (·.1) → g'.get? b = some o) → Gd w mg mb g' → Fr g' s.heap.objs.size h₁ (fun y => binds.reverse.lookup y) → News g' s.heap.objs.size h₁ news →
      wpAny (model PG w) (A0 (d + 1) (u + 3)) (execs body (envOf qual scope s.heap.objs.size f cdv))
        (fun fl s' => R (.ok (.ret (match fl with | .ret v => v | _ => .none))) s') (fun _ _ => False)
        { s with heap := h₁, toks := s.toks + binds.length })
    (hco : scope.isCoroutine = false := by rfl) (hgen : scope.isGenerator = false := by rfl) (hk : scope.kind = .function := by rfl) :
    codeAny (model PG w) (A0 d u) (.call (.ref f) args) R s := by
  have Gs := G.keeps hg
  refine codeAny_call_def (fd := fnOf name qual params body scope dV kV doc pm an cdv ct) (body := body) (binds := binds) hroom (Gs.X _ _ ho) rfl Gs.T.nolimit (codeRec_of Gs.X hcd) rfl hbind hcell hloc (fun h₁ hns hk₁ => ?_) hco hgen hk
  have k1 : Ke g (hideAll s.heap (news.map (·.1))) := fun b o e => hideAll_get _ (hg b o e) fun hm => by
    obtain ⟨p, hp, rfl⟩ := List.mem_map.mp hm
    rw [(hnew p hp).2] at e; cases e
  refine wpAny_mono (h (hideAll s.heap (news.map (·.1))) h₁ k1 (fun b o e => of_hideAll _ e) (fun b o e hn => hideAll_get _ e hn) (G.keeps k1) ⟨hns, fun b o e => hk₁ b o (of_hideAll _ e), Nat.le_of_eq (hideAll_size _ _)⟩
    (fun p hp => ⟨hk₁ _ _ (hnew p hp).1, Nat.ne_of_lt (Heap.lt_size (hnew p hp).1), hideAll_none _ (List.mem_map_of_mem hp)⟩)) (fun _ _ x => x) (fun _ _ x => x.elim)

/-- an own class is called: a new thing, its __init__ next -/
theorem make_at {Q : Value → Shared → Prop} {E : Value → Shared → Prop} {C fI : Addr} {rest : List Value} (G : Gd w mg mb s.heap) (hm : makesIn (hd.heap_39 w.params) C = true)
    (hi : findIn (hd.heap_39 w.params) (.ref C) "__init__" = some (some (.ref fI))) (hf : typeIn (hd.heap_39 w.params) (.ref fI) = some (.type "function"))
    (h : codeAny (model PG w) (A0 (d + 1) (u + 1)) (.call (.ref fI) ⟨.ref (s.heap.objs.size + 1) :: rest, []⟩)
      (InitBack (s.heap.objs.size + 1) fun r s' => match r with | .ok (.ret v) => Q v s' | .ok _ => False | .error e => E e s') { s with heap := (s.heap.push emptyDict).push (instObj C s.heap.objs.size) }) :
    wpAny (model PG w) (A0 d u) (call (.ref C) rest) Q E s := by
  obtain ⟨hh, g, dr, t, os⟩ := s
  refine wpAny_call (make_core (makes_of G.X hm) (looks_findIn G.X hi) (fun self => bind_fn G.X self hf) (.inl rfl) (wkc (d + 1) (u + 1) h ?_ ?_ ?_))
  · rfl
  · exact Nat.le_of_eq rfl
  · exact Nat.le_of_eq rfl
end
end Mine
namespace Mine
set_option maxRecDepth 100000
set_option maxHeartbeats 8000000
theorem fill0 : (∃ w : World, (hd.heap_39 w.params).In default ∧ PySem.Challenge.rw_dz0115_01.writes = true) → True := by
  k_fill
  exact fun _ => trivial
theorem ge_none (h : Heap) {a : Addr} (ha : h.objs.size ≤ a) : h.get? a = none := by
  cases q : h.get? a with
  | none => rfl
  | some o => exact absurd (Heap.lt_size q) (Nat.not_lt.mpr ha)
def sgn (n : Int) : Str := (if 0 ≤ n then Str.ofString "+" else Str.ofString "-") ++ Str.ofString (toString (if n < 0 then -n else n))
abbrev statObj (dx : Addr) (p : Value) (a : Value) (b : Value) : Obj := ⟨.ref 75, some dx, .plain, #[some b, some a, some p]⟩
/-- place, size, more, count, often -/
abbrev diffObj (dx : Addr) (p a b c e : Value) : Obj := ⟨.ref 134, some dx, .plain, #[some c, some e, some a, some b, some p]⟩
section
variable {w : World} {mg mb : Str → Option Value} {s : Shared} {Q : Value → Shared → Prop} {E : Value → Shared → Prop}
theorem signed_call {n : Int} {t : Tok} (G : Gd w mg mb s.heap) (hn : -10000000000 < n) (hn2 : n < 10000000000)
   (hQ : ∀ h' tk u', Ke s.heap h' → Q (.str (sgn n) u') {s with heap := h', toks := tk}) :
   wpAny (model PG w) (A0 700 3000) (call (.ref 155) [.int n t]) Q E s := by
  have X := G.X
  have T := G.T
  w_on
  refine wpAny_call ?_
  refine enter (f := 155) (binds := [(Str.ofString "number", .int n t)]) G (by k_is) (by k_is) (by decide) (BindsTo.of_eq rfl) (locs rfl) (by decide) ?_
  intro h₁ F N
  repeat' walk1
  · (rename Fr _ _ _ _ => F'); have e : sgn n = Str.ofString "+" ++ Str.ofString (toString (if n < 0 then -n else n)) := by unfold sgn; rw [if_pos (by assumption)]
    rw [← e]; exact hQ _ _ _ F'.keep
  · (rename Fr _ _ _ _ => F'); have e : sgn n = Str.ofString "-" ++ Str.ofString (toString (if n < 0 then -n else n)) := by unfold sgn; rw [if_neg (by assumption)]
    rw [← e]; exact hQ _ _ _ F'.keep
theorem stat_new {p a b : Value} (G : Gd w mg mb s.heap)
   (hQ : ∀ h' tk x dx, Ke s.heap h' → s.heap.objs.size ≤ dx → dx < x → h'.get? x = some (statObj dx p a b) → h'.get? dx = some (dictOf [] 0) → Q (.ref x) {s with heap := h', toks := tk}) :
   wpAny (model PG w) (A0 700 3000) (call (.ref 75) [p, a, b]) Q E s := by
  w_on
  refine make_at (fI := 36) G (by k_is) (by k_is) (by k_is) ?_
  have hx : ((s.heap.push emptyDict).push (instObj 75 s.heap.objs.size)).get? (s.heap.objs.size + 1) = some (instObj 75 s.heap.objs.size) := by heap_get
  have hdx : ((s.heap.push emptyDict).push (instObj 75 s.heap.objs.size)).get? s.heap.objs.size = some (dictOf [] 0) := by heap_get
  have n1 : s.heap.get? (s.heap.objs.size + 1) = none := ge_none _ (Nat.le_succ _)
  have n2 : s.heap.get? s.heap.objs.size = none := ge_none _ (Nat.le_refl _)
  generalize hH : (s.heap.push emptyDict).push (instObj 75 s.heap.objs.size) = H at hx hdx ⊢
  have kH : Ke s.heap H := by rw [← hH]; exact fun b o e => Heap.get?_push_of_some _ (Heap.get?_push_of_some _ e)
  have hle : s.heap.objs.size ≤ s.heap.objs.size := Nat.le_refl _
  have hlt : s.heap.objs.size < s.heap.objs.size + 1 := Nat.lt_succ_self _
  generalize s.heap.objs.size + 1 = x at hx n1 hlt ⊢
  generalize hz : s.heap.objs.size = dx at hx hdx n2 hle hlt ⊢
  replace hle : s.heap.objs.size ≤ dx := by rw [hz]; exact Nat.le_refl _
  clear hz
  refine enterN (f := 36) (binds := [(Str.ofString "self", .ref x), (Str.ofString "traceback", p), (Str.ofString "size", a), (Str.ofString "count", b)]) s.heap [(x, instObj 75 dx), (dx, dictOf [] 0)] G kH ?_ (by k_is) (by k_is) (by decide) (BindsTo.of_eq rfl) (locs rfl) (by decide) ?_
  · intro q hq
    rcases List.mem_cons.mp hq with rfl | hq
    · exact ⟨hx, n1⟩
    · rw [List.mem_singleton.mp hq]; exact ⟨hdx, n2⟩
  intro g' h₁ k1 k2 k3 G' F N
  have X := G'.X
  have T := G'.T
  have hne : x ≠ dx := fun e => by rw [e, hdx] at hx; cases hx
  repeat walk1
  rename Fr _ _ _ _ => F'
  rename News _ _ _ _ => N'
  exact ⟨rfl, hQ _ _ x dx (Ke.trans k1 F'.keep) hle hlt (N' _ (.head _)).1 (N' _ (.tail _ (.head _))).1⟩
theorem diff_new {p a b c e : Value} (G : Gd w mg mb s.heap)
   (hQ : ∀ h' tk x dx, Ke s.heap h' → s.heap.objs.size ≤ dx → dx < x → h'.get? x = some (diffObj dx p a b c e) → h'.get? dx = some (dictOf [] 0) → Q (.ref x) {s with heap := h', toks := tk}) :
   wpAny (model PG w) (A0 700 3000) (call (.ref 134) [p, a, b, c, e]) Q E s := by
  w_on
  refine make_at (fI := 95) G (by k_is) (by k_is) (by k_is) ?_
  have hx : ((s.heap.push emptyDict).push (instObj 134 s.heap.objs.size)).get? (s.heap.objs.size + 1) = some (instObj 134 s.heap.objs.size) := by heap_get
  have hdx : ((s.heap.push emptyDict).push (instObj 134 s.heap.objs.size)).get? s.heap.objs.size = some (dictOf [] 0) := by heap_get
  have n1 : s.heap.get? (s.heap.objs.size + 1) = none := ge_none _ (Nat.le_succ _)
  have n2 : s.heap.get? s.heap.objs.size = none := ge_none _ (Nat.le_refl _)
  generalize hH : (s.heap.push emptyDict).push (instObj 134 s.heap.objs.size) = H at hx hdx ⊢
  have kH : Ke s.heap H := by rw [← hH]; exact fun b o e => Heap.get?_push_of_some _ (Heap.get?_push_of_some _ e)
  have hle : s.heap.objs.size ≤ s.heap.objs.size := Nat.le_refl _
  have hlt : s.heap.objs.size < s.heap.objs.size + 1 := Nat.lt_succ_self _
  generalize s.heap.objs.size + 1 = x at hx n1 hlt ⊢
  generalize hz : s.heap.objs.size = dx at hx hdx n2 hle hlt ⊢
  replace hle : s.heap.objs.size ≤ dx := by rw [hz]; exact Nat.le_refl _
  clear hz
  refine enterN (f := 95) (binds := [(Str.ofString "self", .ref x), (Str.ofString "traceback", p), (Str.ofString "size", a), (Str.ofString "size_diff", b), (Str.ofString "count", c), (Str.ofString "count_diff", e)]) s.heap [(x, instObj 134 dx), (dx, dictOf [] 0)] G kH ?_ (by k_is) (by k_is) (by decide) (BindsTo.of_eq rfl) (locs rfl) (by decide) ?_
  · intro q hq
    rcases List.mem_cons.mp hq with rfl | hq
    · exact ⟨hx, n1⟩
    · rw [List.mem_singleton.mp hq]; exact ⟨hdx, n2⟩
  intro g' h₁ k1 k2 k3 G' F N
  have X := G'.X
  have T := G'.T
  have hne : x ≠ dx := fun e => by rw [e, hdx] at hx; cases hx
  repeat walk1
  rename Fr _ _ _ _ => F'
  rename News _ _ _ _ => N'
  exact ⟨rfl, hQ _ _ x dx (Ke.trans k1 F'.keep) hle hlt (N' _ (.head _)).1 (N' _ (.tail _ (.head _))).1⟩
end
theorem inst_base {h₀ h : Heap} {L x C dx : Addr} {m : Str → Option Value} {od : Obj} {sl : Array (Option Value)} (F : Fr h₀ L h m) (h1 : h₀.get? x = some ⟨.ref C, some dx, .plain, sl⟩) (h2 : h₀.get? dx = some od) :
    InstAt h x ⟨.ref C, some dx, .plain, sl⟩ C (some od) := ⟨F.keep _ _ h1, rfl, rfl, F.keep _ _ h2⟩
local macro_rules | `(tactic| k_inst) => `(tactic| exact inst_base (by k_asm) (by assumption) (by assumption))
theorem q_bool {Q : Value → Shared → Prop} {b b' : Bool} {s : Shared} (h : Q (.bool b) s) (e : b = b') : Q (.bool b') s := e ▸ h
section
variable {w : World} {mg mb : Str → Option Value} {s : Shared} {Q : Value → Shared → Prop} {E : Value → Shared → Prop}
theorem diff_eq_call {x y dx dy : Addr} {tp tp' ta tb tc te ta' tb' tc' te' : Tok} {p p' : Str} {a b c e a' b' c' e' : Int} (G : Gd w mg mb s.heap)
   (hx : s.heap.get? x = some (diffObj dx (.str p tp) (.int a ta) (.int b tb) (.int c tc) (.int e te))) (hdx : s.heap.get? dx = some (dictOf [] 0))
   (hy : s.heap.get? y = some (diffObj dy (.str p' tp') (.int a' ta') (.int b' tb') (.int c' tc') (.int e' te'))) (hdy : s.heap.get? dy = some (dictOf [] 0))
   (hQ : ∀ h' tk, Ke s.heap h' → Q (.bool (decide (p = p' ∧ a = a' ∧ b = b' ∧ c = c' ∧ e = e'))) {s with heap := h', toks := tk}) :
   wpAny (model PG w) (A0 700 3000) (call (.ref 109) [.ref x, .ref y]) Q E s := by
  have X := G.X
  have T := G.T
  w_on
  refine wpAny_call ?_
  refine enter (f := 109) (binds := [(Str.ofString "self", .ref x), (Str.ofString "other", .ref y)]) G (by k_is) (by k_is) (by decide) (BindsTo.of_eq rfl) (locs rfl) (by decide) ?_
  intro h₁ F N
  repeat' walk1
  all_goals (refine q_bool (hQ _ _ F.keep) ?_; first | (simp_all; done) | (simp_all; rfl))
end

abbrev no : Value → Shared → Prop := fun _ _ => False
theorem noted_no {M : Model} {A : Around} {env : Env} {R : Result → Shared → Prop} {e : Value} {s' : Shared} (h : no e s') : notedBy M A env (fun e s' => R (.error e) s') e s' := h.elim
section
variable {w : World} {d u : Nat} {s : Shared} {env : Env} {R : Result → Shared → Prop} {target : Expr} {body : List Stmt} {it : Value}
/-- a for, turn by turn, by what holds between the turns -/
theorem for_core (n : Nat) (Inv : Nat → Shared → Prop)
    (turn : ∀ i s, i < n → Inv i s → wpAny (model PG w) (A0 d u) (pyNext it) (fun r s₁ => ∃ v, r = some v ∧ wpAny (model PG w) (A0 d u) (letOwnedTupleGo target it v) (fun _ s₂ =>
      wpAny (model PG w) (A0 d u) (assign target env v) (fun _ s₃ => wpAny (model PG w) (A0 d u) (execs body env) (fun f s₄ => f = .next ∧ Inv (i + 1) s₄) no s₃) no s₂) no s₁) no s)
    (done : ∀ s, Inv n s → wpAny (model PG w) (A0 d u) (pyNext it) (fun r s₁ => r = none ∧ R (.ok .next) s₁) no s)
    (h0 : Inv 0 s) : codeAny (model PG w) (A0 d u) (.forLoop target it body [] env) R s := by
  refine codeAny_forLoop_any (fun k s' => ∃ i, i ≤ n ∧ k = n + 1 - i ∧ Inv i s') ?_ (n + 1) ⟨0, Nat.zero_le _, rfl, h0⟩
  rintro k s' ⟨i, hi, rfl, hI⟩
  by_cases hlt : i < n
  · refine wpAny_mono (turn i s' hlt hI) (fun r s₁ h₁ => ?_) fun _ _ e => e.elim
    obtain ⟨v, rfl, h₁⟩ := h₁
    refine wpAny_mono h₁ (fun _ s₂ h₂ => wpAny_mono h₂ (fun _ s₃ h₃ => wpAny_mono h₃ (fun f s₄ h₄ => ?_) fun _ _ e => e.elim) fun _ _ e => e.elim) fun _ _ e => e.elim
    obtain ⟨rfl, h₄⟩ := h₄
    exact ⟨n + 1 - (i + 1), by omega, i + 1, hlt, rfl, h₄⟩
  · have : i = n := by omega
    subst this
    refine wpAny_mono (done s' hI) (fun r s₁ h₁ => ?_) fun _ _ e => e.elim
    obtain ⟨rfl, h₁⟩ := h₁
    exact wpAny_execs_nil h₁
end
theorem strKey {w : World} {k : Str} {v : Value} (h : (strKind PG w).is k v = true) : ∃ t, v = .str k t := by
  cases v <;> first | (exfalso; revert h; exact Bool.false_ne_true) | skip
  rename_i x t
  have : x = k := by
    have h' : (x == k) = true := h
    exact eq_of_beq h'
  exact ⟨t, by rw [this]⟩

/-- a turn's end: the loop's own things stand, the word holds -/
def LP (h₀ : Heap) (L : Addr) (own : List (Addr × Obj)) (J : (Str → Option Value) → List (Addr × Obj) → Prop) (s : Shared) (f : Flow) (s₂ : Shared) : Prop :=
  f = .next ∧ ∃ h tk m news, s₂ = { s with heap := h, toks := tk } ∧ Fr h₀ L h m ∧ News h₀ L h (own ++ news) ∧ J m news
theorem LP.end0 {h₀ h : Heap} {L : Addr} {i l : Addr × Obj} {seg : List (Addr × Obj)} {J : (Str → Option Value) → List (Addr × Obj) → Prop} {s : Shared} {m : Str → Option Value} {tk : Nat}
    (F : Fr h₀ L h m) (N : News h₀ L h (i :: l :: seg)) (hJ : J m (l :: seg)) : LP h₀ L [i] J s .next { s with heap := h, toks := tk } :=
  ⟨rfl, h, tk, m, _, rfl, F, N, hJ⟩
theorem LP.end1 {h₀ h : Heap} {L : Addr} {i l a : Addr × Obj} {seg : List (Addr × Obj)} {J : (Str → Option Value) → List (Addr × Obj) → Prop} {s : Shared} {m : Str → Option Value} {tk : Nat}
    (F : Fr h₀ L h m) (N : News h₀ L h (a :: i :: l :: seg)) (hJ : J m (l :: a :: seg)) : LP h₀ L [i] J s .next { s with heap := h, toks := tk } :=
  ⟨rfl, h, tk, m, _, rfl, F, fun p hp => N p (by grind), hJ⟩
theorem LP.end2 {h₀ h : Heap} {L : Addr} {i l a b : Addr × Obj} {seg : List (Addr × Obj)} {J : (Str → Option Value) → List (Addr × Obj) → Prop} {s : Shared} {m : Str → Option Value} {tk : Nat}
    (F : Fr h₀ L h m) (N : News h₀ L h (a :: b :: i :: l :: seg)) (hJ : J m (l :: a :: b :: seg)) : LP h₀ L [i] J s .next { s with heap := h, toks := tk } :=
  ⟨rfl, h, tk, m, _, rfl, F, fun p hp => N p (by grind), hJ⟩
theorem LP.end3 {h₀ h : Heap} {L : Addr} {i l o a b c : Addr × Obj} {seg : List (Addr × Obj)} {J : (Str → Option Value) → List (Addr × Obj) → Prop} {s : Shared} {m : Str → Option Value} {tk : Nat}
    (F : Fr h₀ L h m) (N : News h₀ L h (a :: b :: c :: i :: l :: o :: seg)) (hJ : J m (l :: o :: a :: b :: seg)) : LP h₀ L [i] J s .next { s with heap := h, toks := tk } :=
  ⟨rfl, h, tk, m, _, rfl, F, fun p hp => N p (by grind), hJ⟩
theorem News.drop {h₀ h : Heap} {L : Addr} {a b : List (Addr × Obj)} (N : News h₀ L h (a ++ b)) : News h₀ L h b := fun p hp => N p (List.mem_append_right _ hp)

section
variable {w : World} {d u : Nat} {s : Shared} {env : Env} {R : Result → Shared → Prop} {h₀ : Heap} {m : Str → Option Value} {news : List (Addr × Obj)} {body : List Stmt}
/-- all but one thing of the ledger stays -/
theorem keep_but {h h' : Heap} {L it : Addr} {news : List (Addr × Obj)} {m : Str → Option Value} (hs : ∀ b o, b ≠ it → h.get? b = some o → h'.get? b = some o) (hL : L ≠ it) (h0 : h₀.get? it = none) (hn : ∀ p ∈ news, p.1 ≠ it)
    (F : Fr h₀ L h m) (N : News h₀ L h news) : Fr h₀ L h' m ∧ News h₀ L h' news :=
  ⟨⟨F.ns.at' fun o e => hs _ o hL e, fun b o e => hs b o (fun q => by subst q; rw [h0] at e; cases e) (F.keep b o e), F.above⟩, fun p hp => ⟨hs _ _ (hn p hp) (N p hp).1, (N p hp).2⟩⟩

def KeyIt (io : Obj) (dc : Addr) (i n ep : Nat) : Prop := io.cls = .type "dict_keyiterator" ∧ io.data = .fields #[.ref dc, .int i 0, .int n 0, .int ep 0]
/-- for x in a dict -/
theorem for_keys {x : Str} {px : Pos} {it dc : Addr} {kvs : List (Str × Value)} {ep : Nat} (J : Nat → (Str → Option Value) → List (Addr × Obj) → Prop)
    (hD : ∀ i m news h, J i m news → Fr h₀ env.locals h m → News h₀ env.locals h news → h.DictAt (strKind PG w) dc kvs ep)
    (hne : ∀ i m news, J i m news → ∀ p ∈ news, p.1 ≠ it)
    {io : Obj} (hio : KeyIt io dc 0 kvs.length ep) (F : Fr h₀ env.locals s.heap m) (N : News h₀ env.locals s.heap ((it, io) :: news)) (h0 : J 0 m news)
    (step : ∀ i k v t m₁ news₁ h tk io, kvs[i]? = some (k, v) → J i m₁ news₁ → Fr h₀ env.locals h m₁ → News h₀ env.locals h ((it, io) :: news₁) →
      wpAny (model PG w) (A0 d u) (assign (.Name x px) env (.str k t)) (fun _ s₂ => wpAny (model PG w) (A0 d u) (execs body env) (LP h₀ env.locals [(it, io)] (J (i + 1)) s) no s₂) no { s with heap := h, toks := tk })
    (done : ∀ m₁ news₁ h tk, J kvs.length m₁ news₁ → Fr h₀ env.locals h m₁ → News h₀ env.locals h news₁ → R (.ok .next) { s with heap := h, toks := tk }) :
    codeAny (model PG w) (A0 d u) (.forLoop (.Name x px) (.ref it) body [] env) R s := by
  refine for_core kvs.length (fun i s' => ∃ h tk m₁ news₁ io, s' = { s with heap := h, toks := tk } ∧ J i m₁ news₁ ∧ KeyIt io dc i kvs.length ep ∧ Fr h₀ env.locals h m₁ ∧ News h₀ env.locals h ((it, io) :: news₁)) ?_ ?_
    ⟨s.heap, s.toks, m, news, io, rfl, h0, hio, F, N⟩
  · rintro i s' hi ⟨h, tk, m₁, news₁, io, rfl, hJ, hio, F, N⟩
    have N1 : News h₀ env.locals h news₁ := fun p hp => N p (.tail _ hp)
    obtain ⟨n1, n2, n3⟩ := N _ (.head _)
    have hx : kvs[i]? = some (kvs[i].1, kvs[i].2) := by rw [List.getElem?_eq_getElem hi]
    refine wpAny_pyNext_dict_item (knd := strKind PG w) ⟨io, n1, hio⟩ (hD i m₁ news₁ h hJ F N1) hx fun key h' hkey hit' hs' => ?_
    obtain ⟨t, rfl⟩ := strKey hkey
    obtain ⟨F', N'⟩ := keep_but (fun b o hb e => hs'.extBut b o hb e) (Ne.symm n2) n3 (hne i m₁ news₁ hJ) F N1
    obtain ⟨io', n1', hio'⟩ := hit'
    refine ⟨_, rfl, wpAny_pure ?_⟩
    have N2 : News h₀ env.locals h' ((it, io') :: news₁) := fun p hp => by
      rcases List.mem_cons.mp hp with rfl | hp
      · exact ⟨n1', n2, n3⟩
      · exact N' p hp
    refine wpAny_mono (step i _ _ t m₁ news₁ h' tk io' hx hJ F' N2) (fun _ s₂ h₂ => wpAny_mono h₂ (fun f s₃ h₃ => ?_) fun _ _ e => e) fun _ _ e => e
    obtain ⟨rfl, h₃, tk₃, m₂, news₂, rfl, F₃, N₃, hJ₃⟩ := h₃
    exact ⟨rfl, h₃, tk₃, m₂, news₂, io', rfl, hJ₃, hio', F₃, N₃⟩
  · rintro s' ⟨h, tk, m₁, news₁, io, rfl, hJ, hio, F, N⟩
    have N1 : News h₀ env.locals h news₁ := fun p hp => N p (.tail _ hp)
    obtain ⟨n1, n2, n3⟩ := N _ (.head _)
    refine wpAny_pyNext_dict_end (knd := strKind PG w) rfl ⟨io, n1, hio⟩ (hD _ m₁ news₁ h hJ F N1) (by simp) fun h' he => ?_
    obtain ⟨F', N'⟩ := keep_but (fun b o hb e => he b o hb e) (Ne.symm n2) n3 (hne _ m₁ news₁ hJ) F N1
    exact ⟨rfl, done m₁ news₁ h' tk hJ F' N'⟩
/-- an items' iterator -/
abbrev itemIt (dc : Addr) (i n ep : Nat) (ok ov : Value) : Obj := { cls := .type "dict_itemiterator", dict := none, data := .fields #[.none, .bool false, .ref dc, .int i 0, .int n 0, .int ep 0, ok, ov], slots := #[] }
/-- for a, b in a dict's items -/
theorem for_items {elts : List Expr} {x1} {pt : Pos} {it dc : Addr} {kvs : List (Str × Value)} {ep : Nat} (J : Nat → (Str → Option Value) → List (Addr × Obj) → Prop)
    (hD : ∀ i m news h, J i m news → Fr h₀ env.locals h m → News h₀ env.locals h news → h.DictAt (strKind PG w) dc kvs ep)
    (hne : ∀ i m news, J i m news → ∀ p ∈ news, p.1 ≠ it)
    {ok ov : Value} (F : Fr h₀ env.locals s.heap m) (N : News h₀ env.locals s.heap ((it, itemIt dc 0 kvs.length ep ok ov) :: news)) (h0 : J 0 m news)
    (step : ∀ i k v t tt m₁ news₁ h tk, kvs[i]? = some (k, v) → J i m₁ news₁ → Fr h₀ env.locals h m₁ → News h₀ env.locals h ((t, { cls := .type "tuple", data := .seq #[.str k tt, v] }) :: (it, itemIt dc (i + 1) kvs.length ep (.str k tt) v) :: news₁) →
      (∀ p ∈ news₁, p.1 < t) → it < t →
      wpAny (model PG w) (A0 d u) (assign (.Tuple elts x1 pt) env (.ref t)) (fun _ s₂ => wpAny (model PG w) (A0 d u) (execs body env) (LP h₀ env.locals [(it, itemIt dc (i + 1) kvs.length ep (.str k tt) v)] (J (i + 1)) s) no s₂) no { s with heap := h, toks := tk })
    (done : ∀ m₁ news₁ h tk, J kvs.length m₁ news₁ → Fr h₀ env.locals h m₁ → News h₀ env.locals h news₁ → R (.ok .next) { s with heap := h, toks := tk }) :
    codeAny (model PG w) (A0 d u) (.forLoop (.Tuple elts x1 pt) (.ref it) body [] env) R s := by
  refine for_core kvs.length (fun i s' => ∃ h tk m₁ news₁ ok ov, s' = { s with heap := h, toks := tk } ∧ J i m₁ news₁ ∧ Fr h₀ env.locals h m₁ ∧ News h₀ env.locals h ((it, itemIt dc i kvs.length ep ok ov) :: news₁)) ?_ ?_
    ⟨s.heap, s.toks, m, news, ok, ov, rfl, h0, F, N⟩
  · rintro i s' hi ⟨h, tk, m₁, news₁, ok, ov, rfl, hJ, F, N⟩
    have N1 : News h₀ env.locals h news₁ := fun p hp => N p (.tail _ hp)
    obtain ⟨n1, n2, n3⟩ := N _ (.head _)
    have hx : kvs[i]? = some (kvs[i].1, kvs[i].2) := by rw [List.getElem?_eq_getElem hi]
    refine wpAny_pyNext_items_item (knd := strKind PG w) n1 (hD i m₁ news₁ h hJ F N1) hx fun key h' hkey hit' ht hz hs' => ?_
    obtain ⟨tt, rfl⟩ := strKey hkey
    refine ⟨_, rfl, wpAny_letOwnedTupleGo_items hit' fun h'' hit'' hs'' => ?_⟩
    have k2 : ∀ b o, b ≠ it → h.get? b = some o → h''.get? b = some o := fun b o hb e => Heap.SameBut.extBut hs'' b o hb (hs' b o hb e)
    obtain ⟨F', N'⟩ := keep_but k2 (Ne.symm n2) n3 (hne i m₁ news₁ hJ) F N1
    have hit : it < h.objs.size := Heap.lt_size n1
    have ht2 : h''.get? h.objs.size = some { cls := .type "tuple", data := .seq #[.str kvs[i].1 tt, kvs[i].2] } := Heap.SameBut.extBut hs'' _ _ (Nat.ne_of_gt hit) ht
    have N2 : News h₀ env.locals h'' ((h.objs.size, { cls := .type "tuple", data := .seq #[.str kvs[i].1 tt, kvs[i].2] }) :: (it, itemIt dc (i + 1) kvs.length ep (.str kvs[i].1 tt) kvs[i].2) :: news₁) := fun p hp => by
      rcases List.mem_cons.mp hp with rfl | hp
      · refine ⟨ht2, Nat.ne_of_gt F.ns.lt, ?_⟩
        cases q : h₀.get? h.objs.size with
        | none => rfl
        | some o => exact absurd (Heap.lt_size (F.keep _ _ q)) (Nat.lt_irrefl _)
      · rcases List.mem_cons.mp hp with rfl | hp
        · exact ⟨hit'', n2, n3⟩
        · exact N' p hp
    refine wpAny_mono (step i _ _ h.objs.size tt m₁ news₁ h'' tk hx hJ F' N2 (fun p hp => Heap.lt_size (N1 p hp).1) hit) (fun _ s₂ h₂ => wpAny_mono h₂ (fun f s₃ h₃ => ?_) fun _ _ e => e) fun _ _ e => e
    obtain ⟨rfl, h₃, tk₃, m₂, news₂, rfl, F₃, N₃, hJ₃⟩ := h₃
    exact ⟨rfl, h₃, tk₃, m₂, news₂, _, _, rfl, hJ₃, F₃, N₃⟩
  · rintro s' ⟨h, tk, m₁, news₁, ok, ov, rfl, hJ, F, N⟩
    have N1 : News h₀ env.locals h news₁ := fun p hp => N p (.tail _ hp)
    obtain ⟨n1, n2, n3⟩ := N _ (.head _)
    refine wpAny_pyNext_items_end (knd := strKind PG w) rfl n1 (hD _ m₁ news₁ h hJ F N1) (by simp) fun h' he => ?_
    obtain ⟨F', N'⟩ := keep_but (fun b o hb e => he b o hb e) (Ne.symm n2) n3 (hne _ m₁ news₁ hJ) F N1
    exact ⟨rfl, done m₁ news₁ h' tk hJ F' N'⟩
end
section
variable {w : World} {d u : Nat} {s : Shared} {env : Env} {R : Result → Shared → Prop} {h₀ : Heap} {m : Str → Option Value} {news : List (Addr × Obj)} {body : List Stmt}
theorem keep_but2 {h h' : Heap} {L it e : Addr} {news : List (Addr × Obj)} {m : Str → Option Value} (hs : ∀ b o, b ≠ e → b ≠ it → h.get? b = some o → h'.get? b = some o) (hL : L ≠ it) (hL' : L ≠ e) (h0 : h₀.get? it = none) (h0' : h₀.get? e = none)
    (hn : ∀ p ∈ news, p.1 ≠ it ∧ p.1 ≠ e) (F : Fr h₀ L h m) (N : News h₀ L h news) : Fr h₀ L h' m ∧ News h₀ L h' news :=
  ⟨⟨F.ns.at' fun o x => hs _ o hL' hL x, fun b o x => hs b o (fun q => by subst q; rw [h0'] at x; cases x) (fun q => by subst q; rw [h0] at x; cases x) (F.keep b o x), F.above⟩, fun p hp => ⟨hs _ _ (hn p hp).2 (hn p hp).1 (N p hp).1, (N p hp).2⟩⟩
abbrev enumO (it : Addr) (i : Nat) (x : Value) : Obj := { cls := .type "enumerate", dict := none, data := .fields #[.none, .bool false, .ref it, rawInt i, .none, x], slots := #[] }
def ListIt (io : Obj) (l : Addr) (i : Nat) : Prop := io.cls = .type "list_iterator" ∧ io.data = .fields #[.ref l, .int i 0]
/-- for i, x in enumerate(a list) -/
theorem for_enum {elts : List Expr} {x1} {pt : Pos} {it e l : Addr} {items : Array Value} (J : Nat → (Str → Option Value) → List (Addr × Obj) → Prop)
    (hl : h₀.IsList l items) (hne : ∀ i m news, J i m news → ∀ p ∈ news, p.1 ≠ it ∧ p.1 ≠ e) (hei : e ≠ it)
    {io : Obj} {old : Value} (hio : ListIt io l 0) (F : Fr h₀ env.locals s.heap m) (N : News h₀ env.locals s.heap ((e, enumO it 0 old) :: (it, io) :: news)) (h0 : J 0 m news)
    (step : ∀ i v t tt m₁ news₁ h tk io, items[i]? = some v → J i m₁ news₁ → Fr h₀ env.locals h m₁ → News h₀ env.locals h ((t, { cls := .type "tuple", data := .seq #[.int i tt, v] }) :: (e, enumO it (i + 1) v) :: (it, io) :: news₁) →
      (∀ p ∈ news₁, p.1 < t) → it < t → e < t →
      wpAny (model PG w) (A0 d u) (assign (.Tuple elts x1 pt) env (.ref t)) (fun _ s₂ => wpAny (model PG w) (A0 d u) (execs body env) (LP h₀ env.locals [(e, enumO it (i + 1) v), (it, io)] (J (i + 1)) s) no s₂) no { s with heap := h, toks := tk })
    (done : ∀ m₁ news₁ h tk, J items.size m₁ news₁ → Fr h₀ env.locals h m₁ → News h₀ env.locals h news₁ → R (.ok .next) { s with heap := h, toks := tk }) :
    codeAny (model PG w) (A0 d u) (.forLoop (.Tuple elts x1 pt) (.ref e) body [] env) R s := by
  refine for_core items.size (fun i s' => ∃ h tk m₁ news₁ io old, s' = { s with heap := h, toks := tk } ∧ J i m₁ news₁ ∧ ListIt io l i ∧ Fr h₀ env.locals h m₁ ∧ News h₀ env.locals h ((e, enumO it i old) :: (it, io) :: news₁)) ?_ ?_
    ⟨s.heap, s.toks, m, news, io, old, rfl, h0, hio, F, N⟩
  · rintro i s' hi ⟨h, tk, m₁, news₁, io, old, rfl, hJ, hio, F, N⟩
    have N1 : News h₀ env.locals h news₁ := fun p hp => N p (.tail _ (.tail _ hp))
    obtain ⟨n1, n2, n3⟩ := N _ (.head _)
    obtain ⟨i1, i2, i3⟩ := N _ (.tail _ (.head _))
    have hx : items[i]? = some items[i] := by rw [Array.getElem?_eq_getElem hi]
    refine wpAny_pyNext_enum_item n1 ⟨io, i1, hio⟩ (hl.at fun o e => F.keep _ o e) hx hei fun h' he' hit' ht hz hs' => ?_
    refine ⟨_, rfl, wpAny_letOwnedTupleGo_enum he' fun h'' he'' hs'' => ?_⟩
    have k2 : ∀ b o, b ≠ e → b ≠ it → h.get? b = some o → h''.get? b = some o := fun b o hb hb' x => Heap.SameBut.extBut hs'' b o hb (hs' b o hb hb' x)
    obtain ⟨F', N'⟩ := keep_but2 k2 (Ne.symm i2) (Ne.symm n2) i3 n3 (hne i m₁ news₁ hJ) F N1
    have hel : e < h.objs.size := Heap.lt_size n1
    have hil : it < h.objs.size := Heap.lt_size i1
    obtain ⟨io', j1, hio'⟩ := hit'
    have j2 := Heap.SameBut.extBut hs'' _ _ (Ne.symm hei) j1
    have ht2 := Heap.SameBut.extBut hs'' _ _ (Nat.ne_of_gt hel) ht
    have ee : ((i : Int) + 1) = ((i + 1 : Nat) : Int) := by push_cast; rfl
    rw [ee] at he''
    have N2 : News h₀ env.locals h'' ((h.objs.size, { cls := .type "tuple", data := .seq #[.int i tk, items[i]] }) :: (e, enumO it (i + 1) items[i]) :: (it, io') :: news₁) := fun p hp => by
      rcases List.mem_cons.mp hp with rfl | hp
      · refine ⟨ht2, Nat.ne_of_gt F.ns.lt, ?_⟩
        cases q : h₀.get? h.objs.size with
        | none => rfl
        | some o => exact absurd (Heap.lt_size (F.keep _ _ q)) (Nat.lt_irrefl _)
      · rcases List.mem_cons.mp hp with rfl | hp
        · exact ⟨he'', n2, n3⟩
        · rcases List.mem_cons.mp hp with rfl | hp
          · exact ⟨j2, i2, i3⟩
          · exact N' p hp
    refine wpAny_mono (step i _ h.objs.size tk m₁ news₁ h'' _ io' hx hJ F' N2 (fun p hp => Heap.lt_size (N1 p hp).1) hil hel) (fun _ s₂ h₂ => wpAny_mono h₂ (fun f s₃ h₃ => ?_) fun _ _ e => e) fun _ _ e => e
    obtain ⟨rfl, h₃, tk₃, m₂, news₂, rfl, F₃, N₃, hJ₃⟩ := h₃
    exact ⟨rfl, h₃, tk₃, m₂, news₂, io', _, rfl, hJ₃, hio', F₃, N₃⟩
  · rintro s' ⟨h, tk, m₁, news₁, io, old, rfl, hJ, hio, F, N⟩
    have N1 : News h₀ env.locals h news₁ := fun p hp => N p (.tail _ (.tail _ hp))
    obtain ⟨n1, n2, n3⟩ := N _ (.head _)
    obtain ⟨i1, i2, i3⟩ := N _ (.tail _ (.head _))
    refine wpAny_pyNext_enum_end rfl n1 ⟨io, i1, hio⟩ (hl.at fun o e => F.keep _ o e) (by simp) fun h' he => ?_
    obtain ⟨F', N'⟩ := keep_but (fun b o hb e => he b o hb e) (Ne.symm i2) i3 (fun p hp => (hne _ m₁ news₁ hJ p hp).1) F N1
    exact ⟨rfl, done m₁ news₁ h' tk hJ F' N'⟩
end
section
variable {w : World} {mg mb : Str → Option Value} {s : Shared} {Q : Value → Shared → Prop} {E : Value → Shared → Prop} {h₀ : Heap} {L : Addr} {m : Str → Option Value} {news : List (Addr × Obj)} {d u : Nat}
/-- a contract's end, in the ledger's words -/
theorem keeps_FN {h h' : Heap} (k : Ke h h') (F : Fr h₀ L h m) (N : News h₀ L h news) : Fr h₀ L h' m ∧ News h₀ L h' news :=
  ⟨⟨F.ns.keeps k, fun b o e => k _ _ (F.keep b o e), F.above⟩, fun p hp => ⟨k _ _ (N p hp).1, (N p hp).2⟩⟩
theorem fresh_new {h h' : Heap} {a : Addr} {o : Obj} (F : Fr h₀ L h m) (ha : h.objs.size ≤ a) (ho : h'.get? a = some o) : h'.get? a = some o ∧ a ≠ L ∧ h₀.get? a = none := by
  refine ⟨ho, fun e => ?_, ?_⟩
  · subst e; exact absurd F.ns.lt (Nat.not_lt.mpr ha)
  · cases q : h₀.get? a with
    | none => rfl
    | some o' => exact absurd (Heap.lt_size (F.keep _ _ q)) (Nat.not_lt.mpr ha)
theorem diff_newN {p a b c e : Value} (F : Fr h₀ L s.heap m) (N : News h₀ L s.heap news) (G : Gd w mg mb h₀) (hd : d ≤ 700) (hu : u ≤ 3000)
   (hQ : ∀ h' tk x dx, Fr h₀ L h' m → News h₀ L h' ((x, diffObj dx p a b c e) :: (dx, dictOf [] 0) :: news) → (∀ p ∈ news, p.1 < dx) → dx < x → Q (.ref x) {s with heap := h', toks := tk}) :
   wpAny (model PG w) (A0 d u) (call (.ref 134) [p, a, b, c, e]) Q E s := by
  refine wk 700 3000 (diff_new (G.keeps F.keep) fun h' tk x dx k z1 z2 hx hdx => ?_) rfl hd hu
  obtain ⟨F', N'⟩ := keeps_FN k F N
  refine hQ h' tk x dx F' (fun q hq => ?_) (fun p hp => Nat.lt_of_lt_of_le (Heap.lt_size (N p hp).1) z1) z2
  rcases List.mem_cons.mp hq with rfl | hq
  · exact fresh_new F (Nat.le_trans z1 (Nat.le_of_lt z2)) hx
  · rcases List.mem_cons.mp hq with rfl | hq
    · exact fresh_new F z1 hdx
    · exact N' q hq
theorem stat_newN {p a b : Value} (F : Fr h₀ L s.heap m) (N : News h₀ L s.heap news) (G : Gd w mg mb h₀) (hd : d ≤ 700) (hu : u ≤ 3000)
   (hQ : ∀ h' tk x dx, Fr h₀ L h' m → News h₀ L h' ((x, statObj dx p a b) :: (dx, dictOf [] 0) :: news) → (∀ p ∈ news, p.1 < dx) → dx < x → Q (.ref x) {s with heap := h', toks := tk}) :
   wpAny (model PG w) (A0 d u) (call (.ref 75) [p, a, b]) Q E s := by
  refine wk 700 3000 (stat_new (G.keeps F.keep) fun h' tk x dx k z1 z2 hx hdx => ?_) rfl hd hu
  obtain ⟨F', N'⟩ := keeps_FN k F N
  refine hQ h' tk x dx F' (fun q hq => ?_) (fun p hp => Nat.lt_of_lt_of_le (Heap.lt_size (N p hp).1) z1) z2
  rcases List.mem_cons.mp hq with rfl | hq
  · exact fresh_new F (Nat.le_trans z1 (Nat.le_of_lt z2)) hx
  · rcases List.mem_cons.mp hq with rfl | hq
    · exact fresh_new F z1 hdx
    · exact N' q hq
end

/-- a frame's map: what is known, and the rest -/
def mapOf (l : List (Str × Value)) (u : Str → Option Value) : Str → Option Value := fun y => match l.lookup y with | some v => some v | none => u y
def Knows (m : Str → Option Value) : List (Str × Value) → Prop
  | [] => True
  | p :: r => m p.1 = some p.2 ∧ Knows m r
theorem Knows.eq {m : Str → Option Value} : ∀ {l : List (Str × Value)}, Knows m l → ∀ y v, l.lookup y = some v → m y = some v
  | [], _, _, _, e => by cases e
  | p :: r, h, y, v, e => by
    rw [List.lookup_cons] at e
    cases q : y == p.1 with
    | true => rw [q] at e; cases e; rw [eq_of_beq q]; exact h.1
    | false => rw [q] at e; exact h.2.eq y v e
theorem Knows.map {m : Str → Option Value} {l : List (Str × Value)} (h : Knows m l) : m = mapOf l m := by
  funext y
  unfold mapOf
  split
  · rename_i v e; exact h.eq y v e
  · rfl
theorem Knows.fr {h₀ h : Heap} {L : Addr} {m : Str → Option Value} {l : List (Str × Value)} (k : Knows m l) (F : Fr h₀ L h m) : Fr h₀ L h (mapOf l m) := k.map ▸ F

abbrev Tb := List (Str × Int × Int)
abbrev R5 := Str × Int × Int × Int × Int
def look (t : Tb) (k : Str) : Option (Int × Int) := (t.find? fun r => decide (r.1 = k)).map (·.2)
def less (t : Tb) (k : Str) : Int × Int := (look t k).getD (0, 0)
/-- what is due -/
def due1 (o n : Tb) : List R5 := n.map fun r => (r.1, r.2.1, r.2.1 - (less o r.1).1, r.2.2, r.2.2 - (less o r.1).2)
def due2 (o n : Tb) : List R5 := (o.filter fun r => (look n r.1).isNone).map fun r => (r.1, 0, -r.2.1, 0, -r.2.2)
def dueR (o n : Tb) : List R5 := due1 o n ++ due2 o n

abbrev tupO (vs : Array Value) : Obj := { cls := .type "tuple", data := .seq vs }
/-- a pair of ints at v -/
def Row2 (h : Heap) (v : Value) (r : Int × Int) : Prop := ∃ t ts tc, v = .ref t ∧ h.get? t = some (tupO #[.int r.1 ts, .int r.2 tc])
def Tbl (w : World) (h : Heap) (a : Addr) (tb : Tb) : Prop := (a == sysModules) = false ∧ ∃ kvs, h.DictOf (strKind PG w) a kvs ∧ kvs.length = tb.length ∧ ∀ (i : Nat) k v, kvs[i]? = some (k, v) → ∃ r, tb[i]? = some (k, r) ∧ Row2 h v r
theorem Row2.keeps {h h' : Heap} {v : Value} {r : Int × Int} (x : Row2 h v r) (k : Ke h h') : Row2 h' v r := let ⟨t, ts, tc, e, g⟩ := x; ⟨t, ts, tc, e, k _ _ g⟩
theorem dictOf_keeps {w : World} {h h' : Heap} {a : Addr} {kvs : List (Str × Value)} (x : h.DictOf (strKind PG w) a kvs) (k : Ke h h') : h'.DictOf (strKind PG w) a kvs := let ⟨o, es, ep, ho, r⟩ := x; ⟨o, es, ep, k _ _ ho, r⟩
theorem Tbl.keeps {w : World} {h h' : Heap} {a : Addr} {tb : Tb} (x : Tbl w h a tb) (k : Ke h h') : Tbl w h' a tb :=
  let ⟨z, kvs, a, b, c⟩ := x; ⟨z, kvs, dictOf_keeps a k, b, fun i q v e => let ⟨r, e1, e2⟩ := c i q v e; ⟨r, e1, e2.keeps k⟩⟩

theorem look_get {t : Tb} (hn : (t.map (·.1)).Nodup) {i : Nat} {k : Str} {r : Int × Int} (h : t[i]? = some (k, r)) : look t k = some r := by
  induction t generalizing i with
  | nil => cases h
  | cons x t ih =>
    rw [List.map_cons, List.nodup_cons] at hn
    cases i with
    | zero =>
      have : x = (k, r) := by simpa using h
      subst this
      simp [look]
    | succ j =>
      have h' : t[j]? = some (k, r) := by simpa using h
      have hm : k ∈ t.map (·.1) := List.mem_map.mpr ⟨(k, r), List.mem_of_getElem? h', rfl⟩
      have ne : ¬ x.1 = k := fun e => hn.1 (e ▸ hm)
      have := ih hn.2 h'
      simpa [look, List.find?_cons, ne] using this
theorem look_none {t : Tb} {k : Str} (h : k ∉ t.map (·.1)) : look t k = none := by
  unfold look
  rw [List.find?_eq_none.mpr]; rfl
  intro x hx e
  exact h (List.mem_map.mpr ⟨x, hx, of_decide_eq_true e⟩)
theorem keys_eq {α β γ : Type} {kvs : List (α × β)} {tb : List (α × γ)} (hl : kvs.length = tb.length) (hr : ∀ (i : Nat) k v, kvs[i]? = some (k, v) → ∃ r, tb[i]? = some (k, r)) : kvs.map (·.1) = tb.map (·.1) := by
  apply List.ext_getElem?
  intro i
  rw [List.getElem?_map, List.getElem?_map]
  cases h : kvs[i]? with
  | none =>
    have : tb[i]? = none := by
      rw [List.getElem?_eq_none_iff] at h ⊢; omega
    rw [this]; rfl
  | some kv =>
    obtain ⟨r, e⟩ := hr i kv.1 kv.2 h
    rw [e]; rfl
/-- the table's word of a key -/
theorem Tbl.at {h : Heap} {tb : Tb} {kvs : List (Str × Value)} (hn : (kvs.map (·.1)).Nodup) (hl : kvs.length = tb.length) (hr : ∀ (i : Nat) k v, kvs[i]? = some (k, v) → ∃ r, tb[i]? = some (k, r) ∧ Row2 h v r) (k : Str) :
    (∃ v r, valueAt kvs k = some v ∧ look tb k = some r ∧ Row2 h v r) ∨ (valueAt kvs k = none ∧ look tb k = none) := by
  have hk := keys_eq hl fun i k v e => let ⟨r, a, _⟩ := hr i k v e; ⟨r, a⟩
  by_cases hm : k ∈ kvs.map (·.1)
  · obtain ⟨kv, hkv, rfl⟩ := List.mem_map.mp hm
    obtain ⟨i, hi⟩ := List.getElem?_of_mem hkv
    obtain ⟨r, e1, e2⟩ := hr i kv.1 kv.2 hi
    exact .inl ⟨kv.2, r, valueAt_of_get hn hi, look_get (hk ▸ hn) e1, e2⟩
  · refine .inr ⟨?_, look_none (hk ▸ hm)⟩
    unfold valueAt
    rw [List.find?_eq_none.mpr]; rfl
    intro x hx e
    exact hm (List.mem_map.mpr ⟨x, hx, of_decide_eq_true e⟩)

/-- a tuple of five at v, by the ledger -/
def Five (L : List (Addr × Obj)) (v : Value) (r : R5) : Prop := ∃ t tp ta tb tc te, v = .ref t ∧ (t, tupO #[.str r.1 tp, .int r.2.1 ta, .int r.2.2.1 tb, .int r.2.2.2.1 tc, .int r.2.2.2.2 te]) ∈ L
def FiveH (h : Heap) (v : Value) (r : R5) : Prop := ∃ t tp ta tb tc te, v = .ref t ∧ h.get? t = some (tupO #[.str r.1 tp, .int r.2.1 ta, .int r.2.2.1 tb, .int r.2.2.2.1 tc, .int r.2.2.2.2 te])
/-- item by item -/
def Each {α : Type} (P : Value → α → Prop) (items : Array Value) (rows : List α) : Prop := items.size = rows.length ∧ ∀ (i : Nat) v, items[i]? = some v → ∃ r, rows[i]? = some r ∧ P v r
theorem Each.nil {α : Type} {P : Value → α → Prop} : Each P #[] [] := ⟨rfl, fun i v e => by simp at e⟩
theorem Each.push {α : Type} {P : Value → α → Prop} {items : Array Value} {rows : List α} {v : Value} {r : α} (h : Each P items rows) (hv : P v r) : Each P (items.push v) (rows ++ [r]) := by
  refine ⟨by simp [h.1], fun i x e => ?_⟩
  rw [Array.getElem?_push] at e
  split at e
  · rename_i q
    cases e
    refine ⟨r, ?_, hv⟩
    rw [q, h.1]; simp
  · obtain ⟨r', e1, e2⟩ := h.2 i x e
    refine ⟨r', ?_, e2⟩
    rw [List.getElem?_append_left (List.getElem?_eq_some_iff.mp e1).1]; exact e1
theorem Each.mono {α : Type} {P P' : Value → α → Prop} {items : Array Value} {rows : List α} (h : Each P items rows) (k : ∀ v r, P v r → P' v r) : Each P' items rows :=
  ⟨h.1, fun i v e => let ⟨r, a, b⟩ := h.2 i v e; ⟨r, a, k v r b⟩⟩
theorem Five.mono {L L' : List (Addr × Obj)} {v : Value} {r : R5} (h : Five L v r) (k : ∀ p ∈ L, p ∈ L') : Five L' v r := let ⟨t, a, b, c, d, e, q, z⟩ := h; ⟨t, a, b, c, d, e, q, k _ z⟩
theorem Five.at {h₀ h : Heap} {L : Addr} {N : List (Addr × Obj)} {v : Value} {r : R5} (x : Five N v r) (n : News h₀ L h N) : FiveH h v r := let ⟨t, a, b, c, d, e, q, z⟩ := x; ⟨t, a, b, c, d, e, q, (n _ z).1⟩
theorem due2_next {o n : Tb} {i : Nat} {k : Str} {r : Int × Int} (h : o[i]? = some (k, r)) : due2 (o.take (i + 1)) n = due2 (o.take i) n ++ (if (look n k).isNone then [(k, 0, -r.1, 0, -r.2)] else []) := by
  rw [List.take_add_one, h]
  unfold due2
  rw [List.filter_append, List.map_append]
  congr 1
  simp only [Option.toList_some, List.filter_cons, List.filter_nil]
  split <;> rfl
theorem take_next {α : Type} {l : List α} {i : Nat} {r : α} (h : l[i]? = some r) : l.take (i + 1) = l.take i ++ [r] := by
  rw [List.take_add_one, h]; rfl
theorem forall_cons {α : Type} {P : α → Prop} {a : α} {l : List α} (h : P a) (t : ∀ p ∈ l, P p) : ∀ p ∈ a :: l, P p := fun p hp => by
  rcases List.mem_cons.mp hp with rfl | hp
  · exact h
  · exact t p hp
/-- a Statistic at v -/
def StatH (h : Heap) (v : Value) (k : Str) (r : Int × Int) : Prop := ∃ x dx tp ts tc, v = .ref x ∧ h.get? x = some (statObj dx (.str k tp) (.int r.1 ts) (.int r.2 tc)) ∧ h.get? dx = some (dictOf [] 0)
theorem StatH.keeps {h h' : Heap} {v : Value} {k : Str} {r : Int × Int} (x : StatH h v k r) (q : Ke h h') : StatH h' v k r := let ⟨a, b, c, d, e, z, y1, y2⟩ := x; ⟨a, b, c, d, e, z, q _ _ y1, q _ _ y2⟩
/-- the pairs bear the table's Statistics -/
def STb (h : Heap) (kvs : List (Str × Value)) (tb : Tb) : Prop := kvs.length = tb.length ∧ ∀ (i : Nat) k v, kvs[i]? = some (k, v) → ∃ r, tb[i]? = some (k, r) ∧ StatH h v k r
theorem STb.keeps {h h' : Heap} {kvs : List (Str × Value)} {tb : Tb} (x : STb h kvs tb) (q : Ke h h') : STb h' kvs tb := ⟨x.1, fun i k v e => let ⟨r, a, b⟩ := x.2 i k v e; ⟨r, a, b.keeps q⟩⟩
theorem STb.at {h : Heap} {tb : Tb} {kvs : List (Str × Value)} (x : STb h kvs tb) (hn : (kvs.map (·.1)).Nodup) (k : Str) :
    (∃ v r, valueAt kvs k = some v ∧ look tb k = some r ∧ StatH h v k r) ∨ (valueAt kvs k = none ∧ look tb k = none) := by
  have hk := keys_eq x.1 fun i k v e => let ⟨r, a, _⟩ := x.2 i k v e; ⟨r, a⟩
  by_cases hm : k ∈ kvs.map (·.1)
  · obtain ⟨kv, hkv, rfl⟩ := List.mem_map.mp hm
    obtain ⟨i, hi⟩ := List.getElem?_of_mem hkv
    obtain ⟨r, e1, e2⟩ := x.2 i kv.1 kv.2 hi
    exact .inl ⟨kv.2, r, valueAt_of_get hn hi, look_get (hk ▸ hn) e1, e2⟩
  · refine .inr ⟨?_, look_none (hk ▸ hm)⟩
    unfold valueAt
    rw [List.find?_eq_none.mpr]; rfl
    intro x hx e
    exact hm (List.mem_map.mpr ⟨x, hx, of_decide_eq_true e⟩)
/-- a StatisticDiff at v -/
def DiffL (L : List (Addr × Obj)) (v : Value) (r : R5) : Prop := ∃ x dx tp ta tb tc te, v = .ref x ∧ (x, diffObj dx (.str r.1 tp) (.int r.2.1 ta) (.int r.2.2.1 tb) (.int r.2.2.2.1 tc) (.int r.2.2.2.2 te)) ∈ L ∧ (dx, dictOf [] 0) ∈ L
def DiffH (h : Heap) (v : Value) (r : R5) : Prop := ∃ x dx tp ta tb tc te, v = .ref x ∧ h.get? x = some (diffObj dx (.str r.1 tp) (.int r.2.1 ta) (.int r.2.2.1 tb) (.int r.2.2.2.1 tc) (.int r.2.2.2.2 te)) ∧ h.get? dx = some (dictOf [] 0)
theorem DiffL.mono {L L' : List (Addr × Obj)} {v : Value} {r : R5} (h : DiffL L v r) (k : ∀ p ∈ L, p ∈ L') : DiffL L' v r := let ⟨a, b, c, d, e, f, g, q, z1, z2⟩ := h; ⟨a, b, c, d, e, f, g, q, k _ z1, k _ z2⟩
theorem DiffL.at {h₀ h : Heap} {L : Addr} {N : List (Addr × Obj)} {v : Value} {r : R5} (x : DiffL N v r) (n : News h₀ L h N) : DiffH h v r := let ⟨a, b, c, d, e, f, g, q, z1, z2⟩ := x; ⟨a, b, c, d, e, f, g, q, (n _ z1).1, (n _ z2).1⟩

/-- the pairs whose key is not among ks -/
def restB (kB : List (Str × Value)) (ks : List Str) : List (Str × Value) := kB.filter fun kv => !ks.contains kv.1
theorem restB_nil (kB : List (Str × Value)) : restB kB [] = kB := by
  unfold restB; simp
theorem restB_value {kB : List (Str × Value)} {ks : List Str} {k : Str} (h : k ∉ ks) : valueAt (restB kB ks) k = valueAt kB k := by
  unfold valueAt restB
  rw [List.find?_filter]
  congr 1
  congr 1
  funext a
  by_cases e : a.1 = k
  · subst e
    simp [h]
  · simp [e]
theorem restB_next {kB : List (Str × Value)} {ks : List Str} {k : Str} : without (restB kB ks) k = restB kB (ks ++ [k]) := by
  unfold without restB
  rw [List.filter_filter]
  congr 1
  funext a
  by_cases e : a.1 = k <;> simp [e]
theorem restB_same {kB : List (Str × Value)} {ks : List Str} {k : Str} (h : valueAt kB k = none) : restB kB (ks ++ [k]) = restB kB ks := by
  unfold restB
  apply List.filter_congr
  intro a ha
  have : a.1 ≠ k := by
    intro e
    unfold valueAt at h
    rw [Option.map_eq_none_iff, List.find?_eq_none] at h
    exact h a ha (decide_eq_true e)
  simp [this]
theorem restB_length (kB : List (Str × Value)) (ks : List Str) : (restB kB ks).length ≤ kB.length := List.length_filter_le _ _
theorem take_keys {kvs : List (Str × Value)} {i : Nat} {k : Str} {v : Value} (h : kvs[i]? = some (k, v)) : (kvs.take (i + 1)).map (·.1) = (kvs.take i).map (·.1) ++ [k] := by
  rw [List.take_add_one, h]; simp
theorem take_notin {kvs : List (Str × Value)} (hn : (kvs.map (·.1)).Nodup) {i : Nat} {k : Str} {v : Value} (h : kvs[i]? = some (k, v)) : k ∉ (kvs.take i).map (·.1) := by
  intro hm
  have hlt := (List.getElem?_eq_some_iff.mp h).1
  have h2 : kvs = kvs.take i ++ (k, v) :: kvs.drop (i + 1) := by
    have e : kvs[i] = (k, v) := (List.getElem?_eq_some_iff.mp h).2
    rw [← e, ← List.drop_eq_getElem_cons hlt, List.take_append_drop]
  rw [h2, List.map_append, List.nodup_append] at hn
  exact hn.2.2 k hm k (by simp) rfl
theorem look_isSome (t : Tb) (k : Str) : (look t k).isSome = (t.map (·.1)).contains k := by
  unfold look
  induction t with
  | nil => rfl
  | cons x t ih =>
    rw [List.find?_cons, List.map_cons, List.contains_cons]
    by_cases e : x.1 = k
    · subst e; simp
    · have e' : ¬ k = x.1 := fun q => e q.symm
      simp only [decide_eq_false e, beq_eq_false_iff_ne.mpr e', Bool.false_or]
      exact ih
theorem STb.tail {h : Heap} {kv : Str × Value} {kvs : List (Str × Value)} {r : Str × Int × Int} {tb : Tb} (x : STb h (kv :: kvs) (r :: tb)) : (kv.1 = r.1 ∧ StatH h kv.2 kv.1 r.2) ∧ STb h kvs tb := by
  obtain ⟨hl, hr⟩ := x
  refine ⟨?_, by simpa using hl, fun i k v e => ?_⟩
  · obtain ⟨q, e1, e2⟩ := hr 0 kv.1 kv.2 rfl
    have : r = (kv.1, q) := by simpa using e1
    subst this
    exact ⟨rfl, e2⟩
  · have := hr (i + 1) k v (by simpa using e)
    simpa using this
theorem rest_rows {h : Heap} {ks : List Str} {tA : Tb} (hk : ∀ k, ks.contains k = (look tA k).isSome) : ∀ {kB : List (Str × Value)} {tB : Tb}, STb h kB tB →
    (restB kB ks).length = (due2 tB tA).length ∧ ∀ (i : Nat) k v, (restB kB ks)[i]? = some (k, v) → ∃ r : Int × Int, (due2 tB tA)[i]? = some (k, 0, -r.1, 0, -r.2) ∧ StatH h v k r
  | [], [], _ => ⟨rfl, fun i k v e => by simp [restB] at e⟩
  | [], _ :: _, x => by have := x.1; simp at this
  | _ :: _, [], x => by have := x.1; simp at this
  | kv :: kB, r :: tB, x => by
    obtain ⟨⟨e1, e2⟩, x'⟩ := x.tail
    obtain ⟨l, q⟩ := rest_rows hk x'
    have hh := hk kv.1
    unfold restB due2 at *
    rw [List.filter_cons, List.filter_cons, ← e1, hh]
    cases hs : look tA kv.1 with
    | some _ =>
      simp only [Option.isSome_some, Bool.not_true, Bool.false_eq_true, if_false, Option.isNone_some]
      exact ⟨l, q⟩
    | none =>
      simp only [Option.isSome_none, Bool.not_false, if_true, Option.isNone_none]
      refine ⟨by simpa using l, fun i k v e => ?_⟩
      cases i with
      | zero =>
        have : kv = (k, v) := by simpa using e
        subst this
        refine ⟨r.2, ?_, e2⟩
        simp [← e1]
      | succ j =>
        have := q j k v (by simpa using e)
        simpa using this
def Row2L (L : List (Addr × Obj)) (v : Value) (r : Int × Int) : Prop := ∃ t ts tc, v = .ref t ∧ (t, tupO #[.int r.1 ts, .int r.2 tc]) ∈ L
theorem Row2L.mono {L L' : List (Addr × Obj)} {v : Value} {r : Int × Int} (h : Row2L L v r) (k : ∀ p ∈ L, p ∈ L') : Row2L L' v r := let ⟨t, a, b, q, z⟩ := h; ⟨t, a, b, q, k _ z⟩
theorem Row2L.at {h₀ h : Heap} {L : Addr} {N : List (Addr × Obj)} {v : Value} {r : Int × Int} (x : Row2L N v r) (n : News h₀ L h N) : Row2 h v r := let ⟨t, a, b, q, z⟩ := x; ⟨t, a, b, q, (n _ z).1⟩
/-- the pairs bear the table, by the ledger -/
def TL (L : List (Addr × Obj)) (kvs : List (Str × Value)) (tb : Tb) : Prop := kvs.length = tb.length ∧ ∀ (i : Nat) k v, kvs[i]? = some (k, v) → ∃ r, tb[i]? = some (k, r) ∧ Row2L L v r
theorem TL.mono {L L' : List (Addr × Obj)} {kvs : List (Str × Value)} {tb : Tb} (h : TL L kvs tb) (k : ∀ p ∈ L, p ∈ L') : TL L' kvs tb := ⟨h.1, fun i q v e => let ⟨r, a, b⟩ := h.2 i q v e; ⟨r, a, b.mono k⟩⟩
def putT (tb : Tb) (k : Str) (r : Int × Int) : Tb := if tb.any (fun x => decide (x.1 = k)) then tb.map (fun x => if x.1 = k then (x.1, r) else x) else tb ++ [(k, r)]
theorem any_keys {β γ : Type} {kvs : List (Str × β)} {tb : List (Str × γ)} (h : kvs.map (·.1) = tb.map (·.1)) (k : Str) : kvs.any (fun x => decide (x.1 = k)) = tb.any (fun x => decide (x.1 = k)) := by
  have e : ∀ {δ : Type} (l : List (Str × δ)), l.any (fun x => decide (x.1 = k)) = (l.map (·.1)).any fun y => decide (y = k) := fun l => by rw [List.any_map]; rfl
  rw [e, e, h]
theorem TL.put {L : List (Addr × Obj)} {kvs : List (Str × Value)} {tb : Tb} {k : Str} {v : Value} {r : Int × Int} (h : TL L kvs tb) (hv : Row2L L v r) : TL L (stored kvs k v) (putT tb k r) := by
  have hk := keys_eq h.1 fun i k v e => let ⟨r, a, _⟩ := h.2 i k v e; ⟨r, a⟩
  unfold stored putT
  rw [any_keys hk k]
  split
  · refine ⟨by simp [h.1], fun i q x e => ?_⟩
    rw [List.getElem?_map] at e ⊢
    cases hi : kvs[i]? with
    | none => rw [hi] at e; cases e
    | some kv =>
      rw [hi] at e
      obtain ⟨r', e1, e2⟩ := h.2 i kv.1 kv.2 hi
      rw [e1]
      have e' : (if kv.1 = k then (kv.1, v) else kv) = (q, x) := Option.some.inj e
      show ∃ r_1, some (if kv.1 = k then (kv.1, r) else (kv.1, r')) = some (q, r_1) ∧ _
      by_cases hkk : kv.1 = k
      · rw [if_pos hkk] at e' ⊢; cases e'; exact ⟨r, rfl, hv⟩
      · rw [if_neg hkk] at e' ⊢; cases e'; exact ⟨r', rfl, e2⟩
  · refine ⟨by simp [h.1], fun i q x e => ?_⟩
    by_cases hi : i < kvs.length
    · rw [List.getElem?_append_left hi] at e
      obtain ⟨r', e1, e2⟩ := h.2 i q x e
      exact ⟨r', by rw [List.getElem?_append_left (by rw [← h.1]; exact hi)]; exact e1, e2⟩
    · rw [List.getElem?_append_right (Nat.not_lt.mp hi)] at e
      have hz : i - kvs.length = 0 := by
        cases q : i - kvs.length with
        | zero => rfl
        | succ j => rw [q] at e; simp at e
      rw [hz] at e
      have : (k, v) = (q, x) := by simpa using e
      cases this
      refine ⟨r, ?_, hv⟩
      have : i = tb.length := by have := h.1; omega
      rw [this]; simp
theorem putT_len (tb : Tb) (k : Str) (r : Int × Int) : (putT tb k r).length ≤ tb.length + 1 := by
  unfold putT; split <;> simp
theorem putT_all {P : Str × Int × Int → Prop} {tb : Tb} {k : Str} {r : Int × Int} (h : ∀ x ∈ tb, P x) (hk : P (k, r)) : ∀ x ∈ putT tb k r, P x := by
  unfold putT
  split
  · intro x hx
    obtain ⟨y, hy, rfl⟩ := List.mem_map.mp hx
    split
    · rename_i e; rw [e]; exact hk
    · exact h y hy
  · intro x hx
    rcases List.mem_append.mp hx with hx | hx
    · exact h x hx
    · rw [List.mem_singleton.mp hx]; exact hk
/-- a word that the walk leaves alone -/
def Box (P : Prop) : Prop := P
theorem Box.mk {P : Prop} (h : P) : Box P := h
theorem Box.out {P : Prop} (h : Box P) : P := h
/-- the same, and new -/
def FiveN (h₀ h : Heap) (v : Value) (r : R5) : Prop := ∃ t tp ta tb tc te, v = .ref t ∧ h.get? t = some (tupO #[.str r.1 tp, .int r.2.1 ta, .int r.2.2.1 tb, .int r.2.2.2.1 tc, .int r.2.2.2.2 te]) ∧ h₀.get? t = none
def DiffN (h₀ h : Heap) (v : Value) (r : R5) : Prop := ∃ x dx tp ta tb tc te, v = .ref x ∧ h.get? x = some (diffObj dx (.str r.1 tp) (.int r.2.1 ta) (.int r.2.2.1 tb) (.int r.2.2.2.1 tc) (.int r.2.2.2.2 te)) ∧ h.get? dx = some (dictOf [] 0) ∧ h₀.get? x = none ∧ h₀.get? dx = none
theorem Five.atN {h₀ h : Heap} {N : List (Addr × Obj)} {v : Value} {r : R5} (x : Five N v r) (n : ∀ p ∈ N, h.get? p.1 = some p.2 ∧ h₀.get? p.1 = none) : FiveN h₀ h v r := let ⟨t, a, b, c, d, e, q, z⟩ := x; ⟨t, a, b, c, d, e, q, (n _ z).1, (n _ z).2⟩
theorem DiffL.atN {h₀ h : Heap} {N : List (Addr × Obj)} {v : Value} {r : R5} (x : DiffL N v r) (n : ∀ p ∈ N, h.get? p.1 = some p.2 ∧ h₀.get? p.1 = none) : DiffN h₀ h v r :=
  let ⟨a, b, c, d, e, f, g, q, z1, z2⟩ := x; ⟨a, b, c, d, e, f, g, q, (n _ z1).1, (n _ z2).1, (n _ z1).2, (n _ z2).2⟩
def KeyOk (k : Str) : Prop := ∃ c : Nat, 97 ≤ c ∧ c ≤ 101 ∧ k = ⟨#[c]⟩
def Bd (t : Tb) : Prop := ∀ x ∈ t, KeyOk x.1 ∧ 0 ≤ x.2.1 ∧ x.2.1 ≤ 1000000000 ∧ 0 ≤ x.2.2 ∧ x.2.2 ≤ 100
theorem wpAny_post {α : Type} {M : Model} {A : Around} {t : Sem α} {Q : α → Shared → Prop} {E : Value → Shared → Prop} {s : Shared}
    (h : ∀ P : α → Shared → Prop, (∀ a s, Q a s → P a s) → wpAny M A t P E s) : wpAny M A t Q E s := h Q fun _ _ x => x
theorem turn_post {α β : Type} {M : Model} {A A' : Around} {t : Sem α} {t' : Sem β} {Q : β → Shared → Prop} {E E' : Value → Shared → Prop} {s : Shared}
    (h : ∀ P : β → Shared → Prop, (∀ a s, Q a s → P a s) → wpAny M A t (fun _ s' => wpAny M A' t' P E' s') E s) : wpAny M A t (fun _ s' => wpAny M A' t' Q E' s') E s := h Q fun _ _ x => x
section
variable {w : World} {A : Around} {E : Value → Shared → Prop} {s : Shared} {d : Addr} {kvs : List (Str × Value)} {k : Str} {t : Tok} {v dflt : Value}
theorem d_item {value slice : PySem.Expr} {Q : Value → Shared → Prop} (hD : s.heap.DictOf (strKind PG w) d kvs) (hl : valueAt kvs k = some v) (h : Q v { s with toks := s.toks + 1 })
    (hs : subscripted slice false (.ref d) (.str k t) = operate [.ref d, .str k t] (getItem (.ref d) (.str k t)) := by with_unfolding_all rfl) (hg : ∀ r, letTemporaryGo value (.ref d) r = pure () := by intro _; with_unfolding_all rfl) :
    wpAny (model PG w) A (subscriptTail value slice (.ref d) (.str k t)) Q E s :=
  subscriptTail_builtin hD.typeIs slot_dict_getitem.lookup (wpAny_getItem_of (strKind_is PG w k t) hD.mapOf hl h) hs hg
theorem d_method {name : Str} {id : String} {pl : Sem Bool} {Q : Value × List Value → Shared → Prop} (slot : Slot "dict" name id) (ty : typeOf (.builtin id) = pure (.type "method_descriptor")) (hD : s.heap.DictOf (strKind PG w) d kvs)
    (h : Q (.builtin id, [.ref d]) s) : wpAny (model PG w) A (getMethod (.ref d) name pl) Q E s :=
  getMethod_builtin hD.typeIs PySem.F.plainAttrs_dict slot ty hD.mapOf.noDict h
theorem d_get2 {Q : Value → Shared → Prop} (hD : s.heap.DictOf (strKind PG w) d kvs) (lo : (d == sysModules) = false) (h : Q ((valueAt kvs k).getD dflt) { s with toks := s.toks + 1 }) :
    wpAny (model PG w) A (call (.builtin "dict.get") [.ref d, .str k t, dflt]) Q E s :=
  call_meetsIn PySem.F.slot_dict_get hD.typeIs PySem.F.entry_dict_get (PySem.F.args_dict_get_3 _ _ _) (meets_dict_get_default (strKind PG w) d (strKind_is PG w k t) lo dflt) ⟨_, hD.mapOf, h⟩
theorem d_notin {Q : Value → Shared → Prop} (hD : s.heap.DictOf (strKind PG w) d kvs) (lo : (d == sysModules) = false) (h : Q (.bool (!(valueAt kvs k).isSome)) { s with toks := s.toks + 1 }) :
    wpAny (model PG w) A (compareOp .NotIn (.str k t) (.ref d)) Q E s := wpAny_notIn_of (strKind_is PG w k t) lo hD.mapOf h
theorem d_pop_none {Q : Value → Shared → Prop} (hD : s.heap.DictOf (strKind PG w) d kvs) (lo : (d == sysModules) = false) (hl : valueAt kvs k = none) (h : Q dflt { s with toks := s.toks + 1 }) :
    wpAny (model PG w) A (call (.builtin "dict.pop") [.ref d, .str k t, dflt]) Q E s :=
  call_meetsIn PySem.F.slot_dict_pop hD.typeIs PySem.F.entry_dict_pop (PySem.F.args_dict_pop_3 _ _ _) (meets_dict_pop_default (strKind PG w) d (strKind_is PG w k t) lo rfl dflt) ⟨kvs, hD, hl, h⟩
/-- the view of a dict's items -/
theorem d_items {Q : Value → Shared → Prop} (hD : s.heap.DictOf (strKind PG w) d kvs) (lo : (d == sysModules) = false)
    (h : Q (.ref s.heap.objs.size) { s with heap := s.heap.push { cls := .type "dict_items", data := .fields #[.ref d] } }) :
    wpAny (model PG w) A (call (.builtin "dict.items") [.ref d]) Q E s :=
  call_meetsIn PySem.F.slot_dict_items hD.typeIs PySem.F.entry_dict_items (PySem.F.args_dict_items_1 _) (meets_dict_items (strKind PG w) d lo) ⟨⟨kvs, hD⟩, h⟩
end
theorem fill2 : (∃ w : World, (hd.heap_39 w.params).In default ∧ PySem.Challenge.rw_dz0115_01.writes = true) → True := by
  k_fill
  exact fun _ => trivial
local macro_rules | `(tactic| k_all) => `(tactic| assumption)
section
variable {w : World} {mg mb : Str → Option Value} {s : Shared} {Q : Value → Shared → Prop} {E : Value → Shared → Prop}
theorem due_call {aO aN : Addr} {tO tN : Tb} (G : Gd w mg mb s.heap) (hO : Tbl w s.heap aO tO) (hN : Tbl w s.heap aN tN) (bO : tO.length ≤ 1000) (bN : tN.length ≤ 1000)
   (hQ : ∀ h' tk l items n, Ke s.heap h' → s.heap.get? l = none → h'.get? l = some (listOf items n) → Each (FiveN s.heap h') items (dueR tO tN) → Q (.ref l) {s with heap := h', toks := tk}) :
   wpAny (model PG w) (A0 600 2000) (call (.ref 162) [.ref aO, .ref aN]) Q E s := by
  have X := G.X
  have T := G.T
  w_on
  refine wpAny_call ?_
  refine enter (f := 162) (binds := [(Str.ofString "old", .ref aO), (Str.ofString "new", .ref aN)]) G (by k_is) (by k_is) (by decide) (BindsTo.of_eq rfl) (locs rfl) (by decide) ?_
  intro h₁ F N
  obtain ⟨sO, kO, dO, lO, rO⟩ := hO
  obtain ⟨sN, kN, dN, lN, rN⟩ := hN
  obtain ⟨epN, cN⟩ := Heap.DictOf.dictAt dN
  obtain ⟨epO, cO⟩ := Heap.DictOf.dictAt dO
  iterate 6 walk1
  rename_i l h2 l1 h3 F2 N2
  walk1
  walk1
  refine wpAny_For ?_
  walk1
  refine wpAny_pyIter_dict (knd := strKind PG w) (kvs := kN) (ep := epN) sN (cN.keep F2.keep) ?_
  have F3 := F2.push { cls := .type "dict_keyiterator", data := .fields #[.ref aN, .int 0 0, .int kN.length 0, .int epN 0] }
  have N3 := N2.push F2 { cls := .type "dict_keyiterator", data := .fields #[.ref aN, .int 0 0, .int kN.length 0, .int epN 0] }
  have hlt := ltN (Heap.lt_size (N2 _ (.head _)).1)
  have nN := cN.nodup
  have nO := cO.nodup
  refine for_keys (fun i m news => ∃ items n seg, news = (l, listOf items n) :: seg ∧ Knows m [(Str.ofString "old", .ref aO), (Str.ofString "new", .ref aN), (Str.ofString "due", .ref l)] ∧ (∀ p ∈ seg, p.1 ≠ l) ∧ (∀ p ∈ seg, p.1 ≠ h3.objs.size) ∧
      Each (Five seg) items ((due1 tO tN).take i)) (kvs := kN) (dc := aN) (ep := epN) ?_ ?_ ⟨rfl, rfl⟩ F3 N3 ⟨#[], 0, [], rfl, ⟨rfl, rfl, rfl, trivial⟩, (fun _ h => nomatch h), (fun _ h => nomatch h), Each.nil⟩ ?_ ?_
  · rintro i m news h - F N
    exact cN.keep F.keep
  · rintro i m news ⟨items, n, seg, rfl, -, -, h2, -⟩ p hp
    rcases List.mem_cons.mp hp with rfl | hp
    · exact Nat.ne_of_lt hlt
    · exact h2 p hp
  · rintro i k v t m₁ news₁ h tk io hx ⟨items, n, seg, rfl, hK, hsl, hsi, hE⟩ F N
    refine turn_post fun P hP => ?_
    have F' := hK.fr F
    clear F F2 N2 F3 N3
    obtain ⟨r, hr1, hr2⟩ := rN i k v hx
    obtain ⟨t2, ts, tc, rfl, ht2⟩ := hr2
    have hT2 : IsTup s.heap t2 #[.int r.1 ts, .int r.2 tc] := ⟨_, ht2, rfl, _, rfl⟩
    repeat walk1
    refine d_item (dictOf_keeps dN (Fr.keep (by assumption))) (valueAt_of_get nN hx) ?_
    repeat walk1
    (rename Fr _ _ _ _ => F4)
    refine d_method PySem.F.slot_dict_get PySem.F.type_dict_get (dictOf_keeps dO F4.keep) ?_
    repeat walk1
    (rename Fr _ _ _ _ => F5)
    (rename News _ _ _ _ => N5)
    refine d_get2 (dictOf_keeps dO F5.keep) sO ?_
    obtain ⟨tx, a, b, ta, tb, ex, hTx, hab⟩ : ∃ tx a b ta tb, (valueAt kO k).getD (Value.ref _) = .ref tx ∧ IsTup _ tx #[.int a ta, .int b tb] ∧ less tO k = (a, b) := by
      rcases Tbl.at nO lO rO k with ⟨v', r', hv, hl, tx, ta, tb, rfl, hg⟩ | ⟨hv, hl⟩
      · exact ⟨tx, r'.1, r'.2, ta, tb, by rw [hv]; rfl, ⟨_, F5.keep _ _ hg, rfl, _, rfl⟩, by unfold less; rw [hl]; rfl⟩
      · exact ⟨_, 0, 0, _, _, by rw [hv]; rfl, ⟨_, (N5 _ (.head _)).1, rfl, _, rfl⟩, by unfold less; rw [hl]; rfl⟩
    rw [ex]
    have hsz : items.size ≤ sizeLine := by
      rw [hE.1, List.length_take, sizeLine_eq]
      have : (due1 tO tN).length = tN.length := by simp [due1]
      omega
    repeat walk1
    (rename Fr _ _ _ _ => F6)
    (rename News _ _ _ _ => N6)
    have hd : (due1 tO tN)[i]? = some (k, r.1, r.1 - a, r.2, r.2 - b) := by
      unfold due1
      rw [List.getElem?_map, hr1]
      show some (k, r.1, r.1 - (less tO k).1, r.2, r.2 - (less tO k).2) = _
      rw [hab]
    refine hP _ _ (LP.end2 F6 N6 ⟨_, _, _, rfl, ⟨rfl, rfl, rfl, trivial⟩, ?_, ?_, ?_⟩)
    · exact forall_cons (by k_ne) (forall_cons (by k_ne) hsl)
    · exact forall_cons (by k_ne) (forall_cons (by k_ne) hsi)
    · rw [take_next hd]
      refine Each.push (hE.mono fun v r x => x.mono fun p hp => .tail _ (.tail _ hp)) ⟨_, _, _, _, _, _, rfl, .head _⟩
  · rintro m₁ news₁ h tk ⟨items, n, seg, rfl, hK, hsl, hsi, hE⟩ F N
    have F' := hK.fr F
    clear F2 N2 F3 N3
    dsimp only
    walk1
    refine wpAny_For ?_
    walk1
    refine wpAny_pyIter_dict (knd := strKind PG w) (kvs := kO) (ep := epO) sO (cO.keep F'.keep) ?_
    have F3 := F'.push { cls := .type "dict_keyiterator", data := .fields #[.ref aO, .int 0 0, .int kO.length 0, .int epO 0] }
    have N3 := N.push F' { cls := .type "dict_keyiterator", data := .fields #[.ref aO, .int 0 0, .int kO.length 0, .int epO 0] }
    have hlt2 := ltN (Heap.lt_size (N _ (.head _)).1)
    have hlt3 : ∀ p ∈ seg, p.1 ≠ h.objs.size := fun p hp => Nat.ne_of_lt (Heap.lt_size (N p (.tail _ hp)).1)
    refine for_keys (fun i m news => ∃ items n seg, news = (l, listOf items n) :: seg ∧ Knows m [(Str.ofString "old", .ref aO), (Str.ofString "new", .ref aN), (Str.ofString "due", .ref l)] ∧ (∀ p ∈ seg, p.1 ≠ l) ∧ (∀ p ∈ seg, p.1 ≠ h.objs.size) ∧
        Each (Five seg) items (due1 tO tN ++ due2 (tO.take i) tN)) (kvs := kO) (dc := aO) (ep := epO) ?_ ?_ ⟨rfl, rfl⟩ F3 N3 ⟨items, n, seg, rfl, ⟨rfl, rfl, rfl, trivial⟩, hsl, hlt3, ?_⟩ ?_ ?_
    · rintro i m news h - F N
      exact cO.keep F.keep
    · rintro i m news ⟨items, n, seg, rfl, -, -, h2, -⟩ p hp
      rcases List.mem_cons.mp hp with rfl | hp
      · exact Nat.ne_of_lt hlt2
      · exact h2 p hp
    · have : (due1 tO tN).take kN.length = due1 tO tN := List.take_of_length_le (by simp [due1]; omega)
      rw [this] at hE
      simpa [due2] using hE
    · clear F F' F3 N3 N hE hsl hsi hlt3
      rintro i k v t m₁ news₁ h' tk' io hx ⟨items, n, seg, rfl, hK, hsl, hsi, hE⟩ F N
      refine turn_post fun P hP => ?_
      have F' := hK.fr F
      clear F
      obtain ⟨r, hr1, hr2⟩ := rO i k v hx
      obtain ⟨t2, ts, tc, rfl, ht2⟩ := hr2
      have hT2 : IsTup s.heap t2 #[.int r.1 ts, .int r.2 tc] := ⟨_, ht2, rfl, _, rfl⟩
      repeat walk1
      (rename Fr _ _ _ _ => F4)
      refine d_notin (dictOf_keeps dN F4.keep) sN ?_
      have hsz : items.size ≤ sizeLine := by
        rw [hE.1, List.length_append, sizeLine_eq]
        have h1 : (due1 tO tN).length = tN.length := by simp [due1]
        have h2 : (due2 (tO.take i) tN).length ≤ tO.length := by
          unfold due2
          rw [List.length_map]
          exact Nat.le_trans (List.length_filter_le _ _) (by rw [List.length_take]; omega)
        omega
      rcases Tbl.at nN lN rN k with ⟨v', r', hv, hl, -⟩ | ⟨hv, hl⟩
      · rw [hv]
        simp only [Option.isSome_some, Bool.not_true]
        repeat walk1
        (rename Fr _ _ _ _ => F6)
        (rename News _ _ _ _ => N6)
        refine hP _ _ (LP.end0 F6 N6 ⟨_, _, _, rfl, ⟨rfl, rfl, rfl, trivial⟩, hsl, hsi, ?_⟩)
        rw [due2_next hr1, hl]
        simpa using hE
      · rw [hv]
        simp only [Option.isSome_none, Bool.not_false]
        repeat walk1
        (rename Fr _ _ _ _ => F5)
        refine d_item (dictOf_keeps dO F5.keep) (valueAt_of_get nO hx) ?_
        repeat walk1
        (rename Fr _ _ _ _ => F5)
        refine d_item (dictOf_keeps dO F5.keep) (valueAt_of_get nO hx) ?_
        repeat walk1
        (rename Fr _ _ _ _ => F6)
        (rename News _ _ _ _ => N6)
        refine hP _ _ (LP.end1 F6 N6 ⟨_, _, _, rfl, ⟨rfl, rfl, rfl, trivial⟩, forall_cons (by k_ne) hsl, forall_cons (by k_ne) hsi, ?_⟩)
        rw [due2_next hr1, hl, ← List.append_assoc]
        refine Each.push (hE.mono fun v r x => x.mono fun p hp => .tail _ hp) ⟨_, _, _, _, _, _, rfl, .head _⟩
    · clear F F' F3 N3 N hE hsl hsi hlt3
      rintro m₁ news₁ h' tk' ⟨items, n, seg, rfl, hK, hsl, hsi, hE⟩ F N
      have F' := hK.fr F
      dsimp only
      repeat walk1
      rw [List.take_of_length_le (by omega)] at hE
      exact hQ _ _ _ _ _ F'.keep (N _ (.head _)).2.2 (N _ (.head _)).1 (hE.mono fun v r x => x.atN fun p hp => ⟨(N p (.tail _ hp)).1, (N p (.tail _ hp)).2.2⟩)
end
theorem fill3 : (∃ w : World, (hd.heap_39 w.params).In default ∧ PySem.Challenge.rw_dz0115_01.writes = true) → True := by
  k_fill
  exact fun _ => trivial
section
variable {w : World} {mg mb : Str → Option Value} {s : Shared} {Q : Value → Shared → Prop} {E : Value → Shared → Prop}
theorem cmp_call {aB aA : Addr} {kB kA : List (Str × Value)} {tB tA : Tb} (g : Heap) (G : Gd w mg mb g) (hg : Ke g s.heap) (hgB : g.get? aB = none) (hBA : aA ≠ aB)
   (sB : (aB == sysModules) = false) (sA : (aA == sysModules) = false) (dB : s.heap.DictOf (strKind PG w) aB kB) (dA : s.heap.DictOf (strKind PG w) aA kA) (gS : Heap) (hS : ∀ b o, gS.get? b = some o → s.heap.get? b = some o ∧ b ≠ aB) (rB : STb gS kB tB) (rA : STb gS kA tA) (bB : tB.length ≤ 1000) (bA : tA.length ≤ 1000)
   (hQ : ∀ h' tk l items n, (∀ b o, b ≠ aB → s.heap.get? b = some o → h'.get? b = some o) → s.heap.get? l = none → h'.get? l = some (listOf items n) → h'.DictOf (strKind PG w) aB (restB kB (kA.map (·.1))) →
      Each (DiffN s.heap h') items (dueR tB tA) → Q (.ref l) {s with heap := h', toks := tk}) :
   wpAny (model PG w) (A0 600 2000) (call (.ref 148) [.ref aB, .ref aA]) Q E s := by
  w_on
  obtain ⟨oB, hoB, iB⟩ := Heap.dictOf_iff.mp dB
  refine wpAny_call ?_
  refine enterN (f := 148) (binds := [(Str.ofString "old_group", .ref aB), (Str.ofString "new_group", .ref aA)]) g [(aB, oB)] G hg ?_ (by k_is) (by k_is) (by decide) (BindsTo.of_eq rfl) (locs rfl) (by decide) ?_
  · intro q hq
    rw [List.mem_singleton.mp hq]; exact ⟨hoB, hgB⟩
  intro g' h₁ k1 k2 k3 G' F N
  have X := G'.X
  have T := G'.T
  have kk : ∀ b o, b ≠ aB → s.heap.get? b = some o → g'.get? b = some o := fun b o hb e => k3 b o e (by simpa using hb)
  have kS : Ke gS g' := fun b o e => kk b o (hS b o e).2 (hS b o e).1
  replace rB := rB.keeps kS
  replace rA := rA.keeps kS
  have dA' : g'.DictOf (strKind PG w) aA kA := let ⟨o, es, ep, ho, r⟩ := dA; ⟨o, es, ep, kk _ _ hBA ho, r⟩
  obtain ⟨epA, cA⟩ := Heap.DictOf.dictAt dA'
  have nA := cA.nodup
  have nB : (kB.map (·.1)).Nodup := by obtain ⟨_, _, _, _, _, _, h⟩ := iB; exact h
  iterate 6 walk1
  rename_i l h2 l1 h3 F2 N2
  walk1
  walk1
  refine wpAny_For ?_
  repeat walk1
  refine d_method PySem.F.slot_dict_items PySem.F.type_dict_items (dictOf_keeps dA' F2.keep) ?_
  repeat walk1
  refine d_items (dictOf_keeps dA' F2.keep) sA ?_
  have F2' := F2.push { cls := .type "dict_items", data := .fields #[.ref aA] }
  have N2' : News g' s.heap.objs.size (h3.push { cls := .type "dict_items", data := .fields #[.ref aA] }) [(l, listOf #[] 0), (aB, oB)] := fun p hp => N2.push F2 _ rfl p (.tail _ hp)
  have hv : (h3.push { cls := .type "dict_items", data := .fields #[.ref aA] }).IsItemsView h3.objs.size aA := ⟨_, Heap.get?_push_size _ rfl, rfl, rfl⟩
  dsimp only
  generalize h3.push { cls := .type "dict_items", data := .fields #[.ref aA] } = h4 at F2' N2' hv ⊢
  refine wpAny_pyIter_items (knd := strKind PG w) hv (cA.keep F2'.keep) ?_
  have F3 := F2'.push { cls := .type "dict_itemiterator", data := .fields #[.none, .bool false, .ref aA, .int 0 0, .int kA.length 0, .int epA 0, .none, .none] }
  have N3 := N2'.push F2' { cls := .type "dict_itemiterator", data := .fields #[.none, .bool false, .ref aA, .int 0 0, .int kA.length 0, .int epA 0, .none, .none] }
  have hlt := ltN (Heap.lt_size (N2' _ (.head _)).1)
  have hlt' := ltN (Heap.lt_size (N2' _ (.tail _ (.head _))).1)
  have hsx : l ≠ aB := by k_ne
  clear F2 N2 F2' N2' hv
  refine for_items (fun i m news => ∃ items n oB seg, news = (l, listOf items n) :: (aB, oB) :: seg ∧ oB.IsDictOf (strKind PG w) (restB kB ((kA.take i).map (·.1))) ∧
      Knows m [(Str.ofString "old_group", .ref aB), (Str.ofString "new_group", .ref aA), (Str.ofString "statistics", .ref l)] ∧ (∀ p ∈ seg, p.1 ≠ l) ∧ (∀ p ∈ seg, p.1 ≠ aB) ∧ (∀ p ∈ seg, p.1 ≠ h4.objs.size) ∧
      Each (DiffL seg) items ((due1 tB tA).take i)) (kvs := kA) (dc := aA) (ep := epA) ?_ ?_ F3 N3 ⟨#[], 0, oB, [], rfl, (by show oB.IsDictOf _ (restB kB []); rw [restB_nil]; exact iB), ⟨rfl, rfl, rfl, trivial⟩, (fun _ h => nomatch h), (fun _ h => nomatch h), (fun _ h => nomatch h), Each.nil⟩ ?_ ?_
  · rintro i m news h - F N
    exact cA.keep F.keep
  · rintro i m news ⟨items, n, oB, seg, rfl, -, -, -, -, h2, -⟩
    exact forall_cons (Nat.ne_of_lt hlt) (forall_cons (Nat.ne_of_lt hlt') h2)
  · clear F3 N3 iB
    rintro i k v t tt m₁ news₁ h tk hx ⟨items, n, oB, seg, rfl, iB, hK, hsl, hsb, hsi, hE⟩ F N z1 z2
    refine turn_post fun P hP => ?_
    have F' := hK.fr F
    clear F
    replace z1 := allLt_of z1
    simp only [AllLt] at z1
    replace z2 := ltN z2
    have hni := take_notin nA hx
    have hsB : (restB kB ((kA.take i).map (·.1))).length ≤ sizeLine := by
      rw [sizeLine_eq]
      have := restB_length kB ((kA.take i).map (·.1))
      have := rB.1
      omega
    have hsz : items.size ≤ sizeLine := by
      rw [hE.1, List.length_take, sizeLine_eq]
      have : (due1 tB tA).length = tA.length := by simp [due1]
      omega
    obtain ⟨r, hr1, x, dx, tp, ts, tc, rfl, hx1, hx2⟩ := rA.2 i k v hx
    repeat walk1
    (rename Fr _ _ _ _ => F4)
    (rename News _ _ _ _ => N4)
    rcases STb.at rB nB k with ⟨v', r', hv, hl, y, dy, tp', ts', tc', rfl, hy1, hy2⟩ | ⟨hv, hl⟩
    · have hd : (due1 tB tA)[i]? = some (k, r.1, r.1 - r'.1, r.2, r.2 - r'.2) := by
        unfold due1
        rw [List.getElem?_map, hr1]
        show some (k, r.1, r.1 - (less tB k).1, r.2, r.2 - (less tB k).2) = _
        unfold less
        rw [hl]; rfl
      refine kob_pop F4 N4 (by k_updF) iB (strKind_is PG w k tt) (.inr ⟨_, rfl⟩) rfl (PySem.F.args_dict_pop_3 _ _ _) ((restB_value hni).trans hv) hsB fun h' o' F5 N5 iB' => ?_
      clear F4 N4
      dsimp only at N5
      rw [restB_next, ← take_keys hx] at iB'
      repeat walk1
      (rename Fr _ _ _ _ => F4)
      (rename News _ _ _ _ => N4)
      refine diff_newN F4 N4 G' (by decide) (by decide) fun h' tk' x' dx' F5 N5 z3 z4 => ?_
      clear F4 N4
      replace z3 := allLt_of z3
      simp only [AllLt] at z3
      replace z4 := ltN z4
      repeat walk1
      (rename Fr _ _ _ _ => F6)
      (rename News _ _ _ _ => N6)
      refine hP _ _ (LP.end3 F6 N6 ⟨_, _, _, _, rfl, iB', ⟨rfl, rfl, rfl, trivial⟩, forall_cons (by k_ne) (forall_cons (by k_ne) hsl), forall_cons (by k_ne) (forall_cons (by k_ne) hsb), forall_cons (by k_ne) (forall_cons (by k_ne) hsi), ?_⟩)
      rw [take_next hd]
      exact Each.push (hE.mono fun v r x => x.mono fun p hp => .tail _ (.tail _ hp)) ⟨_, _, _, _, _, _, _, rfl, .head _, .tail _ (.head _)⟩
    · have hd : (due1 tB tA)[i]? = some (k, r.1, r.1, r.2, r.2) := by
        unfold due1
        rw [List.getElem?_map, hr1]
        show some (k, r.1, r.1 - (less tB k).1, r.2, r.2 - (less tB k).2) = _
        unfold less
        rw [hl]
        show some (k, r.1, r.1 - 0, r.2, r.2 - 0) = _
        rw [Int.sub_zero, Int.sub_zero]
      refine d_pop_none (Heap.dictOf_iff.mpr ⟨oB, (N4 _ (.tail _ (.tail _ (.tail _ (.head _))))).1, iB⟩) sB ((restB_value hni).trans hv) ?_
      rw [← restB_same (ks := (kA.take i).map (·.1)) hv, ← take_keys hx] at iB
      repeat walk1
      (rename Fr _ _ _ _ => F4)
      (rename News _ _ _ _ => N4)
      refine diff_newN F4 N4 G' (by decide) (by decide) fun h' tk' x' dx' F5 N5 z3 z4 => ?_
      clear F4 N4
      replace z3 := allLt_of z3
      simp only [AllLt] at z3
      replace z4 := ltN z4
      repeat walk1
      (rename Fr _ _ _ _ => F6)
      (rename News _ _ _ _ => N6)
      refine hP _ _ (LP.end3 F6 N6 ⟨_, _, _, _, rfl, iB, ⟨rfl, rfl, rfl, trivial⟩, forall_cons (by k_ne) (forall_cons (by k_ne) hsl), forall_cons (by k_ne) (forall_cons (by k_ne) hsb), forall_cons (by k_ne) (forall_cons (by k_ne) hsi), ?_⟩)
      rw [take_next hd]
      exact Each.push (hE.mono fun v r x => x.mono fun p hp => .tail _ (.tail _ hp)) ⟨_, _, _, _, _, _, _, rfl, .head _, .tail _ (.head _)⟩
  · clear F3 N3 iB
    rintro m₁ news₁ h tk ⟨items, n, oB, seg, rfl, iB, hK, hsl, hsb, hsi, hE⟩ F N
    have F2 := hK.fr F
    clear F
    rw [List.take_of_length_le (Nat.le_refl _)] at iB
    have : (due1 tB tA).take kA.length = due1 tB tA := List.take_of_length_le (by simp [due1]; have := rA.1; omega)
    rw [this] at hE
    obtain ⟨epB, cB⟩ : ∃ ep, ∀ h : Heap, h.get? aB = some oB → h.DictAt (strKind PG w) aB (restB kB (kA.map (·.1))) ep := by
      obtain ⟨es, ep, r⟩ := iB
      exact ⟨ep, fun h e => ⟨oB, es, e, r⟩⟩
    have cBh := cB h (N _ (.tail _ (.head _))).1
    dsimp only
    walk1
    refine wpAny_For ?_
    walk1
    walk1
    refine d_method PySem.F.slot_dict_items PySem.F.type_dict_items cBh.dictOf ?_
    walk1
    refine d_items (by exact cBh.dictOf) sB ?_
    have F2' := F2.push { cls := .type "dict_items", data := .fields #[.ref aB] }
    have N2' : News g' s.heap.objs.size (h.push { cls := .type "dict_items", data := .fields #[.ref aB] }) ((l, listOf items n) :: (aB, oB) :: seg) := fun p hp => N.push F2 _ rfl p (.tail _ hp)
    have hv : (h.push { cls := .type "dict_items", data := .fields #[.ref aB] }).IsItemsView h.objs.size aB := ⟨_, Heap.get?_push_size _ rfl, rfl, rfl⟩
    dsimp only
    generalize h.push { cls := .type "dict_items", data := .fields #[.ref aB] } = h5 at F2' N2' hv ⊢
    generalize hkR : restB kB (kA.map (·.1)) = kR at cB cBh iB hQ
    refine wpAny_pyIter_items (knd := strKind PG w) hv (cB h5 (N2' _ (.tail _ (.head _))).1) ?_
    have F3 := F2'.push { cls := .type "dict_itemiterator", data := .fields #[.none, .bool false, .ref aB, .int 0 0, .int kR.length 0, .int epB 0, .none, .none] }
    have N3 := N2'.push F2' { cls := .type "dict_itemiterator", data := .fields #[.none, .bool false, .ref aB, .int 0 0, .int kR.length 0, .int epB 0, .none, .none] }
    have hlu := ltN (Heap.lt_size (N2' _ (.head _)).1)
    have hlu' := ltN (Heap.lt_size (N2' _ (.tail _ (.head _))).1)
    have hlu3 : ∀ p ∈ seg, p.1 ≠ h5.objs.size := fun p hp => Nat.ne_of_lt (Heap.lt_size (N2' p (.tail _ (.tail _ hp))).1)
    clear F2 N F2' N2' hv
    -- the rows of what is left
    obtain ⟨lR, rR⟩ : kR.length = (due2 tB tA).length ∧ ∀ (i : Nat) k v, kR[i]? = some (k, v) → ∃ r : Int × Int, (due2 tB tA)[i]? = some (k, 0, -r.1, 0, -r.2) ∧ StatH g' v k r := by
      rw [← hkR]
      refine rest_rows (fun k => ?_) rB
      rw [look_isSome, keys_eq rA.1 fun i k v e => let ⟨r, a, _⟩ := rA.2 i k v e; ⟨r, a⟩]
    refine for_items (fun i m news => ∃ items n seg, news = (l, listOf items n) :: (aB, oB) :: seg ∧
        Knows m [(Str.ofString "old_group", .ref aB), (Str.ofString "new_group", .ref aA), (Str.ofString "statistics", .ref l)] ∧ (∀ p ∈ seg, p.1 ≠ l) ∧ (∀ p ∈ seg, p.1 ≠ aB) ∧ (∀ p ∈ seg, p.1 ≠ h5.objs.size) ∧
        Each (DiffL seg) items (due1 tB tA ++ (due2 tB tA).take i)) (kvs := kR) (dc := aB) (ep := epB) ?_ ?_ F3 N3 ⟨items, n, seg, rfl, ⟨rfl, rfl, rfl, trivial⟩, hsl, hsb, hlu3, by simpa using hE⟩ ?_ ?_
    · rintro i m news h ⟨items, n, seg, rfl, -⟩ F N
      exact cB h (N _ (.tail _ (.head _))).1
    · rintro i m news ⟨items, n, seg, rfl, -, -, -, h2, -⟩
      exact forall_cons (Nat.ne_of_lt hlu) (forall_cons (Nat.ne_of_lt hlu') h2)
    · clear F3 N3 hE hsl hsb hsi hlu3
      rintro i k v t tt m₁ news₁ h tk hx ⟨items, n, seg, rfl, hK, hsl, hsb, hsi, hE⟩ F N z1 z2
      refine turn_post fun P hP => ?_
      have F' := hK.fr F
      clear F
      replace z1 := allLt_of z1
      simp only [AllLt] at z1
      replace z2 := ltN z2
      obtain ⟨r, hd, x, dx, tp, ts, tc, rfl, hx1, hx2⟩ := rR i k v hx
      have hsz : items.size ≤ sizeLine := by
        rw [hE.1, List.length_append, List.length_take, sizeLine_eq]
        have h1 : (due1 tB tA).length = tA.length := by simp [due1]
        have h2 : (due2 tB tA).length ≤ tB.length := by
          unfold due2
          rw [List.length_map]
          exact List.length_filter_le _ _
        omega
      repeat walk1
      (rename Fr _ _ _ _ => F4)
      (rename News _ _ _ _ => N4)
      refine diff_newN F4 N4 G' (by decide) (by decide) fun h' tk' x' dx' F5 N5 z3 z4 => ?_
      clear F4 N4
      replace z3 := allLt_of z3
      simp only [AllLt] at z3
      replace z4 := ltN z4
      repeat walk1
      (rename Fr _ _ _ _ => F6)
      (rename News _ _ _ _ => N6)
      refine hP _ _ (LP.end3 F6 N6 ⟨_, _, _, rfl, ⟨rfl, rfl, rfl, trivial⟩, forall_cons (by k_ne) (forall_cons (by k_ne) hsl), forall_cons (by k_ne) (forall_cons (by k_ne) hsb), forall_cons (by k_ne) (forall_cons (by k_ne) hsi), ?_⟩)
      rw [take_next hd, ← List.append_assoc]
      exact Each.push (hE.mono fun v r x => x.mono fun p hp => .tail _ (.tail _ hp)) ⟨_, _, _, _, _, _, _, rfl, .head _, .tail _ (.head _)⟩
    · clear F3 N3 hE hsl hsb hsi hlu3
      rintro m₁ news₁ h tk ⟨items, n, seg, rfl, hK, hsl, hsb, hsi, hE⟩ F N
      have F' := hK.fr F
      clear F
      dsimp only
      repeat walk1
      rw [lR, List.take_of_length_le (Nat.le_refl _)] at hE
      refine hQ _ _ l items n (fun b o hb e => F'.keep _ _ (kk b o hb e)) ?_ (N _ (.head _)).1 (cB h (N _ (.tail _ (.head _))).1).dictOf (hE.mono fun v r x => x.atN fun p hp => ⟨(N p (.tail _ (.tail _ hp))).1, by
        cases q : s.heap.get? p.1 with
        | none => rfl
        | some o =>
          have e1 := kk p.1 o (hsb p hp) q
          rw [(N p (.tail _ (.tail _ hp))).2.2] at e1; cases e1⟩)
      cases q : s.heap.get? l with
      | none => rfl
      | some o =>
        have e1 := kk l o (fun e => hsx e) q
        rw [(N _ (.head _)).2.2] at e1; cases e1
end
theorem fill4 : (∃ w : World, (hd.heap_39 w.params).In default ∧ PySem.Challenge.rw_dz0115_01.writes = true) → True := by
  k_fill
  exact fun _ => trivial
theorem key_ok {q : Int} (h0 : 0 ≤ q) (h1 : q < 5) : KeyOk (Txt.item (Str.ofString "abcde") q) := by
  have : q = 0 ∨ q = 1 ∨ q = 2 ∨ q = 3 ∨ q = 4 := by omega
  rcases this with rfl | rfl | rfl | rfl | rfl
  · exact ⟨97, by decide, by decide, by decide +kernel⟩
  · exact ⟨98, by decide, by decide, by decide +kernel⟩
  · exact ⟨99, by decide, by decide, by decide +kernel⟩
  · exact ⟨100, by decide, by decide, by decide +kernel⟩
  · exact ⟨101, by decide, by decide, by decide +kernel⟩
theorem News_re {h₀ : Heap} {L : Nat} {h : Heap} {a b e i n o : Addr × Obj} {seg : List (Addr × Obj)} (H : News h₀ L h (a :: b :: e :: i :: n :: o :: seg)) : News h₀ L h (e :: i :: n :: o :: a :: seg) := by
  intro p hp
  exact H p (by grind)
theorem News_re2 {h₀ : Heap} {L : Nat} {h : Heap} {a e i n o : Addr × Obj} {seg : List (Addr × Obj)} (H : News h₀ L h (a :: e :: i :: n :: o :: seg)) : News h₀ L h (e :: i :: n :: o :: a :: seg) := by
  intro p hp
  exact H p (by grind)
section
variable {w : World} {mg mb : Str → Option Value} {s : Shared} {Q : Value → Shared → Prop} {E : Value → Shared → Prop}
theorem tables_call {l : Addr} {vs : List Value} {n : Nat} {ns : List Int} (G : Gd w mg mb s.heap) (hl : s.heap.get? l = some (listOf vs.toArray n)) (hI : IntsAre vs ns) (hb : ns.length ≤ 100)
   (hQ : ∀ h' tk t aO aN tO tN, Ke s.heap h' → IsTup h' t #[.ref aO, .ref aN] → s.heap.get? aO = none → s.heap.get? aN = none → Tbl w h' aO tO → Tbl w h' aN tN → Bd tO → Bd tN → tO.length ≤ 100 → tN.length ≤ 100 → Q (.ref t) {s with heap := h', toks := tk}) :
   wpAny (model PG w) (A0 600 2000) (call (.ref 174) [.ref l]) Q E s := by
  have X := G.X
  have T := G.T
  w_on
  refine wpAny_call ?_
  refine enter (f := 174) (binds := [(Str.ofString "numbers", .ref l)]) G (by k_is) (by k_is) (by decide) (BindsTo.of_eq rfl) (locs rfl) (by decide) ?_
  intro h₁ F N
  iterate 10 walk1
  rename_i aO h2 oO sO iO fO iO' fO' l1 h3 aN h4 oN sN iN fN iN' fN' l2 h5 F2 N2
  clear fO iO' fO' fN iN' fN'
  refine wpAny_For ?_
  repeat walk1
  refine call_enumerate_1 (F2.keep _ _ hl) fun h' he hit hz hk => ?_
  dsimp only at he hit hz hk ⊢
  refine wpAny_pyIter_enum he ?_
  obtain ⟨F3, N3⟩ := keeps_FN hk F2 N2
  have lO := ltN (Heap.lt_size (N2 _ (.tail _ (.head _))).1)
  have lN := ltN (Heap.lt_size (N2 _ (.head _)).1)
  obtain ⟨io, hio1, hio2⟩ := hit
  have N4 : News s.heap s.heap.objs.size h' ((h5.objs.size + 1, enumO h5.objs.size 0 .none) :: (h5.objs.size, io) :: [(aN, oN), (aO, oO)]) := by
    refine forall_cons (fresh_new F2 (Nat.le_succ _) he) (forall_cons (fresh_new F2 (Nat.le_refl _) hio1) N3)
  clear F2 N2 N3
  have hlen := hI.length
  refine for_enum (fun i m news => ∃ oO oN kO kN tO tN seg, news = (aN, oN) :: (aO, oO) :: seg ∧ oO.IsDictOf (strKind PG w) kO ∧ oN.IsDictOf (strKind PG w) kN ∧ TL seg kO tO ∧ TL seg kN tN ∧ tO.length ≤ i ∧ tN.length ≤ i ∧ Bd tO ∧ Bd tN ∧
      Knows m [(Str.ofString "old", .ref aO), (Str.ofString "new", .ref aN)] ∧ (∀ p ∈ seg, p.1 ≠ aO) ∧ (∀ p ∈ seg, p.1 ≠ aN) ∧ (∀ p ∈ seg, p.1 ≠ h5.objs.size) ∧ (∀ p ∈ seg, p.1 ≠ h5.objs.size + 1)) (l := l) (it := h5.objs.size) (items := vs.toArray)
      ⟨_, hl, rfl, _, rfl⟩ ?_ (by k_ne) hio2 F3 N4 ⟨oO, oN, [], [], [], [], [], rfl, iO, iN, ⟨rfl, fun _ _ _ e => by simp at e⟩, ⟨rfl, fun _ _ _ e => by simp at e⟩, Nat.le_refl _, Nat.le_refl _, (fun _ h => nomatch h), (fun _ h => nomatch h), ⟨rfl, rfl, trivial⟩, (fun _ h => nomatch h), (fun _ h => nomatch h), (fun _ h => nomatch h), (fun _ h => nomatch h)⟩ ?_ ?_
  · rintro i m news ⟨oO, oN, kO, kN, tO, tN, seg, rfl, -, -, -, -, -, -, -, -, -, -, -, h1, h2⟩
    exact forall_cons ⟨Nat.ne_of_lt lN, by k_ne⟩ (forall_cons ⟨Nat.ne_of_lt lO, by k_ne⟩ fun p hp => ⟨h1 p hp, h2 p hp⟩)
  · clear F3 N4 iO iN hio1 hio2 he
    rintro i v t tt m₁ news₁ h tk io hx ⟨oO, oN, kO, kN, tO, tN, seg, rfl, iO, iN, rO, rN, bO, bN, dO, dN, hK, hsO, hsN, hs1, hs2⟩ F N z1 z2 z3
    refine turn_post fun P1 hP1 => ?_
    have F' := hK.fr F
    clear F
    replace z1 := allLt_of z1
    simp only [AllLt] at z1
    replace z2 := ltN z2
    replace z3 := ltN z3
    obtain ⟨nn, hnn⟩ : ∃ x, ns[i]? = some x := by
      have := (Array.getElem?_eq_some_iff.mp hx).1
      exact ⟨ns[i]'(by simp at this; omega), by simp⟩
    obtain ⟨tn, hn⟩ := hI.get i nn hnn
    have : v = .int nn tn := by
      have e : vs[i]? = some v := by simpa using hx
      rw [hn] at e; exact (Option.some.inj e).symm
    subst this
    iterate 18 walk1
    have hP : KeyOk (Txt.item (Str.ofString "abcde") (nn.fmod 5)) := key_ok (Int.fmod_nonneg_of_pos _ (by decide)) (Int.fmod_lt_of_pos _ (by decide))
    generalize Txt.item (Str.ofString "abcde") (nn.fmod 5) = P at hP ⊢
    iterate 35 walk1
    have hz0 : 0 ≤ (nn.fdiv 15).fmod 1000000000 := Int.fmod_nonneg_of_pos _ (by decide)
    have hz1 : (nn.fdiv 15).fmod 1000000000 < 1000000000 := Int.fmod_lt_of_pos _ (by decide)
    have hc0 : 0 ≤ ((nn.fdiv 15).fdiv 7).fmod 100 := Int.fmod_nonneg_of_pos _ (by decide)
    have hc1 : ((nn.fdiv 15).fdiv 7).fmod 100 < 100 := Int.fmod_lt_of_pos _ (by decide)
    (rename Fr _ _ _ _ => F4)
    (rename News _ _ _ _ => N4)
    dsimp only at F4 N4 ⊢
    generalize (nn.fdiv 15).fmod 1000000000 = z at hz0 hz1 F4 ⊢
    generalize ((nn.fdiv 15).fdiv 7).fmod 100 = c at hc0 hc1 F4 ⊢
    generalize (nn.fdiv 5).fmod 3 = sd at F4 ⊢
    have hi : i < ns.length := (List.getElem?_eq_some_iff.mp hnn).1
    have hsN' : kN.length ≤ sizeLine := by rw [sizeLine_eq, rN.1]; omega
    have hzO : kO.length ≤ sizeLine := by rw [sizeLine_eq, rO.1]; omega
    refine wpAny_execs_cons ?_
    have tail2 : ∀ {α : Type} {x y : α} {l : List α} {z : α}, z ∈ l → z ∈ x :: y :: l := fun h => .tail _ (.tail _ h)
    refine wpAny_mono (Q := fun f s' => Box (f = .next ∧ ∃ h' tk' m' oN' kN' tN' seg', s' = { s with heap := h', toks := tk' } ∧ Fr s.heap s.heap.objs.size h' m' ∧
        News s.heap s.heap.objs.size h' ((h5.objs.size + 1, enumO h5.objs.size (i + 1) (.int nn tn)) :: (h5.objs.size, io) :: (aN, oN') :: (aO, oO) :: seg') ∧
        (∃ t1 t2 t3 t4 t5, Knows m' [(Str.ofString "old", .ref aO), (Str.ofString "new", .ref aN), (Str.ofString "k", .int i t1), (Str.ofString "side", .int sd t2), (Str.ofString "size", .int z t3), (Str.ofString "count", .int c t4), (Str.ofString "place", .str P t5)]) ∧
        oN'.IsDictOf (strKind PG w) kN' ∧ TL seg' kN' tN' ∧ TL seg' kO tO ∧ tN'.length ≤ i + 1 ∧ Bd tN' ∧ (∀ p ∈ seg', p.1 ≠ aO) ∧ (∀ p ∈ seg', p.1 ≠ aN) ∧ (∀ p ∈ seg', p.1 ≠ h5.objs.size) ∧ (∀ p ∈ seg', p.1 ≠ h5.objs.size + 1))) ?_ ?_ (fun _ _ e => e)
    · refine wpAny_post fun PP hPP => ?_
      iterate 7 walk1
      · repeat walk1
        (rename Fr _ _ _ _ => F5)
        (rename News _ _ _ _ => N5)
        refine kda_set F5 N5 (by k_updF) iN (strKind_is PG w P _) hsN' fun h' o' F6 N6 iN' => ?_
        clear F5 N5
        repeat walk1
        (rename Fr _ _ _ _ => F5)
        (rename News _ _ _ _ => N5)
        refine hPP _ _ ⟨rfl, _, _, _, o', _, putT tN P (z, c), _, rfl, F5, News_re N5, ⟨_, _, _, _, _, rfl, rfl, rfl, rfl, rfl, rfl, rfl, trivial⟩, iN', (rN.mono fun p hp => .tail _ hp).put ⟨_, _, _, rfl, .head _⟩, rO.mono fun p hp => .tail _ hp, Nat.le_trans (putT_len _ _ _) (Nat.succ_le_succ bN), putT_all dN ⟨hP, hz0, by dsimp only; omega, hc0, by dsimp only; omega⟩, forall_cons ?_ hsO, forall_cons ?_ hsN, forall_cons ?_ hs1, forall_cons ?_ hs2⟩
        all_goals k_ne
      · repeat walk1
        (rename Fr _ _ _ _ => F5)
        (rename News _ _ _ _ => N5)
        exact hPP _ _ ⟨rfl, _, _, _, oN, kN, tN, seg, rfl, F5, fun p hp => N5 p (.tail _ hp), ⟨_, _, _, _, _, rfl, rfl, rfl, rfl, rfl, rfl, rfl, trivial⟩, iN, rN, rO, by omega, dN, hsO, hsN, hs1, hs2⟩
    · rintro f s' ⟨rfl, h', tk', m', oN', kN', tN', seg', rfl, F5, N5, ⟨t1, t2, t3, t4, t5, hK'⟩, iN', rN', rO', bN', dN', hsO', hsN', hs1', hs2'⟩
      clear rO rN bN dN hsO hsN hs1 hs2 iN F4 N4 hK
      have F6 := hK'.fr F5
      clear F5
      dsimp only
      iterate 8 walk1
      · iterate 10 walk1
        · repeat walk1
          (rename Fr _ _ _ _ => F5)
          (rename News _ _ _ _ => N5)
          refine kda_set F5 N5 (by k_updF) iO (strKind_is PG w P _) hzO fun h' o' F6 N6 iO' => ?_
          clear F5 N5
          repeat walk1
          (rename Fr _ _ _ _ => F5)
          (rename News _ _ _ _ => N5)
          refine hP1 _ _ ⟨rfl, _, _, _, _, rfl, F5, News_re2 N5, o', oN', _, kN', putT tO P (z + 1, c + 1), tN', _, rfl, iO', iN', (rO'.mono fun p hp => .tail _ hp).put ⟨_, _, _, rfl, .head _⟩, rN'.mono fun p hp => .tail _ hp, Nat.le_trans (putT_len _ _ _) (Nat.succ_le_succ bO), bN', putT_all dO ⟨hP, by dsimp only; omega, by dsimp only; omega, by dsimp only; omega, by dsimp only; omega⟩, dN', ⟨rfl, rfl, trivial⟩, forall_cons ?_ hsO', forall_cons ?_ hsN', forall_cons ?_ hs1', forall_cons ?_ hs2'⟩
          all_goals k_ne
        · repeat walk1
          (rename Fr _ _ _ _ => F5)
          (rename News _ _ _ _ => N5)
          refine kda_set F5 N5 (by k_updF) iO (strKind_is PG w P _) hzO fun h' o' F6 N6 iO' => ?_
          clear F5 N5
          repeat walk1
          (rename Fr _ _ _ _ => F5)
          (rename News _ _ _ _ => N5)
          refine hP1 _ _ ⟨rfl, _, _, _, _, rfl, F5, News_re2 N5, o', oN', _, kN', putT tO P ((i : Int), (i : Int)), tN', _, rfl, iO', iN', (rO'.mono fun p hp => .tail _ hp).put ⟨_, _, _, rfl, .head _⟩, rN'.mono fun p hp => .tail _ hp, Nat.le_trans (putT_len _ _ _) (Nat.succ_le_succ bO), bN', putT_all dO ⟨hP, by dsimp only; omega, by dsimp only; omega, by dsimp only; omega, by dsimp only; omega⟩, dN', ⟨rfl, rfl, trivial⟩, forall_cons ?_ hsO', forall_cons ?_ hsN', forall_cons ?_ hs1', forall_cons ?_ hs2'⟩
          all_goals k_ne
      · repeat walk1
        (rename Fr _ _ _ _ => F5)
        (rename News _ _ _ _ => N5)
        exact hP1 _ _ ⟨rfl, _, _, _, _, rfl, F5, N5, oO, oN', kO, kN', tO, tN', seg', rfl, iO, iN', rO', rN', by omega, bN', dO, dN', ⟨rfl, rfl, trivial⟩, hsO', hsN', hs1', hs2'⟩
  · rintro m₁ news₁ h tk ⟨oO, oN, kO, kN, tO, tN, seg, rfl, iO, iN, rO, rN, bO, bN, dO, dN, hK, hsO, hsN, hs1, hs2⟩ F N
    have F' := hK.fr F
    clear F
    repeat walk1
    (rename Fr _ _ _ _ => F5)
    (rename News _ _ _ _ => N5)
    rw [List.size_toArray] at bO bN
    have e1 := (N5 _ (.tail _ (.tail _ (.head _)))).1
    have e2 := (N5 _ (.tail _ (.head _))).1
    have hseg := News.drop (a := [_, _, _]) N5
    exact hQ _ _ _ _ _ _ _ F5.keep ⟨_, (N5 _ (.head _)).1, rfl, _, rfl⟩ (N5 _ (.tail _ (.tail _ (.head _)))).2.2 (N5 _ (.tail _ (.head _))).2.2 ⟨sO, kO, Heap.dictOf_iff.mpr ⟨_, e1, iO⟩, rO.1, fun i k v e => let ⟨r, a, b⟩ := rO.2 i k v e; ⟨r, a, b.at hseg⟩⟩
      ⟨sN, kN, Heap.dictOf_iff.mpr ⟨_, e2, iN⟩, rN.1, fun i k v e => let ⟨r, a, b⟩ := rN.2 i k v e; ⟨r, a, b.at hseg⟩⟩ dO dN (by omega) (by omega)
end
section
open Builtin Builtin.Str
variable {prog : Program} {w : World} {A : Around} {E : Value → Shared → Prop} {s : Shared}
theorem reprUnder_str {b : Nat} {x : PySem.Str} {t : Tok} {Q : Value → Shared → Prop} (h : Q (.str (reprText x) s.toks) { s with toks := s.toks + 1 }) (hsz : (reprText x).length ≤ sizeLine) :
    wpAny (model prog w) A (pyReprObjUnder b (.str x t)) Q E s := by
  unfold pyReprObjUnder pyReprObjBy
  simp only [cRoomFor, List.any, Value.onHeap, Bool.or_false, Bool.false_eq_true, if_false, pure_bind]
  refine wpAny_bind (wpAny_specialOf (name := Str.ofString "__repr__") (typeIs_str s x t) F.slot_str_repr.lookup ?_)
  refine wpAny_bind (wpAny_callSpecialIfBoundBy?_slotG (name := Str.ofString "__repr__") (typeIs_str s x t) F.slot_str_repr.toG ?_)
  refine call_gives F.slot_str_repr (typeIs_str s x t) F.entry_str_repr (F.args_str_repr_1 _) (gives_str_repr x t) ⟨hsz, ?_⟩
  exact wpAny_bind (wpAny_isInstance (T := "str") (b := true) rfl isSubtype_str_str (wpAny_pure h))
end
theorem repr_key {p : Str} (h : KeyOk p) : reprText p = Str.ofString "'" ++ p ++ Str.ofString "'" := by
  obtain ⟨c, h1, h2, rfl⟩ := h
  have : c = 97 ∨ c = 98 ∨ c = 99 ∨ c = 100 ∨ c = 101 := by omega
  rcases this with rfl | rfl | rfl | rfl | rfl <;> decide +kernel
abbrev diffFmt : Str := ⟨#[60, 83, 116, 97, 116, 105, 115, 116, 105, 99, 68, 105, 102, 102, 32, 116, 114, 97, 99, 101, 98, 97, 99, 107, 61, 37, 114, 32, 115, 105, 122, 101, 61, 37, 105, 32, 40, 37, 43, 105, 41, 32, 99, 111, 117, 110, 116, 61, 37, 105, 32, 40, 37, 43, 105, 41, 62]⟩
abbrev diffText (p : Str) (a m c e : Int) : Str := Str.ofString "<StatisticDiff traceback=" ++ (Str.ofString "'" ++ p ++ Str.ofString "'") ++ Str.ofString " size=" ++ Str.ofString (toString a) ++ Str.ofString " (" ++ sgn m ++ Str.ofString ") count=" ++ Str.ofString (toString c) ++ Str.ofString " (" ++ sgn e ++ Str.ofString ")>"
theorem ofS (x : String) : (Str.ofString x).cps.toList = x.toList.map Char.toNat := by
  rw [Str.ofString_eq_toList]
theorem digit_head (n : Nat) : ∀ c ∈ (Str.ofString (toString (n : Int))).cps.toList, 48 ≤ c ∧ c ≤ 57 := by
  intro c hc
  rw [ofS] at hc
  obtain ⟨ch, hch, rfl⟩ := List.mem_map.mp hc
  have : toString (n : Int) = Nat.repr n := rfl
  rw [this, Nat.repr] at hch
  simp at hch
  have := Nat.isDigit_of_mem_toDigits (by decide) (by decide) hch
  simp [Char.isDigit] at this
  exact ⟨this.1, this.2⟩
theorem pf_sgn (m : Int) : Builtin.Str.percentField { ljust := [43].reverse.contains 45, sign := [43].reverse.contains 43, blank := [43].reverse.contains 32, alt := [43].reverse.contains 35, zero := [43].reverse.contains 48, type := 105 } true (Builtin.Str.percentInt { ljust := [43].reverse.contains 45, sign := [43].reverse.contains 43, blank := [43].reverse.contains 32, alt := [43].reverse.contains 35, zero := [43].reverse.contains 48, type := 105 } (decide (m < 0)) (Str.ofString (toString ((m.natAbs : Nat) : Int))).cps.toList) = some (sgn m).cps.toList := by
  have hd := digit_head m.natAbs
  have e1 : (if m < 0 then -m else m) = ((m.natAbs : Nat) : Int) := by split <;> omega
  unfold sgn
  rw [e1]
  generalize (Str.ofString (toString ((m.natAbs : Nat) : Int))) = dd at hd ⊢
  obtain ⟨ds⟩ := dd
  obtain ⟨ds⟩ := ds
  dsimp only at hd ⊢
  rw [Str.cps_append, Array.toList_append]
  by_cases hm : m < 0
  · have h2 : ¬ 0 ≤ m := by omega
    rw [if_neg h2, ofS]
    simp [Builtin.Str.percentField, Builtin.Str.percentInt, hm]
  · have h2 : 0 ≤ m := by omega
    rw [if_pos h2, ofS]
    have e : Builtin.Str.percentInt { ljust := [43].reverse.contains 45, sign := [43].reverse.contains 43, blank := [43].reverse.contains 32, alt := [43].reverse.contains 35, zero := [43].reverse.contains 48, type := 105 } (decide (m < 0)) ds = ds := by
      simp [Builtin.Str.percentInt, hm]
    rw [e]
    cases ds with
    | nil => decide
    | cons d r =>
      have := hd d (.head _)
      have h45 : d ≠ 45 := by omega
      have h43 : d ≠ 43 := by omega
      simp [Builtin.Str.percentField]
      split
      · rename_i heq; simp at heq; omega
      · rename_i heq; simp at heq; omega
      · simp
theorem log2_lt {n : Int} (h0 : -(10 ^ 9 : Int) ≤ n) (h1 : n ≤ 10 ^ 9) : n.natAbs.log2 < 1920 := by
  have : n.natAbs ≤ 10 ^ 9 := by omega
  by_cases hz : n.natAbs = 0
  · rw [hz]; decide
  · rw [Nat.log2_lt hz]
    exact Nat.lt_of_le_of_lt this (by decide +kernel)
theorem sgn_len {n : Int} (h0 : -(10 ^ 9 : Int) ≤ n) (h1 : n ≤ 10 ^ 9) : (sgn n).length ≤ 11 := by
  unfold sgn
  rw [Str.length_append]
  have a : (if 0 ≤ n then Str.ofString "+" else Str.ofString "-").length = 1 := by split <;> decide +kernel
  have b : (Str.ofString (toString (if n < 0 then -n else n))).length ≤ 10 := toString_length_le (by split <;> omega) (by decide) (by split <;> omega)
  omega
theorem mod_diff {t : Tok} {b : Addr} {tp ta tb tc te : Tok} {p : Str} {a m c e : Int} (hp : KeyOk p) (a0 : 0 ≤ a) (a1 : a ≤ 10 ^ 9) (c0 : 0 ≤ c) (c1 : c ≤ 10 ^ 9) (m0 : -(10 ^ 9 : Int) ≤ m) (m1 : m ≤ 10 ^ 9) (e0 : -(10 ^ 9 : Int) ≤ e) (e1 : e ≤ 10 ^ 9) :
    Meets (Builtin.«str.__mod__» ⟨[.str diffFmt t, .ref b], []⟩) (fun _ R s => IsTup s.heap b #[.str p tp, .int a ta, .int m tb, .int c tc, .int e te] ∧ ∀ t' k, R (.ok (.ret (.str (diffText p a m c e) t'))) { s with toks := k }) := by
  apply KPt.meets_tup
  intro _ _ _ _ _ _ kptH _
  obtain ⟨kptO, kptG, kptC, kptN, kptD⟩ := kptH
  rw [KPt.entry_is_r]
  unfold Builtin.Str.percentFormat
  refine wpAny_bind (wpAny_isInstance (T := "tuple") ⟨kptO, kptG, kptC⟩ KPt.sub_tt ?_)
  refine wpAny_bind (KPt.asStr_ref kptG kptD ?_)
  refine wpAny_bind (KPt.fills_ref ⟨kptO, kptG, kptC⟩ ?_)
  intro _
  kpc_if
  refine wpAny_bind (wpAny_seqItems kptG kptD ?_)
  refine wpAny_bind (wpAny_pure ?_)
  refine wpAny_bind ?_
  rw [KPc.range_list]
  refine KPc.start ?_
  intro _ _
  change wpAny _ _ (forIn _ ([Value.str p tp, Value.int a ta, Value.int m tb, Value.int c tc, Value.int e te], _, ([60, 83, 116, 97, 116, 105, 115, 116, 105, 99, 68, 105, 102, 102, 32, 116, 114, 97, 99, 101, 98, 97, 99, 107, 61, 37, 114, 32, 115, 105, 122, 101, 61, 37, 105, 32, 40, 37, 43, 105, 41, 32, 99, 111, 117, 110, 116, 61, 37, 105, 32, 40, 37, 43, 105, 41, 62] : List Nat)) _) _ _ _
  refine KPc.turn ?_
  kpc_check
  repeat kpc_if
  refine wpAny_pure ?_
  refine KPc.after_add0 (by kpc_g) (y := Str.ofString "<StatisticDiff traceback=") (by decide +kernel) (by kpc_obj) ?_
  intro _ _
  change wpAny _ _ (forIn _ ([Value.str p tp, Value.int a ta, Value.int m tb, Value.int c tc, Value.int e te], _, ([37, 114, 32, 115, 105, 122, 101, 61, 37, 105, 32, 40, 37, 43, 105, 41, 32, 99, 111, 117, 110, 116, 61, 37, 105, 32, 40, 37, 43, 105, 41, 62] : List Nat)) _) _ _ _
  refine KPc.turn ?_
  kpc_check
  repeat kpc_if
  refine wpAny_bind ?_
  refine wpAny_holding ?_
  repeat kpc_if
  refine wpAny_bind ?_
  repeat kpc_if
  have hrl : (Str.ofString "'" ++ p ++ Str.ofString "'").length ≤ 3 := by
    obtain ⟨k, _, _, rfl⟩ := hp
    rw [Str.length_append, Str.length_append]
    exact Nat.le_refl _
  refine reprUnder_str ?_ (by rw [repr_key hp]; exact Nat.le_trans hrl (by rw [sizeLine_eq]; decide))
  rw [repr_key hp]
  refine wpAny_bind (wpAny_of_eq (a := some _) rfl ?_)
  refine wpAny_pure ?_
  refine wpAny_pure ?_
  refine KPc.after_str (by kpc_g) (K := 3) hrl (by kpc_obj) ?_
  intro _ _
  change wpAny _ _ (forIn _ ([Value.int a ta, Value.int m tb, Value.int c tc, Value.int e te], _, ([32, 115, 105, 122, 101, 61, 37, 105, 32, 40, 37, 43, 105, 41, 32, 99, 111, 117, 110, 116, 61, 37, 105, 32, 40, 37, 43, 105, 41, 62] : List Nat)) _) _ _ _
  refine KPc.turn ?_
  kpc_check
  repeat kpc_if
  refine wpAny_pure ?_
  refine KPc.after_add (by kpc_g) (y := Str.ofString " size=") (by decide +kernel) (by kpc_obj) ?_
  intro _ _
  change wpAny _ _ (forIn _ ([Value.int a ta, Value.int m tb, Value.int c tc, Value.int e te], _, ([37, 105, 32, 40, 37, 43, 105, 41, 32, 99, 111, 117, 110, 116, 61, 37, 105, 32, 40, 37, 43, 105, 41, 62] : List Nat)) _) _ _ _
  refine KPc.turn ?_
  kpc_check
  repeat kpc_if
  refine wpAny_bind ?_
  refine wpAny_holding ?_
  repeat kpc_if
  refine wpAny_bind (wpAny_of_eq (a := _) rfl ?_)
  repeat kpc_if
  refine wpAny_bind (wpAny_mkInt ?_)
  refine wpAny_bind (call_gives F.slot_int_repr (typeIs_int _ _ _) F.entry_int_repr (F.args_int_repr_1 _) (gives_int_repr _ _ (KPt.hd2 (log2_lt (by omega) (by omega)))) ⟨int_text_fits (KPt.hd2 (log2_lt (by omega) (by omega))), ?_⟩)
  refine wpAny_bind ?_
  refine wpAny_pure ?_
  refine wpAny_bind ?_
  refine wpAny_pure ?_
  refine wpAny_pure ?_
  refine wpAny_pure ?_
  refine KPc.after_int (by kpc_g) rfl (Or.inr (Or.inl rfl)) rfl a0 (by omega) rfl (by kpc_none) ?_
  intro _ _
  change wpAny _ _ (forIn _ ([Value.int m tb, Value.int c tc, Value.int e te], _, ([32, 40, 37, 43, 105, 41, 32, 99, 111, 117, 110, 116, 61, 37, 105, 32, 40, 37, 43, 105, 41, 62] : List Nat)) _) _ _ _
  refine KPc.turn ?_
  kpc_check
  repeat kpc_if
  refine wpAny_pure ?_
  refine KPc.after_add (by kpc_g) (y := Str.ofString " (") (by decide +kernel) (by kpc_obj) ?_
  intro _ _
  change wpAny _ _ (forIn _ ([Value.int m tb, Value.int c tc, Value.int e te], _, ([37, 43, 105, 41, 32, 99, 111, 117, 110, 116, 61, 37, 105, 32, 40, 37, 43, 105, 41, 62] : List Nat)) _) _ _ _
  refine KPc.turn ?_
  kpc_check
  repeat kpc_if
  refine wpAny_bind ?_
  refine wpAny_holding ?_
  repeat kpc_if
  refine wpAny_bind (wpAny_of_eq (a := _) rfl ?_)
  repeat kpc_if
  refine wpAny_bind (wpAny_mkInt ?_)
  refine wpAny_bind (call_gives F.slot_int_repr (typeIs_int _ _ _) F.entry_int_repr (F.args_int_repr_1 _) (gives_int_repr _ _ (KPt.hd2 (log2_lt m0 m1))) ⟨int_text_fits (KPt.hd2 (log2_lt m0 m1)), ?_⟩)
  refine wpAny_bind ?_
  refine wpAny_pure ?_
  refine wpAny_bind ?_
  refine wpAny_pure ?_
  refine wpAny_pure ?_
  conv => arg 3; dsimp only
  rw [pf_sgn]
  refine wpAny_pure ?_
  refine KPc.after_str (by kpc_g) (K := 11) (sgn_len m0 m1) (by kpc_obj) ?_
  intro _ _
  change wpAny _ _ (forIn _ ([Value.int c tc, Value.int e te], _, ([41, 32, 99, 111, 117, 110, 116, 61, 37, 105, 32, 40, 37, 43, 105, 41, 62] : List Nat)) _) _ _ _
  refine KPc.turn ?_
  kpc_check
  repeat kpc_if
  refine wpAny_pure ?_
  refine KPc.after_add (by kpc_g) (y := Str.ofString ") count=") (by decide +kernel) (by kpc_obj) ?_
  intro _ _
  change wpAny _ _ (forIn _ ([Value.int c tc, Value.int e te], _, ([37, 105, 32, 40, 37, 43, 105, 41, 62] : List Nat)) _) _ _ _
  refine KPc.turn ?_
  kpc_check
  repeat kpc_if
  refine wpAny_bind ?_
  refine wpAny_holding ?_
  repeat kpc_if
  refine wpAny_bind (wpAny_of_eq (a := _) rfl ?_)
  repeat kpc_if
  refine wpAny_bind (wpAny_mkInt ?_)
  refine wpAny_bind (call_gives F.slot_int_repr (typeIs_int _ _ _) F.entry_int_repr (F.args_int_repr_1 _) (gives_int_repr _ _ (KPt.hd2 (log2_lt (by omega) (by omega)))) ⟨int_text_fits (KPt.hd2 (log2_lt (by omega) (by omega))), ?_⟩)
  refine wpAny_bind ?_
  refine wpAny_pure ?_
  refine wpAny_bind ?_
  refine wpAny_pure ?_
  refine wpAny_pure ?_
  refine wpAny_pure ?_
  refine KPc.after_int (by kpc_g) rfl (Or.inr (Or.inl rfl)) rfl c0 (by omega) rfl (by kpc_none) ?_
  intro _ _
  change wpAny _ _ (forIn _ ([Value.int e te], _, ([32, 40, 37, 43, 105, 41, 62] : List Nat)) _) _ _ _
  refine KPc.turn ?_
  kpc_check
  repeat kpc_if
  refine wpAny_pure ?_
  refine KPc.after_add (by kpc_g) (y := Str.ofString " (") (by decide +kernel) (by kpc_obj) ?_
  intro _ _
  change wpAny _ _ (forIn _ ([Value.int e te], _, ([37, 43, 105, 41, 62] : List Nat)) _) _ _ _
  refine KPc.turn ?_
  kpc_check
  repeat kpc_if
  refine wpAny_bind ?_
  refine wpAny_holding ?_
  repeat kpc_if
  refine wpAny_bind (wpAny_of_eq (a := _) rfl ?_)
  repeat kpc_if
  refine wpAny_bind (wpAny_mkInt ?_)
  refine wpAny_bind (call_gives F.slot_int_repr (typeIs_int _ _ _) F.entry_int_repr (F.args_int_repr_1 _) (gives_int_repr _ _ (KPt.hd2 (log2_lt e0 e1))) ⟨int_text_fits (KPt.hd2 (log2_lt e0 e1)), ?_⟩)
  refine wpAny_bind ?_
  refine wpAny_pure ?_
  refine wpAny_bind ?_
  refine wpAny_pure ?_
  refine wpAny_pure ?_
  conv => arg 3; dsimp only
  rw [pf_sgn]
  refine wpAny_pure ?_
  refine KPc.after_str (by kpc_g) (K := 11) (sgn_len e0 e1) (by kpc_obj) ?_
  intro _ _
  change wpAny _ _ (forIn _ (([] : List Value), _, ([41, 62] : List Nat)) _) _ _ _
  refine KPc.turn ?_
  kpc_check
  repeat kpc_if
  refine wpAny_pure ?_
  refine KPc.after_add (by kpc_g) (y := Str.ofString ")>") (by decide +kernel) (by kpc_obj) ?_
  intro _ _
  change wpAny _ _ (forIn _ (([] : List Value), _, ([] : List Nat)) _) _ _ _
  refine KPc.turn ?_
  kpc_check
  repeat kpc_if
  refine wpAny_pure ?_
  kpc_if
  refine KPc.finish_ok (by kpc_g) (by decide +kernel) rfl ?_
  assumption
theorem fill5 : (∃ w : World, (hd.heap_39 w.params).In default ∧ PySem.Challenge.rw_dz0115_01.writes = true) → True := by
  k_fill
  exact fun _ => trivial
def EndB (h₀ : Heap) (Q : Value → Shared → Prop) (v : Value) (s : Shared) : Prop := ∀ h' tk, Ke h₀ h' → Q v {s with heap := h', toks := tk}
theorem EndB.close {h₀ h' : Heap} {Q : Value → Shared → Prop} {v : Value} {g : Array GenState} {d : Drawn} {t : Nat} {os : OsState} {news : List (Addr × Obj)} {s : Shared} (h : EndB h₀ Q v s) (D : X.Mem h₀ h' [] news) (hg : s.gens = g) (hd : s.drawn = d) (ho : s.os = os) : Q v ⟨h', g, d, t, os⟩ := by
  subst hg hd ho
  exact h h' t fun b o e => D.keep b o e (by simp [X.away])
local macro_rules | `(tactic| x_close) => `(tactic| first | exact EndB.close (by assumption) (by assumption) rfl rfl rfl | exact EndB.close (by assumption) (X.Mem.start _) rfl rfl rfl)
section
variable {w : World} {mg mb : Str → Option Value} {s : Shared} {Q : Value → Shared → Prop} {E : Value → Shared → Prop}
theorem isi_tup {y : Addr} {its : Array Value} {n : Nat} {dd : Option Addr} {sl : Array (Option Value)} (G : Gd w mg mb s.heap) (hy : s.heap.get? y = some ⟨.type "tuple", dd, .seq its n, sl⟩)
   (hQ : EndB s.heap Q (.bool false) s) :
   wpAny (model PG w) (A0 800 4000) (call (.builtin "isinstance") [.ref y, .ref 134]) Q E s := by
  have KX := G.X
  x_run
theorem tupeq_inst {y x dx : Addr} {vp va vb vc ve : Value} {its : Array Value} {n : Nat} {dd : Option Addr} {sl : Array (Option Value)} (G : Gd w mg mb s.heap) (hy : s.heap.get? y = some ⟨.type "tuple", dd, .seq its n, sl⟩)
   (hx : s.heap.get? x = some ⟨.ref 134, some dx, .plain, #[some vc, some ve, some va, some vb, some vp]⟩) (hdx : s.heap.get? dx = some (dictOf [] 0)) 
   (hQ : EndB s.heap Q .notImplemented s) :
   wpAny (model PG w) (A0 800 4000) (call (.builtin "tuple.__eq__") [.ref y, .ref x]) Q E s := by
  have KX := G.X
  x_run
theorem diff_eq_tup {x y dx : Addr} {vp va vb vc ve : Value} {its : Array Value} {n : Nat} (G : Gd w mg mb s.heap)
   (hx : s.heap.get? x = some (diffObj dx vp va vb vc ve)) (hdx : s.heap.get? dx = some (dictOf [] 0)) (hy : s.heap.get? y = some ⟨.type "tuple", none, .seq its n, #[]⟩)
   (hQ : ∀ h' tk, Ke s.heap h' → Q .notImplemented {s with heap := h', toks := tk}) :
   wpAny (model PG w) (A0 700 3000) (call (.ref 109) [.ref x, .ref y]) Q E s := by
  have X := G.X
  have T := G.T
  w_on
  refine wpAny_call ?_
  refine enter (f := 109) (binds := [(Str.ofString "self", .ref x), (Str.ofString "other", .ref y)]) G (by k_is) (by k_is) (by decide) (BindsTo.of_eq rfl) (locs rfl) (by decide) ?_
  intro h₁ F N
  repeat walk1
  (rename Fr _ _ _ _ => F')
  refine wk 800 4000 (isi_tup (G.keeps F'.keep) (F'.keep _ _ hy) fun h' tk k => ?_) rfl (by decide) (by decide)
  dsimp only
  obtain ⟨F2, N2⟩ := keeps_FN k F' .nil
  clear F'
  repeat walk1
  (rename Fr _ _ _ _ => F')
  exact hQ _ _ F'.keep
theorem diff_key {x dx : Addr} {tp ta tb tc te : Tok} {p : Str} {a b c e : Int} (G : Gd w mg mb s.heap)
   (hx : s.heap.get? x = some (diffObj dx (.str p tp) (.int a ta) (.int b tb) (.int c tc) (.int e te))) (hdx : s.heap.get? dx = some (dictOf [] 0))
   (hQ : ∀ h' tk y k1 k2, Ke s.heap h' → s.heap.get? y = none → h'.get? y = some ⟨.type "tuple", none, .seq #[.int (if b < 0 then -b else b) k1, .int a ta, .int (if e < 0 then -e else e) k2, .int c tc, .str p tp] 0, #[]⟩ → Q (.ref y) {s with heap := h', toks := tk}) :
   wpAny (model PG w) (A0 700 3000) (call (.ref 130) [.ref x]) Q E s := by
  have X := G.X
  have T := G.T
  w_on
  refine wpAny_call ?_
  refine enter (f := 130) (binds := [(Str.ofString "self", .ref x)]) G (by k_is) (by k_is) (by decide) (BindsTo.of_eq rfl) (locs rfl) (by decide) ?_
  intro h₁ F N
  repeat walk1
  (rename Fr _ _ _ _ => F')
  (rename News _ _ _ _ => N')
  exact hQ _ _ _ _ _ F'.keep (N' _ (.head _)).2.2 (N' _ (.head _)).1
theorem diff_repr {x dx : Addr} {tp ta tb tc te : Tok} {p : Str} {a b c e : Int} (G : Gd w mg mb s.heap)
   (hx : s.heap.get? x = some (diffObj dx (.str p tp) (.int a ta) (.int b tb) (.int c tc) (.int e te))) (hdx : s.heap.get? dx = some (dictOf [] 0))
   (hp : KeyOk p) (a0 : 0 ≤ a) (a1 : a ≤ 10 ^ 9) (c0 : 0 ≤ c) (c1 : c ≤ 10 ^ 9) (m0 : -(10 ^ 9 : Int) ≤ b) (m1 : b ≤ 10 ^ 9) (e0 : -(10 ^ 9 : Int) ≤ e) (e1 : e ≤ 10 ^ 9)
   (hQ : ∀ h' tk t, Ke s.heap h' → Q (.str (diffText p a b c e) t) {s with heap := h', toks := tk}) :
   wpAny (model PG w) (A0 700 3000) (call (.ref 123) [.ref x]) Q E s := by
  have X := G.X
  have T := G.T
  w_on
  refine wpAny_call ?_
  refine enter (f := 123) (binds := [(Str.ofString "self", .ref x)]) G (by k_is) (by k_is) (by decide) (BindsTo.of_eq rfl) (locs rfl) (by decide) ?_
  intro h₁ F N
  repeat walk1
  (rename Fr _ _ _ _ => F')
  (rename News _ _ _ _ => N')
  refine KPt.mod_tuple (X' := diffFmt) (T := diffText p a b c e) N' (.head _) (by decide +kernel) (mod_diff hp a0 a1 c0 c1 m0 m1 e0 e1) fun t' k => ?_
  repeat walk1
  exact hQ _ _ _ F'.keep
end
theorem fill6 : (∃ w : World, (hd.heap_39 w.params).In default ∧ PySem.Challenge.rw_dz0115_01.writes = true) → True := by
  k_fill
  exact fun _ => trivial
section
variable {w : World} {mg mb : Str → Option Value} {s : Shared} {Q : Value → Shared → Prop} {E : Value → Shared → Prop} {d u : Nat} {h₀ : Heap} {L : Addr} {m : Str → Option Value}
theorem inst_diff {h : Heap} {x dx : Addr} {vp va vb vc ve : Value} (hx : h.get? x = some (diffObj dx vp va vb vc ve)) (hdx : h.get? dx = some (dictOf [] 0)) : InstAt h x (diffObj dx vp va vb vc ve) 134 (some (dictOf [] 0)) := ⟨hx, rfl, rfl, hdx⟩
theorem eq_diffN {x y dx dy : Addr} {tp tp' ta tb tc te ta' tb' tc' te' : Tok} {p p' : Str} {a b c e a' b' c' e' : Int} (F : Fr h₀ L s.heap m) (G : Gd w mg mb h₀)
   (hx : s.heap.get? x = some (diffObj dx (.str p tp) (.int a ta) (.int b tb) (.int c tc) (.int e te))) (hdx : s.heap.get? dx = some (dictOf [] 0))
   (hy : s.heap.get? y = some (diffObj dy (.str p' tp') (.int a' ta') (.int b' tb') (.int c' tc') (.int e' te'))) (hdy : s.heap.get? dy = some (dictOf [] 0))
   (hQ : ∀ h' tk, Ke s.heap h' → Q (.bool (decide (p = p' ∧ a = a' ∧ b = b' ∧ c = c' ∧ e = e'))) {s with heap := h', toks := tk})
   (hd : d ≤ 700) (hu : u ≤ 3000) : wpAny (model PG w) (A0 d u) (compareOp .Eq (.ref x) (.ref y)) Q E s := by
  have X := G.X
  w_on
  refine cmp_ofEq (cmp_K (f := 109) (tb := .ref 134) (Nat.lt_of_le_of_lt hu (by decide)) F X (inst_diff hx hdx) (inst_diff hy hdy).type (by k_is) (by k_is) (by k_is) ?_)
  refine wk 700 3000 (diff_eq_call (G.keeps F.keep) hx hdx hy hdy fun h' tk k => ?_) rfl hd hu
  exact hQ h' tk k
theorem ne_diffN {x y dx dy : Addr} {tp tp' ta tb tc te ta' tb' tc' te' : Tok} {p p' : Str} {a b c e a' b' c' e' : Int} (G : Gd w mg mb s.heap)
   (hx : s.heap.get? x = some (diffObj dx (.str p tp) (.int a ta) (.int b tb) (.int c tc) (.int e te))) (hdx : s.heap.get? dx = some (dictOf [] 0))
   (hy : s.heap.get? y = some (diffObj dy (.str p' tp') (.int a' ta') (.int b' tb') (.int c' tc') (.int e' te'))) (hdy : s.heap.get? dy = some (dictOf [] 0))
   (hQ : ∀ h' tk, Ke s.heap h' → Q (.bool (!decide (p = p' ∧ a = a' ∧ b = b' ∧ c = c' ∧ e = e'))) {s with heap := h', toks := tk})
   (hd : d ≤ 690) (hu : u ≤ 2900) : wpAny (model PG w) (A0 d u) (compareOp .NotEq (.ref x) (.ref y)) Q E s := by
  have X := G.X
  w_on
  obtain ⟨hh, g, dr, t, os⟩ := s
  have O : Heap.OwnEqNoNe hh x 134 109 "object" [.type "object"] := by
    refine ⟨_, _, _, _, _, _, _, _, _, _, _, _, _, _, _, _, _, _, _, _, hx, rfl, X _ _ (by k_is), ⟨_, _, _, X _ _ (by k_is), rfl, ?_, fun _ => rfl⟩, ?_, X _ _ (by k_is), rfl, PySem.F.cmp_object.mro, PySem.F.cmp_object.eq.lookup, ?_⟩
    · intro e he
      simp only [List.mem_toArray, List.mem_cons, List.not_mem_nil, or_false] at he
      rcases he with h | h | h | h | h | h | h | h | h | h | h | h | h | h | h | h <;> exact ⟨_, _, by rw [h]⟩
    · rfl
    · rfl
  refine compareOp_ne_ownEq PySem.F.cmp_object O hy rfl (Nat.lt_of_le_of_lt (Nat.succ_le_succ hu) (by decide)) ?_
  refine wk 700 3000 (diff_eq_call G hx hdx hy hdy fun h' tk k => ⟨_, rfl, hQ h' tk k⟩) rfl ?_ ?_
  · exact Nat.le_trans hd (by decide)
  · exact Nat.le_trans (Nat.succ_le_succ hu) (by decide)
theorem eq_tupN {x y dx : Addr} {vp va vb vc ve : Value} {its : Array Value} {n : Nat} (G : Gd w mg mb s.heap)
   (hx : s.heap.get? x = some (diffObj dx vp va vb vc ve)) (hdx : s.heap.get? dx = some (dictOf [] 0)) (hy : s.heap.get? y = some ⟨.type "tuple", none, .seq its n, #[]⟩)
   (hQ : ∀ h' tk, Ke s.heap h' → Q (.bool false) {s with heap := h', toks := tk})
   (hd' : d ≤ 700) (hu : u ≤ 3000) : wpAny (model PG w) (A0 d u) (compareOp .Eq (.ref x) (.ref y)) Q E s := by
  have X := G.X
  w_on
  refine cmp_ofEq ?_
  have I := inst_diff hx hdx
  have nxy : x ≠ y := fun e => by subst e; rw [hx] at hy; cases hy
  unfold richCompare
  simp only [oneThing_ref]
  refine wpAny_holding (wpAny_bind (wpAny_cRoomFor (Nat.lt_of_le_of_lt hu (by decide)) ?_))
  refine wpAny_bind (I.type.here (wpAny_bind (wpAny_typeOf (T := "tuple") ⟨_, hy, rfl⟩ ?_)))
  have e : subIn (hd.heap_39 w.params) (.type "tuple") (.ref 134) = some false := by k_is
  have ne : ((Value.ref 134 : Value) != .type "tuple") = true := rfl
  simp only [ne, if_true]
  refine wpAny_bind ((looks_subIn X e).here ?_)
  simp only [Bool.false_eq_true, if_false]
  refine wpAny_bind ?_
  unfold tryCompare
  refine wpAny_bind (ifBound_K (f := 109) X I (by k_is) (by k_is) (wk 700 3000 (diff_eq_tup G hx hdx hy fun h' tk k => ?_) rfl hd' hu))
  refine wpAny_pure ?_
  simp only [Bool.not_false, if_true]
  refine wpAny_bind ?_
  refine wpAny_bind (wpAny_callSpecialIfBound?_slot (name := Str.ofString "__eq__") (T := "tuple") ⟨_, k _ _ hy, rfl⟩ PySem.F.slot_tuple_eq ?_)
  refine wk 800 4000 (tupeq_inst (G.keeps k) (k _ _ hy) (k _ _ hx) (k _ _ hdx) fun h'' tk' k' => ?_) rfl (Nat.le_trans hd' (by decide)) (Nat.le_trans hu (by decide))
  refine wpAny_pure ?_
  refine wpAny_bind (wpAny_rule ?_)
  refine wpAny_bind (wpAny_isSame_ref_other nxy (k' _ _ (k _ _ hx)) (k' _ _ (k _ _ hy)) (fun e => nomatch e) ?_)
  exact wpAny_pure (hQ _ _ (k.trans k'))
end

abbrev tests (ifs : List Expr) (env : Env) : Sem Bool :=
  forIn ifs true fun c r => if r = true then do let ok ← isTrue c env (eval c env); pure (ForInStep.yield ok) else pure (ForInStep.yield r)
section
variable {w : World} {d u : Nat} {s : Shared} {env : Env} {R : Result → Shared → Prop} {elt kx vx target iter : Expr} {ifs : List Expr} {scope : Scope} {pos : Pos} {it acc : Value} {D : Addr}
/-- a list's block, turn by turn -/
theorem block_list (n : Nat) (Inv : Nat → Shared → Prop)
    (turn : ∀ i s, i < n → Inv i s → wpAny (model PG w) (A0 d u) (pyNext it) (fun r s₁ => ∃ v, r = some v ∧ wpAny (model PG w) (A0 d u) (letOwnedTupleGo target it v) (fun _ s₂ =>
      wpAny (model PG w) (A0 d u) (assign target env v) (fun _ s₃ => wpAny (model PG w) (A0 d u) (tests ifs env) (fun ok s₄ =>
        if ok = true then wpAny (model PG w) (A0 d u) (eval elt env) (fun x s₅ => wpAny (model PG w) (A0 d u) (call (.builtin "list.append") [acc, x]) (fun _ s₆ => Inv (i + 1) s₆) no s₅) no s₄ else Inv (i + 1) s₄) no s₃) no s₂) no s₁) no s)
    (done : ∀ s, Inv n s → wpAny (model PG w) (A0 d u) (pyNext it) (fun r s₁ => r = none ∧ R (.ok .next) s₁) no s)
    (h0 : Inv 0 s) : codeAny (model PG w) (A0 d u) (.compLoop (.ListComp elt [⟨target, iter, ifs, 0⟩] scope pos) 0 it acc env) R s := by
  refine codeAny_loop rfl (fun k s' => ∃ i, i ≤ n ∧ k = n + 1 - i ∧ Inv i s') (fun k s hI => ?_) (n + 1) ⟨0, Nat.zero_le _, rfl, h0⟩
  show wpAny _ _ ((compTurn (.ListComp elt [⟨target, iter, ifs, 0⟩] scope pos) 0 it acc env).onRaise (fun x => do noteFrame x env; theTreesLotGoes x)) _ _ s
  refine wpAny_noted ?_
  rw [compTurn_list]
  refine wpAny_bind (wpAny_standAt (wpAny_bind ?_))
  obtain ⟨i, hi, rfl, hI⟩ := hI
  by_cases hlt : i < n
  · refine wpAny_mono (turn i s hlt hI) (fun r s₁ h₁ => ?_) fun _ _ e => e.elim
    obtain ⟨v, rfl, h₁⟩ := h₁
    refine wpAny_bind (wpAny_mono h₁ (fun _ s₂ h₂ => wpAny_bind (wpAny_mono h₂ (fun _ s₃ h₃ => wpAny_bind (wpAny_mono h₃ (fun ok s₄ h₄ => ?_) fun _ _ e => e.elim)) fun _ _ e => e.elim)) fun _ _ e => e.elim)
    have fin : ∀ {s'}, Inv (i + 1) s' → ∃ m, m < n + 1 - i ∧ ∃ j, j ≤ n ∧ m = n + 1 - j ∧ Inv j s' := fun h => ⟨n + 1 - (i + 1), by omega, i + 1, hlt, rfl, h⟩
    cases ok with
    | false => exact wpAny_pure ⟨rfl, fin h₄⟩
    | true =>
      exact wpAny_bind (wpAny_bind (wpAny_mono h₄ (fun x s₅ h₅ => wpAny_bind (wpAny_mono h₅ (fun _ s₆ h₆ => wpAny_pure (wpAny_pure ⟨rfl, fin h₆⟩)) fun _ _ e => e.elim)) fun _ _ e => e.elim))
  · have : i = n := by omega
    subst this
    refine wpAny_mono (done s hI) (fun r s₁ h₁ => ?_) fun _ _ e => e.elim
    obtain ⟨rfl, h₁⟩ := h₁
    exact wpAny_pure h₁
/-- a dict's block, turn by turn -/
theorem block_dict (n : Nat) (Inv : Nat → Shared → Prop)
    (turn : ∀ i s, i < n → Inv i s → wpAny (model PG w) (A0 d u) (pyNext it) (fun r s₁ => ∃ v, r = some v ∧ wpAny (model PG w) (A0 d u) (letOwnedTupleGo target it v) (fun _ s₂ =>
      wpAny (model PG w) (A0 d u) (assign target env v) (fun _ s₃ => wpAny (model PG w) (A0 d u) (eval kx env) (fun kv s₄ => wpAny (model PG w) (A0 d u) (eval vx env) (fun vv s₅ =>
        wpAny (model PG w) (A0 d u) (dictSet D kv vv) (fun _ s₆ => Inv (i + 1) s₆) no s₅) no s₄) no s₃) no s₂) no s₁) no s)
    (done : ∀ s, Inv n s → wpAny (model PG w) (A0 d u) (pyNext it) (fun r s₁ => r = none ∧ R (.ok .next) s₁) no s)
    (h0 : Inv 0 s) : codeAny (model PG w) (A0 d u) (.compLoop (.DictComp kx vx [⟨target, iter, [], 0⟩] scope pos) 0 it (.ref D) env) R s := by
  refine codeAny_loop rfl (fun k s' => ∃ i, i ≤ n ∧ k = n + 1 - i ∧ Inv i s') (fun k s hI => ?_) (n + 1) ⟨0, Nat.zero_le _, rfl, h0⟩
  show wpAny _ _ ((compTurn (.DictComp kx vx [⟨target, iter, [], 0⟩] scope pos) 0 it (.ref D) env).onRaise (fun x => do noteFrame x env; theTreesLotGoes x)) _ _ s
  refine wpAny_noted ?_
  rw [compTurn_dict]
  refine wpAny_bind (wpAny_standAt (wpAny_bind ?_))
  obtain ⟨i, hi, rfl, hI⟩ := hI
  by_cases hlt : i < n
  · refine wpAny_mono (turn i s hlt hI) (fun r s₁ h₁ => ?_) fun _ _ e => e.elim
    obtain ⟨v, rfl, h₁⟩ := h₁
    refine wpAny_bind (wpAny_mono h₁ (fun _ s₂ h₂ => wpAny_bind (wpAny_mono h₂ (fun _ s₃ h₃ => wpAny_bind (wpAny_mono (wpAny_tests_nil (Q := fun ok s₄ => ok = true ∧ s₄ = s₃) ⟨rfl, rfl⟩) (fun ok s₄ h₄ => ?_) fun _ _ (e : False) => e.elim)) fun _ _ e => e.elim)) fun _ _ e => e.elim)
    obtain ⟨rfl, rfl⟩ := h₄
    have fin : ∀ {s'}, Inv (i + 1) s' → ∃ m, m < n + 1 - i ∧ ∃ j, j ≤ n ∧ m = n + 1 - j ∧ Inv j s' := fun h => ⟨n + 1 - (i + 1), by omega, i + 1, hlt, rfl, h⟩
    exact wpAny_bind (wpAny_bind (wpAny_mono h₃ (fun kv s₄ h₄ => wpAny_bind (wpAny_holding (wpAny_mono h₄ (fun vv s₅ h₅ => wpAny_bind (wpAny_standAt (wpAny_holding (wpAny_mono h₅ (fun _ s₆ h₆ => wpAny_pure ⟨rfl, fin h₆⟩) fun _ _ e => e.elim)))) fun _ _ e => e.elim))) fun _ _ e => e.elim))
  · have : i = n := by omega
    subst this
    refine wpAny_mono (done s hI) (fun r s₁ h₁ => ?_) fun _ _ e => e.elim
    obtain ⟨rfl, h₁⟩ := h₁
    exact wpAny_pure h₁
end

section
variable {M : Model} {A : Around} {E : Value → Shared → Prop} {s : Shared} {K : Frag} {base : Heap} {C c : Addr} {m mg mb : Str → Option Value} {scope : Scope} {cl : List (Str × Addr)} {env : Env} {p : Program} {loose : List Str} {x : Str} {pos : Pos} {v : Value} {Q : Value → Shared → Prop} {news : List (Addr × Obj)}
theorem nameC_own (F : Fr base C s.heap m) (hv : m x = some v) (h : Q v s)
    (hk : (compEnvC scope cl C env).scope.kind = .function := by rfl) (hx : (compEnvC scope cl C env).kindOf x = some .local := by rfl) (hd : (x == ("__debug__" : Str)) = false := by decide) :
    wpAny M A (eval (.Name x pos) (compEnvC scope cl C env)) Q E s := wpAny_Name (wpAny_loadName_local hk hx F.ns hv h) hd
theorem nameC_cell (F : Fr base C s.heap m) (hc : cl.lookup x = some c) (hv : base.IsCell c (some v)) (h : Q v s)
    (hk : (compEnvC scope cl C env).scope.kind = .function := by rfl) (hx : (compEnvC scope cl C env).kindOf x = some .cell := by rfl) (hd : (x == ("__debug__" : Str)) = false := by decide) :
    wpAny M A (eval (.Name x pos) (compEnvC scope cl C env)) Q E s := wpAny_Name (wpAny_loadName_cell hk hx hc (let ⟨o, e, r⟩ := hv; ⟨o, F.keep _ _ e, r⟩) h) hd
theorem nameC_glob (F : Fr base C s.heap m) (X : K.In base) (T : TopRead p loose mg mb base) (e : nsIn K mainGlobals x = some (some v)) (h : Q v s) (hg : env.globals = mainGlobals := by rfl)
    (hk : (compEnvC scope cl C env).scope.kind = .function := by rfl) (hx : (compEnvC scope cl C env).kindOf x = some .globalImplicit := by rfl) (hd : (x == ("__debug__" : Str)) = false := by decide) :
    wpAny M A (eval (.Name x pos) (compEnvC scope cl C env)) Q E s :=
  Name_function_global hk hx (loadGlobal_global (env := compEnvC scope cl C env) (show s.heap.Ns env.globals mg from hg ▸ T.g.keeps F.keep) (mg_of X T.g e) h) hd
theorem storeC {Q : Unit → Shared → Prop} (F : Fr base C s.heap m) (N : News base C s.heap news)
    (h : ∀ h', Fr base C h' (fun y => if y = x then some v else m y) → News base C h' news → Q () { s with heap := h', toks := s.toks + 1 })
    (hk : (compEnvC scope cl C env).scope.kind = .function := by rfl) (hx : (compEnvC scope cl C env).kindOf x = some .local := by rfl) : wpAny M A (storeName (compEnvC scope cl C env) x v) Q E s :=
  wpAny_storeName_local hx F.ns (fun h' hn hs => h h' (F.set hn hs) (N.set hs)) (by rw [hk]; rfl)
end

/-- a turn's value, a turn's end -/
def CE (base : Heap) (C : Addr) (own : List (Addr × Obj)) (J : List (Addr × Obj) → Value → Prop) (s : Shared) (x : Value) (s₂ : Shared) : Prop :=
  ∃ h tk m news, s₂ = { s with heap := h, toks := tk } ∧ Fr base C h m ∧ News base C h (own ++ news) ∧ J news x

section
variable {w : World} {d u : Nat} {s : Shared} {env : Env} {E : Value → Shared → Prop} {elt kx vx target iter : Expr} {ifs : List Expr} {scope : Scope} {cl : List (Str × Addr)} {pos : Pos} {RR : Value → Addr → Result → Shared → Prop}
abbrev lstO (ys : List Value) : Obj := { cls := .type "list", data := .seq ys.toArray ys.length }
theorem lstO_snoc (ys : List Value) (y : Value) : ({ cls := .type "list", data := .seq (ys.toArray.push y) (ys.length + 1) } : Obj) = lstO (ys ++ [y]) := LCg.lst_snoc ys y
/-- a list's block over a list -/
theorem lc_list {l : Addr} {items : Array Value} (J : Nat → List Value → List (Addr × Obj) → Prop)
    (hl : s.heap.IsList l items) (hsz : items.size ≤ sizeLine) (hcell : ∀ y ∈ scope.names, y.2 ≠ .cell) (hkind : scope.kind = .function)
    (hgo : ∀ (i : Nat) v, items[i]? = some v → ∀ it j (s' : Shared) (Q : Unit → Shared → Prop), s'.heap.IsListIter it l j → Q () s' → wpAny (model PG w) (A0 d u) (letOwnedTupleGo target (.ref it) v) Q no s')
    (hlen : ∀ i ys news, J i ys news → ys.length ≤ i) (hne : ∀ i ys news, J i ys news → ∀ p ∈ news, p.1 ≠ s.heap.objs.size ∧ p.1 ≠ s.heap.objs.size + 1)
    (h0 : J 0 [] [])
    (step : ∀ i v m₁ ys news₁ h tk io, items[i]? = some v → J i ys news₁ → Fr s.heap (s.heap.objs.size + 2) h m₁ → News s.heap (s.heap.objs.size + 2) h ((s.heap.objs.size, io) :: (s.heap.objs.size + 1, lstO ys) :: news₁) →
      wpAny (model PG w) (A0 d u) (assign target (compEnvC scope cl (s.heap.objs.size + 2) env) v) (fun _ s₃ => wpAny (model PG w) (A0 d u) (tests ifs (compEnvC scope cl (s.heap.objs.size + 2) env)) (fun ok s₄ =>
        if ok = true then wpAny (model PG w) (A0 d u) (eval elt (compEnvC scope cl (s.heap.objs.size + 2) env)) (CE s.heap (s.heap.objs.size + 2) [(s.heap.objs.size, io), (s.heap.objs.size + 1, lstO ys)] (fun news x => J (i + 1) (ys ++ [x]) news) s) no s₄
        else CE s.heap (s.heap.objs.size + 2) [(s.heap.objs.size, io), (s.heap.objs.size + 1, lstO ys)] (fun news _ => J (i + 1) ys news) s .none s₄) no s₃) no { s with heap := h, toks := tk })
    (done : ∀ m₁ ys news₁ h tk, J items.size ys news₁ → Fr s.heap (s.heap.objs.size + 2) h m₁ → News s.heap (s.heap.objs.size + 2) h ((s.heap.objs.size + 1, lstO ys) :: news₁) → RR (.ref (s.heap.objs.size + 1)) (s.heap.objs.size + 2) (.ok .next) { s with heap := h, toks := tk }) :
    wpAny (model PG w) (A0 d u) (pyIter (.ref l)) (fun it s₂ => wpAny (model PG w) (A0 d u) (newList []) (fun acc s₃ => wpAny (model PG w) (A0 d u) (newFunctionEnv scope env.globals cl [] env.qual none .none (some env)) (fun cenv s₄ =>
      codeAny (model PG w) (A0 d u) (.compStart (.ListComp elt [⟨target, iter, ifs, 0⟩] scope pos) 0 it acc { cenv with scope := relabel scope env }) (RR acc cenv.locals) s₄) E s₃) E s₂) E s := by
  refine wpAny_pyIter_list hl ?_
  refine wpAny_newObj_type (wpAny_newFunctionEnv hcell (by intro y hy; simp at hy) (fun h₁ hns₁ hsb₁ => ?_) hkind)
  dsimp only at hns₁ hsb₁ ⊢
  generalize hH2 : (s.heap.push { cls := .type "list_iterator", data := .fields #[.ref l, .int 0 0] }).push { cls := .type "list", dict := none, data := .seq ([] : List Value).toArray } = H2 at hns₁ hsb₁ ⊢
  have hC : H2.objs.size = s.heap.objs.size + 2 := by rw [← hH2, Heap.size_push, Heap.size_push]
  have hD : (s.heap.push { cls := .type "list_iterator", data := .fields #[.ref l, .int 0 0] }).objs.size = s.heap.objs.size + 1 := by rw [Heap.size_push]
  have hI : H2.get? s.heap.objs.size = some { cls := .type "list_iterator", data := .fields #[.ref l, .int 0 0] } := hH2 ▸ Heap.get?_push_of_some _ (Heap.get?_push_size _ rfl)
  have hDo : H2.get? (s.heap.objs.size + 1) = some (lstO []) := by rw [← hH2, ← hD]; exact Heap.get?_push_size _ rfl
  have old : ∀ b o, b < s.heap.objs.size + 2 → H2.get? b = some o → h₁.get? b = some o := fun b o hb e => hsb₁.extBut b o (by rw [hC]; exact Nat.ne_of_lt hb) (Heap.get?_push_of_some _ e)
  have old' : Ke s.heap h₁ := fun b o e => old b o (Nat.lt_succ_of_lt (Nat.lt_succ_of_lt (Heap.lt_size e))) (hH2 ▸ Heap.get?_push_of_some _ (Heap.get?_push_of_some _ e))
  have fresh : ∀ a, s.heap.objs.size ≤ a → s.heap.get? a = none := fun a ha => by
    cases e : s.heap.get? a with
    | none => rfl
    | some o' => exact absurd (Heap.lt_size e) (Nat.not_lt.mpr ha)
  rw [hD]
  rw [hC] at hns₁ ⊢
  have nI : (s.heap.objs.size : Nat) ≠ s.heap.objs.size + 2 := Nat.ne_of_lt (Nat.lt_add_of_pos_right (by decide))
  have nD : (s.heap.objs.size + 1 : Nat) ≠ s.heap.objs.size + 2 := Nat.ne_of_lt (Nat.lt_succ_self _)
  have nDI : (s.heap.objs.size + 1 : Nat) ≠ s.heap.objs.size := Nat.ne_of_gt (Nat.lt_succ_self _)
  have F₁ : Fr s.heap (s.heap.objs.size + 2) h₁ (fun _ => none) := ⟨hns₁, old', Nat.le_add_right _ _⟩
  have iI := old _ _ (Nat.lt_add_of_pos_right (by decide)) hI
  have iD := old _ _ (Nat.lt_succ_self _) hDo
  have nwI : ∀ {h : Heap} {o}, h.get? s.heap.objs.size = some o → h.get? s.heap.objs.size = some o ∧ s.heap.objs.size ≠ s.heap.objs.size + 2 ∧ s.heap.get? s.heap.objs.size = none := fun e => ⟨e, nI, fresh _ (Nat.le_refl _)⟩
  have nwD : ∀ {h : Heap} {o}, h.get? (s.heap.objs.size + 1) = some o → h.get? (s.heap.objs.size + 1) = some o ∧ s.heap.objs.size + 1 ≠ s.heap.objs.size + 2 ∧ s.heap.get? (s.heap.objs.size + 1) = none := fun e => ⟨e, nD, fresh _ (Nat.le_succ _)⟩
  have loop : codeAny (model PG w) (A0 d u) (.compLoop (.ListComp elt [⟨target, iter, ifs, 0⟩] scope pos) 0 (.ref s.heap.objs.size) (.ref (s.heap.objs.size + 1)) (compEnvC scope cl (s.heap.objs.size + 2) env))
      (RR (.ref (s.heap.objs.size + 1)) (s.heap.objs.size + 2)) { s with heap := h₁, toks := s.toks + ([] : List (Str × Value)).length } := by
    refine block_list items.size (fun i s' => ∃ h tk m₁ ys news₁ io, s' = { s with heap := h, toks := tk } ∧ J i ys news₁ ∧ ListIt io l i ∧ Fr s.heap (s.heap.objs.size + 2) h m₁ ∧ News s.heap (s.heap.objs.size + 2) h ((s.heap.objs.size, io) :: (s.heap.objs.size + 1, lstO ys) :: news₁)) ?_ ?_
      ⟨h₁, _, _, [], [], _, rfl, h0, ⟨rfl, rfl⟩, F₁, forall_cons (nwI iI) (forall_cons (nwD iD) fun _ h => nomatch h)⟩
    · rintro i s' hi ⟨h, tk, m₁, ys, news₁, io, rfl, hJ, hio, F, N⟩
      have hx : items[i]? = some items[i] := by rw [Array.getElem?_eq_getElem hi]
      have N1 : News s.heap (s.heap.objs.size + 2) h ((s.heap.objs.size + 1, lstO ys) :: news₁) := fun p hp => N p (.tail _ hp)
      have n1 := (N _ (.head _)).1
      refine wpAny_pyNext_list_item ⟨io, n1, hio⟩ (hl.at fun o e => F.keep _ o e) hx fun h' hit' hs' => ?_
      obtain ⟨F', N'⟩ := keep_but (fun b o hb e => hs'.extBut b o hb e) (Ne.symm nI) (fresh _ (Nat.le_refl _)) (forall_cons nDI fun p hp => (hne i ys news₁ hJ p hp).1) F N1
      refine ⟨_, rfl, hgo i _ hx _ _ _ _ hit' ?_⟩
      obtain ⟨io', n1', hio'⟩ := hit'
      have N2 : News s.heap (s.heap.objs.size + 2) h' ((s.heap.objs.size, io') :: (s.heap.objs.size + 1, lstO ys) :: news₁) := forall_cons (nwI n1') N'
      refine wpAny_mono (step i _ m₁ ys news₁ h' tk io' hx hJ F' N2) (fun _ s₃ h₃ => wpAny_mono h₃ (fun ok s₄ h₄ => ?_) fun _ _ e => e) fun _ _ e => e
      cases ok with
      | false =>
        obtain ⟨h, tk, m₂, news₂, rfl, F, N, hJ'⟩ := h₄
        exact ⟨h, tk, m₂, ys, news₂, io', rfl, hJ', hio', F, N⟩
      | true =>
        refine wpAny_mono h₄ (fun x s₅ h₅ => ?_) fun _ _ e => e
        obtain ⟨h, tk, m₂, news₂, rfl, F, N, hJ'⟩ := h₅
        have hys := hlen _ _ _ hJ
        refine append_at (hsz := by show ys.toArray.size ≤ sizeLine; rw [List.size_toArray]; omega) (N _ (.tail _ (.head _))).1 fun h₆ hs₆ hD₆ => ?_
        have N3 : News s.heap (s.heap.objs.size + 2) h ((s.heap.objs.size, io') :: news₂) := forall_cons (N _ (.head _)) fun p hp => N p (.tail _ (.tail _ hp))
        obtain ⟨F', N'⟩ := keep_but (fun b o hb e => hs₆.extBut b o hb e) (Ne.symm nD) (fresh _ (Nat.le_succ _)) (forall_cons (Ne.symm nDI) fun p hp => (hne _ _ _ hJ' p hp).2) F N3
        exact ⟨h₆, tk, m₂, ys ++ [x], news₂, io', rfl, hJ', hio', F', forall_cons (N' _ (.head _)) (forall_cons (nwD (hD₆.trans (congrArg some (lstO_snoc ys x)))) fun p hp => N' p (.tail _ hp))⟩
    · rintro s' ⟨h, tk, m₁, ys, news₁, io, rfl, hJ, hio, F, N⟩
      have N1 : News s.heap (s.heap.objs.size + 2) h ((s.heap.objs.size + 1, lstO ys) :: news₁) := fun p hp => N p (.tail _ hp)
      refine wpAny_pyNext_list_end rfl ⟨io, (N _ (.head _)).1, hio⟩ (hl.at fun o e => F.keep _ o e) (by simp) fun h' he => ?_
      obtain ⟨F', N'⟩ := keep_but (fun b o hb e => he b o hb e) (Ne.symm nI) (fresh _ (Nat.le_refl _)) (forall_cons nDI fun p hp => (hne _ ys news₁ hJ p hp).1) F N1
      exact ⟨rfl, done m₁ ys news₁ h' tk hJ F' N'⟩
  exact codeAny_compStart_list loop (wpAny_pyIter_listiter ⟨_, iI, rfl, rfl⟩ loop)
end

section
variable {w : World} {d u : Nat} {s : Shared} {env : Env} {E : Value → Shared → Prop} {elt kx vx iter : Expr} {x : Str} {px : Pos} {scope : Scope} {cl : List (Str × Addr)} {pos : Pos} {RR : Value → Addr → Result → Shared → Prop}
/-- a dict's block over a dict's keys -/
theorem dc_keys {dc : Addr} {kvs : List (Str × Value)} {ep : Nat} (J : Nat → List (Str × Value) → List (Addr × Obj) → Prop)
    (hsm : (dc == sysModules) = false) (hl : s.heap.DictAt (strKind PG w) dc kvs ep) (hsz : kvs.length ≤ sizeLine) (hcell : ∀ y ∈ scope.names, y.2 ≠ .cell) (hkind : scope.kind = .function)
    (hlen : ∀ i ys news, J i ys news → ys.length ≤ i) (hne : ∀ i ys news, J i ys news → ∀ p ∈ news, p.1 ≠ s.heap.objs.size ∧ p.1 ≠ s.heap.objs.size + 1)
    (h0 : J 0 [] [])
    (step : ∀ i k v t m₁ ys news₁ h tk io oD, kvs[i]? = some (k, v) → J i ys news₁ → Fr s.heap (s.heap.objs.size + 2) h m₁ → News s.heap (s.heap.objs.size + 2) h ((s.heap.objs.size, io) :: (s.heap.objs.size + 1, oD) :: news₁) →
      wpAny (model PG w) (A0 d u) (assign (.Name x px) (compEnvC scope cl (s.heap.objs.size + 2) env) (.str k t)) (fun _ s₃ =>
        wpAny (model PG w) (A0 d u) (eval kx (compEnvC scope cl (s.heap.objs.size + 2) env)) (fun kv s₄ => Box (∃ k' t', kv = .str k' t' ∧
          wpAny (model PG w) (A0 d u) (eval vx (compEnvC scope cl (s.heap.objs.size + 2) env)) (CE s.heap (s.heap.objs.size + 2) [(s.heap.objs.size, io), (s.heap.objs.size + 1, oD)] (fun news y => J (i + 1) (stored ys k' y) news) s) no s₄)) no s₃) no { s with heap := h, toks := tk })
    (done : ∀ m₁ ys news₁ h tk oD, J kvs.length ys news₁ → oD.IsDictOf (strKind PG w) ys → Fr s.heap (s.heap.objs.size + 2) h m₁ → News s.heap (s.heap.objs.size + 2) h ((s.heap.objs.size + 1, oD) :: news₁) → RR (.ref (s.heap.objs.size + 1)) (s.heap.objs.size + 2) (.ok .next) { s with heap := h, toks := tk }) :
    wpAny (model PG w) (A0 d u) (pyIter (.ref dc)) (fun it s₂ => wpAny (model PG w) (A0 d u) newDict (fun acc s₃ => wpAny (model PG w) (A0 d u) (newFunctionEnv scope env.globals cl [] env.qual none .none (some env)) (fun cenv s₄ =>
      codeAny (model PG w) (A0 d u) (.compStart (.DictComp kx vx [⟨.Name x px, iter, [], 0⟩] scope pos) 0 it acc { cenv with scope := relabel scope env }) (RR acc cenv.locals) s₄) E s₃) E s₂) E s := by
  refine wpAny_pyIter_dict hsm hl ?_
  refine wpAny_newObj_type (wpAny_newFunctionEnv hcell (by intro y hy; simp at hy) (fun h₁ hns₁ hsb₁ => ?_) hkind)
  dsimp only at hns₁ hsb₁ ⊢
  generalize hio0 : ({ cls := .type "dict_keyiterator", data := .fields #[.ref dc, .int 0 0, .int kvs.length 0, .int ep 0] } : Obj) = io0 at hns₁ hsb₁ ⊢
  have hnew : ((s.heap.push io0).push { cls := .type "dict", dict := none, data := .dict #[] }).DictOf (strKind PG w) (s.heap.push io0).objs.size [] := Heap.DictOf.new _
  generalize hH2 : (s.heap.push io0).push { cls := .type "dict", dict := none, data := .dict #[] } = H2 at hns₁ hsb₁ hnew ⊢
  have hC : H2.objs.size = s.heap.objs.size + 2 := by rw [← hH2, Heap.size_push, Heap.size_push]
  have hD : (s.heap.push io0).objs.size = s.heap.objs.size + 1 := by rw [Heap.size_push]
  have hI : H2.get? s.heap.objs.size = some io0 := hH2 ▸ Heap.get?_push_of_some _ (Heap.get?_push_size _ (hio0 ▸ rfl))
  have old : ∀ b o, b < s.heap.objs.size + 2 → H2.get? b = some o → h₁.get? b = some o := fun b o hb e => hsb₁.extBut b o (by rw [hC]; exact Nat.ne_of_lt hb) (Heap.get?_push_of_some _ e)
  have old' : Ke s.heap h₁ := fun b o e => old b o (Nat.lt_succ_of_lt (Nat.lt_succ_of_lt (Heap.lt_size e))) (hH2 ▸ Heap.get?_push_of_some _ (Heap.get?_push_of_some _ e))
  have fresh : ∀ a, s.heap.objs.size ≤ a → s.heap.get? a = none := fun a ha => by
    cases e : s.heap.get? a with
    | none => rfl
    | some o' => exact absurd (Heap.lt_size e) (Nat.not_lt.mpr ha)
  rw [hD] at hnew ⊢
  rw [hC] at hns₁ ⊢
  have nI : (s.heap.objs.size : Nat) ≠ s.heap.objs.size + 2 := Nat.ne_of_lt (Nat.lt_add_of_pos_right (by decide))
  have nD : (s.heap.objs.size + 1 : Nat) ≠ s.heap.objs.size + 2 := Nat.ne_of_lt (Nat.lt_succ_self _)
  have nDI : (s.heap.objs.size + 1 : Nat) ≠ s.heap.objs.size := Nat.ne_of_gt (Nat.lt_succ_self _)
  have F₁ : Fr s.heap (s.heap.objs.size + 2) h₁ (fun _ => none) := ⟨hns₁, old', Nat.le_add_right _ _⟩
  obtain ⟨oD, hDo, iDo⟩ := Heap.dictOf_iff.mp hnew
  have iI := old _ _ (Nat.lt_add_of_pos_right (by decide)) hI
  have iD := old _ _ (Nat.lt_succ_self _) hDo
  have nwI : ∀ {h : Heap} {o}, h.get? s.heap.objs.size = some o → h.get? s.heap.objs.size = some o ∧ s.heap.objs.size ≠ s.heap.objs.size + 2 ∧ s.heap.get? s.heap.objs.size = none := fun e => ⟨e, nI, fresh _ (Nat.le_refl _)⟩
  have nwD : ∀ {h : Heap} {o}, h.get? (s.heap.objs.size + 1) = some o → h.get? (s.heap.objs.size + 1) = some o ∧ s.heap.objs.size + 1 ≠ s.heap.objs.size + 2 ∧ s.heap.get? (s.heap.objs.size + 1) = none := fun e => ⟨e, nD, fresh _ (Nat.le_succ _)⟩
  have hk0 : KeyIt io0 dc 0 kvs.length ep := hio0 ▸ ⟨rfl, rfl⟩
  have loop : codeAny (model PG w) (A0 d u) (.compLoop (.DictComp kx vx [⟨.Name x px, iter, [], 0⟩] scope pos) 0 (.ref s.heap.objs.size) (.ref (s.heap.objs.size + 1)) (compEnvC scope cl (s.heap.objs.size + 2) env))
      (RR (.ref (s.heap.objs.size + 1)) (s.heap.objs.size + 2)) { s with heap := h₁, toks := s.toks + ([] : List (Str × Value)).length } := by
    refine block_dict kvs.length (fun i s' => ∃ h tk m₁ ys news₁ io oD, s' = { s with heap := h, toks := tk } ∧ J i ys news₁ ∧ KeyIt io dc i kvs.length ep ∧ oD.IsDictOf (strKind PG w) ys ∧ Fr s.heap (s.heap.objs.size + 2) h m₁ ∧ News s.heap (s.heap.objs.size + 2) h ((s.heap.objs.size, io) :: (s.heap.objs.size + 1, oD) :: news₁)) ?_ ?_
      ⟨h₁, _, _, [], [], _, oD, rfl, h0, hk0, iDo, F₁, forall_cons (nwI iI) (forall_cons (nwD iD) fun _ h => nomatch h)⟩
    · rintro i s' hi ⟨h, tk, m₁, ys, news₁, io, oD, rfl, hJ, hio, hoD, F, N⟩
      have hx : kvs[i]? = some (kvs[i].1, kvs[i].2) := by rw [List.getElem?_eq_getElem hi]
      have N1 : News s.heap (s.heap.objs.size + 2) h ((s.heap.objs.size + 1, oD) :: news₁) := fun p hp => N p (.tail _ hp)
      have n1 := (N _ (.head _)).1
      refine wpAny_pyNext_dict_item (knd := strKind PG w) ⟨io, n1, hio⟩ (hl.keep F.keep) hx fun key h' hkey hit' hs' => ?_
      obtain ⟨t, rfl⟩ := strKey hkey
      obtain ⟨F', N'⟩ := keep_but (fun b o hb e => hs'.extBut b o hb e) (Ne.symm nI) (fresh _ (Nat.le_refl _)) (forall_cons nDI fun p hp => (hne i ys news₁ hJ p hp).1) F N1
      refine ⟨_, rfl, wpAny_pure ?_⟩
      obtain ⟨io', n1', hio'⟩ := hit'
      have N2 : News s.heap (s.heap.objs.size + 2) h' ((s.heap.objs.size, io') :: (s.heap.objs.size + 1, oD) :: news₁) := forall_cons (nwI n1') N'
      refine wpAny_mono (step i _ _ t m₁ ys news₁ h' tk io' oD hx hJ F' N2) (fun _ s₃ h₃ => wpAny_mono h₃ (fun kv s₄ h₄ => ?_) fun _ _ e => e) fun _ _ e => e
      obtain ⟨k', t', rfl, h₄⟩ := h₄
      refine wpAny_mono h₄ (fun y s₅ h₅ => ?_) fun _ _ e => e
      obtain ⟨h, tk, m₂, news₂, rfl, F, N, hJ'⟩ := h₅
      have hys := hlen _ _ _ hJ
      refine wpAny_dictSet_pairs (knd := strKind PG w) (hsz := by omega) (strKind_is PG w k' _) (Heap.dictOf_iff.mpr ⟨_, (N _ (.tail _ (.head _))).1, hoD⟩) fun h₆ hD₆ hs₆ => ?_
      have N3 : News s.heap (s.heap.objs.size + 2) h ((s.heap.objs.size, io') :: news₂) := forall_cons (N _ (.head _)) fun p hp => N p (.tail _ (.tail _ hp))
      obtain ⟨F', N'⟩ := keep_but (fun b o hb e => hs₆.extBut b o hb e) (Ne.symm nD) (fresh _ (Nat.le_succ _)) (forall_cons (Ne.symm nDI) fun p hp => (hne _ _ _ hJ' p hp).2) F N3
      obtain ⟨oD', e', iD'⟩ := Heap.dictOf_iff.mp hD₆
      exact ⟨h₆, _, m₂, _, news₂, io', oD', rfl, hJ', hio', iD', F', forall_cons (N' _ (.head _)) (forall_cons (nwD e') fun p hp => N' p (.tail _ hp))⟩
    · rintro s' ⟨h, tk, m₁, ys, news₁, io, oD, rfl, hJ, hio, hoD, F, N⟩
      have N1 : News s.heap (s.heap.objs.size + 2) h ((s.heap.objs.size + 1, oD) :: news₁) := fun p hp => N p (.tail _ hp)
      refine wpAny_pyNext_dict_end (knd := strKind PG w) rfl ⟨io, (N _ (.head _)).1, hio⟩ (hl.keep F.keep) (by simp) fun h' he => ?_
      obtain ⟨F', N'⟩ := keep_but (fun b o hb e => he b o hb e) (Ne.symm nI) (fresh _ (Nat.le_refl _)) (forall_cons nDI fun p hp => (hne _ ys news₁ hJ p hp).1) F N1
      exact ⟨rfl, done m₁ ys news₁ h' tk oD hJ hoD F' N'⟩
  exact codeAny_compStart_dict loop (wpAny_pyIter_keyiter ⟨_, iI, hk0⟩ loop)
end

section
variable {M : Model} {A : Around} {E : Value → Shared → Prop} {s : Shared} {env : Env} {elt kx vx target iter : Expr} {ifs : List Expr} {x y : Str} {py : Pos} {scope : Scope} {cl : List (Str × Addr)} {pos spos : Pos}
theorem lc_eval {Q : Value → Shared → Prop} (hclos : closureFor scope env = pure cl) (hkind : scope.kind = .function) (hnames : ∀ x ∈ scope.names, x.2 = .local → scope.names.lookup x.1 = some .local)
    (h : wpAny M A (eval iter env) (fun x s₁ => wpAny M A (pyIter x) (fun it s₂ => wpAny M A (newList []) (fun acc s₃ =>
      wpAny M A (newFunctionEnv scope env.globals cl [] env.qual none .none (some env)) (fun cenv s₄ =>
        codeAny M A (.compStart (.ListComp elt [⟨target, iter, ifs, 0⟩] scope pos) 0 it acc { cenv with scope := relabel scope env }) (compPost M A E none Q acc cenv.locals) s₄) E s₃) E s₂) E s₁) E s)
    (hs : ∀ x, foldedSetIterable iter env x = pure x := by intro _; rfl) :
    wpAny M A (eval (.ListComp elt [⟨target, iter, ifs, 0⟩] scope pos) env) Q E s := by
  rw [eval_ListComp]
  exact wpAny_comprehension_free (use := none) rfl hs hclos hkind hnames h
theorem lc_assign {Q : Flow → Shared → Prop} (hsw : swapsWith (.ListComp elt [⟨target, iter, ifs, 0⟩] scope pos) (some (.Name y py)) spos.line env = pure true)
    (hclos : closureFor scope env = pure cl) (hkind : scope.kind = .function) (hnames : ∀ x ∈ scope.names, x.2 = .local → scope.names.lookup x.1 = some .local)
    (h : wpAny M A (eval iter env) (fun x s₁ => wpAny M A (pyIter x) (fun it s₂ => wpAny M A (newList []) (fun acc s₃ =>
      wpAny M A (newFunctionEnv scope env.globals cl [] env.qual none .none (some env)) (fun cenv s₄ =>
        codeAny M A (.compStart (.ListComp elt [⟨target, iter, ifs, 0⟩] scope pos) 0 it acc { cenv with scope := relabel scope env }) (compPost M A E (some (assign (.Name y py) env)) (fun _ s' => Q .next s') acc cenv.locals) s₄) E s₃) E s₂) E s₁) E s)
    (hs : ∀ x, foldedSetIterable iter env x = pure x := by intro _; rfl) :
    wpAny M A (exec (.Assign [.Name y py] (.ListComp elt [⟨target, iter, ifs, 0⟩] scope pos) spos) env) Q E s := by
  rw [exec_Assign_Name_used _ _ _ _ hsw]
  refine wpAny_bind (wpAny_standAt (wpAny_bind ?_))
  show wpAny _ A (do let _ ← comprehension (.ListComp elt [⟨target, iter, ifs, 0⟩] scope pos) scope env _ (newList []) false (eval iter env) (some (assign (.Name y py) env))) _ _ s
  exact wpAny_bind (wpAny_mono (wpAny_comprehension_free (use := some (assign (.Name y py) env)) (Q := fun _ s' => Q .next s') rfl hs hclos hkind hnames h) (fun _ s' hq => wpAny_pure (wpAny_pure hq)) fun _ _ e => e)
theorem dc_eval {Q : Value → Shared → Prop} (hclos : closureFor scope env = pure cl) (hkind : scope.kind = .function) (hnames : ∀ x ∈ scope.names, x.2 = .local → scope.names.lookup x.1 = some .local)
    (h : wpAny M A (eval iter env) (fun x s₁ => wpAny M A (pyIter x) (fun it s₂ => wpAny M A newDict (fun acc s₃ =>
      wpAny M A (newFunctionEnv scope env.globals cl [] env.qual none .none (some env)) (fun cenv s₄ =>
        codeAny M A (.compStart (.DictComp kx vx [⟨target, iter, ifs, 0⟩] scope pos) 0 it acc { cenv with scope := relabel scope env }) (compPost M A E none Q acc cenv.locals) s₄) E s₃) E s₂) E s₁) E s)
    (hs : ∀ x, foldedSetIterable iter env x = pure x := by intro _; rfl) :
    wpAny M A (eval (.DictComp kx vx [⟨target, iter, ifs, 0⟩] scope pos) env) Q E s := by
  rw [arm_eval_DictComp]
  exact wpAny_comprehension_free (use := none) rfl hs hclos hkind hnames h
theorem dc_assign {Q : Flow → Shared → Prop} (hsw : swapsWith (.DictComp kx vx [⟨target, iter, ifs, 0⟩] scope pos) (some (.Name y py)) spos.line env = pure true)
    (hclos : closureFor scope env = pure cl) (hkind : scope.kind = .function) (hnames : ∀ x ∈ scope.names, x.2 = .local → scope.names.lookup x.1 = some .local)
    (h : wpAny M A (eval iter env) (fun x s₁ => wpAny M A (pyIter x) (fun it s₂ => wpAny M A newDict (fun acc s₃ =>
      wpAny M A (newFunctionEnv scope env.globals cl [] env.qual none .none (some env)) (fun cenv s₄ =>
        codeAny M A (.compStart (.DictComp kx vx [⟨target, iter, ifs, 0⟩] scope pos) 0 it acc { cenv with scope := relabel scope env }) (compPost M A E (some (assign (.Name y py) env)) (fun _ s' => Q .next s') acc cenv.locals) s₄) E s₃) E s₂) E s₁) E s)
    (hs : ∀ x, foldedSetIterable iter env x = pure x := by intro _; rfl) :
    wpAny M A (exec (.Assign [.Name y py] (.DictComp kx vx [⟨target, iter, ifs, 0⟩] scope pos) spos) env) Q E s := by
  rw [exec_Assign_Name_used _ _ _ _ hsw]
  refine wpAny_bind (wpAny_standAt (wpAny_bind ?_))
  show wpAny _ A (do let _ ← comprehension (.DictComp kx vx [⟨target, iter, ifs, 0⟩] scope pos) scope env _ newDict false (eval iter env) (some (assign (.Name y py) env))) _ _ s
  exact wpAny_bind (wpAny_mono (wpAny_comprehension_free (use := some (assign (.Name y py) env)) (Q := fun _ s' => Q .next s') rfl hs hclos hkind hnames h) (fun _ s' hq => wpAny_pure (wpAny_pure hq)) fun _ _ e => e)
end

/-- a block's ledger, in the frame around it -/
theorem lift_block {h₀ h₁ h : Heap} {L C : Addr} {m₀ m : Str → Option Value} {news₀ bl : List (Addr × Obj)} (F₀ : Fr h₀ L h₁ m₀) (N₀ : News h₀ L h₁ news₀) (F : Fr h₁ C h m) (N : News h₁ C h bl) :
    ∃ oC, LCg.NsObj oC m ∧ Fr h₀ L h m₀ ∧ News h₀ L h ((C, oC) :: (bl ++ news₀)) ∧ (∀ p ∈ bl, p.1 ≠ C) ∧ (∀ p ∈ news₀, p.1 ≠ C) ∧ C ≠ L := by
  obtain ⟨oC, hC, iC⟩ := LCg.ns_obj F.ns
  have nw : ∀ {a : Addr} {o : Obj}, h.get? a = some o → h₁.get? a = none → h.get? a = some o ∧ a ≠ L ∧ h₀.get? a = none := by
    intro a o e q
    refine ⟨e, fun x => ?_, ?_⟩
    · obtain ⟨o', _, _, z, _⟩ := F₀.ns
      rw [x, z] at q; cases q
    · cases z : h₀.get? a with
      | none => rfl
      | some o' => have := F₀.keep _ _ z; rw [q] at this; cases this
  have qC : h₁.get? C = none := by
    cases z : h₁.get? C with
    | none => rfl
    | some o' => exact absurd (Heap.lt_size z) (Nat.not_lt.mpr F.above)
  obtain ⟨F', N'⟩ := keeps_FN F.keep F₀ N₀
  refine ⟨oC, iC, F', forall_cons (nw hC qC) (fun p hp => ?_), fun p hp => (N p hp).2.1, fun p hp e => ?_, (nw hC qC).2.1⟩
  · rcases List.mem_append.mp hp with hp | hp
    · exact nw (N p hp).1 (N p hp).2.2
    · exact N' p hp
  · have := (N₀ p hp).1; rw [e, qC] at this; cases this
/-- the block's frame is let go -/
theorem letgo {h₀ h : Heap} {L C : Addr} {m mC : Str → Option Value} {oC : Obj} {news : List (Addr × Obj)} {P : Heap → Prop} (F : Fr h₀ L h m) (N : News h₀ L h ((C, oC) :: news)) (hC : LCg.NsObj oC mC) (hne : ∀ p ∈ news, p.1 ≠ C)
    (k : ∀ h', Fr h₀ L h' m → News h₀ L h' news → P h') : ∃ m, h.Ns C m ∧ ∀ h', Heap.SameBut C h h' → P h' := by
  obtain ⟨n1, n2, n3⟩ := N _ (.head _)
  refine ⟨mC, hC.ns n1, fun h' hs => ?_⟩
  obtain ⟨F', N'⟩ := keep_but (fun b o hb e => hs.extBut b o hb e) (Ne.symm n2) n3 hne F (fun p hp => N p (.tail _ hp))
  exact k h' F' N'
section
variable {w : World} {mg mb : Str → Option Value} {s : Shared} {d u : Nat}
/-- a def with cells is entered -/
theorem enterC {R : Result → Shared → Prop} {name qual : Str} {params : Arguments} {body : List Stmt} {scope : Scope} {dV kV doc pm cdv ct oc : Value} {an od : Option Addr} {osl : Array (Option Value)} {f : Addr} {args : Args} {binds : List (Str × Value)}
    (G : Gd w mg mb s.heap) (ho : (hd.heap_39 w.params).lookup f = some ⟨oc, od, .func (fnOf name qual params body scope dV kV doc pm an cdv ct), osl⟩) (hcd : codeIn (hd.heap_39 w.params) cdv qual = true) (hroom : d < recursionLimit)
    (hbind : BindsTo s (fnOf name qual params body scope dV kV doc pm an cdv ct) args binds)
    (hkind : ∀ n, ∀ x ∈ binds, scope.names.lookup x.1 = some .local ∨ (scope.names.lookup x.1 = some .cell ∧ ((cellsFrom n scope.names []).lookup x.1).isSome = true))
    (hnd : ((cellsFrom 0 scope.names []).map (·.1)).Nodup)
    (h : ∀ h₁ tk cells, Fr s.heap s.heap.objs.size h₁ (bindL (envOfC qual scope s.heap.objs.size f cdv).kindOf binds fun _ => none) → News s.heap s.heap.objs.size h₁ cells →
      CellsAre (bindC (envOfC qual scope s.heap.objs.size f cdv).kindOf binds fun _ => none) (cellsFrom (s.heap.objs.size + 1) scope.names []) cells →
      wpAny (model PG w) (A0 (d + 1) (u + 3)) (execs body (envOfC qual scope s.heap.objs.size f cdv))
        (fun fl s' => R (.ok (.ret (match fl with | .ret v => v | _ => .none))) s') (fun _ _ => False)
        { s with heap := h₁, toks := tk })
    (hco : scope.isCoroutine = false := by rfl) (hgen : scope.isGenerator = false := by rfl) (hk : scope.kind = .function := by rfl) :
    codeAny (model PG w) (A0 d u) (.call (.ref f) args) R s := by
  refine codeAny_call_function hroom (G.X _ _ ho) rfl hco hgen rfl (codeRec_of G.X hcd) (hbind _ _ _ _ ?_)
  refine wpAny_newFunctionEnv_cells hk (hkind _) fun env' he s' x => ?_
  subst he
  refine ⟨G.T.nolimit.keeps x.toInCall.keep, codeAny_func ?_⟩
  obtain ⟨h₁, tk, rfl, _⟩ := x.done
  have hk₁ := x.toInCall.keep
  obtain ⟨cells, NC, Y⟩ := Cl.news (h₀ := s.heap) (Nat.le_refl _) fun n c hm => ⟨x.cell n c (lookup_of_mem_nodup (cellsFrom_names scope.names 0 (s.heap.objs.size + 1) [] [] rfl ▸ hnd) hm), x.above n c hm⟩
  exact wpAny_mono (h h₁ tk cells ⟨x.toInCall.ns, hk₁, Nat.le_refl _⟩ NC Y) (fun _ _ x => x) (fun _ _ x => x.elim)
end

/-- what stands, the frame and some things left out -/
structure Fz (h₀ : Heap) (L : Addr) (as : List Addr) (g : Heap) (seg : List (Addr × Obj)) : Prop where
  keep₀ : (∀ a ∈ as, h₀.get? a = none) → Ke h₀ g
  mem : ∀ b o, g.get? b = some o → h₀.get? b = some o ∨ (b, o) ∈ seg
  noL : g.get? L = none
  noA : ∀ a ∈ as, g.get? a = none
  off : ∀ p ∈ seg, ∀ a ∈ as, p.1 ≠ a
theorem Fz.ke {h₀ h g : Heap} {L : Addr} {as : List Addr} {seg own : List (Addr × Obj)} {m : Str → Option Value} (Z : Fz h₀ L as g seg) (F : Fr h₀ L h m) (N : News h₀ L h (own ++ seg)) : Ke g h := fun b o e => by
  rcases Z.mem b o e with e | e
  · exact F.keep _ _ e
  · exact (N _ (List.mem_append_right _ e)).1
/-- all that stands now is laid aside -/
theorem freeze {h₀ h : Heap} {L : Addr} {m : Str → Option Value} (as : List Addr) (own : List (Addr × Obj)) (F : Fr h₀ L h m) (N : News h₀ L h own) (has : ∀ a ∈ as, h₀.get? a = none) :
    ∃ g seg, Fz h₀ L as g seg ∧ News h₀ L h (own ++ seg) ∧ Ke g h ∧ (∀ b o, h.get? b = some o → b ≠ L → b ∉ as → g.get? b = some o) := by
  refine ⟨hideAll h (L :: as), (List.range h.objs.size).filterMap fun b => match (hideAll h (L :: as)).get? b, h₀.get? b with | some o, none => some (b, o) | _, _ => none, ?_, ?_, fun b o e => of_hideAll _ e, fun b o e h1 h2 => hideAll_get _ e (by simpa using ⟨h1, h2⟩)⟩
  · have key : ∀ b o, (b, o) ∈ ((List.range h.objs.size).filterMap fun b => match (hideAll h (L :: as)).get? b, h₀.get? b with | some o, none => some (b, o) | _, _ => none) ↔ (hideAll h (L :: as)).get? b = some o ∧ h₀.get? b = none := by
      intro b o
      rw [List.mem_filterMap]
      constructor
      · rintro ⟨c, _, e⟩
        split at e
        · rename_i o' e1 e2
          cases e
          exact ⟨e1, e2⟩
        · cases e
      · rintro ⟨e1, e2⟩
        refine ⟨b, List.mem_range.mpr (Heap.lt_size (of_hideAll _ e1)), ?_⟩
        rw [e1, e2]
    refine ⟨fun q b o e => hideAll_get _ (F.keep _ _ e) fun hm => ?_, fun b o e => ?_, hideAll_none _ (.head _), fun a ha => hideAll_none _ (.tail _ ha), fun p hp a ha e => ?_⟩
    · rcases List.mem_cons.mp hm with rfl | hm
      · exact absurd (Heap.lt_size e) (Nat.not_lt.mpr F.above)
      · rw [q b hm] at e; cases e
    · cases q : h₀.get? b with
      | some o' =>
        have := F.keep _ _ q
        have e' := of_hideAll _ e
        rw [this] at e'; cases e'
        exact .inl rfl
      | none => exact .inr ((key b o).mpr ⟨e, q⟩)
    · have := ((key p.1 p.2).mp hp).1
      rw [e, hideAll_none _ (.tail _ ha)] at this; cases this
  · intro p hp
    rcases List.mem_append.mp hp with hp | hp
    · exact N p hp
    · rw [List.mem_filterMap] at hp
      obtain ⟨c, _, e⟩ := hp
      split at e
      · rename_i o' e1 e2
        cases e
        refine ⟨of_hideAll _ e1, fun q => ?_, e2⟩
        dsimp only at q
        rw [q, hideAll_none _ (.head _)] at e1; cases e1
      · cases e
theorem freezeN {h₀ h : Heap} {L : Addr} {m : Str → Option Value} (own : List (Addr × Obj)) (F : Fr h₀ L h m) (N : News h₀ L h own) :
    ∃ g seg, Fz h₀ L (own.map (·.1)) g seg ∧ News h₀ L h (own ++ seg) ∧ Ke g h ∧ (∀ b o, h.get? b = some o → b ≠ L → b ∉ own.map (·.1) → g.get? b = some o) :=
  freeze _ own F N fun a ha => by
    obtain ⟨p, hp, rfl⟩ := List.mem_map.mp ha
    exact (N p hp).2.2
/-- what was laid aside stays so -/
theorem Fz.next {h₀ h g g' : Heap} {L : Addr} {as as' : List Addr} {seg own : List (Addr × Obj)} {m : Str → Option Value} (Z : Fz h₀ L as g seg) (F : Fr h₀ L h m) (N : News h₀ L h (own ++ seg))
    (k : ∀ b o, h.get? b = some o → b ≠ L → b ∉ as' → g'.get? b = some o) (hsub : ∀ a ∈ as', g.get? a = none) : Ke g g' := fun b o e =>
  k b o (Z.ke F N b o e) (fun q => by rw [q, Z.noL] at e; cases e) fun q => by rw [hsub b q] at e; cases e
abbrev zipO (TI TO : Addr) : Obj := { cls := .type "zip", dict := none, data := .fields #[.none, .bool false, .bool false, .ref TI, .ref TO], slots := #[] }
abbrev pairO (a b : Value) : Obj := { cls := .type "tuple", data := .seq #[a, b] }
abbrev zipL (z TI TO i1 i2 : Addr) (a b : Value) (o1 o2 : Obj) : List (Addr × Obj) := [(z, zipO TI TO), (TI, pairO (.ref i1) (.ref i2)), (TO, pairO a b), (i1, o1), (i2, o2)]
section
variable {w : World} {d u : Nat} {s : Shared} {env : Env} {R : Result → Shared → Prop} {h₀ : Heap} {m : Str → Option Value} {news : List (Addr × Obj)} {body : List Stmt}
theorem keep_butL {h h' : Heap} {L : Addr} {ls : List Addr} {news : List (Addr × Obj)} {m : Str → Option Value} (hs : ∀ b o, b ∉ ls → h.get? b = some o → h'.get? b = some o) (hL : L ∉ ls) (h0 : ∀ a ∈ ls, h₀.get? a = none)
    (hn : ∀ p ∈ news, p.1 ∉ ls) (F : Fr h₀ L h m) (N : News h₀ L h news) : Fr h₀ L h' m ∧ News h₀ L h' news :=
  ⟨⟨F.ns.at' fun o e => hs _ o hL e, fun b o e => hs b o (fun q => by rw [h0 b q] at e; cases e) (F.keep b o e), F.above⟩, fun p hp => ⟨hs _ _ (hn p hp) (N p hp).1, (N p hp).2⟩⟩
/-- for (a, b) in zip(two lists of one length) -/
theorem for_zip {elts : List Expr} {x1} {pt : Pos} {z TI TO i1 i2 l1 l2 : Addr} {xs ys : Array Value} (J : Nat → (Str → Option Value) → List (Addr × Obj) → Prop)
    (hD : ∀ i m news h, J i m news → Fr h₀ env.locals h m → News h₀ env.locals h news → h.IsList l1 xs ∧ h.IsList l2 ys)
    (hne : ∀ i m news, J i m news → ∀ p ∈ news, p.1 ∉ [z, TI, TO, i1, i2]) (D : ZipApart z TI TO i1 i2 l1 l2) (hsz : xs.size = ys.size)
    {a b : Value} {o1 o2 : Obj} (hio1 : ListIt o1 l1 0) (hio2 : ListIt o2 l2 0) (F : Fr h₀ env.locals s.heap m) (N : News h₀ env.locals s.heap (zipL z TI TO i1 i2 a b o1 o2 ++ news)) (h0 : J 0 m news)
    (step : ∀ i v v' t m₁ news₁ h tk o1 o2, xs[i]? = some v → ys[i]? = some v' → J i m₁ news₁ → Fr h₀ env.locals h m₁ → News h₀ env.locals h ((t, pairO v v') :: (zipL z TI TO i1 i2 v v' o1 o2 ++ news₁)) →
      (∀ p ∈ news₁, p.1 < t) → (z < t ∧ TI < t ∧ TO < t ∧ i1 < t ∧ i2 < t) →
      wpAny (model PG w) (A0 d u) (assign (.Tuple elts x1 pt) env (.ref t)) (fun _ s₂ => wpAny (model PG w) (A0 d u) (execs body env) (LP h₀ env.locals (zipL z TI TO i1 i2 v v' o1 o2) (J (i + 1)) s) no s₂) no { s with heap := h, toks := tk })
    (done : ∀ m₁ news₁ h tk, J xs.size m₁ news₁ → Fr h₀ env.locals h m₁ → News h₀ env.locals h news₁ → R (.ok .next) { s with heap := h, toks := tk }) :
    codeAny (model PG w) (A0 d u) (.forLoop (.Tuple elts x1 pt) (.ref z) body [] env) R s := by
  refine for_core xs.size (fun i s' => ∃ h tk m₁ news₁ a b o1 o2, s' = { s with heap := h, toks := tk } ∧ J i m₁ news₁ ∧ ListIt o1 l1 i ∧ ListIt o2 l2 i ∧ Fr h₀ env.locals h m₁ ∧ News h₀ env.locals h (zipL z TI TO i1 i2 a b o1 o2 ++ news₁)) ?_ ?_
    ⟨s.heap, s.toks, m, news, a, b, o1, o2, rfl, h0, hio1, hio2, F, N⟩
  · rintro i s' hi ⟨h, tk, m₁, news₁, a, b, o1, o2, rfl, hJ, hio1, hio2, F, N⟩
    have N1 : News h₀ env.locals h news₁ := fun p hp => N p (List.mem_append_right _ hp)
    obtain ⟨z1, z2, z3⟩ := N _ (.head _)
    obtain ⟨ti1, ti2, ti3⟩ := N _ (.tail _ (.head _))
    obtain ⟨to1, to2, to3⟩ := N _ (.tail _ (.tail _ (.head _)))
    obtain ⟨a1, a2, a3⟩ := N _ (.tail _ (.tail _ (.tail _ (.head _))))
    obtain ⟨b1, b2, b3⟩ := N _ (.tail _ (.tail _ (.tail _ (.tail _ (.head _)))))
    have hx : xs[i]? = some xs[i] := by rw [Array.getElem?_eq_getElem hi]
    have hy : ys[i]? = some (ys[i]'(hsz ▸ hi)) := by rw [Array.getElem?_eq_getElem (hsz ▸ hi)]
    obtain ⟨hl1, hl2⟩ := hD i m₁ news₁ h hJ F N1
    refine wpAny_pyNext_zip_item D z1 ti1 to1 ⟨o1, a1, hio1⟩ ⟨o2, b1, hio2⟩ hl1 hl2 hx hy fun h' hz' hTO' hi1' hi2' ht hzz hs' => ?_
    refine ⟨_, rfl, wpAny_letOwnedTupleGo_zip hz' fun h'' hz'' hs'' => ?_⟩
    have k2 : ∀ c o, c ∉ [z, TO, i1, i2] → h.get? c = some o → h''.get? c = some o := fun c o hc x => by
      simp only [List.mem_cons, List.not_mem_nil, or_false, not_or] at hc
      exact Heap.SameBut.extBut hs'' c o hc.1 (hs' c o hc.1 hc.2.1 hc.2.2.1 hc.2.2.2 x)
    have hsub : ∀ c, c ∉ [z, TI, TO, i1, i2] → c ∉ [z, TO, i1, i2] := fun c hc hm => hc (by
      simp only [List.mem_cons, List.not_mem_nil, or_false] at hm ⊢
      rcases hm with h | h | h | h <;> simp [h])
    have hTI : TI ∉ [z, TO, i1, i2] := by
      simp only [List.mem_cons, List.not_mem_nil, or_false, not_or]
      exact ⟨D.TIz, D.TITO, D.TIi1, D.TIi2⟩
    have N1' : News h₀ env.locals h ((TI, pairO (.ref i1) (.ref i2)) :: news₁) := forall_cons ⟨ti1, ti2, ti3⟩ N1
    obtain ⟨F', N'⟩ := keep_butL k2 (fun hm => by
      simp only [List.mem_cons, List.not_mem_nil, or_false] at hm
      rcases hm with h | h | h | h
      · exact z2 h.symm
      · exact to2 h.symm
      · exact a2 h.symm
      · exact b2 h.symm) (fun c hm => by
      simp only [List.mem_cons, List.not_mem_nil, or_false] at hm
      rcases hm with h | h | h | h <;> subst h <;> assumption) (forall_cons hTI fun p hp => hsub _ (hne i m₁ news₁ hJ p hp)) F N1'
    have lz : z < h.objs.size := Heap.lt_size z1
    have up : ∀ c o, c ≠ z → h'.get? c = some o → h''.get? c = some o := fun c o hc x => Heap.SameBut.extBut hs'' c o hc x
    obtain ⟨o1', j1, hio1'⟩ := hi1'
    obtain ⟨o2', j2, hio2'⟩ := hi2'
    have N2 : News h₀ env.locals h'' ((h.objs.size, pairO xs[i] (ys[i]'(hsz ▸ hi))) :: (zipL z TI TO i1 i2 xs[i] (ys[i]'(hsz ▸ hi)) o1' o2' ++ news₁)) := by
      refine forall_cons ⟨up _ _ (Nat.ne_of_gt lz) ht, Nat.ne_of_gt F.ns.lt, ?_⟩ (forall_cons ⟨hz'', z2, z3⟩ (forall_cons (N' _ (.head _)) (forall_cons ⟨up _ _ D.TOz hTO', to2, to3⟩ (forall_cons ⟨up _ _ D.i1z j1, a2, a3⟩ (forall_cons ⟨up _ _ D.i2z j2, b2, b3⟩ fun p hp => N' p (.tail _ hp))))))
      cases q : h₀.get? h.objs.size with
      | none => rfl
      | some o => exact absurd (Heap.lt_size (F.keep _ _ q)) (Nat.lt_irrefl _)
    refine wpAny_mono (step i _ _ h.objs.size m₁ news₁ h'' _ o1' o2' hx hy hJ F' N2 (fun p hp => Heap.lt_size (N1 p hp).1) ⟨lz, Heap.lt_size ti1, Heap.lt_size to1, Heap.lt_size a1, Heap.lt_size b1⟩) (fun _ s₂ h₂ => wpAny_mono h₂ (fun f s₃ h₃ => ?_) fun _ _ e => e) fun _ _ e => e
    obtain ⟨rfl, h₃, tk₃, m₂, news₂, rfl, F₃, N₃, hJ₃⟩ := h₃
    exact ⟨rfl, h₃, tk₃, m₂, news₂, _, _, o1', o2', rfl, hJ₃, hio1', hio2', F₃, N₃⟩
  · rintro s' ⟨h, tk, m₁, news₁, a, b, o1, o2, rfl, hJ, hio1, hio2, F, N⟩
    have N1 : News h₀ env.locals h news₁ := fun p hp => N p (List.mem_append_right _ hp)
    obtain ⟨z1, z2, z3⟩ := N _ (.head _)
    obtain ⟨ti1, ti2, ti3⟩ := N _ (.tail _ (.head _))
    obtain ⟨to1, to2, to3⟩ := N _ (.tail _ (.tail _ (.head _)))
    obtain ⟨a1, a2, a3⟩ := N _ (.tail _ (.tail _ (.tail _ (.head _))))
    obtain ⟨b1, b2, b3⟩ := N _ (.tail _ (.tail _ (.tail _ (.tail _ (.head _)))))
    obtain ⟨hl1, hl2⟩ := hD _ m₁ news₁ h hJ F N1
    refine wpAny_pyNext_zip_end rfl D z1 ti1 to1 ⟨o1, a1, hio1⟩ ⟨o2, b1, hio2⟩ hl1 hl2 (.inl (by simp)) fun h' he => ?_
    have k2 : ∀ c o, c ∉ [z, TI, TO, i1, i2] → h.get? c = some o → h'.get? c = some o := fun c o hc x => by
      simp only [List.mem_cons, List.not_mem_nil, or_false, not_or] at hc
      exact he c o hc.1 hc.2.2.1 hc.2.2.2.1 hc.2.2.2.2 x
    obtain ⟨F', N'⟩ := keep_butL k2 (fun hm => by
      simp only [List.mem_cons, List.not_mem_nil, or_false] at hm
      rcases hm with h | h | h | h | h
      · exact z2 h.symm
      · exact ti2 h.symm
      · exact to2 h.symm
      · exact a2 h.symm
      · exact b2 h.symm) (fun c hm => by
      simp only [List.mem_cons, List.not_mem_nil, or_false] at hm
      rcases hm with h | h | h | h | h <;> subst h <;> assumption) (hne _ m₁ news₁ hJ) F N1
    exact ⟨rfl, done m₁ news₁ h' tk hJ F' N'⟩
/-- for (a, b, …) in a list of tuples -/
theorem for_list {elts : List Expr} {x1} {pt : Pos} {it l : Addr} {items : Array Value} (J : Nat → (Str → Option Value) → List (Addr × Obj) → Prop)
    (hD : ∀ i m news h, J i m news → Fr h₀ env.locals h m → News h₀ env.locals h news → h.IsList l items)
    (hne : ∀ i m news, J i m news → ∀ p ∈ news, p.1 ≠ it) (htup : ∀ (i : Nat) v, items[i]? = some v → ∃ t, v = .ref t)
    {io : Obj} (hio : ListIt io l 0) (F : Fr h₀ env.locals s.heap m) (N : News h₀ env.locals s.heap ((it, io) :: news)) (h0 : J 0 m news)
    (step : ∀ i v m₁ news₁ h tk io, items[i]? = some v → J i m₁ news₁ → Fr h₀ env.locals h m₁ → News h₀ env.locals h ((it, io) :: news₁) →
      wpAny (model PG w) (A0 d u) (assign (.Tuple elts x1 pt) env v) (fun _ s₂ => wpAny (model PG w) (A0 d u) (execs body env) (LP h₀ env.locals [(it, io)] (J (i + 1)) s) no s₂) no { s with heap := h, toks := tk })
    (done : ∀ m₁ news₁ h tk, J items.size m₁ news₁ → Fr h₀ env.locals h m₁ → News h₀ env.locals h news₁ → R (.ok .next) { s with heap := h, toks := tk }) :
    codeAny (model PG w) (A0 d u) (.forLoop (.Tuple elts x1 pt) (.ref it) body [] env) R s := by
  refine for_core items.size (fun i s' => ∃ h tk m₁ news₁ io, s' = { s with heap := h, toks := tk } ∧ J i m₁ news₁ ∧ ListIt io l i ∧ Fr h₀ env.locals h m₁ ∧ News h₀ env.locals h ((it, io) :: news₁)) ?_ ?_
    ⟨s.heap, s.toks, m, news, io, rfl, h0, hio, F, N⟩
  · rintro i s' hi ⟨h, tk, m₁, news₁, io, rfl, hJ, hio, F, N⟩
    have N1 : News h₀ env.locals h news₁ := fun p hp => N p (.tail _ hp)
    obtain ⟨n1, n2, n3⟩ := N _ (.head _)
    have hx : items[i]? = some items[i] := by rw [Array.getElem?_eq_getElem hi]
    refine wpAny_pyNext_list_item ⟨io, n1, hio⟩ (hD i m₁ news₁ h hJ F N1) hx fun h' hit' hs' => ?_
    obtain ⟨F', N'⟩ := keep_but (fun b o hb e => hs'.extBut b o hb e) (Ne.symm n2) n3 (hne i m₁ news₁ hJ) F N1
    obtain ⟨t, ht⟩ := htup i _ hx
    refine ⟨_, rfl, ?_⟩
    have hst := step i items[i] m₁ news₁ h' tk
    rw [ht] at hst hx ⊢
    refine wpAny_letOwnedTupleGo_listiter hit' ?_
    obtain ⟨io', n1', hio'⟩ := hit'
    have N2 : News h₀ env.locals h' ((it, io') :: news₁) := forall_cons ⟨n1', n2, n3⟩ N'
    refine wpAny_mono (hst io' hx hJ F' N2) (fun _ s₂ h₂ => wpAny_mono h₂ (fun f s₃ h₃ => ?_) fun _ _ e => e) fun _ _ e => e
    obtain ⟨rfl, h₃, tk₃, m₂, news₂, rfl, F₃, N₃, hJ₃⟩ := h₃
    exact ⟨rfl, h₃, tk₃, m₂, news₂, io', rfl, hJ₃, hio', F₃, N₃⟩
  · rintro s' ⟨h, tk, m₁, news₁, io, rfl, hJ, hio, F, N⟩
    have N1 : News h₀ env.locals h news₁ := fun p hp => N p (.tail _ hp)
    obtain ⟨n1, n2, n3⟩ := N _ (.head _)
    refine wpAny_pyNext_list_end rfl ⟨io, n1, hio⟩ (hD _ m₁ news₁ h hJ F N1) (by simp) fun h' he => ?_
    obtain ⟨F', N'⟩ := keep_but (fun b o hb e => he b o hb e) (Ne.symm n2) n3 (hne _ m₁ news₁ hJ) F N1
    exact ⟨rfl, done m₁ news₁ h' tk hJ F' N'⟩
end
def StatL (L : List (Addr × Obj)) (v : Value) (k : Str) (r : Int × Int) : Prop := ∃ x dx tp ts tc, v = .ref x ∧ (x, statObj dx (.str k tp) (.int r.1 ts) (.int r.2 tc)) ∈ L ∧ (dx, dictOf [] 0) ∈ L
def STL (L : List (Addr × Obj)) (kvs : List (Str × Value)) (tb : Tb) : Prop := kvs.length = tb.length ∧ ∀ (i : Nat) k v, kvs[i]? = some (k, v) → ∃ r, tb[i]? = some (k, r) ∧ StatL L v k r
theorem STL.nil : STL [] [] [] := ⟨rfl, fun _ _ _ e => by simp at e⟩
theorem STL.at {L : List (Addr × Obj)} {kvs : List (Str × Value)} {tb : Tb} {g : Heap} (x : STL L kvs tb) (k : ∀ p ∈ L, g.get? p.1 = some p.2) : STb g kvs tb :=
  ⟨x.1, fun i q v e => let ⟨r, a, x, dx, tp, ts, tc, h1, h2, h3⟩ := x.2 i q v e; ⟨r, a, x, dx, tp, ts, tc, h1, k _ h2, k _ h3⟩⟩
theorem STL.keys {L : List (Addr × Obj)} {kvs : List (Str × Value)} {tb : Tb} (x : STL L kvs tb) : kvs.map (·.1) = tb.map (·.1) := keys_eq x.1 fun i k v e => let ⟨r, a, _⟩ := x.2 i k v e; ⟨r, a⟩
theorem stored_new {kvs : List (Str × Value)} {k : Str} {v : Value} (h : k ∉ kvs.map (·.1)) : stored kvs k v = kvs ++ [(k, v)] := by
  unfold stored
  rw [if_neg]
  intro e
  rw [List.any_eq_true] at e
  obtain ⟨x, hx, e⟩ := e
  exact h (List.mem_map.mpr ⟨x, hx, of_decide_eq_true e⟩)
theorem STL.push {L L' : List (Addr × Obj)} {kvs : List (Str × Value)} {tb : Tb} {k : Str} {v : Value} {r : Int × Int} (x : STL L kvs tb) (hs : ∀ p ∈ L, p ∈ L') (hv : StatL L' v k r) : STL L' (kvs ++ [(k, v)]) (tb ++ [(k, r)]) := by
  refine ⟨by simp [x.1], fun i q y e => ?_⟩
  rw [List.getElem?_append] at e
  split at e
  · rename_i hlt
    obtain ⟨r', a, z, dx, tp, ts, tc, h1, h2, h3⟩ := x.2 i q y e
    exact ⟨r', by rw [List.getElem?_append_left (x.1 ▸ hlt)]; exact a, z, dx, tp, ts, tc, h1, hs _ h2, hs _ h3⟩
  · rename_i hlt
    have hi : i - kvs.length = 0 := by
      cases h : i - kvs.length with
      | zero => rfl
      | succ n => rw [h] at e; simp at e
    rw [hi] at e
    simp at e
    obtain ⟨rfl, rfl⟩ := e
    have : i = tb.length := by have := x.1; omega
    subst this
    exact ⟨r, by simp, hv⟩
theorem Fz.sub {h₀ g : Heap} {L : Addr} {as as' : List Addr} {seg : List (Addr × Obj)} (Z : Fz h₀ L as g seg) (h : ∀ a ∈ as', a ∈ as) (h0 : ∀ a ∈ as, h₀.get? a = none) : Fz h₀ L as' g seg :=
  ⟨fun _ => Z.keep₀ h0, Z.mem, Z.noL, fun a ha => Z.noA a (h a ha), fun p hp a ha => Z.off p hp a (h a ha)⟩
theorem News_re4 {h₀ : Heap} {L : Nat} {h : Heap} {a b i d : Addr × Obj} {seg : List (Addr × Obj)} (H : News h₀ L h (a :: b :: i :: d :: seg)) : News h₀ L h ([i, d] ++ (a :: b :: seg)) := by
  intro p hp
  exact H p (by grind)
theorem key_new {kvs : List (Str × Value)} {tb : Tb} {i : Nat} {k : Str} {v : Value} (hl : kvs.map (·.1) = tb.map (·.1)) (hn : (kvs.map (·.1)).Nodup) (h : kvs[i]? = some (k, v)) : k ∉ (tb.take i).map (·.1) := by
  rw [List.map_take, ← hl, ← List.map_take]
  exact take_notin hn h
theorem News_four {h₀ : Heap} {L : Nat} {h : Heap} {d : Addr × Obj} {bl own : List (Addr × Obj)} (H : News h₀ L h ((d :: bl) ++ own)) : News h₀ L h (own ++ [d]) := by
  intro p hp
  exact H p (by grind)
theorem fresh_none {h : Heap} {a : Addr} (ha : h.objs.size ≤ a) : h.get? a = none := by
  cases e : h.get? a with
  | none => rfl
  | some o' => exact absurd (Heap.lt_size e) (Nat.not_lt.mpr ha)
theorem News_subZ {h₀ : Heap} {L : Nat} {h : Heap} {A B : List (Addr × Obj)} (H : News h₀ L h A) (k : ∀ p ∈ B, p ∈ A) : News h₀ L h B := fun p hp => H p (k p hp)
/-- a contract's end: what it made is laid aside -/
theorem refreeze {h₀ h h' g : Heap} {L : Addr} {m : Str → Option Value} {seg : List (Addr × Obj)} (own : List (Addr × Obj)) (Z : Fz h₀ L (own.map (·.1)) g seg) (F : Fr h₀ L h m) (N : News h₀ L h (own ++ seg)) (k : Ke h h') :
    ∃ g' seg', Fz h₀ L (own.map (·.1)) g' seg' ∧ Fr h₀ L h' m ∧ News h₀ L h' (own ++ seg') ∧ Ke g g' ∧ (∀ b o, h.get? b = none → h'.get? b = some o → g'.get? b = some o) ∧ Ke g' h' := by
  obtain ⟨F', N'⟩ := keeps_FN k F N
  obtain ⟨g', seg', Z', N6, kg, kh⟩ := freezeN own F' (News_subZ N' fun p hp => List.mem_append_left _ hp)
  refine ⟨g', seg', Z', F', N6, Z.next F' N' kh Z.noA, fun b o e1 e2 => kh b o e2 (fun q => ?_) fun hm => ?_, kg⟩
  · obtain ⟨o', _, _, z, _⟩ := F.ns
    rw [q, z] at e1; cases e1
  · obtain ⟨p, hp, rfl⟩ := List.mem_map.mp hm
    rw [(N p (List.mem_append_left _ hp)).1] at e1; cases e1
/-- a pair of a dict's -/
def PairH (h : Heap) (v : Value) (kv : Str × Value) : Prop := ∃ t tk, v = .ref t ∧ h.get? t = some (pairO (.str kv.1 tk) kv.2)
theorem PairH.keeps {h h' : Heap} {v : Value} {kv : Str × Value} (x : PairH h v kv) (k : Ke h h') : PairH h' v kv := let ⟨t, tk, e, g⟩ := x; ⟨t, tk, e, k _ _ g⟩
theorem pairs_of {w : World} {kvs : List (Str × Value)} {lo : Addr} {h' g' : Heap} {as : List Addr} {acc : Array Value} (hG : KdxG (strKind PG w) kvs lo h' as) (hl : as.length = kvs.length) (hacc : acc.toList = as.map Value.ref)
    (kn : ∀ a o, lo < a → h'.get? a = some o → g'.get? a = some o) : Each (PairH g') acc kvs := by
  have e : acc.size = as.length := by rw [← Array.length_toList, hacc, List.length_map]
  refine ⟨e.trans hl, fun i v hv => ?_⟩
  rw [← Array.getElem?_toList, hacc, List.getElem?_map] at hv
  cases ha : as[i]? with
  | none => rw [ha] at hv; cases hv
  | some a =>
    rw [ha] at hv
    cases hv
    obtain ⟨key, k, x, h1, h2, h3⟩ := hG.pairs i a ha
    obtain ⟨t, rfl⟩ := strKey h2
    exact ⟨_, h1, a, t, rfl, kn a _ (hG.above a (List.mem_of_getElem? ha)) h3⟩
theorem News_sub {h₀ : Heap} {L : Nat} {h : Heap} {A B : List (Addr × Obj)} (H : News h₀ L h A) (k : ∀ p ∈ B, p ∈ A) : News h₀ L h B := fun p hp => H p (k p hp)
theorem new_out {h₀ h : Heap} {L : Addr} {m : Str → Option Value} {own seg : List (Addr × Obj)} (F : Fr h₀ L h m) (N : News h₀ L h (own ++ seg)) {b : Addr} (e : h.get? b = none) : b ≠ L ∧ b ∉ own.map (·.1) := by
  refine ⟨fun q => ?_, fun hm => ?_⟩
  · obtain ⟨o', _, _, z, _⟩ := F.ns
    rw [q, z] at e; cases e
  · obtain ⟨p, hp, rfl⟩ := List.mem_map.mp hm
    rw [(N p (List.mem_append_left _ hp)).1] at e; cases e
theorem DiffN.at {h₀ h g : Heap} {v : Value} {r : R5} (x : DiffN h₀ h v r) (k : ∀ b o, h₀.get? b = none → h.get? b = some o → g.get? b = some o) : DiffH g v r :=
  let ⟨a, b, c, d, e, f, q, z, y1, y2, y3, y4⟩ := x; ⟨a, b, c, d, e, f, q, z, k _ _ y3 y1, k _ _ y4 y2⟩
theorem FiveN.at {h₀ h g : Heap} {v : Value} {r : R5} (x : FiveN h₀ h v r) (k : ∀ b o, h₀.get? b = none → h.get? b = some o → g.get? b = some o) : FiveH g v r :=
  let ⟨a, b, c, d, e, f, z, y1, y3⟩ := x; ⟨a, b, c, d, e, f, z, k _ _ y3 y1⟩
theorem DiffH.keeps {h h' : Heap} {v : Value} {r : R5} (x : DiffH h v r) (k : Ke h h') : DiffH h' v r := let ⟨a, b, c, d, e, f, q, z, y1, y2⟩ := x; ⟨a, b, c, d, e, f, q, z, k _ _ y1, k _ _ y2⟩
theorem FiveH.keeps {h h' : Heap} {v : Value} {r : R5} (x : FiveH h v r) (k : Ke h h') : FiveH h' v r := let ⟨a, b, c, d, e, f, z, y1⟩ := x; ⟨a, b, c, d, e, f, z, k _ _ y1⟩
theorem News_re3 {h₀ : Heap} {L : Nat} {h : Heap} {a i d : Addr × Obj} {seg : List (Addr × Obj)} (H : News h₀ L h (a :: i :: d :: seg)) : News h₀ L h ([i, d] ++ (a :: seg)) := by
  intro p hp
  exact H p (by grind)
theorem isSome_contains (kvs : List (Str × Value)) (k : Str) : (valueAt kvs k).isSome = (kvs.map (·.1)).contains k := by
  rw [valueAt_isSome_eq_any, Bool.eq_iff_iff]
  simp
theorem restB_take {kB : List (Str × Value)} {ks : List Str} {i : Nat} {kv : Str × Value} (h : kB[i]? = some kv) : restB (kB.take (i + 1)) ks = restB (kB.take i) ks ++ (if ks.contains kv.1 = true then [] else [kv]) := by
  unfold restB
  rw [take_succ_filter _ _ _ _ h]
  cases hc : ks.contains kv.1 <;> simp
theorem none_of {h h' : Heap} (k : Ke h h') {b : Addr} (e : h'.get? b = none) : h.get? b = none := by
  cases q : h.get? b with
  | none => rfl
  | some o => rw [k _ _ q] at e; cases e
theorem DiffN.low {h₀ h₁ h g : Heap} {v : Value} {r : R5} (x : DiffN h₁ h v r) (k0 : Ke h₀ h₁) (k : ∀ b o, h₁.get? b = none → h.get? b = some o → g.get? b = some o) : DiffN h₀ g v r :=
  let ⟨a, b, c, d, e, f, q, z, y1, y2, y3, y4⟩ := x; ⟨a, b, c, d, e, f, q, z, k _ _ y3 y1, k _ _ y4 y2, none_of k0 y3, none_of k0 y4⟩
theorem FiveN.low {h₀ h₁ h g : Heap} {v : Value} {r : R5} (x : FiveN h₁ h v r) (k0 : Ke h₀ h₁) (k : ∀ b o, h₁.get? b = none → h.get? b = some o → g.get? b = some o) : FiveN h₀ g v r :=
  let ⟨a, b, c, d, e, f, z, y1, y3⟩ := x; ⟨a, b, c, d, e, f, z, k _ _ y3 y1, none_of k0 y3⟩
theorem DiffN.keeps {h₀ h h' : Heap} {v : Value} {r : R5} (x : DiffN h₀ h v r) (k : Ke h h') : DiffN h₀ h' v r := let ⟨a, b, c, d, e, f, q, z, y1, y2, y⟩ := x; ⟨a, b, c, d, e, f, q, z, k _ _ y1, k _ _ y2, y⟩
theorem FiveN.keeps {h₀ h h' : Heap} {v : Value} {r : R5} (x : FiveN h₀ h v r) (k : Ke h h') : FiveN h₀ h' v r := let ⟨a, b, c, d, e, f, z, y1, y⟩ := x; ⟨a, b, c, d, e, f, z, k _ _ y1, y⟩
theorem FiveN.h {h₀ h : Heap} {v : Value} {r : R5} (x : FiveN h₀ h v r) : FiveH h v r := let ⟨a, b, c, d, e, f, z, y1, _⟩ := x; ⟨a, b, c, d, e, f, z, y1⟩
theorem News_drop4 {h₀ : Heap} {L : Nat} {h : Heap} {a b c d : Addr × Obj} {l : List (Addr × Obj)} (H : News h₀ L h (a :: b :: c :: d :: l)) : News h₀ L h (a :: b :: c :: l) :=
  forall_cons (H _ (.head _)) (forall_cons (H _ (.tail _ (.head _))) (forall_cons (H _ (.tail _ (.tail _ (.head _)))) fun p hp => H p (.tail _ (.tail _ (.tail _ (.tail _ hp))))))
def D5 (r : R5) : PyData := .tuple [.str r.1, .int r.2.1, .int r.2.2.1, .int r.2.2.2.1, .int r.2.2.2.2]
theorem reads5 {h : Heap} {v : Value} {r : R5} (x : FiveH h v r) : Reads h v (D5 r) [] := by
  obtain ⟨t, tp, ta, tb, tc, te, rfl, e⟩ := x
  exact .tuple e rfl rfl (.cons (.str _ _) (.cons (.int _ _) (.cons (.int _ _) (.cons (.int _ _) (.cons (.int _ _) .nil)))))
theorem readsEachL {α : Type} {h : Heap} {P : Value → α → Prop} {dat : α → PyData} (hP : ∀ v r, P v r → Reads h v (dat r) []) : ∀ (items : List Value) (rows : List α), items.length = rows.length → (∀ (i : Nat) v, items[i]? = some v → ∃ r, rows[i]? = some r ∧ P v r) → ReadsAll h items (rows.map dat) []
  | [], [], _, _ => .nil
  | v :: vs, r :: rs, hl, hr => by
    obtain ⟨r', e, p⟩ := hr 0 v rfl
    cases e
    exact .cons (as := []) (hP v r p) (readsEachL hP vs rs (by simpa using hl) fun i u hu => hr (i + 1) u hu)
  | [], _ :: _, hl, _ => by simp at hl
  | _ :: _, [], hl, _ => by simp at hl
theorem readsEach {α : Type} {h : Heap} {P : Value → α → Prop} {dat : α → PyData} {items : Array Value} {rows : List α} (hP : ∀ v r, P v r → Reads h v (dat r) []) (E : Each P items rows) : ReadsAll h items.toList (rows.map dat) [] :=
  readsEachL hP items.toList rows (by simpa using E.1) fun i v e => E.2 i v (by simpa using e)
theorem canLayAll {α : Type} {dat : α → PyData} : ∀ (rows : List α), (∀ r ∈ rows, (dat r).canLay0 = true) → PyData.canLayAll0 (rows.map dat) = true
  | [], _ => rfl
  | r :: rs, h => by
    rw [List.map_cons, PyData.canLayAll0, h r (.head _), canLayAll rs fun q hq => h q (.tail _ hq)]
    rfl
theorem depthAll_le {α : Type} {dat : α → PyData} {n : Nat} : ∀ (rows : List α), (∀ r ∈ rows, (dat r).depth ≤ n) → PyData.depthAll (rows.map dat) ≤ n
  | [], _ => Nat.zero_le _
  | r :: rs, h => by
    rw [List.map_cons, PyData.depthAll]
    exact Nat.max_le.mpr ⟨h r (.head _), depthAll_le rs fun q hq => h q (.tail _ hq)⟩
theorem shapedL {α : Type} {dat : α → PyData} (n : Nat) (hn : n ≤ 60) (rows : List α) (h : ∀ r ∈ rows, (dat r).canLay0 = true ∧ (dat r).depth ≤ n) : SeqAt.shaped (.list (rows.map dat)) = true := by
  have a := canLayAll rows fun r hr => (h r hr).1
  have b := depthAll_le rows fun r hr => (h r hr).2
  rw [SeqAt.shaped, PyData.canLay0, a, PyData.depth, Bool.true_and]
  exact decide_eq_true (by omega)
theorem ok_str {k : Str} (h : KeyOk k) : (PyData.str k).canLay0 = true := by
  obtain ⟨c, h1, h2, rfl⟩ := h
  have : c = 97 ∨ c = 98 ∨ c = 99 ∨ c = 100 ∨ c = 101 := by omega
  rcases this with rfl | rfl | rfl | rfl | rfl <;> decide +kernel
theorem ok5 {r : R5} (h : KeyOk r.1) : (D5 r).canLay0 = true ∧ (D5 r).depth ≤ 1 := by
  have := ok_str h
  refine ⟨?_, ?_⟩
  · simp only [D5, PyData.canLay0, PyData.canLayAll0] at this ⊢
    rw [this]; rfl
  · simp [D5, PyData.depth, PyData.depthAll]
theorem due_keys {o n : Tb} (ho : Bd o) (hn : Bd n) : ∀ r ∈ dueR o n, KeyOk r.1 := by
  intro r hr
  rcases List.mem_append.mp hr with hr | hr
  · obtain ⟨x, hx, rfl⟩ := List.mem_map.mp hr
    exact (hn x hx).1
  · obtain ⟨x, hx, rfl⟩ := List.mem_map.mp hr
    exact (ho x (List.mem_filter.mp hx).1).1
theorem due_len (o n : Tb) : (dueR o n).length ≤ o.length + n.length := by
  unfold dueR due1 due2
  rw [List.length_append, List.length_map, List.length_map]
  have := List.length_filter_le (fun r => (look n r.1).isNone) o
  omega
def KeyV (v : Value) (k : Str) : Prop := ∃ t, v = .str k t
theorem keys_each {w : World} {kvs : List (Str × Value)} {vs : List Value} (hl : vs.length = kvs.length) (hv : ∀ (j : Nat) v, vs[j]? = some v → ∃ k x, kvs[j]? = some (k, x) ∧ (strKind PG w).is k v = true) : Each KeyV vs.toArray (kvs.map (·.1)) := by
  refine ⟨by simpa using hl, fun i v e => ?_⟩
  obtain ⟨k, x, h1, h2⟩ := hv i v (by simpa using e)
  obtain ⟨t, rfl⟩ := strKey h2
  exact ⟨k, by rw [List.getElem?_map, h1]; rfl, t, rfl⟩
theorem readsK {h : Heap} {v : Value} {k : Str} (x : KeyV v k) : Reads h v (PyData.str k) [] := by
  obtain ⟨t, rfl⟩ := x
  exact .str _ _
def AllT (ys : List Value) : Prop := ∃ bs, LSm.BoolsAre ys bs ∧ bs.all id = true
theorem bools_snoc {b : Bool} : ∀ {vs : List Value} {bs : List Bool}, LSm.BoolsAre vs bs → LSm.BoolsAre (vs ++ [.bool b]) (bs ++ [b])
  | _, _, .nil => .cons b .nil
  | _, _, .cons c r => .cons c (bools_snoc r)
theorem AllT.nil : AllT [] := ⟨[], .nil, rfl⟩
theorem AllT.push {ys : List Value} (h : AllT ys) : AllT (ys ++ [.bool true]) := by
  obtain ⟨bs, h1, h2⟩ := h
  exact ⟨bs ++ [true], bools_snoc h1, by simp at h2 ⊢; exact h2⟩
theorem less_bd {o : Tb} (ho : Bd o) (k : Str) : 0 ≤ (less o k).1 ∧ (less o k).1 ≤ 1000000000 ∧ 0 ≤ (less o k).2 ∧ (less o k).2 ≤ 100 := by
  unfold less look
  cases h : o.find? fun r => decide (r.1 = k) with
  | none => exact ⟨Int.le_refl _, by decide, Int.le_refl _, by decide⟩
  | some x =>
    have := ho x (List.mem_of_find?_eq_some h)
    exact this.2
theorem due_bounds {o n : Tb} (ho : Bd o) (hn : Bd n) : ∀ r ∈ dueR o n, 0 ≤ r.2.1 ∧ r.2.1 ≤ 1000000000 ∧ -1000000000 ≤ r.2.2.1 ∧ r.2.2.1 ≤ 1000000000 ∧ 0 ≤ r.2.2.2.1 ∧ r.2.2.2.1 ≤ 100 ∧ -100 ≤ r.2.2.2.2 ∧ r.2.2.2.2 ≤ 100 := by
  intro r hr
  rcases List.mem_append.mp hr with hr | hr
  · obtain ⟨x, hx, rfl⟩ := List.mem_map.mp hr
    have h1 := (hn x hx).2
    have h2 := less_bd ho x.1
    dsimp only
    omega
  · obtain ⟨x, hx, rfl⟩ := List.mem_map.mp hr
    have h1 := (ho x (List.mem_filter.mp hx).1).2
    dsimp only
    omega
theorem words_eq (p : Str) (a m c e : Int) : Str.ofString "<StatisticDiff traceback='" ++ p ++ Str.ofString "' size=" ++ Str.ofString (toString a) ++ Str.ofString " (" ++ sgn m ++ Str.ofString ") count=" ++ Str.ofString (toString c) ++ Str.ofString " (" ++ sgn e ++ Str.ofString ")>" = diffText p a m c e := by
  have h1 : Str.ofString "<StatisticDiff traceback='" = Str.ofString "<StatisticDiff traceback=" ++ Str.ofString "'" := by decide +kernel
  have h2 : Str.ofString "' size=" = Str.ofString "'" ++ Str.ofString " size=" := by decide +kernel
  have ass : ∀ x y z : Str, (x ++ y) ++ z = x ++ (y ++ z) := fun x y z => congrArg Str.mk (by simp only [Str.cps_append, Array.append_assoc])
  unfold diffText
  rw [h1, h2]
  simp only [ass]
theorem News.named {h₀ : Heap} {L : Addr} {h : Heap} {l : List (Addr × Obj)} (N : News h₀ L h l) : ∃ l', l' = l ∧ News h₀ L h l' := ⟨l, rfl, N⟩
theorem idx5 {i : Nat} {v v0 v1 v2 v3 v4 : Value} (e : #[v0, v1, v2, v3, v4][i]? = some v) : (i = 0 ∧ v = v0) ∨ (i = 1 ∧ v = v1) ∨ (i = 2 ∧ v = v2) ∨ (i = 3 ∧ v = v3) ∨ (i = 4 ∧ v = v4) := by
  match i, e with
  | 0, e => exact .inl ⟨rfl, (Option.some.inj e).symm⟩
  | 1, e => exact .inr (.inl ⟨rfl, (Option.some.inj e).symm⟩)
  | 2, e => exact .inr (.inr (.inl ⟨rfl, (Option.some.inj e).symm⟩))
  | 3, e => exact .inr (.inr (.inr (.inl ⟨rfl, (Option.some.inj e).symm⟩)))
  | 4, e => exact .inr (.inr (.inr (.inr ⟨rfl, (Option.some.inj e).symm⟩)))
  | n + 5, e => simp at e
theorem ne_x (p : Str) : p ≠ p ++ Str.ofString "x" := by
  intro e
  have := congrArg Str.length e
  rw [Str.length_append] at this
  have h : (Str.ofString "x").length = 1 := by decide +kernel
  omega
theorem others_of {h₀ : Heap} {L : Addr} {h : Heap} {l t1 t2 t3 t4 t5 : Addr} {n : Nat} {p : Str} {a b c e : Int} {u1 u2 u3 u4 u5 v1 v2 v3 v4 v5 w1 w2 w3 w4 w5 x1 x2 x3 x4 x5 y1 y2 y3 y4 y5 : Tok} {rest : List (Addr × Obj)}
    (N : News h₀ L h ((l, listOf #[.ref t1, .ref t2, .ref t3, .ref t4, .ref t5] n) :: (t5, tupO #[.str p u5, .int a v5, .int b w5, .int c x5, .int (e - 1) y5]) :: (t4, tupO #[.str p u4, .int a v4, .int b w4, .int (c + 1) x4, .int e y4]) ::
      (t3, tupO #[.str p u3, .int a v3, .int (b - 1) w3, .int c x3, .int e y3]) :: (t2, tupO #[.str p u2, .int (a + 1) v2, .int b w2, .int c x2, .int e y2]) :: (t1, tupO #[.str (p ++ Str.ofString "x") u1, .int a v1, .int b w1, .int c x1, .int e y1]) :: rest)) :
    ∃ NLx itO, News h₀ L h NLx ∧ (l, listOf itO n) ∈ NLx ∧ Each (Five NLx) itO [(p ++ Str.ofString "x", a, b, c, e), (p, a + 1, b, c, e), (p, a, b - 1, c, e), (p, a, b, c + 1, e), (p, a, b, c, e - 1)] ∧ ∀ q ∈ rest, q ∈ NLx := by
  refine ⟨_, _, N, .head _, ⟨rfl, fun i v hi => ?_⟩, fun q hq => .tail _ (.tail _ (.tail _ (.tail _ (.tail _ (.tail _ hq)))))⟩
  rcases idx5 hi with ⟨rfl, rfl⟩ | ⟨rfl, rfl⟩ | ⟨rfl, rfl⟩ | ⟨rfl, rfl⟩ | ⟨rfl, rfl⟩
  · exact ⟨_, rfl, _, _, _, _, _, _, rfl, .tail _ (.tail _ (.tail _ (.tail _ (.tail _ (.head _)))))⟩
  · exact ⟨_, rfl, _, _, _, _, _, _, rfl, .tail _ (.tail _ (.tail _ (.tail _ (.head _))))⟩
  · exact ⟨_, rfl, _, _, _, _, _, _, rfl, .tail _ (.tail _ (.tail _ (.head _)))⟩
  · exact ⟨_, rfl, _, _, _, _, _, _, rfl, .tail _ (.tail _ (.head _))⟩
  · exact ⟨_, rfl, _, _, _, _, _, _, rfl, .tail _ (.head _)⟩
section
variable {w : World} {A : Around} {E : Value → Shared → Prop} {s : Shared} {Q : Value → Shared → Prop}
/-- two lists that read alike -/
theorem ne_alike {α : Type} {P P' : Value → α → Prop} {dat : α → PyData} {l1 l2 : Addr} {n1 n2 : Nat} {it1 it2 : Array Value} {rows : List α} (n : Nat) (hn : n ≤ 60) (hs : ∀ r ∈ rows, (dat r).canLay0 = true ∧ (dat r).depth ≤ n)
    (hP : ∀ v r, P v r → Reads s.heap v (dat r) []) (hP' : ∀ v r, P' v r → Reads s.heap v (dat r) []) (h1 : s.heap.get? l1 = some (listOf it1 n1)) (h2 : s.heap.get? l2 = some (listOf it2 n2)) (E1 : Each P it1 rows) (E2 : Each P' it2 rows)
    (hu : A.units + 64 < cLine) (h : Q (.bool false) s) : wpAny (model PG w) A (compareOp .NotEq (.ref l1) (.ref l2)) Q E s := by
  have hsh := shapedL n hn rows hs
  refine ne_dataH (.list h1 rfl rfl (readsEach hP E1)) (.list h2 rfl rfl (readsEach hP' E2)) hsh hsh hu ?_
  rw [SeqAt.eqv_refl _ (SeqAt.canLay_of_shaped hsh)]
  exact h
theorem ne_tups {y1 y2 : Addr} {vs1 vs2 : Array Value} {n1 n2 : Nat} {ds : List PyData} (h1 : s.heap.get? y1 = some { cls := .type "tuple", data := .seq vs1 n1 }) (h2 : s.heap.get? y2 = some { cls := .type "tuple", data := .seq vs2 n2 })
    (r1 : ReadsAll s.heap vs1.toList ds []) (r2 : ReadsAll s.heap vs2.toList ds []) (hsh : SeqAt.shaped (.tuple ds) = true) (hu : A.units + 64 < cLine) (h : Q (.bool false) s) : wpAny (model PG w) A (compareOp .NotEq (.ref y1) (.ref y2)) Q E s := by
  refine ne_dataH (.tuple h1 rfl rfl r1) (.tuple h2 rfl rfl r2) hsh hsh hu ?_
  rw [SeqAt.eqv_refl _ (SeqAt.canLay_of_shaped hsh)]
  exact h
theorem shaped_key {a b c d : Int} {p : Str} (h : KeyOk p) : SeqAt.shaped (.tuple [.int a, .int b, .int c, .int d, .str p]) = true := by
  have := ok_str h
  rw [SeqAt.shaped]
  simp only [PyData.canLay0, PyData.canLayAll0, PyData.depth, PyData.depthAll] at this ⊢
  rw [this]; rfl
end
theorem fill7 : (∃ w : World, (hd.heap_39 w.params).In default ∧ PySem.Challenge.rw_dz0115_01.writes = true) → True := by
  k_fill
  exact fun _ => trivial
local macro_rules | `(tactic| walk_at "eval Name") => `(tactic| (k_here; (with_reducible show wpAny _ _ (eval _ (compEnvC _ _ _ _)) _ _ _); k_dflt (first | refine nameC_own (by k_asm) (by rfl) ?_ | refine nameC_cell (by k_asm) (by rfl) (by assumption) ?_ | refine nameC_glob (by k_asm) (by k_asm) (by k_asm) (by k_is) ?_)))
local macro_rules | `(tactic| walk_at "storeName") => `(tactic| (k_here; (with_reducible show wpAny _ _ (storeName (compEnvC _ _ _ _) _ _) _ _ _); k_dflt (refine storeC (by k_asm) (by k_asm) ?_); intro h' F' N'; (try k_sweep)))
local macro_rules | `(tactic| walk_at "binaryOp Add str str") => `(tactic| (k_here; refine addS ?_; intro _ _))
theorem addS {x y : Str} {tx ty : Tok} {w : World} {A : Around} {E : Value → Shared → Prop} {s : Shared} {Q : Value → Shared → Prop} (h : ∀ t' tk, Q (.str (x ++ y) t') { s with toks := tk })
    (hsz : x.length + y.length ≤ sizeLine := by (rw [sizeLine_eq]; simp only [Str.length_append]; omega)) : wpAny (model PG w) A (binaryOp .Add (.str x tx) (.str y ty)) Q E s := add_str h hsz
theorem mono_cps {α : Type} {M : Model} {A : Around} {t : Sem α} {Q : α → Shared → Prop} {E : Value → Shared → Prop} {s : Shared} {D : (α → Shared → Prop) → Prop}
    (h1 : ∀ P : α → Shared → Prop, D P → wpAny M A t P E s) (h2 : D Q) : wpAny M A t Q E s := h1 Q h2
theorem not_sys {a : Addr} (h : sysModules < a) : (a == sysModules) = false := beq_eq_false_iff_ne.mpr (Nat.ne_of_gt h)
section
variable {w : World} {mg mb : Str → Option Value} {s : Shared} {Q : Value → Shared → Prop} {E : Value → Shared → Prop}
theorem holds_call {aO aN : Addr} {tO tN : Tb} (G : Gd w mg mb s.heap) (hO : Tbl w s.heap aO tO) (hN : Tbl w s.heap aN tN) (bO : tO.length ≤ 100) (bN : tN.length ≤ 100) (BO : Bd tO) (BN : Bd tN)
   (hQ : ∀ h' tk, Ke s.heap h' → Q (.bool true) {s with heap := h', toks := tk}) :
   wpAny (model PG w) (A0 500 1000) (call (.ref 167) [.ref aO, .ref aN]) Q E s := by
  have X := G.X
  have T := G.T
  w_on
  refine wpAny_call ?_
  refine enterC (f := 167) (binds := [(Str.ofString "old", .ref aO), (Str.ofString "new", .ref aN)]) G (by k_is) (by k_is) (by decide) (BindsTo.of_eq rfl) ?_ ?_ ?_
  · intro n x hx
    rcases List.mem_cons.mp hx with rfl | hx
    · exact .inr ⟨rfl, rfl⟩
    · rcases List.mem_cons.mp hx with rfl | hx
      · exact .inr ⟨rfl, rfl⟩
      · cases hx
  · decide +kernel
  intro h₁ tk cells F N Y
  obtain ⟨o1, o2, o3, o4, rfl, d1, d2, d3, d4⟩ := Y.four
  clear Y
  replace d1 : o1.data = .cell none := d1
  replace d2 : o2.data = .cell none := d2
  replace d3 : o3.data = .cell (some (.ref aN)) := d3
  replace d4 : o4.data = .cell (some (.ref aO)) := d4
  replace F : Fr s.heap s.heap.objs.size h₁ (fun _ => none) := F
  refine wpAny_execs_cons ?_
  refine mono_cps (D := fun P => ∀ h tk m g seg o2 aB oB kB, (Fr s.heap s.heap.objs.size h m) → (News s.heap s.heap.objs.size h ([(s.heap.objs.size + 1 + 1 + 1 + 1, o1), (s.heap.objs.size + 1 + 1 + 1, o2), (s.heap.objs.size + 1 + 1, o3), (s.heap.objs.size + 1, o4), (aB, oB)] ++ seg)) → (Fz s.heap s.heap.objs.size [s.heap.objs.size + 1 + 1 + 1 + 1, s.heap.objs.size + 1 + 1 + 1, s.heap.objs.size + 1 + 1, s.heap.objs.size + 1, aB] g seg) → (s.heap.objs.size + 1 + 1 + 1 + 1 < aB) → (o2.data = .cell (some (.ref aB))) → (oB.IsDictOf (strKind PG w) kB) → (STb g kB tO) → ((aB == sysModules) = false) → P .next { s with heap := h, toks := tk }) ?_ ?_
  · intro P hP
    obtain ⟨sO, kO, dO, lO, rO⟩ := hO
    obtain ⟨epO, cO⟩ := Heap.DictOf.dictAt dO
    have nO := cO.nodup
    have hkO := keys_eq lO fun i k v e => let ⟨r, a, _⟩ := rO i k v e; ⟨r, a⟩
    walk1
    have lt1 := ltN (Heap.lt_size (N _ (.head _)).1)
    refine dc_eval (by with_unfolding_all rfl) rfl (by decide) ?_
    walk1
    have G1 := G.keeps F.keep
    have X1 := G1.X
    have T1 := G1.T
    refine dc_keys (J := fun i ys news => STL news ys (tO.take i) ∧ ys.length ≤ i ∧ ∀ p ∈ news, h₁.objs.size + 1 < p.1) sO (cO.keep F.keep) (by rw [sizeLine_eq, lO]; omega) (by decide) rfl (fun i ys news h => h.2.1) (fun i ys news h p hp => ?_) ⟨STL.nil, Nat.le_refl _, fun _ h => nomatch h⟩ ?_ ?_
    · have z := ltN (h.2.2 p hp)
      exact ⟨by k_ne, by k_ne⟩
    · intro i k v t m₁ ys news₁ h tk io oD hx hJ F2 N2
      dsimp only at F2 N2 ⊢
      have c1 : h₁.IsCell (s.heap.objs.size + 1) (some (.ref aO)) := ⟨_, (N _ (.tail _ (.tail _ (.tail _ (.head _))))).1, d4⟩
      have hd := dictOf_keeps (dictOf_keeps dO F.keep) F2.keep
      have kF := F.keep
      clear F N
      repeat walk1
      refine ⟨k, t, rfl, ?_⟩
      obtain ⟨r, hr1, hr2⟩ := rO i k v hx
      obtain ⟨t2, ts, tc, rfl, ht2⟩ := hr2
      have ht3 : IsTup h₁ t2 #[.int r.1 ts, .int r.2 tc] := ⟨_, kF _ _ ht2, rfl, _, rfl⟩
      repeat walk1
      (rename Fr _ _ _ _ => F5)
      refine d_item (dictOf_keeps (dictOf_keeps dO kF) F5.keep) (valueAt_of_get nO hx) ?_
      repeat walk1
      (rename Fr _ _ _ _ => F5)
      refine d_item (dictOf_keeps (dictOf_keeps dO kF) F5.keep) (valueAt_of_get nO hx) ?_
      repeat walk1
      (rename Fr _ _ _ _ => F5)
      (rename News _ _ _ _ => N5)
      refine stat_newN F5 N5 G1 (by decide) (by decide) fun h' tk' x dx F6 N6 l1 l2 => ?_
      clear F5 N5
      repeat walk1
      have hst : stored ys k (.ref x) = ys ++ [(k, .ref x)] := stored_new (by rw [hJ.1.keys]; exact key_new hkO nO hx)
      change CE _ _ _ _ _ _ _
      refine ⟨h', tk', _, _, rfl, F6, News_re4 N6, ?_⟩
      dsimp only
      rw [hst, take_next hr1]
      refine ⟨hJ.1.push (fun p hp => .tail _ (.tail _ hp)) ⟨x, dx, t, ts, tc, rfl, .head _, .tail _ (.head _)⟩, ?_, forall_cons ?_ (forall_cons ?_ hJ.2.2)⟩
      · rw [List.length_append, List.length_singleton]; exact Nat.succ_le_succ hJ.2.1
      · exact Nat.lt_trans (l1 _ (.tail _ (.head _))) l2
      · exact l1 _ (.tail _ (.head _))
    · intro m₁ ys news₁ h tk oD hJ hoD F2 N2
      dsimp only at F2 N2 ⊢
      obtain ⟨oC, iC, F3, N3, e1, e2, e3⟩ := lift_block F N F2 N2
      clear F2 N2
      refine letgo F3 N3 iC ?_ ?_
      · intro p hp
        rcases List.mem_append.mp hp with hp | hp
        · exact e1 p hp
        · exact e2 p hp
      intro h' F4 N4
      clear F3 N3
      have N5 := News_four N4
      obtain ⟨g, seg, Z, N6, kg, kh⟩ := freezeN _ F4 N5
      dsimp only [List.map, List.cons_append, List.nil_append] at Z N6 kh
      have hst : STb g ys tO := by
        have := hJ.1
        rw [List.take_of_length_le (Nat.le_of_eq lO.symm)] at this
        refine this.at fun p hp => kh _ _ (N4 p (List.mem_append_left _ (.tail _ hp))).1 (N4 p (List.mem_append_left _ (.tail _ hp))).2.1 fun hm => ?_
        have z := ltN (hJ.2.2 p hp)
        simp only [List.mem_cons, List.not_mem_nil, or_false] at hm
        rcases hm with q | q | q | q | q <;> exact absurd q (by k_ne)
      clear N5 N4
      dsimp only
      have hs3 : ∀ p ∈ seg, p.1 ≠ s.heap.objs.size + 1 + 1 + 1 := fun p hp => Z.off p hp _ (.tail _ (.head _))
      repeat walk1
      (rename Fr _ _ _ _ => F7)
      (rename News _ _ _ _ => N7)
      (rename _ = Data.cell (some (Value.ref (h₁.objs.size + 1))) => d2')
      exact hP _ _ _ g seg _ _ oD ys F7 N7 Z (by dsimp only at lt1; exact Nat.lt_succ_of_lt lt1) d2' hoD hst (not_sys (Nat.lt_trans (modules_low G.T.nolimit) (by dsimp only at lt1; omega)))
  clear F N d2
  intro h₂ tk₂ m₂ g seg o2 aB oB kB F N Z ltB d2 iB stB sysB
  dsimp only
  refine wpAny_execs_cons ?_
  refine mono_cps (D := fun P => ∀ h tk m g seg o1 kA aA, (Fr s.heap s.heap.objs.size h m) → (News s.heap s.heap.objs.size h ([(s.heap.objs.size + 1 + 1 + 1 + 1, o1), (s.heap.objs.size + 1 + 1 + 1, o2), (s.heap.objs.size + 1 + 1, o3), (s.heap.objs.size + 1, o4), (aB, oB)] ++ seg)) → (Fz s.heap s.heap.objs.size [s.heap.objs.size + 1 + 1 + 1 + 1, s.heap.objs.size + 1 + 1 + 1, s.heap.objs.size + 1 + 1, s.heap.objs.size + 1, aB] g seg) → (o1.data = .cell (some (.ref aA))) → (STb g kB tO) → (g.DictOf (strKind PG w) aA kA) → (STb g kA tN) → ((aA == sysModules) = false) → P .next { s with heap := h, toks := tk }) ?_ ?_
  · intro P hP
    obtain ⟨sN, kN, dN, lN, rN⟩ := hN
    obtain ⟨epN, cN⟩ := Heap.DictOf.dictAt dN
    have nN := cN.nodup
    have hkN := keys_eq lN fun i k v e => let ⟨r, a, _⟩ := rN i k v e; ⟨r, a⟩
    walk1
    have lt1 := ltN (Heap.lt_size (N _ (.tail _ (.tail _ (.tail _ (.tail _ (.head _)))))).1)
    replace ltB := ltN ltB
    refine dc_eval (by with_unfolding_all rfl) rfl (by decide) ?_
    walk1
    have G1 := G.keeps F.keep
    have X1 := G1.X
    have T1 := G1.T
    refine dc_keys (J := fun i ys news => STL news ys (tN.take i) ∧ ys.length ≤ i ∧ ∀ p ∈ news, h₂.objs.size + 1 < p.1) sN (cN.keep F.keep) (by rw [sizeLine_eq, lN]; omega) (by decide) rfl (fun i ys news h => h.2.1) (fun i ys news h p hp => ?_) ⟨STL.nil, Nat.le_refl _, fun _ h => nomatch h⟩ ?_ ?_
    · have z := ltN (h.2.2 p hp)
      exact ⟨by k_ne, by k_ne⟩
    · intro i k v t m₁ ys news₁ h tk io oD hx hJ F2 N2
      dsimp only at F2 N2 ⊢
      have c1 : h₂.IsCell (s.heap.objs.size + 1 + 1) (some (.ref aN)) := ⟨_, (N _ (.tail _ (.tail _ (.head _)))).1, d3⟩
      have kF := F.keep
      clear F N
      repeat walk1
      refine ⟨k, t, rfl, ?_⟩
      obtain ⟨r, hr1, hr2⟩ := rN i k v hx
      obtain ⟨t2, ts, tc, rfl, ht2⟩ := hr2
      have ht3 : IsTup h₂ t2 #[.int r.1 ts, .int r.2 tc] := ⟨_, kF _ _ ht2, rfl, _, rfl⟩
      repeat walk1
      (rename Fr _ _ _ _ => F5)
      refine d_item (dictOf_keeps (dictOf_keeps dN kF) F5.keep) (valueAt_of_get nN hx) ?_
      repeat walk1
      (rename Fr _ _ _ _ => F5)
      refine d_item (dictOf_keeps (dictOf_keeps dN kF) F5.keep) (valueAt_of_get nN hx) ?_
      repeat walk1
      (rename Fr _ _ _ _ => F5)
      (rename News _ _ _ _ => N5)
      refine stat_newN F5 N5 G1 (by decide) (by decide) fun h' tk' x dx F6 N6 l1 l2 => ?_
      clear F5 N5
      repeat walk1
      have hst : stored ys k (.ref x) = ys ++ [(k, .ref x)] := stored_new (by rw [hJ.1.keys]; exact key_new hkN nN hx)
      change CE _ _ _ _ _ _ _
      refine ⟨h', tk', _, _, rfl, F6, News_re4 N6, ?_⟩
      dsimp only
      rw [hst, take_next hr1]
      refine ⟨hJ.1.push (fun p hp => .tail _ (.tail _ hp)) ⟨x, dx, t, ts, tc, rfl, .head _, .tail _ (.head _)⟩, ?_, forall_cons ?_ (forall_cons ?_ hJ.2.2)⟩
      · rw [List.length_append, List.length_singleton]; exact Nat.succ_le_succ hJ.2.1
      · exact Nat.lt_trans (l1 _ (.tail _ (.head _))) l2
      · exact l1 _ (.tail _ (.head _))
    · intro m₁ ys news₁ h tk oD hJ hoD F2 N2
      dsimp only at F2 N2 ⊢
      obtain ⟨oC, iC, F3, N3, e1, e2, e3⟩ := lift_block F N F2 N2
      clear F2 N2
      refine letgo F3 N3 iC ?_ ?_
      · intro p hp
        rcases List.mem_append.mp hp with hp | hp
        · exact e1 p hp
        · exact e2 p hp
      intro h' F4 N4
      clear F3 N3
      have N4' := News_sub N4 fun p hp => List.mem_append_right _ hp
      obtain ⟨g', seg', Z', N6, kg, kh⟩ := freezeN [(s.heap.objs.size + 1 + 1 + 1 + 1, o1), (s.heap.objs.size + 1 + 1 + 1, o2), (s.heap.objs.size + 1 + 1, o3), (s.heap.objs.size + 1, o4), (aB, oB)] F4 (News_sub N4' fun p hp => List.mem_append_left _ hp)
      dsimp only [List.map, List.cons_append, List.nil_append] at Z' N6 kh
      have kgg : Ke g g' := Z.next F4 N4' kh Z.noA
      have hz : ∀ p : Addr × Obj, h₂.objs.size < p.1 → p.1 ∉ [s.heap.objs.size + 1 + 1 + 1 + 1, s.heap.objs.size + 1 + 1 + 1, s.heap.objs.size + 1 + 1, s.heap.objs.size + 1, aB] := fun p z hm => by
        replace z := ltN z
        simp only [List.mem_cons, List.not_mem_nil, or_false] at hm
        rcases hm with q | q | q | q | q <;> exact absurd q (by k_ne)
      have hst : STb g' ys tN := by
        have := hJ.1
        rw [List.take_of_length_le (Nat.le_of_eq lN.symm)] at this
        refine this.at fun p hp => kh _ _ (N4 p (List.mem_append_left _ (.tail _ hp))).1 (N4 p (List.mem_append_left _ (.tail _ hp))).2.1 (hz p ?_)
        exact Nat.lt_of_succ_lt (hJ.2.2 p hp)
      have hdA : g'.DictOf (strKind PG w) (h₂.objs.size + 1) ys := Heap.dictOf_iff.mpr ⟨oD, kh _ _ (N4 _ (.head _)).1 (N4 _ (.head _)).2.1 (hz (_, oD) (Nat.lt_succ_self _)), hoD⟩
      clear N4 N4' N F
      dsimp only
      have hs3 : ∀ p ∈ seg', p.1 ≠ s.heap.objs.size + 1 + 1 + 1 + 1 := fun p hp => Z'.off p hp _ (.head _)
      repeat walk1
      (rename Fr _ _ _ _ => F7)
      (rename News _ _ _ _ => N7)
      (rename _ = Data.cell (some (Value.ref (h₂.objs.size + 1))) => d1')
      exact hP _ _ _ g' seg' _ ys _ F7 N7 Z' d1' (stB.keeps kgg) hdA hst (not_sys (Nat.lt_trans (modules_low G.T.nolimit) (by dsimp only at lt1; omega)))
  clear F N Z stB d1
  intro h₃ tk₃ m₃ g seg o1 kA aA F N Z d1 stB dA stA sysA
  dsimp only
  refine wpAny_execs_cons ?_
  refine mono_cps (D := fun P => ∀ h tk m g seg lB itB nB, (Fr s.heap s.heap.objs.size h m) → (Knows m [(Str.ofString "all_before", .ref lB)]) → (News s.heap s.heap.objs.size h ([(s.heap.objs.size + 1 + 1 + 1 + 1, o1), (s.heap.objs.size + 1 + 1 + 1, o2), (s.heap.objs.size + 1 + 1, o3), (s.heap.objs.size + 1, o4), (aB, oB)] ++ seg)) → (Fz s.heap s.heap.objs.size ([(s.heap.objs.size + 1 + 1 + 1 + 1, o1), (s.heap.objs.size + 1 + 1 + 1, o2), (s.heap.objs.size + 1 + 1, o3), (s.heap.objs.size + 1, o4), (aB, oB)].map (·.1)) g seg) → (STb g kB tO) → (g.DictOf (strKind PG w) aA kA) → (STb g kA tN) → (g.get? lB = some (listOf itB nB)) → (Each (PairH g) itB kB) → P .next { s with heap := h, toks := tk }) ?_ ?_
  · intro P hP
    repeat walk1
    (rename Fr _ _ _ _ => F')
    (rename News _ _ _ _ => N')
    obtain ⟨ep, hat⟩ := (Heap.dictOf_iff.mpr ⟨oB, (N' _ (.tail _ (.tail _ (.tail _ (.tail _ (.tail _ (.head _))))))).1, iB⟩ : Heap.DictOf (strKind PG w) _ aB kB).dictAt
    refine kdx_call (knd := strKind PG w) rfl ⟨_, (N' _ (.head _)).1, rfl, rfl⟩ hat (by rw [sizeLine_eq, stB.1]; omega) fun h' tk acc c as k hl has hG hacc => ?_
    dsimp only at k hl hG
    obtain ⟨g', seg', Z', F2, N2, kgg, kn, kh⟩ := refreeze [(s.heap.objs.size + 1 + 1 + 1 + 1, o1), (s.heap.objs.size + 1 + 1 + 1, o2), (s.heap.objs.size + 1 + 1, o3), (s.heap.objs.size + 1, o4), (aB, oB)] Z F' (News_sub N' fun p hp => .tail _ hp) k
    have hB := kn _ _ (fresh_none (Nat.le_refl _)) hl
    have hE := pairs_of hG has hacc fun a o e1 e2 => kn a o (fresh_none (Nat.le_of_lt e1)) e2
    clear F' N' F N
    dsimp only
    repeat walk1
    (rename Fr _ _ _ _ => F7)
    (rename News _ _ _ _ => N7)
    exact hP _ _ _ g' seg' _ acc c F7 (⟨rfl, trivial⟩) N7 Z' (stB.keeps kgg) (dictOf_keeps dA kgg) (stA.keeps kgg) hB hE
  clear F N Z stB dA stA
  intro h₄ tk₄ m₄ g seg lB itB nB F hK N Z stB dA stA hlB hEB
  replace F := hK.fr F
  dsimp only
  refine wpAny_execs_cons ?_
  refine mono_cps (D := fun P => ∀ h tk m g seg lA itA nA, (Fr s.heap s.heap.objs.size h m) → (Knows m [(Str.ofString "all_before", .ref lB), (Str.ofString "all_after", .ref lA)]) → (News s.heap s.heap.objs.size h ([(s.heap.objs.size + 1 + 1 + 1 + 1, o1), (s.heap.objs.size + 1 + 1 + 1, o2), (s.heap.objs.size + 1 + 1, o3), (s.heap.objs.size + 1, o4), (aB, oB)] ++ seg)) → (Fz s.heap s.heap.objs.size ([(s.heap.objs.size + 1 + 1 + 1 + 1, o1), (s.heap.objs.size + 1 + 1 + 1, o2), (s.heap.objs.size + 1 + 1, o3), (s.heap.objs.size + 1, o4), (aB, oB)].map (·.1)) g seg) → (STb g kB tO) → (g.DictOf (strKind PG w) aA kA) → (STb g kA tN) → (g.get? lB = some (listOf itB nB)) → (Each (PairH g) itB kB) → (g.get? lA = some (listOf itA nA)) → (Each (PairH g) itA kA) → P .next { s with heap := h, toks := tk }) ?_ ?_
  · intro P hP
    repeat walk1
    have dA1 := dictOf_keeps dA (Z.ke F N)
    refine d_method PySem.F.slot_dict_items PySem.F.type_dict_items dA1 ?_
    repeat walk1
    refine d_items dA1 sysA ?_
    have k0 := Ke.push h₄ { cls := .type "dict_items", data := .fields #[.ref aA] }
    have hv : (h₄.push { cls := .type "dict_items", data := .fields #[.ref aA] }).IsItemsView h₄.objs.size aA := ⟨_, Heap.get?_push_size _ rfl, rfl, rfl⟩
    have dA2 := dictOf_keeps dA1 k0
    have hsz : h₄.objs.size ≤ (h₄.push { cls := .type "dict_items", data := .fields #[.ref aA] }).objs.size := by rw [Heap.size_push]; exact Nat.le_succ _
    dsimp only
    generalize h₄.push { cls := .type "dict_items", data := .fields #[.ref aA] } = h5 at k0 hv dA2 hsz ⊢
    repeat walk1
    obtain ⟨ep, hat⟩ := dA2.dictAt
    refine kdx_call (knd := strKind PG w) rfl hv hat (by rw [sizeLine_eq, stA.1]; omega) fun h' tk acc c as k hl has hG hacc => ?_
    dsimp only at k hl hG
    obtain ⟨g', seg', Z', F2, N2, kgg, kn, kh⟩ := refreeze [(s.heap.objs.size + 1 + 1 + 1 + 1, o1), (s.heap.objs.size + 1 + 1 + 1, o2), (s.heap.objs.size + 1 + 1, o3), (s.heap.objs.size + 1, o4), (aB, oB)] Z F N (k0.trans k)
    have hB := kn _ _ (fresh_none hsz) hl
    have hE := pairs_of hG has hacc fun a o e1 e2 => kn a o (fresh_none (Nat.le_trans hsz (Nat.le_of_lt e1))) e2
    clear F N
    dsimp only
    repeat walk1
    (rename Fr _ _ _ _ => F7)
    (rename News _ _ _ _ => N7)
    exact hP _ _ _ g' seg' _ acc c F7 (⟨rfl, rfl, trivial⟩) N7 Z' (stB.keeps kgg) (dictOf_keeps dA kgg) (stA.keeps kgg) (kgg _ _ hlB) (hEB.mono fun _ _ x => x.keeps kgg) hB hE
  clear F N Z stB dA stA hK hlB hEB
  intro h₅ tk₅ m₅ g seg lA itA nA F hK N Z stB dA stA hlB hEB hlA hEA
  replace F := hK.fr F
  dsimp only
  refine wpAny_execs_cons ?_
  refine mono_cps (D := fun P => ∀ h tk m g seg lT itT nT oB, (Fr s.heap s.heap.objs.size h m) → (Knows m [(Str.ofString "all_before", .ref lB), (Str.ofString "all_after", .ref lA), (Str.ofString "told", .ref lT)]) → (News s.heap s.heap.objs.size h ([(s.heap.objs.size + 1 + 1 + 1 + 1, o1), (s.heap.objs.size + 1 + 1 + 1, o2), (s.heap.objs.size + 1 + 1, o3), (s.heap.objs.size + 1, o4), (aB, oB)] ++ seg)) → (Fz s.heap s.heap.objs.size ([(s.heap.objs.size + 1 + 1 + 1 + 1, o1), (s.heap.objs.size + 1 + 1 + 1, o2), (s.heap.objs.size + 1 + 1, o3), (s.heap.objs.size + 1, o4), (aB, oB)].map (·.1)) g seg) → (oB.IsDictOf (strKind PG w) (restB kB (kA.map (·.1)))) → (STb g kB tO) → (g.DictOf (strKind PG w) aA kA) → (STb g kA tN) → (g.get? lB = some (listOf itB nB)) → (Each (PairH g) itB kB) → (g.get? lA = some (listOf itA nA)) → (Each (PairH g) itA kA) → (g.get? lT = some (listOf itT nT)) → (Each (DiffN s.heap g) itT (dueR tO tN)) → P .next { s with heap := h, toks := tk }) ?_ ?_
  · intro P hP
    repeat walk1
    have kg := Z.ke F N
    have Gg : Gd w mg mb g := G.keeps (Z.keep₀ fun a ha => by
      obtain ⟨p, hp, rfl⟩ := List.mem_map.mp ha
      exact (N p (List.mem_append_left _ hp)).2.2)
    have gB : g.get? aB = none := Z.noA _ (.tail _ (.tail _ (.tail _ (.tail _ (.head _)))))
    have nAB : aA ≠ aB := fun e => by
      obtain ⟨o, ho, _⟩ := Heap.dictOf_iff.mp dA
      rw [e, gB] at ho; cases ho
    have hBh := (N (aB, oB) (.tail _ (.tail _ (.tail _ (.tail _ (.head _)))))).1
    refine wk 600 2000 (cmp_call (kB := kB) (kA := kA) (tB := tO) (tA := tN) g Gg kg gB nAB sysB sysA (Heap.dictOf_iff.mpr ⟨oB, hBh, iB⟩) (dictOf_keeps dA kg) g (fun b o e => ⟨kg _ _ e, fun q => by rw [q, gB] at e; cases e⟩) stB stA (by omega) (by omega) fun h' tk l items n k hl1 hl2 dB' hE => ?_) rfl (by decide) (by decide)
    dsimp only at k hl1 hl2
    obtain ⟨oB', hB', iB'⟩ := Heap.dictOf_iff.mp dB'
    have nb := (N (aB, oB) (.tail _ (.tail _ (.tail _ (.tail _ (.head _)))))).2
    replace ltB := ltN ltB
    have N1 : News s.heap s.heap.objs.size h₅ ([(s.heap.objs.size + 1 + 1 + 1 + 1, o1), (s.heap.objs.size + 1 + 1 + 1, o2), (s.heap.objs.size + 1 + 1, o3), (s.heap.objs.size + 1, o4)] ++ seg) := News_sub N fun p hp => by
      rcases List.mem_append.mp hp with hp | hp
      · exact List.mem_append_left _ (by simp only [List.mem_cons, List.not_mem_nil, or_false] at hp ⊢; rcases hp with q | q | q | q <;> simp [q])
      · exact List.mem_append_right _ hp
    obtain ⟨F1, N2⟩ := keep_but (it := aB) (fun b o hb e => k b o hb e) (Ne.symm nb.1) nb.2 (fun p hp => by
      rcases List.mem_append.mp hp with hp | hp
      · simp only [List.mem_cons, List.not_mem_nil, or_false] at hp
        rcases hp with q | q | q | q <;> (rw [q]; k_ne)
      · exact Z.off p hp _ (.tail _ (.tail _ (.tail _ (.tail _ (.head _)))))) F N1
    have N3 : News s.heap s.heap.objs.size h' ([(s.heap.objs.size + 1 + 1 + 1 + 1, o1), (s.heap.objs.size + 1 + 1 + 1, o2), (s.heap.objs.size + 1 + 1, o3), (s.heap.objs.size + 1, o4), (aB, oB')] ++ seg) := fun p hp => by
      rcases List.mem_append.mp hp with hp | hp
      · simp only [List.mem_cons, List.not_mem_nil, or_false] at hp
        rcases hp with q | q | q | q | q
        · exact N2 p (by simp [q])
        · exact N2 p (by simp [q])
        · exact N2 p (by simp [q])
        · exact N2 p (by simp [q])
        · subst q; exact ⟨hB', nb⟩
      · exact N2 p (List.mem_append_right _ hp)
    obtain ⟨g', seg', Z', N4, kg', kh⟩ := freezeN [(s.heap.objs.size + 1 + 1 + 1 + 1, o1), (s.heap.objs.size + 1 + 1 + 1, o2), (s.heap.objs.size + 1 + 1, o3), (s.heap.objs.size + 1, o4), (aB, oB')] F1 (News_sub N3 fun p hp => List.mem_append_left _ hp)
    have kgg : Ke g g' := Z.next F1 N3 kh Z.noA
    have kn : ∀ b o, h₅.get? b = none → h'.get? b = some o → g'.get? b = some o := fun b o e1 e2 => kh b o e2 (new_out F N e1).1 (new_out F N e1).2
    have hlT := kn _ _ hl1 hl2
    have hET := hE.mono fun v r x => x.low F.keep kn
    clear F N N1 N2 N3 hE
    dsimp only
    repeat walk1
    (rename Fr _ _ _ _ => F7)
    (rename News _ _ _ _ => N7)
    exact hP _ _ _ g' seg' _ items n oB' F7 (⟨rfl, rfl, rfl, trivial⟩) N7 Z' iB' (stB.keeps kgg) (dictOf_keeps dA kgg) (stA.keeps kgg) (kgg _ _ hlB) (hEB.mono fun _ _ x => x.keeps kgg) (kgg _ _ hlA) (hEA.mono fun _ _ x => x.keeps kgg) hlT hET
  clear F N Z stB dA stA hK hlB hEB hlA hEA iB
  intro h₆ tk₆ m₆ g seg lT itT nT oB F hK N Z iB stB dA stA hlB hEB hlA hEA hlT hET
  replace F := hK.fr F
  dsimp only
  refine wpAny_execs_cons ?_
  refine mono_cps (D := fun P => ∀ h tk m g seg lD itD nD, (Fr s.heap s.heap.objs.size h m) → (Knows m [(Str.ofString "all_before", .ref lB), (Str.ofString "all_after", .ref lA), (Str.ofString "told", .ref lT), (Str.ofString "due", .ref lD)]) → (News s.heap s.heap.objs.size h ([(s.heap.objs.size + 1 + 1 + 1 + 1, o1), (s.heap.objs.size + 1 + 1 + 1, o2), (s.heap.objs.size + 1 + 1, o3), (s.heap.objs.size + 1, o4), (aB, oB)] ++ seg)) → (Fz s.heap s.heap.objs.size ([(s.heap.objs.size + 1 + 1 + 1 + 1, o1), (s.heap.objs.size + 1 + 1 + 1, o2), (s.heap.objs.size + 1 + 1, o3), (s.heap.objs.size + 1, o4), (aB, oB)].map (·.1)) g seg) → (STb g kB tO) → (g.DictOf (strKind PG w) aA kA) → (STb g kA tN) → (g.get? lB = some (listOf itB nB)) → (Each (PairH g) itB kB) → (g.get? lA = some (listOf itA nA)) → (Each (PairH g) itA kA) → (g.get? lT = some (listOf itT nT)) → (Each (DiffN s.heap g) itT (dueR tO tN)) → (g.get? lD = some (listOf itD nD)) → (Each (FiveN s.heap g) itD (dueR tO tN)) → P .next { s with heap := h, toks := tk }) ?_ ?_
  · intro P hP
    repeat walk1
    refine wk 600 2000 (due_call (tO := tO) (tN := tN) (G.keeps F.keep) (hO.keeps F.keep) (hN.keeps F.keep) (by omega) (by omega) fun h' tk l items n k hl1 hl2 hE => ?_) rfl (by decide) (by decide)
    dsimp only at k hl1 hl2
    obtain ⟨g', seg', Z', F2, N2, kgg, kn, kh⟩ := refreeze [(s.heap.objs.size + 1 + 1 + 1 + 1, o1), (s.heap.objs.size + 1 + 1 + 1, o2), (s.heap.objs.size + 1 + 1, o3), (s.heap.objs.size + 1, o4), (aB, oB)] Z F N k
    have hlD := kn _ _ hl1 hl2
    have hED := hE.mono fun v r x => x.low F.keep kn
    clear F N hE
    dsimp only
    repeat walk1
    (rename Fr _ _ _ _ => F7)
    (rename News _ _ _ _ => N7)
    exact hP _ _ _ g' seg' _ items n F7 (⟨rfl, rfl, rfl, rfl, trivial⟩) N7 Z' (stB.keeps kgg) (dictOf_keeps dA kgg) (stA.keeps kgg) (kgg _ _ hlB) (hEB.mono fun _ _ x => x.keeps kgg) (kgg _ _ hlA) (hEA.mono fun _ _ x => x.keeps kgg) (kgg _ _ hlT) (hET.mono fun _ _ x => x.keeps kgg) hlD hED
  clear F N Z stB dA stA hK hlB hEB hlA hEA hlT hET
  intro h₇ tk₇ m₇ g seg lD itD nD F hK N Z stB dA stA hlB hEB hlA hEA hlT hET hlD hED
  replace F := hK.fr F
  dsimp only
  refine wpAny_execs_cons ?_
  refine mono_cps (D := fun P => ∀ h tk m, (Fr s.heap s.heap.objs.size h m) → (Knows m [(Str.ofString "all_before", .ref lB), (Str.ofString "all_after", .ref lA), (Str.ofString "told", .ref lT), (Str.ofString "due", .ref lD)]) → (News s.heap s.heap.objs.size h ([(s.heap.objs.size + 1 + 1 + 1 + 1, o1), (s.heap.objs.size + 1 + 1 + 1, o2), (s.heap.objs.size + 1 + 1, o3), (s.heap.objs.size + 1, o4), (aB, oB)] ++ seg)) → P .next { s with heap := h, toks := tk }) ?_ ?_
  · intro P hP
    iterate 2 walk1
    refine lc_eval (by with_unfolding_all rfl) rfl (by decide) ?_
    walk1
    have G1 := G.keeps F.keep
    have X1 := G1.X
    have T1 := G1.T
    have kg := Z.ke F N
    have szT : itT.size ≤ 1000 := by rw [hET.1]; have := due_len tO tN; omega
    refine lc_list (J := fun i ys news => Each (Five news) ys.toArray ((dueR tO tN).take i) ∧ ys.length ≤ i ∧ ∀ p ∈ news, h₇.objs.size + 1 < p.1) ⟨_, kg _ _ hlT, rfl, _, rfl⟩ (by rw [sizeLine_eq]; omega) (by decide) rfl (fun i v _ it j s' Q _ hq => wpAny_pure hq) (fun i ys news h => h.2.1) (fun i ys news h p hp => ?_) ⟨Each.nil, Nat.le_refl _, fun _ h => nomatch h⟩ ?_ ?_
    · have z := ltN (h.2.2 p hp)
      exact ⟨by k_ne, by k_ne⟩
    · intro i v m₁ ys news₁ h tk io hx hJ F2 N2
      dsimp only at F2 N2 ⊢
      obtain ⟨r, hr1, x, dx, tp, ta, tb, tc, te, rfl, e1, e2, -, -⟩ := hET.2 i v hx
      replace e1 := kg _ _ e1
      replace e2 := kg _ _ e2
      clear F N
      repeat walk1
      (rename Fr _ _ _ _ => F6)
      (rename News _ _ _ _ => N6)
      (rename _ ∧ _ ∧ AllLt _ _ => z)
      refine ⟨_, _, _, _, rfl, F6, News_re3 N6, ?_, ?_, forall_cons z.2.1 hJ.2.2⟩
      · rw [take_next hr1, ← List.push_toArray]
        exact Each.push (hJ.1.mono fun v r x => x.mono fun p hp => .tail _ hp) ⟨_, _, _, _, _, _, rfl, .head _⟩
      · rw [List.length_append, List.length_singleton]; exact Nat.succ_le_succ hJ.2.1
    · intro m₁ ys news₁ h tk hJ F2 N2
      dsimp only at F2 N2 ⊢
      obtain ⟨oC, iC, F3, N3, e1, e2, e3⟩ := lift_block F N F2 N2
      clear F2 N2
      refine letgo F3 N3 iC ?_ ?_
      · intro p hp
        rcases List.mem_append.mp hp with hp | hp
        · exact e1 p hp
        · exact e2 p hp
      intro h' F4 N4
      clear F3 N3 F N
      have N5 := News_sub N4 fun p hp => List.mem_append_right _ hp
      have kg' := Z.ke F4 N5
      have hE := hJ.1
      rw [hET.1, List.take_of_length_le (Nat.le_refl _)] at hE
      have hE' := hE.mono fun v r x => x.at (News_sub N4 fun p hp => List.mem_append_left _ (.tail _ hp))
      have hD := (N4 _ (.head _)).1
      clear N4
      dsimp only
      walk1
      refine ne_alike (dat := D5) 1 (by decide) (fun r hr => ok5 (due_keys BO BN r hr)) (fun v r x => reads5 x) (fun v r x => reads5 (x.h.keeps kg')) hD (kg' _ _ hlD) hE' hED (by decide) ?_
      repeat walk1
      (rename Fr _ _ _ _ => F7)
      (rename News _ _ _ _ => N7)
      exact hP _ _ _ F7 (⟨rfl, rfl, rfl, rfl, trivial⟩) N7
  clear F N hK
  intro h₈ tk₈ m₈ F hK N
  replace F := hK.fr F
  dsimp only
  have kkA := keys_eq stA.1 fun i k v e => let ⟨r, a, _⟩ := stA.2 i k v e; ⟨r, a⟩
  refine wpAny_execs_cons ?_
  refine mono_cps (D := fun P => ∀ h tk m lL itL nL, (Fr s.heap s.heap.objs.size h m) → (Knows m [(Str.ofString "all_before", .ref lB), (Str.ofString "all_after", .ref lA), (Str.ofString "told", .ref lT), (Str.ofString "due", .ref lD), (Str.ofString "left", .ref lL)]) → (News s.heap s.heap.objs.size h ((lL, listOf itL nL) :: ([(s.heap.objs.size + 1 + 1 + 1 + 1, o1), (s.heap.objs.size + 1 + 1 + 1, o2), (s.heap.objs.size + 1 + 1, o3), (s.heap.objs.size + 1, o4), (aB, oB)] ++ seg))) → (Each (PairH g) itL (restB kB (kA.map (·.1)))) → P .next { s with heap := h, toks := tk }) ?_ ?_
  · intro P hP
    refine lc_assign (by with_unfolding_all rfl) (by with_unfolding_all rfl) rfl (by decide) ?_
    walk1
    obtain ⟨sN, kN, dN, lN, rN⟩ := hN
    have hkN := keys_eq lN fun i k v e => let ⟨r, a, _⟩ := rN i k v e; ⟨r, a⟩
    have G1 := G.keeps F.keep
    have X1 := G1.X
    have T1 := G1.T
    have kg := Z.ke F N
    have szB : itB.size ≤ 100 := by rw [hEB.1, stB.1]; exact bO
    refine lc_list (J := fun i ys news => news = [] ∧ Each (PairH g) ys.toArray (restB (kB.take i) (kA.map (·.1))) ∧ ys.length ≤ i) ⟨_, kg _ _ hlB, rfl, _, rfl⟩ (by rw [sizeLine_eq]; omega) (by decide) rfl (fun i v _ it j s' Q _ hq => wpAny_pure hq) (fun i ys news h => h.2.2) (fun i ys news h p hp => by rw [h.1] at hp; cases hp) ⟨rfl, Each.nil, Nat.le_refl _⟩ ?_ ?_
    · intro i v m₁ ys news₁ h tk io hx hJ F2 N2
      obtain ⟨rfl, hJ, hyl⟩ := hJ
      dsimp only at F2 N2 ⊢
      obtain ⟨⟨k, x⟩, hr1, t, tt, rfl, e1⟩ := hEB.2 i v hx
      have e2 : IsTup h₈ t #[.str k tt, x] := ⟨_, kg _ _ e1, rfl, _, rfl⟩
      have c3 : h₈.IsCell (s.heap.objs.size + 1 + 1) (some (.ref aN)) := ⟨_, (N _ (.tail _ (.tail _ (.head _)))).1, d3⟩
      have dN1 := dictOf_keeps dN F.keep
      clear F N
      repeat walk1
      (rename Fr _ _ _ _ => F5)
      refine d_notin (dictOf_keeps dN1 F5.keep) sN ?_
      have hc : (valueAt kN k).isSome = (kA.map (·.1)).contains k := by rw [isSome_contains, hkN, kkA]
      rw [hc]
      have hrt := restB_take (ks := kA.map (·.1)) hr1
      cases hcc : (kA.map (·.1)).contains k
      · rw [hcc] at hrt
        repeat walk1
        (rename Fr _ _ _ _ => F6)
        (rename News _ _ _ _ => N6)
        refine ⟨_, _, _, [], rfl, F6, N6, rfl, ?_, ?_⟩
        · rw [hrt, ← List.push_toArray]
          exact Each.push hJ ⟨t, tt, rfl, e1⟩
        · rw [List.length_append, List.length_singleton]; exact Nat.succ_le_succ hyl
      · rw [hcc] at hrt
        repeat walk1
        (rename Fr _ _ _ _ => F6)
        (rename News _ _ _ _ => N6)
        refine ⟨_, _, _, [], rfl, F6, N6, rfl, ?_, ?_⟩
        · rw [hrt]
          simpa using hJ
        · exact Nat.le_succ_of_le hyl
    · intro m₁ ys news₁ h tk hJ F2 N2
      obtain ⟨rfl, hJ, hyl⟩ := hJ
      dsimp only at F2 N2 ⊢
      obtain ⟨oC, iC, F3, N3, e1, e2, e3⟩ := lift_block F N F2 N2
      clear F2 N2 F N
      show wpAny _ _ _ _ _ _
      iterate 2 walk1
      (rename Fr _ _ _ _ => F5)
      (rename News _ _ _ _ => N5)
      refine letgo F5 N5 iC ?_ ?_
      · intro p hp
        rcases List.mem_append.mp hp with hp | hp
        · exact e1 p hp
        · exact e2 p hp
      intro h' F6 N6
      rw [hEB.1, List.take_of_length_le (Nat.le_refl _)] at hJ
      exact hP _ _ _ _ _ _ F6 (⟨rfl, rfl, rfl, rfl, rfl, trivial⟩) N6 hJ
  clear F N hK
  intro h₉ tk₉ m₉ lL itL nL F hK N hEL
  replace F := hK.fr F
  dsimp only
  refine wpAny_execs_cons ?_
  refine mono_cps (D := fun P => ∀ h tk m, (Fr s.heap s.heap.objs.size h m) → (Knows m [(Str.ofString "all_before", .ref lB), (Str.ofString "all_after", .ref lA), (Str.ofString "told", .ref lT), (Str.ofString "due", .ref lD), (Str.ofString "left", .ref lL)]) → (News s.heap s.heap.objs.size h ((lL, listOf itL nL) :: ([(s.heap.objs.size + 1 + 1 + 1 + 1, o1), (s.heap.objs.size + 1 + 1 + 1, o2), (s.heap.objs.size + 1 + 1, o3), (s.heap.objs.size + 1, o4), (aB, oB)] ++ seg))) → P .next { s with heap := h, toks := tk }) ?_ ?_
  · intro P hP
    repeat walk1
    have kg := Z.ke (own := [(s.heap.objs.size + 1 + 1 + 1 + 1, o1), (s.heap.objs.size + 1 + 1 + 1, o2), (s.heap.objs.size + 1 + 1, o3), (s.heap.objs.size + 1, o4), (aB, oB)]) F (News_sub N fun p hp => .tail _ hp)
    obtain ⟨epA, hat⟩ := (dictOf_keeps dA kg).dictAt
    refine kdl_N (kdl_dict (knd := strKind PG w) (kvs := kA) (ep := epA) sysA) rfl F N hat (by rw [sizeLine_eq, stA.1]; omega) fun B c ha tka vs Fa Na l1 hl hv => ?_
    have hK1 := keys_each hl hv
    clear F N kg
    replace F := Fa
    replace N := Na
    clear Fa Na
    have kg := Z.ke (own := [(s.heap.objs.size + 1 + 1 + 1 + 1, o1), (s.heap.objs.size + 1 + 1 + 1, o2), (s.heap.objs.size + 1 + 1, o3), (s.heap.objs.size + 1, o4), (aB, oB)]) F (News_sub N fun p hp => .tail _ (.tail _ hp))
    have G1 := G.keeps F.keep
    have X1 := G1.X
    have T1 := G1.T
    dsimp only
    refine lc_eval (by with_unfolding_all rfl) rfl (by decide) ?_
    walk1
    have szA : itA.size ≤ 100 := by rw [hEA.1, stA.1]; exact bN
    refine lc_list (J := fun i ys news => news = [] ∧ Each KeyV ys.toArray ((kA.take i).map (·.1)) ∧ ys.length ≤ i) ⟨_, kg _ _ hlA, rfl, _, rfl⟩ (by rw [sizeLine_eq]; omega) (by decide) rfl (fun i v _ it j s' Q _ hq => wpAny_pure hq) (fun i ys news h => h.2.2) (fun i ys news h p hp => by rw [h.1] at hp; cases hp) ⟨rfl, Each.nil, Nat.le_refl _⟩ ?_ ?_
    · intro i v m₁ ys news₁ h tk io hx hJ F2 N2
      obtain ⟨rfl, hJ, hyl⟩ := hJ
      dsimp only at F2 N2 ⊢
      obtain ⟨⟨k, x⟩, hr1, t, tt, rfl, e1⟩ := hEA.2 i v hx
      have e2 : IsTup ha t #[.str k tt, x] := ⟨_, kg _ _ e1, rfl, _, rfl⟩
      clear F N
      repeat walk1
      (rename Fr _ _ _ _ => F6)
      (rename News _ _ _ _ => N6)
      refine ⟨_, _, _, [], rfl, F6, N6, rfl, ?_, ?_⟩
      · rw [take_next hr1, List.map_append, ← List.push_toArray]
        exact Each.push hJ ⟨_, rfl⟩
      · rw [List.length_append, List.length_singleton]; exact Nat.succ_le_succ hyl
    intro m₁ ys news₁ h tk hJ F2 N2
    obtain ⟨rfl, hJ, hyl⟩ := hJ
    dsimp only at F2 N2 ⊢
    obtain ⟨oC, iC, F3, N3, e1, e2, e3⟩ := lift_block F N F2 N2
    clear F2 N2 F N
    refine letgo F3 N3 iC ?_ ?_
    · intro p hp
      rcases List.mem_append.mp hp with hp | hp
      · exact e1 p hp
      · exact e2 p hp
    intro ha' F N
    clear F3 N3 e1 e2 e3 iC oC
    rw [hEA.1, List.take_of_length_le (Nat.le_refl _)] at hJ
    dsimp only [List.cons_append, List.nil_append] at N ⊢
    refine ne_alike (dat := PyData.str) 0 (by decide) (fun k hk => ⟨ok_str ?_, Nat.le_of_eq rfl⟩) (fun v r x => readsK x) (fun v r x => readsK x) (N _ (.tail _ (.head _))).1 (N _ (.head _)).1 hK1 hJ (by decide) ?_
    · rw [kkA] at hk
      obtain ⟨x, hx, rfl⟩ := List.mem_map.mp hk
      exact (BN x hx).1
    repeat walk1
    obtain ⟨epB, hatB⟩ := (Heap.dictOf_iff.mpr ⟨oB, (N _ (.tail _ (.tail _ (.tail _ (.tail _ (.tail _ (.tail _ (.tail _ (.head _))))))))).1, iB⟩ : Heap.DictOf (strKind PG w) _ aB (restB kB (kA.map (·.1)))).dictAt
    have lenL : (restB kB (kA.map (·.1))).length ≤ 100 := Nat.le_trans (List.length_filter_le _ _) (by rw [stB.1]; exact bO)
    refine kdl_N (kdl_dict (knd := strKind PG w) (kvs := restB kB (kA.map (·.1))) (ep := epB) sysB) rfl F N hatB (by rw [sizeLine_eq]; omega) fun B c hb tkb vs Fa Na l1 hl hv => ?_
    have hK2 := keys_each hl hv
    clear F N kg G1 X1 T1 hK1 hJ
    replace F := Fa
    replace N := Na
    clear Fa Na
    have kg := Z.ke (own := [(s.heap.objs.size + 1 + 1 + 1 + 1, o1), (s.heap.objs.size + 1 + 1 + 1, o2), (s.heap.objs.size + 1 + 1, o3), (s.heap.objs.size + 1, o4), (aB, oB)]) F (News_sub N fun p hp => .tail _ (.tail _ (.tail _ (.tail _ hp))))
    have G1 := G.keeps F.keep
    have X1 := G1.X
    have T1 := G1.T
    dsimp only
    refine lc_eval (by with_unfolding_all rfl) rfl (by decide) ?_
    walk1
    have szL : itL.size ≤ 100 := by rw [hEL.1]; exact lenL
    refine lc_list (J := fun i ys news => news = [] ∧ Each KeyV ys.toArray (((restB kB (kA.map (·.1))).take i).map (·.1)) ∧ ys.length ≤ i) ⟨_, (N _ (.tail _ (.tail _ (.tail _ (.head _))))).1, rfl, _, rfl⟩ (by rw [sizeLine_eq]; omega) (by decide) rfl (fun i v _ it j s' Q _ hq => wpAny_pure hq) (fun i ys news h => h.2.2) (fun i ys news h p hp => by rw [h.1] at hp; cases hp) ⟨rfl, Each.nil, Nat.le_refl _⟩ ?_ ?_
    · intro i v m₁ ys news₁ h tk io hx hJ F2 N2
      obtain ⟨rfl, hJ, hyl⟩ := hJ
      dsimp only at F2 N2 ⊢
      obtain ⟨⟨k, x⟩, hr1, t, tt, rfl, e1⟩ := hEL.2 i v hx
      have e2 : IsTup hb t #[.str k tt, x] := ⟨_, kg _ _ e1, rfl, _, rfl⟩
      clear F N
      repeat walk1
      (rename Fr _ _ _ _ => F6)
      (rename News _ _ _ _ => N6)
      refine ⟨_, _, _, [], rfl, F6, N6, rfl, ?_, ?_⟩
      · rw [take_next hr1, List.map_append, ← List.push_toArray]
        exact Each.push hJ ⟨_, rfl⟩
      · rw [List.length_append, List.length_singleton]; exact Nat.succ_le_succ hyl
    intro m₁ ys news₁ h tk hJ F2 N2
    obtain ⟨rfl, hJ, hyl⟩ := hJ
    dsimp only at F2 N2 ⊢
    obtain ⟨oC, iC, F3, N3, e1, e2, e3⟩ := lift_block F N F2 N2
    clear F2 N2 F N
    refine letgo F3 N3 iC ?_ ?_
    · intro p hp
      rcases List.mem_append.mp hp with hp | hp
      · exact e1 p hp
      · exact e2 p hp
    intro hb' F N
    clear F3 N3 e1 e2 e3 iC oC
    rw [hEL.1, List.take_of_length_le (Nat.le_refl _)] at hJ
    dsimp only [List.cons_append, List.nil_append] at N ⊢
    refine ne_alike (dat := PyData.str) 0 (by decide) (fun k hk => ⟨ok_str ?_, Nat.le_of_eq rfl⟩) (fun v r x => readsK x) (fun v r x => readsK x) (N _ (.tail _ (.head _))).1 (N _ (.head _)).1 hK2 hJ (by decide) ?_
    · obtain ⟨x, hx, rfl⟩ := List.mem_map.mp hk
      have hx' := (List.mem_filter.mp hx).1
      have : x.1 ∈ tO.map (·.1) := by
        rw [← keys_eq stB.1 fun i k v e => let ⟨r, a, _⟩ := stB.2 i k v e; ⟨r, a⟩]
        exact List.mem_map_of_mem hx'
      obtain ⟨y, hy, e⟩ := List.mem_map.mp this
      rw [← e]
      exact (BO y hy).1
    repeat walk1
    (rename Fr _ _ _ _ => F7)
    (rename News _ _ _ _ => N7)
    exact hP _ _ _ F7 (⟨rfl, rfl, rfl, rfl, rfl, trivial⟩) (News_sub N7 fun p hp => .tail _ (.tail _ (.tail _ (.tail _ hp))))
  clear F N hK
  intro h₁₀ tk₁₀ m₁₀ F hK N
  replace F := hK.fr F
  dsimp only
  refine wpAny_execs_cons ?_
  refine mono_cps (D := fun P => ∀ h tk m, (Fr s.heap s.heap.objs.size h m) → (Knows m [(Str.ofString "all_before", .ref lB), (Str.ofString "all_after", .ref lA), (Str.ofString "told", .ref lT), (Str.ofString "due", .ref lD), (Str.ofString "left", .ref lL)]) → (News s.heap s.heap.objs.size h ([(s.heap.objs.size + 1 + 1 + 1 + 1, o1), (s.heap.objs.size + 1 + 1 + 1, o2), (s.heap.objs.size + 1 + 1, o3), (s.heap.objs.size + 1, o4), (aB, oB)] ++ seg)) → P .next { s with heap := h, toks := tk }) ?_ ?_
  · intro P hP
    iterate 8 walk1
    have kg := Z.ke (own := [(s.heap.objs.size + 1 + 1 + 1 + 1, o1), (s.heap.objs.size + 1 + 1 + 1, o2), (s.heap.objs.size + 1 + 1, o3), (s.heap.objs.size + 1, o4), (aB, oB)]) F (News_sub N fun p hp => .tail _ hp)
    have G1 := G.keeps F.keep
    have X1 := G1.X
    have T1 := G1.T
    have szA : itA.size ≤ 100 := by rw [hEA.1, stA.1]; exact bN
    have lenL : (restB kB (kA.map (·.1))).length ≤ 100 := Nat.le_trans (List.length_filter_le _ _) (by rw [stB.1]; exact bO)
    have szL : itL.size ≤ 100 := by rw [hEL.1]; exact lenL
    obtain ⟨epA, cA⟩ := dA.dictAt
    have nA := cA.nodup
    have dA1 := dictOf_keeps dA kg
    refine lc_eval (by with_unfolding_all rfl) rfl (by decide) ?_
    walk1
    refine lc_list (J := fun i ys news => news = [] ∧ AllT ys ∧ ys.length ≤ i) ⟨_, kg _ _ hlA, rfl, _, rfl⟩ (by rw [sizeLine_eq]; omega) (by decide) rfl (fun i v hi it j s' Q hit hq => ?_) (fun i ys news h => h.2.2) (fun i ys news h p hp => by rw [h.1] at hp; cases hp) ⟨rfl, AllT.nil, Nat.le_refl _⟩ ?_ ?_
    · obtain ⟨_, _, t, _, rfl, _⟩ := hEA.2 i v hi
      exact wpAny_letOwnedTupleGo_listiter hit hq
    · intro i v m₁ ys news₁ h tk io hx hJ F2 N2
      obtain ⟨rfl, hJ, hyl⟩ := hJ
      dsimp only at F2 N2 ⊢
      obtain ⟨⟨k, x⟩, hr1, t, tt, rfl, e1⟩ := hEA.2 i v hx
      have e2 : IsTup h₁₀ t #[.str k tt, x] := ⟨_, kg _ _ e1, rfl, _, rfl⟩
      have cc : h₁₀.IsCell (s.heap.objs.size + 1 + 1 + 1 + 1) (some (.ref aA)) := ⟨_, (N _ (.tail _ (.head _))).1, d1⟩
      obtain ⟨y, rfl⟩ : ∃ y, x = .ref y := (by obtain ⟨r, _, y, _, _, _, _, e, _⟩ := stA.2 i k x hr1; exact ⟨y, e⟩)
      clear F N
      repeat walk1
      (rename Fr _ _ _ _ => F5)
      refine d_item (dictOf_keeps dA1 F5.keep) (valueAt_of_get nA hr1) ?_
      walk1
      refine wpAny_is_ref_self ?_
      (rename Fr _ _ _ _ => F6)
      (rename News _ _ _ _ => N6)
      refine ⟨_, _, _, [], rfl, F6, N6, rfl, hJ.push, ?_⟩
      rw [List.length_append, List.length_singleton]; exact Nat.succ_le_succ hyl
    intro m₁ ys news₁ h tk hJ F2 N2
    obtain ⟨rfl, hJ, hyl⟩ := hJ
    dsimp only at F2 N2 ⊢
    obtain ⟨oC, iC, F3, N3, e1, e2, e3⟩ := lift_block F N F2 N2
    clear F2 N2 F N
    refine letgo F3 N3 iC ?_ ?_
    · intro p hp
      rcases List.mem_append.mp hp with hp | hp
      · exact e1 p hp
      · exact e2 p hp
    intro h₁₀' F N
    clear F3 N3 e1 e2 e3 iC oC
    dsimp only [List.cons_append, List.nil_append] at N ⊢
    obtain ⟨bs, hb1, hb2⟩ := hJ
    walk1
    refine LSm.all_bools F N rfl ⟨_, (N _ (.head _)).1, rfl, _, rfl⟩ hb1 fun h₁₀a h₁₀t F1 N1 => ?_
    rw [hb2]
    clear F N
    replace F := F1
    replace N := N1
    clear F1 N1
    dsimp only
    iterate 9 walk1
    clear kg G1 X1 T1 dA1
    have kg := Z.ke (own := [(s.heap.objs.size + 1 + 1 + 1 + 1, o1), (s.heap.objs.size + 1 + 1 + 1, o2), (s.heap.objs.size + 1 + 1, o3), (s.heap.objs.size + 1, o4), (aB, oB)]) F (News_sub N fun p hp => .tail _ (.tail _ hp))
    have G1 := G.keeps F.keep
    have X1 := G1.X
    have T1 := G1.T
    have dB1 : Heap.DictOf (strKind PG w) _ aB (restB kB (kA.map (·.1))) := Heap.dictOf_iff.mpr ⟨oB, (N _ (.tail _ (.tail _ (.tail _ (.tail _ (.tail _ (.tail _ (.head _)))))))).1, iB⟩
    obtain ⟨epB, cB⟩ := dB1.dictAt
    have nB := cB.nodup
    refine lc_eval (by with_unfolding_all rfl) rfl (by decide) ?_
    walk1
    refine lc_list (J := fun i ys news => news = [] ∧ AllT ys ∧ ys.length ≤ i) ⟨_, (N _ (.tail _ (.head _))).1, rfl, _, rfl⟩ (by rw [sizeLine_eq]; omega) (by decide) rfl (fun i v hi it j s' Q hit hq => ?_) (fun i ys news h => h.2.2) (fun i ys news h p hp => by rw [h.1] at hp; cases hp) ⟨rfl, AllT.nil, Nat.le_refl _⟩ ?_ ?_
    · obtain ⟨_, _, t, _, rfl, _⟩ := hEL.2 i v hi
      exact wpAny_letOwnedTupleGo_listiter hit hq
    · intro i v m₁ ys news₁ h tk io hx hJ F2 N2
      obtain ⟨rfl, hJ, hyl⟩ := hJ
      dsimp only at F2 N2 ⊢
      obtain ⟨⟨k, x⟩, hr1, t, tt, rfl, e1⟩ := hEL.2 i v hx
      have e2 : IsTup h₁₀a t #[.str k tt, x] := ⟨_, kg _ _ e1, rfl, _, rfl⟩
      have cc : h₁₀a.IsCell (s.heap.objs.size + 1 + 1 + 1) (some (.ref aB)) := ⟨_, (N _ (.tail _ (.tail _ (.tail _ (.head _))))).1, d2⟩
      obtain ⟨y, rfl⟩ : ∃ y, x = .ref y := (by obtain ⟨j, hj⟩ := List.mem_iff_getElem?.mp (List.mem_filter.mp (List.mem_of_getElem? hr1)).1; obtain ⟨r, _, y, _, _, _, _, e, _⟩ := stB.2 j k x hj; exact ⟨y, e⟩)
      clear F N
      repeat walk1
      (rename Fr _ _ _ _ => F5)
      refine d_item (dictOf_keeps dB1 F5.keep) (valueAt_of_get nB hr1) ?_
      walk1
      refine wpAny_is_ref_self ?_
      (rename Fr _ _ _ _ => F6)
      (rename News _ _ _ _ => N6)
      refine ⟨_, _, _, [], rfl, F6, N6, rfl, hJ.push, ?_⟩
      rw [List.length_append, List.length_singleton]; exact Nat.succ_le_succ hyl
    intro m₁ ys news₁ h tk hJ F2 N2
    obtain ⟨rfl, hJ, hyl⟩ := hJ
    dsimp only at F2 N2 ⊢
    obtain ⟨oC, iC, F3, N3, e1, e2, e3⟩ := lift_block F N F2 N2
    clear F2 N2 F N
    refine letgo F3 N3 iC ?_ ?_
    · intro p hp
      rcases List.mem_append.mp hp with hp | hp
      · exact e1 p hp
      · exact e2 p hp
    intro h₁₀a' F N
    clear F3 N3 e1 e2 e3 iC oC
    dsimp only [List.cons_append, List.nil_append] at N ⊢
    obtain ⟨bs, hb1, hb2⟩ := hJ
    walk1
    refine LSm.all_bools F N rfl ⟨_, (N _ (.head _)).1, rfl, _, rfl⟩ hb1 fun h₁₀aa h₁₀at F1 N1 => ?_
    rw [hb2]
    clear F N
    replace F := F1
    replace N := N1
    clear F1 N1
    dsimp only
    repeat walk1
    (rename Fr _ _ _ _ => F7)
    (rename News _ _ _ _ => N7)
    exact hP _ _ _ F7 (⟨rfl, rfl, rfl, rfl, rfl, trivial⟩) (News_sub N7 fun p hp => .tail _ (.tail _ (.tail _ hp)))
  clear F N hK
  intro h₁₁ tk₁₁ m₁₁ F hK N
  replace F := hK.fr F
  clear hK
  dsimp only
  refine wpAny_execs_cons ?_
  refine mono_cps (D := fun P => ∀ h tk m news, (Fr s.heap s.heap.objs.size h m) → (News s.heap s.heap.objs.size h news) → P .next { s with heap := h, toks := tk }) ?_ ?_
  · intro P hP
    refine wpAny_For ?_
    repeat walk1
    have kg := Z.ke F N
    refine call_zip_2 ⟨_, kg _ _ hlT, rfl, _, rfl⟩ ⟨_, kg _ _ hlD, rfl, _, rfl⟩ fun h' z1 z2 z3 z4 z5 hsz k => ?_
    dsimp only at z1 z2 z3 z4 z5 hsz k
    refine wpAny_pyIter_zip z1 ?_
    obtain ⟨oi, hi1, hi2⟩ := z4
    obtain ⟨oj, hj1, hj2⟩ := z5
    obtain ⟨F1, N1⟩ := keeps_FN k F N
    have below : ∀ p ∈ [(s.heap.objs.size + 1 + 1 + 1 + 1, o1), (s.heap.objs.size + 1 + 1 + 1, o2), (s.heap.objs.size + 1 + 1, o3), (s.heap.objs.size + 1, o4), (aB, oB)] ++ seg, p.1 < h₁₁.objs.size := fun p hp => Heap.lt_size (N p hp).1
    have lT' := ltN (Heap.lt_size (kg _ _ hlT))
    have lD' := ltN (Heap.lt_size (kg _ _ hlD))
    have N2 : News s.heap s.heap.objs.size h' (zipL (h₁₁.objs.size + 4) (h₁₁.objs.size + 2) (h₁₁.objs.size + 3) h₁₁.objs.size (h₁₁.objs.size + 1) .none .none oi oj ++ ([(s.heap.objs.size + 1 + 1 + 1 + 1, o1), (s.heap.objs.size + 1 + 1 + 1, o2), (s.heap.objs.size + 1 + 1, o3), (s.heap.objs.size + 1, o4), (aB, oB)] ++ seg)) :=
      forall_cons (fresh_new F (Nat.le_add_right _ _) z1) (forall_cons (fresh_new F (Nat.le_add_right _ _) z2) (forall_cons (fresh_new F (Nat.le_add_right _ _) z3) (forall_cons (fresh_new F (Nat.le_refl _) hi1) (forall_cons (fresh_new F (Nat.le_add_right _ _) hj1) N1))))
    dsimp only
    refine for_zip (fun i m news => news = [(s.heap.objs.size + 1 + 1 + 1 + 1, o1), (s.heap.objs.size + 1 + 1 + 1, o2), (s.heap.objs.size + 1 + 1, o3), (s.heap.objs.size + 1, o4), (aB, oB)] ++ seg) (l1 := lT) (l2 := lD) (xs := itT) (ys := itD) ?_ ?_ ?_ ?_ hi2 hj2 F1 N2 rfl ?_ ?_
    · rintro i m news h rfl F N
      have kg := Z.ke F N
      exact ⟨⟨_, kg _ _ hlT, rfl, _, rfl⟩, ⟨_, kg _ _ hlD, rfl, _, rfl⟩⟩
    · rintro i m news rfl p hp hm
      have z := ltN (below p hp)
      simp only [List.mem_cons, List.not_mem_nil, or_false] at hm
      rcases hm with q | q | q | q | q <;> exact absurd q (by k_ne)
    · constructor <;> k_ne
    · rw [hET.1, hED.1]
    · clear F N F1 N1 N2 k hi1 hj1 z1 z2 z3
      rintro i v v' t m₁ news₁ h tk q1 q2 hx hy rfl F N z z'
      refine turn_post fun P1 hP1 => ?_
      obtain ⟨r, hr1, x, dx, tp, ta, tb, tc, te, rfl, e1, e2, e4, e5⟩ := hET.2 i v hx
      obtain ⟨r', hr2, td, up, ua, ub, uc, ue, rfl, e3, e6⟩ := hED.2 i v' hy
      have : r' = r := Option.some.inj (hr2.symm.trans hr1)
      subst this
      obtain ⟨p, a, b, c, e⟩ := r'
      have hkp : KeyOk p := due_keys BO BN _ (List.mem_of_getElem? hr1)
      have hbd := due_bounds BO BN _ (List.mem_of_getElem? hr1)
      dsimp only at e1 e3 hbd
      obtain ⟨b1, b2, b3, b4, b5, b6, b7, b8⟩ := hbd
      have kg := Z.ke (own := [(s.heap.objs.size + 1 + 1 + 1 + 1, o1), (s.heap.objs.size + 1 + 1 + 1, o2), (s.heap.objs.size + 1 + 1, o3), (s.heap.objs.size + 1, o4), (aB, oB)]) F (News_sub N fun p hp => .tail _ (List.mem_append_right _ hp))
      have N' := forall_cons (P := fun p : Addr × Obj => h.get? p.1 = some p.2 ∧ p.1 ≠ s.heap.objs.size ∧ s.heap.get? p.1 = none) (a := (td, tupO #[.str p up, .int a ua, .int b ub, .int c uc, .int e ue])) ⟨kg _ _ e3, (fun q => by dsimp only at q; rw [q, Z.noL] at e3; cases e3), e6⟩
        (forall_cons (a := (x, diffObj dx (.str p tp) (.int a ta) (.int b tb) (.int c tc) (.int e te))) ⟨kg _ _ e1, (fun q => by dsimp only at q; rw [q, Z.noL] at e1; cases e1), e4⟩ (forall_cons (a := (dx, dictOf [] 0)) ⟨kg _ _ e2, (fun q => by dsimp only at q; rw [q, Z.noL] at e2; cases e2), e5⟩ N))
      replace N' : News s.heap s.heap.objs.size h _ := N'
      clear N
      have lp : p.length = 1 := by obtain ⟨k, _, _, rfl⟩ := hkp; rfl
      have l0 : (Str.ofString "<StatisticDiff traceback='").length = 26 := by decide +kernel
      have l1 : (Str.ofString "' size=").length = 7 := by decide +kernel
      have l2 : (Str.ofString " (").length = 2 := by decide +kernel
      have l3 : (Str.ofString ") count=").length = 8 := by decide +kernel
      have l4 : (Str.ofString ")>").length = 2 := by decide +kernel
      have l5 : (Str.ofString "x").length = 1 := by decide +kernel
      have la : (Str.ofString (toString a)).length ≤ 10 := toString_length_le (by omega) (by decide) (by omega)
      have lc : (Str.ofString (toString c)).length ≤ 10 := toString_length_le (by omega) (by decide) (by omega)
      have lb : (sgn b).length ≤ 11 := sgn_len (by omega) (by omega)
      have le : (sgn e).length ≤ 11 := sgn_len (by omega) (by omega)
      iterate 6 walk1
      dsimp only
      iterate 17 walk1
      refine wpAny_execs_cons ?_
      refine mono_cps (D := fun P => ∀ h tk m tw, (Fr s.heap s.heap.objs.size h m) → (Knows m [(Str.ofString "one", .ref x), (Str.ofString "place", .str p up), (Str.ofString "size", .int a ua), (Str.ofString "more", .int b ub), (Str.ofString "count", .int c uc), (Str.ofString "often", .int e ue), (Str.ofString "words", .str (diffText p a b c e) tw)]) → (News s.heap s.heap.objs.size h ((td, tupO #[.str p up, .int a ua, .int b ub, .int c uc, .int e ue]) :: (x, diffObj dx (.str p tp) (.int a ta) (.int b tb) (.int c tc) (.int e te)) :: (dx, dictOf [] 0) :: (zipL (h₁₁.objs.size + 4) (h₁₁.objs.size + 2) (h₁₁.objs.size + 3) h₁₁.objs.size (h₁₁.objs.size + 1) (.ref x) (.ref td) q1 q2 ++ ([(s.heap.objs.size + 1 + 1 + 1 + 1, o1), (s.heap.objs.size + 1 + 1 + 1, o2), (s.heap.objs.size + 1 + 1, o3), (s.heap.objs.size + 1, o4), (aB, oB)] ++ seg)))) → P .next { s with heap := h, toks := tk }) ?_ ?_
      · intro P hP
        repeat walk1
        (rename Fr _ _ _ _ => F5)
        (rename News _ _ _ _ => N5)
        refine wk 700 3000 (signed_call (G.keeps F5.keep) (by omega) (by omega) fun h' tk u' k => ?_) rfl (by decide) (by decide)
        obtain ⟨F6, N6⟩ := keeps_FN k F5 N5
        clear F5 N5 k
        dsimp only
        repeat walk1
        (rename Fr _ _ _ _ => F5)
        (rename News _ _ _ _ => N5)
        refine wk 700 3000 (signed_call (G.keeps F5.keep) (by omega) (by omega) fun h' tk u' k => ?_) rfl (by decide) (by decide)
        obtain ⟨F6, N6⟩ := keeps_FN k F5 N5
        clear F5 N5 k
        dsimp only
        repeat walk1
        (rename Fr _ _ _ _ => F7)
        (rename News _ _ _ _ => N7)
        exact hP _ _ _ _ F7 (⟨rfl, rfl, rfl, rfl, rfl, rfl, Eq.trans rfl (congrArg (fun z => some (Value.str z _)) (words_eq p a b c e)), trivial⟩) (News_drop4 N7)
      intro ha tka ma tw F hK N
      replace F := hK.fr F
      clear hK
      dsimp only
      refine wpAny_execs_cons ?_
      refine mono_cps (D := fun P => ∀ h tk m, (Fr s.heap s.heap.objs.size h m) → (Knows m [(Str.ofString "one", .ref x), (Str.ofString "place", .str p up), (Str.ofString "size", .int a ua), (Str.ofString "more", .int b ub), (Str.ofString "count", .int c uc), (Str.ofString "often", .int e ue)]) → (News s.heap s.heap.objs.size h ((td, tupO #[.str p up, .int a ua, .int b ub, .int c uc, .int e ue]) :: (x, diffObj dx (.str p tp) (.int a ta) (.int b tb) (.int c tc) (.int e te)) :: (dx, dictOf [] 0) :: (zipL (h₁₁.objs.size + 4) (h₁₁.objs.size + 2) (h₁₁.objs.size + 3) h₁₁.objs.size (h₁₁.objs.size + 1) (.ref x) (.ref td) q1 q2 ++ ([(s.heap.objs.size + 1 + 1 + 1 + 1, o1), (s.heap.objs.size + 1 + 1 + 1, o2), (s.heap.objs.size + 1 + 1, o3), (s.heap.objs.size + 1, o4), (aB, oB)] ++ seg)))) → P .next { s with heap := h, toks := tk }) ?_ ?_
      · intro P hP
        repeat walk1
        (rename Fr _ _ _ _ => F5)
        (rename News _ _ _ _ => N5)
        have ix : Heap.get? _ x = _ := (N5 (x, diffObj dx (.str p tp) (.int a ta) (.int b tb) (.int c tc) (.int e te)) (.tail _ (.head _))).1
        have idx : Heap.get? _ dx = _ := (N5 (dx, dictOf [] 0) (.tail _ (.tail _ (.head _)))).1
        refine wk 700 3000 (diff_repr (G.keeps F5.keep) ix idx hkp b1 (by omega) b5 (by omega) (by omega) (by omega) (by omega) (by omega) fun h' tk t' k => ?_) rfl (by decide) (by decide)
        obtain ⟨F6, N6⟩ := keeps_FN k F5 N5
        clear F5 N5 k ix idx
        dsimp only [StrBack]
        walk1
        walk1
        rw [bne_self_eq_false]
        repeat walk1
        dsimp only [List.append_nil]
        (rename Fr _ _ _ _ => F5)
        (rename News _ _ _ _ => N5)
        have ix : Heap.get? _ x = _ := (N5 (x, diffObj dx (.str p tp) (.int a ta) (.int b tb) (.int c tc) (.int e te)) (.tail _ (.head _))).1
        have idx : Heap.get? _ dx = _ := (N5 (dx, dictOf [] 0) (.tail _ (.tail _ (.head _)))).1
        refine wk 700 3000 (diff_key (G.keeps F5.keep) ix idx fun h' tk y k1 k2 k hy1 hy2 => ?_) rfl (by decide) (by decide)
        obtain ⟨F6, N6'⟩ := keeps_FN k F5 N5
        have N6 := forall_cons (P := fun p : Addr × Obj => h'.get? p.1 = some p.2 ∧ p.1 ≠ s.heap.objs.size ∧ s.heap.get? p.1 = none) (a := (y, tupO #[.int (if b < 0 then -b else b) k1, .int a ta, .int (if e < 0 then -e else e) k2, .int c tc, .str p tp])) ⟨hy2, (fun q => by
          obtain ⟨o', _, _, z, _⟩ := F5.ns
          dsimp only at q
          rw [q, z] at hy1; cases hy1), none_of F5.keep hy1⟩ N6'
        replace N6 : News s.heap s.heap.objs.size h' _ := N6
        clear F5 N5 k ix idx N6' hy1 hy2
        dsimp only
        repeat walk1
        (rename Fr _ _ _ _ => F5)
        (rename News _ _ _ _ => N5)
        refine ne_tups (N5 _ (.tail _ (.head _))).1 (N5 _ (.head _)).1 (.cons (.int _ _) (.cons (.int _ _) (.cons (.int _ _) (.cons (.int _ _) (.cons (.str _ _) .nil))))) (.cons (.int _ _) (.cons (.int _ _) (.cons (.int _ _) (.cons (.int _ _) (.cons (.str _ _) .nil))))) (shaped_key hkp) (by decide) ?_
        repeat walk1
        (rename Fr _ _ _ _ => F7)
        (rename News _ _ _ _ => N7)
        exact hP _ _ _ F7 (⟨rfl, rfl, rfl, rfl, rfl, rfl, trivial⟩) (fun p hp => N7 p (.tail _ (.tail _ hp)))
      clear F N
      intro hb tkb mb F hK N
      replace F := hK.fr F
      clear hK
      dsimp only
      refine wpAny_execs_cons ?_
      refine mono_cps (D := fun P => ∀ h tk m, (Fr s.heap s.heap.objs.size h m) → (Knows m [(Str.ofString "one", .ref x), (Str.ofString "place", .str p up), (Str.ofString "size", .int a ua), (Str.ofString "more", .int b ub), (Str.ofString "count", .int c uc), (Str.ofString "often", .int e ue)]) → (News s.heap s.heap.objs.size h ((td, tupO #[.str p up, .int a ua, .int b ub, .int c uc, .int e ue]) :: (x, diffObj dx (.str p tp) (.int a ta) (.int b tb) (.int c tc) (.int e te)) :: (dx, dictOf [] 0) :: (zipL (h₁₁.objs.size + 4) (h₁₁.objs.size + 2) (h₁₁.objs.size + 3) h₁₁.objs.size (h₁₁.objs.size + 1) (.ref x) (.ref td) q1 q2 ++ ([(s.heap.objs.size + 1 + 1 + 1 + 1, o1), (s.heap.objs.size + 1 + 1 + 1, o2), (s.heap.objs.size + 1 + 1, o3), (s.heap.objs.size + 1, o4), (aB, oB)] ++ seg)))) → P .next { s with heap := h, toks := tk }) ?_ ?_
      · intro P hP
        repeat walk1
        (rename Fr _ _ _ _ => F5)
        (rename News _ _ _ _ => N5)
        refine diff_newN F5 N5 G (by decide) (by decide) fun h' tk y dy F6 N6 z1 z2 => ?_
        clear F5 N5
        dsimp only
        refine ne_diffN (G.keeps F6.keep) (N6 (x, diffObj dx (.str p tp) (.int a ta) (.int b tb) (.int c tc) (.int e te)) (.tail _ (.tail _ (.tail _ (.head _))))).1 (N6 (dx, dictOf [] 0) (.tail _ (.tail _ (.tail _ (.tail _ (.head _)))))).1 (N6 _ (.head _)).1 (N6 _ (.tail _ (.head _))).1 (fun h'' tk' k => ?_) (by decide) (by decide)
        obtain ⟨F7, N7⟩ := keeps_FN k F6 N6
        clear F6 N6 k
        have e0 : decide (p = p ∧ a = a ∧ b = b ∧ c = c ∧ e = e) = true := by simp
        rw [e0]
        dsimp only
        repeat walk1
        (rename Fr _ _ _ _ => F5)
        (rename News _ _ _ _ => N5)
        refine eq_tupN (G.keeps F5.keep) (N5 (x, diffObj dx (.str p tp) (.int a ta) (.int b tb) (.int c tc) (.int e te)) (.tail _ (.tail _ (.tail _ (.tail _ (.head _)))))).1 (N5 (dx, dictOf [] 0) (.tail _ (.tail _ (.tail _ (.tail _ (.tail _ (.head _))))))).1 (N5 _ (.head _)).1 (fun h'' tk' k => ?_) (by decide) (by decide)
        obtain ⟨F7, N7⟩ := keeps_FN k F5 N5
        clear F5 N5 k
        dsimp only
        repeat walk1
        (rename Fr _ _ _ _ => F8)
        (rename News _ _ _ _ => N8)
        exact hP _ _ _ F8 (⟨rfl, rfl, rfl, rfl, rfl, rfl, trivial⟩) (fun p hp => N8 p (.tail _ (.tail _ (.tail _ hp))))
      clear F N
      intro hc tkc mc F hK N
      replace F := hK.fr F
      clear hK
      dsimp only
      refine wpAny_execs_cons ?_
      refine mono_cps (D := fun P => ∀ h tk m lO itO nO NLx, (Fr s.heap s.heap.objs.size h m) → (Knows m [(Str.ofString "one", .ref x), (Str.ofString "others", .ref lO)]) → (News s.heap s.heap.objs.size h NLx) → ((lO, listOf itO nO) ∈ NLx) → (Each (Five NLx) itO [(p ++ Str.ofString "x", a, b, c, e), (p, a + 1, b, c, e), (p, a, b - 1, c, e), (p, a, b, c + 1, e), (p, a, b, c, e - 1)]) → (∀ q ∈ ((td, tupO #[.str p up, .int a ua, .int b ub, .int c uc, .int e ue]) :: (x, diffObj dx (.str p tp) (.int a ta) (.int b tb) (.int c tc) (.int e te)) :: (dx, dictOf [] 0) :: (zipL (h₁₁.objs.size + 4) (h₁₁.objs.size + 2) (h₁₁.objs.size + 3) h₁₁.objs.size (h₁₁.objs.size + 1) (.ref x) (.ref td) q1 q2 ++ ([(s.heap.objs.size + 1 + 1 + 1 + 1, o1), (s.heap.objs.size + 1 + 1 + 1, o2), (s.heap.objs.size + 1 + 1, o3), (s.heap.objs.size + 1, o4), (aB, oB)] ++ seg))), q ∈ NLx) → P .next { s with heap := h, toks := tk }) ?_ ?_
      · intro P hP
        repeat walk1
        (rename Fr _ _ _ _ => F5)
        (rename News _ _ _ _ => N5)
        obtain ⟨NLx, itO, N6, hm, hE, hs⟩ := others_of N5
        exact hP _ _ _ _ itO _ NLx F5 (⟨rfl, rfl, trivial⟩) N6 hm hE hs
      clear F N
      intro hd tkd md lO itO nO NLx F hK N hlO hEO hsub
      replace F := hK.fr F
      clear hK
      dsimp only
      refine wpAny_execs_cons ?_
      refine wpAny_For ?_
      walk1
      refine wpAny_pyIter_list ⟨_, (N _ hlO).1, rfl, _, rfl⟩ ?_
      have F6 := F.push { cls := .type "list_iterator", data := .fields #[.ref lO, .int 0 0] }
      have N6 := N.push F { cls := .type "list_iterator", data := .fields #[.ref lO, .int 0 0] }
      have below' : ∀ q ∈ NLx, q.1 < hd.objs.size := fun q hq => Heap.lt_size (N q hq).1
      dsimp only
      refine for_list (fun i m news => news = NLx ∧ Knows m [(Str.ofString "one", .ref x)]) (l := lO) (items := itO) ?_ ?_ ?_ ⟨rfl, rfl⟩ F6 N6 ⟨rfl, rfl, trivial⟩ ?_ ?_
      · rintro i m news h ⟨rfl, _⟩ F N
        exact ⟨_, (N _ hlO).1, rfl, _, rfl⟩
      · rintro i m news ⟨rfl, _⟩ q hq
        exact Nat.ne_of_lt (below' q hq)
      · intro i v hi
        obtain ⟨_, _, t, _, _, _, _, _, rfl, _⟩ := hEO.2 i v hi
        exact ⟨t, rfl⟩
      · clear F N F6 N6
        rintro i v m₁ news₁ h tk io hx ⟨rfl, hK⟩ F N
        replace F := hK.fr F
        clear hK
        refine turn_post fun P hP => ?_
        obtain ⟨r, hr1, t, v1, v2, v3, v4, v5, rfl, hmem⟩ := hEO.2 i v hx
        have nr : decide (p = r.1 ∧ a = r.2.1 ∧ b = r.2.2.1 ∧ c = r.2.2.2.1 ∧ e = r.2.2.2.2) = false := by
          have hr := List.mem_of_getElem? hr1
          simp only [List.mem_cons, List.not_mem_nil, or_false] at hr
          refine decide_eq_false ?_
          rcases hr with rfl | rfl | rfl | rfl | rfl
          · exact fun h => ne_x p h.1
          all_goals (dsimp only; omega)
        obtain ⟨r1, r2, r3, r4, r5⟩ := r
        dsimp only at nr hmem
        have N7 : News s.heap s.heap.objs.size h ((t, tupO #[.str r1 v1, .int r2 v2, .int r3 v3, .int r4 v4, .int r5 v5]) :: (x, diffObj dx (.str p tp) (.int a ta) (.int b tb) (.int c tc) (.int e te)) :: (dx, dictOf [] 0) :: (hd.objs.size, io) :: _) :=
          forall_cons (N _ (.tail _ hmem)) (forall_cons (N (x, diffObj dx (.str p tp) (.int a ta) (.int b tb) (.int c tc) (.int e te)) (.tail _ (hsub _ (.tail _ (.head _))))) (forall_cons (N (dx, dictOf [] 0) (.tail _ (hsub _ (.tail _ (.tail _ (.head _)))))) N))
        clear N
        repeat walk1
        (rename Fr _ _ _ _ => F5)
        (rename News _ _ _ _ => N5)
        refine diff_newN F5 N5 G (by decide) (by decide) fun h' tk y dy F6 N6 z1 z2 => ?_
        clear F5 N5
        dsimp only
        refine eq_diffN F6 G (N6 (x, diffObj dx (.str p tp) (.int a ta) (.int b tb) (.int c tc) (.int e te)) (.tail _ (.tail _ (.tail _ (.head _))))).1 (N6 (dx, dictOf [] 0) (.tail _ (.tail _ (.tail _ (.tail _ (.head _)))))).1 (N6 _ (.head _)).1 (N6 _ (.tail _ (.head _))).1 (fun h'' tk' k => ?_) (by decide) (by decide)
        obtain ⟨F7, N8⟩ := keeps_FN k F6 N6
        clear F6 N6 k
        rw [nr]
        dsimp only
        repeat walk1
        (rename Fr _ _ _ _ => F5)
        (rename News _ _ _ _ => N5)
        exact hP _ _ ⟨rfl, _, _, _, _, rfl, F5, fun q hq => N5 q (.tail _ (.tail _ (.tail _ (.tail _ (.tail _ hq))))), rfl, rfl, trivial⟩
      · rintro m₁ news₁ h tk ⟨rfl, hK⟩ F N
        dsimp only
        repeat walk1
        exact hP1 _ _ ⟨rfl, _, _, _, [(s.heap.objs.size + 1 + 1 + 1 + 1, o1), (s.heap.objs.size + 1 + 1 + 1, o2), (s.heap.objs.size + 1 + 1, o3), (s.heap.objs.size + 1, o4), (aB, oB)] ++ seg, rfl, F, News_sub N fun q hq => hsub q (.tail _ (.tail _ (.tail _ hq))), rfl⟩
    · rintro m₁ news₁ h tk rfl F N
      exact hP _ _ _ _ F N
  clear F N
  intro h₁₂ tk₁₂ m₁₂ news F N
  dsimp only
  repeat walk1
  exact hQ _ _ F.keep
end
theorem fill8 : (∃ w : World, (hd.heap_39 w.params).In default ∧ PySem.Challenge.rw_dz0115_01.writes = true) → True := by
  k_fill
  exact fun _ => trivial
theorem Tbl.off {w : World} {h g : Heap} {L a : Addr} {tb : Tb} {m : Str → Option Value} (x : Tbl w h a tb) (ha : a ≠ L) (hL : h.Ns L m) (k : ∀ b o, h.get? b = some o → b ≠ L → g.get? b = some o) : Tbl w g a tb := by
  obtain ⟨z, kvs, ⟨o, es, ep, ho, r⟩, hl, hr⟩ := x
  refine ⟨z, kvs, ⟨o, es, ep, k _ _ ho ha, r⟩, hl, fun i q v e => ?_⟩
  obtain ⟨r, e1, t, ts, tc, e2, e3⟩ := hr i q v e
  refine ⟨r, e1, t, ts, tc, e2, k _ _ e3 fun q => ?_⟩
  obtain ⟨o', es', ep', ho', e', _⟩ := hL
  subst q
  rw [e3] at ho'
  cases ho'
  cases e'
theorem ne_of_none {h : Heap} {L a : Addr} {m : Str → Option Value} (hL : h.Ns L m) (e : h.get? a = none) : a ≠ L := by
  obtain ⟨o', es', ep', ho', _⟩ := hL
  rintro rfl
  rw [e] at ho'; cases ho'
end Mine
set_option maxRecDepth 100000 in
set_option maxHeartbeats 8000000 in
theorem PySem.Challenge.cw_dz0115_01_holds : PySem.Challenge.rw_dz0115_01.Holds := by
  refine Mine.hd ?_
  k_go0
  iterate 27 walk1
  (rename Fr _ _ _ _ => F)
  (rename News _ _ _ _ => N)
  (rename Top _ _ _ _ _ _ => T)
  (rename Frag.In _ _ => X)
  (rename IntsAre _ _ => hI)
  have G : Mine.Gd _ _ _ _ := ⟨X, topRead_of T⟩
  refine Mine.wk 600 2000 (Mine.tables_call (G.keeps F.keep) (N _ (.head _)).1 hI ?_ fun h' tk t aO aN tO tN k ht nO nN hO hN BO BN lO lN => ?_) rfl (by first | decide | exact Nat.le_of_ble_eq_true rfl) (by first | decide | exact Nat.le_of_ble_eq_true rfl)
  · rw [List.length_append, List.length_take]
    have : ([8, 16, 10] : List Int).length = 3 := rfl
    omega
  have neO := Mine.ne_of_none F.ns nO
  have neN := Mine.ne_of_none F.ns nN
  obtain ⟨F1, N1⟩ := Mine.keeps_FN k F N
  clear F N nO nN k
  obtain ⟨g, seg, Z, N2, kg, kh⟩ := Mine.freezeN [] F1 News.nil
  replace hO := hO.off neO F1.ns fun b o e q => kh b o e q (by simp)
  replace hN := hN.off neN F1.ns fun b o e q => kh b o e q (by simp)
  rw [List.nil_append] at N2
  clear N1 kg kh
  dsimp only
  iterate 21 walk1
  (rename Fr _ _ _ _ => F)
  (rename News _ _ _ _ => N)
  have kg := Z.ke (own := []) F N
  refine Mine.wk 500 1000 (Mine.holds_call (G.keeps F.keep) (hO.keeps kg) (hN.keeps kg) lO lN BO BN fun h2 tk2 k2 => ?_) rfl (by first | decide | exact Nat.le_of_ble_eq_true rfl) (by first | decide | exact Nat.le_of_ble_eq_true rfl)
  obtain ⟨F1, N1⟩ := Mine.keeps_FN k2 F N
  clear F N k2 kg
  dsimp only
  iterate 12 walk1
  (rename Fr _ _ _ _ => F)
  (rename News _ _ _ _ => N)
  have kg := Z.ke (own := []) F N
  refine Mine.wk 500 1000 (Mine.holds_call (G.keeps F.keep) (hN.keeps kg) (hO.keeps kg) lN lO BN BO fun h3 tk3 k3 => ?_) rfl (by first | decide | exact Nat.le_of_ble_eq_true rfl) (by first | decide | exact Nat.le_of_ble_eq_true rfl)
  obtain ⟨F1, N1⟩ := Mine.keeps_FN k3 F N
  clear F N k3 kg
  dsimp only
  k_end
  kc_close

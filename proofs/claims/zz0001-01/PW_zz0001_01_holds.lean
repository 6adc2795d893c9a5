import PyProof.Rows.All
import Wide.All
import OpenK.AllK
import Wide.FinOn
import PySem.Challenge.RW_zz0001_01
open PySem PySem.W PyProof.Rows PySem.Calls PySem.Spec
set_option Elab.async false
section
set_option maxRecDepth 100000
namespace Mine

/-- The true bottom of the stack: the caller's code alone. -/
def bottom : List (Code × Pos) → Bool
  | [(.builtin id _, _)] => id == "claim.caller"
  | _ => false
/-- A tree that looks at the stack first. -/
def looks {α : Type} (t o : Sem α) : Sem α := Sem.stack fun st => if bottom st then t else o

theorem step_looks {c : ClaimW} {w : World} {t o : Sem Fin} {n : Nat} {s s' : Shared} {out : Outcome} (hz : s.asleep)
    (h : schedN (denote table) c.prog w n (.single s ⟨looks t o, .builtin "claim.caller" {}, default, []⟩) = .halted out s') :
    ∃ m, schedN (denote table) c.prog w m (.single s ⟨t, .builtin "claim.caller" {}, default, []⟩) = .halted out s' := by
  cases n with
  | zero => cases h
  | succ n =>
    refine ⟨n, ?_⟩
    have e := sstep_single (denote table) c.prog w s ⟨looks t o, .builtin "claim.caller" {}, default, []⟩ (by rfl) hz
    have e2 : step (denote table) c.prog w s ⟨looks t o, .builtin "claim.caller" {}, default, []⟩ = .go s ⟨t, .builtin "claim.caller" {}, default, []⟩ := by
      obtain ⟨heap, gens, drawn, toks, os⟩ := s
      rfl
    rw [e2] at e
    rcases e with e | e
    · simp only [schedN, e, Step.lift] at h
      exact h
    · cases e

theorem holdsOpenBy_of_looks {c : ClaimW} {tree : List Value → Sem Fin} {o : Sem Fin} {defs keeps : List Str} {writes : Bool}
    (H : c.HoldsOpenBy (fun vs => ⟨looks (tree vs) o, .builtin "claim.caller" {}, default, []⟩) defs keeps writes) :
    c.HoldsOpenBy (fun vs => ⟨tree vs, .builtin "claim.caller" {}, default, []⟩) defs keeps writes := by
  obtain ⟨h1, h2, h3⟩ := H
  refine ⟨h1, h2, fun w => ⟨(h3 w).1, fun s hs => ?_⟩⟩
  obtain ⟨s₀, hf, hg, s₁, hT, hd, r1, r2, hC⟩ := (h3 w).2 s hs
  refine ⟨s₀, hf, hg, s₁, hT, hd, r1, r2, fun args hp hl ord ho => ?_⟩
  obtain ⟨vs, s₂, hlaid, n, out, s', hsched, rest⟩ := hC args hp hl ord ho
  have z₀ : s₀.asleep := Shared.asleep_of_life (fence_lifeW hf) (AfterImport.life hs)
  have z₁ : s₁.asleep := Shared.asleep_of_life hT.2.1 z₀
  have z₂ : s₂.asleep := Shared.asleep_of_life (layAllW_rest _ _ _ hlaid).2.2.2 z₁
  obtain ⟨m, hm⟩ := step_looks z₂ hsched
  exact ⟨vs, s₂, hlaid, m, out, s', hm, rest⟩

theorem wpAny_looks {α : Type} {M : Model} {A : Around} {t o : Sem α} {β : Type} {u v : Sem β} {Q : α → Shared → Prop} {Q' : β → Shared → Prop} {E E' : Value → Shared → Prop} {s : Shared}
    (h : wpAny M A (looks u v) Q' E' s)
    (ht : ∀ Γ p, Γ.In A → Sem.wp M Γ u (fun a _ s' => Q' a s') (fun e _ s' => E' e s') p s → Sem.wp M Γ t (fun a _ s' => Q a s') (fun e _ s' => E e s') p s)
    (ho : ∀ Γ p, Γ.In A → Sem.wp M Γ v (fun a _ s' => Q' a s') (fun e _ s' => E' e s') p s → Sem.wp M Γ o (fun a _ s' => Q a s') (fun e _ s' => E e s') p s) :
    wpAny M A (looks t o) Q E s := fun Γ p hΓ => by
  have hh := h Γ p hΓ
  unfold looks at hh ⊢
  rw [Sem.wp_stack] at hh ⊢
  split at hh
  · rename_i hb; rw [if_pos hb]; exact ht Γ p hΓ hh
  · rename_i hb; rw [if_neg hb]; exact ho Γ p hΓ hh

abbrev lawTree (name : Str) (vs : List Value) : Sem Fin := do
  match ← nsGet mainNs name with
  | some f => do ret (← PySem.call f vs)
  | none => unsupported "claim.caller:no-such-global"

theorem tree_of_run {prog : Program} {w : World} {name : Str} {vs : List Value} {s : Shared} {mg : Str → Option Value} {f : Value} {Q : Fin → Shared → Prop} {E : Value → Shared → Prop}
    (hg : s.heap.Ns mainGlobals mg) (hf : mg name = some f)
    (h : wpAny (model prog w) callerA (looks (PySem.call f vs) (pure (.bool true))) (fun v s' => Q (.done (.ret v)) s') E s) :
    wpAny (model prog w) callerA (looks (lawTree name vs) (ret (.bool true))) Q E s := by
  refine wpAny_looks h (fun Γ p _ hw => ?_) fun Γ p _ hw => hw
  unfold lawTree
  rw [Sem.wp_bind']
  show Sem.wp _ Γ (nsGet mainGlobals name) _ _ p s
  rw [Sem.wp_nsGet _ Γ _ p s hg, hf]
  show Sem.wp _ Γ (PySem.call f vs >>= fun v => ret v) _ _ p s
  rw [Sem.wp_bind']
  exact Sem.wp_mono _ Γ _ (fun v p s' h => h) (fun _ _ _ h => h) p s hw

/-- The head, its premise asked of the true bottom alone (o_head names a head by these words). -/
theorem PySem.W.holds_open {r : OpenRow} {q : Program} {loose : List Str} {Xt : Shared → Bool} {XP : (Str → Option Value) → Heap → Prop} {α : Type} {Yf : Shared → α} {Ya : World → α} {YP : World → Heap → Prop} {d : DefRec} {kwd : List (Str × Expr)} {N : Nat}
    (left : LeftO r.prog q loose Xt Yf Ya N) (hY : ∀ w s, Yf s = Ya w → YP w s.heap) (hYk : ∀ w h h', YP w h → (∀ b o, h.get? b = some o → h'.get? b = some o) → YP w h')
    (hX : ∀ s, Xt s = true → XP (s.heap.nsMap mainGlobals) s.heap) (hXk : ∀ mg h h', XP mg h → (∀ b o, h.get? b = some o → h'.get? b = some o) → XP mg h')
    (hdef : defOf q r.name = some (d, kwd)) (hp : r.prog.theDef r.name = some (d.params, d.body, d.scope)) (hk : kwWritten? d.params.kwonlyargs d.params.kw_defaults = some kwd) (hRf : ∀ s, Xt s = true → RecFacts r.records s.heap) (hwr : (!r.writes || r.records.isEmpty) = true)
    (k1 : r.wellSaid = true) (ok : (chainsOk q && opensWell r.prog && (frees r.toRowW && r.within.isEmpty)) = true) (hb : r.prog.bare) (hw : r.toRowW.promised)
    (call : WalkO q loose XP YP r.toRowW d kwd fun f vs => looks (PySem.call f vs) (pure (.bool true))) : r.Holds := by
  refine ⟨k1, hw, holdsOpenBy_of_looks (o := ret (.bool true)) (tree := lawTree r.name) (open_anyG (r := r.toRowW) (run := fun f vs => looks (PySem.call f vs) (pure (.bool true))) (tree := fun vs => looks (lawTree r.name vs) (ret (.bool true))) left hY hYk hX hXk hRf hwr ok hb hw
    (fun vs w s mg f Q E hg hf h => tree_of_run hg hf h)
    (fun w s hg G n hn => ?_) fun w s₀ s₁ mg mb G Y args vs as hpre hlay L low => ?_)⟩
  · obtain rfl : n = r.name := by split at hn <;> simp_all
    exact pinned_of_view hg G hdef hp hk
  · obtain ⟨a, o, pm, cd, doc, dV, kV, h1, h2, h3, h4, h5⟩ := G.fn hdef
    exact ⟨.ref a, h1, call w s₀ s₁ mg mb G Y a o pm cd doc dV kV h2 h3 h4 h5 (defOf_name hdef ▸ h1) L.gens args vs as hpre hlay L.reads L.well (L.low low)⟩

set_option maxHeartbeats 8000000 in
open_top hd for PySem.Challenge.rw_zz0001_01
end Mine
end

set_option Elab.async false
set_option pp.deepTerms false
set_option pp.maxSteps 20000
set_option linter.unusedVariables false
set_option rowWalk.seconds 0
set_option linter.unusedSimpArgs false
namespace Mine
local macro_rules | `(tactic| walk_at "enter0") => `(tactic| (refine' code_def ?k1 ?k2 ?k3 ?k4 ?k5 ?kA ?kF ?kK ?k6 ?k7 ?k8 ?k9 ?kB ?_ ?c2 ?c3 ?c4 ?c5; (case kA => exact rfl); (case kF => exact rfl); (case kK => assumption); (case k1 => k_asm); (case k2 => k_asm); (case k3 => k_asm); (case k4 => k_asm); (case k5 => k_asm); (case k6 => k_is); (case k7 => k_is); (case k8 => ktr_room); (case k9 => first | exact BindsTo.of_eq rfl | (refine' kp_binds ?kx ?ke; (case kx => k_in); (case ke => exact fun _ => rfl))); (case c5 => decide); (case kB => exact locs rfl); (case c2 => exact rfl); (case c3 => exact rfl); (case c4 => exact rfl); k_whole; intro g' L' h' FG' F' N' B' X' T'; (try dsimp only); (try k_lift B'); (try k_fold)))
local macro_rules | `(tactic| walk_at "back0") => `(tactic| ((case B => k_asm); (case F => k_asm); (case X => k_asm); (case N => k_asm); (case T => k_asm); (case hk => first | exact rfl | assumption); (case hd => first | omega | ((try simp only [depth_mark, depth_under_make, depth_under_kw, depth_in1, depth_deeper, depth_caller]); (try dsimp only [ktrTop]); omega) | ktr_room); (case hu => first | omega | ((try simp only [units_in1, units_deeper, Around.mark_units, units_caller]); (try dsimp only [ktrTop]); omega) | ktr_units)))
local macro_rules | `(tactic| kst_allIn) => `(tactic| kst_anyIn)
local macro_rules | `(tactic| kst_facts1) => `(tactic| exact IntsAre.nil)
section
noncomputable abbrev LS : List Str := looseW hd.view_39 [Str.ofString "insort_right", Str.ofString "bisect_right"]

/-- A call of the def at `f`, from any def's frame: `P` tells what comes back. -/
abbrev Claim (d : Nat) (f : Addr) (vs : List Value) (H : Heap → List (Addr × Obj) → Prop) (P : Value → Prop) : Prop :=
  ∀ (w : World) (mean : ExcName → Option Value) (mg mb : Str → Option Value) (news : List (Addr × Obj)) (dp un : Nat) (gd : Option (List Code)) (cn : Str) (cs : Scope) (a : Addr) (ccd : Value) (cl : List (Str × Addr)) (outer : List Env) (A₀ : Around) (base h₀ : Heap) (L : Addr) (m : Str → Option Value) (s : Shared) (Q E : Value → Shared → Prop),
    Below A₀ base outer h₀ → Fr h₀ L s.heap m → (hd.heap_39 w.params).In h₀ → News h₀ L s.heap news → Top hd.view_39 LS mean mg mb h₀ → cs.kind = .function →
    dp + d < recursionLimit → un + 8 * d < cLine → H base news →
    (∀ (v : Value) (h' : Heap) (tk' : Nat), P v → Fr h₀ L h' m → News h₀ L h' news → Q v { s with heap := h', toks := tk' }) →
      wpAny (model PySem.Challenge.rw_zz0001_01.row.prog w) (ktrTop dp un gd cn cs L a ccd cl outer) (call (.ref f) vs) Q E s
/-- A call that turns the object `o` at `l` into another. -/
abbrev ClaimU (d : Nat) (f : Addr) (vs : List Value) (l : Addr) (o : Obj) (P : Value → Obj → Prop) : Prop :=
  ∀ (w : World) (mean : ExcName → Option Value) (mg mb : Str → Option Value) (news : List (Addr × Obj)) (dp un : Nat) (gd : Option (List Code)) (cn : Str) (cs : Scope) (a : Addr) (ccd : Value) (cl : List (Str × Addr)) (outer : List Env) (A₀ : Around) (base h₀ : Heap) (L : Addr) (m : Str → Option Value) (s : Shared) (Q E : Value → Shared → Prop) (nf : Obj → List (Addr × Obj)),
    Below A₀ base outer h₀ → Fr h₀ L s.heap m → (hd.heap_39 w.params).In h₀ → News h₀ L s.heap news → Top hd.view_39 LS mean mg mb h₀ → cs.kind = .function →
    dp + d < recursionLimit → un + 8 * d < cLine → UpdF l o news nf →
    (∀ (v : Value) (o' : Obj) (h' : Heap) (tk' : Nat), P v o' → Fr h₀ L h' m → News h₀ L h' (nf o') → Q v { s with heap := h', toks := tk' }) →
      wpAny (model PySem.Challenge.rw_zz0001_01.row.prog w) (ktrTop dp un gd cn cs L a ccd cl outer) (call (.ref f) vs) Q E s
theorem updF_mem {d : Addr} {o : Obj} {l : List (Addr × Obj)} {g : Obj → List (Addr × Obj)} (U : UpdF d o l g) : (d, o) ∈ l := by
  obtain ⟨pre, post, rfl, _⟩ := U.split
  exact List.mem_append.mpr (.inr (.head _))
theorem updF_mem' {d : Addr} {o o' : Obj} {l : List (Addr × Obj)} {g : Obj → List (Addr × Obj)} (U : UpdF d o l g) : (d, o') ∈ g o' := by
  obtain ⟨pre, post, _, hg, _⟩ := U.split
  rw [hg]
  exact List.mem_append.mpr (.inr (.head _))
theorem updF_upd {d : Addr} {o : Obj} : ∀ {l : List (Addr × Obj)} {g : Obj → List (Addr × Obj)} (_ : UpdF d o l g) (o' : Obj), Upd d o o' l (g o')
  | _, _, .head h, _ => .head h
  | _, _, .tail h r, _ => .tail h (updF_upd r _)
def BytesR (ks : List Int) (v : Value) : Prop := ∃ b t, v = .bytes b t ∧ KBw.bInts b = ks
end
section
local macro_rules | `(tactic| walk_at "pad") => `(tactic| skip)
local macro_rules | `(tactic| walk_at "call builtin:len") => `(tactic| (k_here; (with_reducible show wpAny _ _ (call (Value.builtin "len") [Value.ref _]) _ _ _); k_dflt (refine' kst_len ?k1 ?k2 ?k3 ?k4 ?_; (case k1 => k_asm); (case k2 => first | k_mem | assumption); (case k3 => exact IntsAre.length (by assumption)); (case k4 => omega)); k_whole))
def Sorted (ns : List Int) : Prop := ∀ i j : Nat, i ≤ j → j < ns.length → ns.getD i 0 ≤ ns.getD j 0
def BisP (ns : List Int) (x lo hi : Int) : Prop := (∀ i : Nat, (i : Int) < lo → ns.getD i 0 ≤ x) ∧ (∀ i : Nat, hi ≤ (i : Int) → i < ns.length → x < ns.getD i 0)
abbrev BisW (ns : List Int) (x lo hi : Int) : Prop := 0 ≤ lo ∧ lo ≤ hi ∧ hi ≤ ns.length ∧ BisP ns x lo hi
theorem bis0 (ns : List Int) (x : Int) : BisW ns x 0 ns.length := ⟨Int.le_refl _, by omega, Int.le_refl _, fun i h => by omega, fun i h1 h2 => by omega⟩
theorem bis1 {ns : List Int} {x lo hi : Int} (hs : Sorted ns) (h0 : 0 ≤ lo) (h1 : lo < hi) (h2 : hi ≤ ns.length) (hP : BisP ns x lo hi) (hx : x < ns.getD ((lo + hi).fdiv 2).toNat 0) : BisW ns x lo ((lo + hi).fdiv 2) := by
  have e : (lo + hi).fdiv 2 = (lo + hi) / 2 := Int.fdiv_eq_ediv_of_nonneg _ (by omega)
  rw [e] at hx ⊢
  refine ⟨h0, by omega, by omega, hP.1, fun i hi1 hi2 => ?_⟩
  have := hs ((lo + hi) / 2).toNat i (by omega) hi2
  omega
theorem bis2 {ns : List Int} {x lo hi : Int} (hs : Sorted ns) (h0 : 0 ≤ lo) (h1 : lo < hi) (h2 : hi ≤ ns.length) (hP : BisP ns x lo hi) (hx : ¬ x < ns.getD ((lo + hi).fdiv 2).toNat 0) : BisW ns x ((lo + hi).fdiv 2 + 1) hi := by
  have e : (lo + hi).fdiv 2 = (lo + hi) / 2 := Int.fdiv_eq_ediv_of_nonneg _ (by omega)
  rw [e] at hx ⊢
  refine ⟨by omega, by omega, h2, fun i hi1 => ?_, hP.2⟩
  have := hs i ((lo + hi) / 2).toNat (by omega) (by omega)
  omega
theorem bism1 {lo hi : Int} (_h0 : 0 ≤ lo) (h1 : lo < hi) : ((lo + hi).fdiv 2 - lo).toNat < (hi - lo).toNat := by
  have e : (lo + hi).fdiv 2 = (lo + hi) / 2 := Int.fdiv_eq_ediv_of_nonneg _ (by omega)
  omega
theorem bism2 {lo hi : Int} (_h0 : 0 ≤ lo) (h1 : lo < hi) : (hi - ((lo + hi).fdiv 2 + 1)).toNat < (hi - lo).toNat := by
  have e : (lo + hi).fdiv 2 = (lo + hi) / 2 := Int.fdiv_eq_ediv_of_nonneg _ (by omega)
  omega
theorem bisE {ns : List Int} {x lo hi : Int} (h0 : 0 ≤ lo) (h1 : lo ≤ hi) (h2 : hi ≤ ns.length) (hP : BisP ns x lo hi) (h : ¬ lo < hi) : 0 ≤ lo ∧ lo ≤ ns.length ∧ BisP ns x lo lo := by
  have : hi = lo := by omega
  subst this
  exact ⟨h0, h2, hP⟩
def BisR (ns : List Int) (x : Int) (v : Value) : Prop := ∃ k t, v = .int k t ∧ 0 ≤ k ∧ k ≤ ns.length ∧ BisP ns x k k
set_option maxRecDepth 100000 in
set_option maxHeartbeats 8000000 in
theorem c_bis (l : Addr) (vs : List Value) (ns : List Int) (n : Nat) (hi : IntsAre vs ns) (hn : ns.length ≤ 10) (hs : Sorted ns) (x : Int) (t t2 : Tok) : Claim 10 39 [.ref l, .int x t, .int 0 t2, .none] (fun _ news => (l, listOf vs.toArray n) ∈ news) (BisR ns x) := by
  k_with_none
  w_top off
  (k_with "exec While Compare cons nil" => k_while (fun (ns : List Int) lo hi => 0 ≤ lo ∧ lo ≤ hi ∧ hi ≤ ns.length ∧ BisP ns x lo hi) (fun _ lo hi => (hi - lo).toNat) "lo" "hi")
  (k_with "state" => first | exact bis0 _ _ | exact bis1 hs (by assumption) (by assumption) (by assumption) (by assumption) (by assumption) | exact bis2 hs (by assumption) (by assumption) (by assumption) (by assumption) (by omega))
  (k_with "measure" => first | exact bism1 (by assumption) (by assumption) | exact bism2 (by assumption) (by assumption))
  unfold Claim
  k_fill; intro w mean mg mb news dp un gd cn cs a ccd cl outer A₀ base h₀ L m s Q E B F X N T hk hd hu hH hret; refine wpAny_call ?_; k_dflt (walk_at "enter0")
  k_steps
  exact hret _ _ _ ⟨_, _, rfl, bisE (by assumption) (by assumption) (by assumption) (by assumption) (by omega)⟩ (by assumption) (cb_drop (by assumption) (by kcj_all))
end
section

theorem ints_erase : ∀ {vs : List Value} {ns : List Int}, IntsAre vs ns → ∀ k, IntsAre (vs.eraseIdx k) (ns.eraseIdx k)
  | _, _, .nil, k => by cases k <;> exact .nil
  | _, _, .cons n t r, 0 => r
  | _, _, .cons n t r, k + 1 => .cons n t (ints_erase r k)
theorem cut_of : ∀ {vs : List Value} {ns : List Int}, IntsAre vs ns → ∀ k y, ns[k]? = some y → ∃ t p q, kl_cut vs k = some (p, .int y t, q) ∧ p ++ q = vs.eraseIdx k
  | _, _, .nil, k, y, h => by cases h
  | _, _, .cons n t r, 0, y, h => by cases h; exact ⟨t, [], _, rfl, rfl⟩
  | _, _, .cons n t r, k + 1, y, h => by
    obtain ⟨u, p, q, e, e2⟩ := cut_of r k y h
    exact ⟨u, .int n t :: p, q, by simp only [kl_cut, e], by rw [List.cons_append, e2]; rfl⟩

theorem seq_in {i : Int} {n : Nat} (h0 : 0 ≤ i) (h1 : i < n) : seqIndex? i n = some i.toNat := by
  have e : ¬ i < 0 := by omega
  unfold seqIndex?
  simp only [e, if_false, decide_eq_true h0, decide_eq_true h1, Bool.and_true, if_true]
theorem fits_small {i : Int} (h0 : 0 ≤ i) (h1 : i ≤ 16777216) : Builtin.List.listFitsIndex i = true := by
  unfold Builtin.List.listFitsIndex
  simp; omega

section
variable {prog : Program} {w : World} {A : Around} {E : Value → Shared → Prop} {s : Shared} {h₀ : Heap} {L D : Addr} {m : Str → Option Value} {news news' : List (Addr × Obj)} {n : Nat}
theorem pop_any {vs : List Value} {ns : List Int} {i : Int} {u : Tok} {Q : Value → Shared → Prop} (F : Fr h₀ L s.heap m) (N : News h₀ L s.heap news) (hi : IntsAre vs ns)
    (U : Upd D (listOf vs.toArray n) (listOf (vs.eraseIdx i.toNat).toArray (n + 1)) news news') (h0 : 0 ≤ i) (h1 : i < ns.length) (hz : ns.length ≤ 16777216)
    (h : ∀ h' y t, ns[i.toNat]? = some y → IntsAre (vs.eraseIdx i.toNat) (ns.eraseIdx i.toNat) → Fr h₀ L h' m → News h₀ L h' news' → Q (.int y t) { s with heap := h' }) :
    wpAny (model prog w) A (call (.builtin "list.pop") [.ref D, .int i u]) Q E s := by
  have hl := hi.length
  have hlt : i.toNat < ns.length := by omega
  obtain ⟨t, p, q, e, e2⟩ := cut_of hi i.toNat ns[i.toNat] (List.getElem?_eq_getElem hlt)
  rw [← e2] at U
  refine kl_popAt (k := i.toNat) F N ?_ ?_ (by simpa using e) U (by simp only [sizeLine_eq]; simpa [hl] using hz) fun h' F' N' => h h' _ t (List.getElem?_eq_getElem hlt) (ints_erase hi _) F' N'
  · exact fits_small (by omega) (by omega)
  · exact seq_in h0 (by rw [List.size_toArray]; omega)
end
end
section
theorem ins_get (ns : List Int) (k : Nat) (x : Int) (hk : k ≤ ns.length) (i : Nat) : (ns.take k ++ x :: ns.drop k).getD i 0 = if i < k then ns.getD i 0 else if i = k then x else ns.getD (i - 1) 0 := by
  have hl : (ns.take k).length = k := by rw [List.length_take]; omega
  simp only [List.getD_eq_getElem?_getD, List.getElem?_append, hl]
  by_cases h : i < k
  · rw [if_pos h, if_pos h, List.getElem?_take_of_lt h]
  · rw [if_neg h, if_neg h]
    by_cases h2 : i = k
    · subst h2; simp
    · rw [if_neg h2]
      obtain ⟨j, hj⟩ : ∃ j, i - k = j + 1 := ⟨i - k - 1, by omega⟩
      rw [hj, List.getElem?_cons_succ, List.getElem?_drop]
      congr 2
      omega
theorem ins_sorted {ns : List Int} {x : Int} {k : Nat} (hs : Sorted ns) (hk : k ≤ ns.length) (hP : BisP ns x k k) : Sorted (ns.take k ++ x :: ns.drop k) := by
  intro i j hij hj
  have hl : (ns.take k ++ x :: ns.drop k).length = ns.length + 1 := by simp; omega
  rw [hl] at hj
  rw [ins_get ns k x hk, ins_get ns k x hk]
  have p1 := hP.1 i
  have p2 := hP.2 (j - 1)
  have s1 := hs i j hij
  have s2 := hs i (j - 1)
  have s3 := hs (i - 1) (j - 1)
  (repeat' split) <;> first | omega | (have := s1 (by omega); omega) | (have := s2 (by omega) (by omega); omega) | (have := s3 (by omega) (by omega); omega) | skip
theorem ins_perm (ns : List Int) (k : Nat) (x : Int) : (ns.take k ++ x :: ns.drop k).Perm (x :: ns) := by
  have h : (ns.take k ++ x :: ns.drop k).Perm (x :: (ns.take k ++ ns.drop k)) := List.perm_middle
  rwa [List.take_append_drop] at h
def InsR (ns : List Int) (x : Int) (n : Nat) (v : Value) (o : Obj) : Prop := v = .none ∧ ∃ vs' ns', o = listOf vs'.toArray (n + 1) ∧ IntsAre vs' ns' ∧ ns'.length = ns.length + 1 ∧ Sorted ns' ∧ ns'.Perm (x :: ns)
theorem ins_end {vs : List Value} {ns : List Int} {x k : Int} {t : Tok} {n : Nat} (hi : IntsAre vs ns) (hs : Sorted ns) (h0 : 0 ≤ k) (h1 : k ≤ ns.length) (hP : BisP ns x k k) : InsR ns x n .none (listOf (kl_ins vs.toArray.toList k (.int x t)).toArray (n + 1)) := by
  have hv := hi.length
  have e : kl_ins vs.toArray.toList k (.int x t) = vs.take k.toNat ++ .int x t :: vs.drop k.toNat := by
    unfold kl_ins
    rw [List.toList_toArray, if_neg (by omega), Nat.min_eq_left (by omega)]
  have hP' : BisP ns x (k.toNat : Int) (k.toNat : Int) := by rw [Int.toNat_of_nonneg h0]; exact hP
  refine ⟨rfl, _, ns.take k.toNat ++ x :: ns.drop k.toNat, by rw [e], (hi.take _).append (.cons _ _ (hi.drop _)), by simp; omega, ins_sorted hs (by omega) hP', ins_perm _ _ _⟩
end
section
local macro_rules | `(tactic| walk_at "pad") => `(tactic| skip)
local macro_rules | `(tactic| walk_at "pad") => `(tactic| skip)
local macro_rules | `(tactic| walk_at "pad") => `(tactic| skip)
local macro_rules | `(tactic| walk_at "pad") => `(tactic| skip)
local macro_rules | `(tactic| walk_at "pad") => `(tactic| skip)
local macro_rules | `(tactic| k_mem) => `(tactic| exact updF_mem (by assumption))
local macro_rules | `(tactic| walk_at "call ref") => `(tactic| (k_here; (with_reducible show wpAny _ _ (call (Value.ref 39) [Value.ref _, Value.int _ _, Value.int _ _, Value.none]) _ _ _); k_dflt (refine' c_bis _ _ _ _ ?ci ?cn ?cs _ _ _ _ _ _ _ _ _ _ _ _ _ _ _ _ _ _ _ _ _ _ _ _ _ ?B ?F ?X ?N ?T ?hk ?hd ?hu ?hH ?_; (case ci => assumption); (case cn => assumption); (case cs => assumption); (case hH => first | k_mem | exact updF_mem (by assumption)); walk_at "back0"); (intro v' h' tk' hP' F' N'; obtain ⟨k', t', hv', hk0', hk1', hkP'⟩ := hP'; subst hv')))
local macro_rules | `(tactic| walk_at "call builtin:list.insert") => `(tactic| (k_here; (with_reducible show wpAny _ _ (call (Value.builtin _) [Value.ref _, Value.int _ _, _]) _ _ _); k_dflt (refine' kl_insert ?F ?N ?f ?e ?U ?z ?_; (case F => k_asm); (case N => k_asm); (case f => exact fits_small (by omega) (by omega)); (case e => exact rfl); (case U => exact updF_upd (by assumption) _); (case z => (rw [sizeLine_eq]; (have hlV := IntsAre.length (by assumption)); (simp only [List.toList_toArray]); omega))); (intro h' F' N')))
set_option maxRecDepth 100000 in
set_option maxHeartbeats 8000000 in
theorem c_ins (l : Addr) (vs : List Value) (ns : List Int) (n : Nat) (hi : IntsAre vs ns) (hn : ns.length ≤ 10) (hs : Sorted ns) (x : Int) (t : Tok) : ClaimU 20 30 [.ref l, .int x t] l (listOf vs.toArray n) (InsR ns x n) := by
  k_with_none
  w_top off
  unfold ClaimU
  k_fill; intro w mean mg mb news dp un gd cn cs a ccd cl outer A₀ base h₀ L m s Q E nf B F X N T hk hd hu hH hret; refine wpAny_call ?_; k_dflt (walk_at "enter0")
  k_steps
  exact hret _ _ _ _ (ins_end hi hs (by assumption) (by assumption) (by assumption)) (by assumption) (by assumption)
end
section
theorem ints_kf : ∀ {vs : List Value} {ns : List Int}, IntsAre vs ns → kf_ints vs = true
  | _, _, .nil => rfl
  | _, _, .cons (vs := vs) n t r => by
    show kf_ints vs = true
    exact ints_kf r
theorem isInt_eq (k a : Int) (t : Tok) : isInt k (.int a t) = (a == k) := by
  unfold isInt
  rfl
theorem any_kf {k : Int} : ∀ {vs : List Value} {ns : List Int}, IntsAre vs ns → vs.any (isInt k) = ns.contains k
  | _, _, .nil => rfl
  | _, _, .cons n t r => by
    rw [List.any_cons, isInt_eq, any_kf r, List.contains_cons]
    congr 1
    exact Bool.beq_comm
theorem at_kf {k : Int} : ∀ {vs : List Value} {ns : List Int}, IntsAre vs ns → k ∈ ns → kf_at k vs = some (ns.idxOf k)
  | _, _, .nil, h => by cases h
  | _, _, .cons (ns := ns) n t r, h => by
    unfold kf_at
    rw [isInt_eq, List.idxOf_cons]
    cases e : n == k with
    | true => rfl
    | false =>
      have hm : k ∈ ns := by
        rcases List.mem_cons.mp h with q | q
        · rw [q] at e; simp at e
        · exact q
      rw [at_kf r hm]
      rfl
section
variable {prog : Program} {w : World} {A : Around} {E : Value → Shared → Prop} {s : Shared} {h₀ : Heap} {L D : Addr} {m : Str → Option Value} {news : List (Addr × Obj)} {n : Nat}
theorem idx_any {vs : List Value} {ns : List Int} {k : Int} {t : Tok} {Q : Value → Shared → Prop} (N : News h₀ L s.heap news) (hm : (D, listOf vs.toArray n) ∈ news) (hi : IntsAre vs ns) (hk : k ∈ ns) (hz : ns.length ≤ 16777216)
    (h : Q (.int (ns.idxOf k : Int) s.toks) { s with toks := s.toks + 1 }) : wpAny (model prog w) A (call (.builtin "list.index") [.ref D, .int k t]) Q E s :=
  kf_index N hm (by rw [List.toList_toArray]; exact ints_kf hi) (by rw [List.toList_toArray]; exact at_kf hi hk) rfl (by rw [List.toList_toArray, hi.length, sizeLine_eq]; exact hz) h
theorem notin_any {vs : List Value} {ns : List Int} {k : Int} {t : Tok} {Q : Value → Shared → Prop} (N : News h₀ L s.heap news) (hm : (D, listOf vs.toArray n) ∈ news) (hi : IntsAre vs ns)
    (h : Q (.bool (!ns.contains k)) s) : wpAny (model prog w) A (compareOp .NotIn (.int k t) (.ref D)) Q E s :=
  kf_notin N hm (by rw [List.toList_toArray]; exact ints_kf hi) (by rw [List.toList_toArray, any_kf hi]) h
end
theorem sorted_pairwise {ns : List Int} (h : Sorted ns) : ns.Pairwise (fun a b => a ≤ b) := by
  rw [List.pairwise_iff_getElem]
  intro i j hi hj hij
  have := h i j (by omega) hj
  simpa [List.getD_eq_getElem?_getD, List.getElem?_eq_getElem hi, List.getElem?_eq_getElem hj] using this
theorem idx_sorted {x : Int} : ∀ {l : List Int}, l.Pairwise (fun a b => a ≤ b) → x ∈ l → l.idxOf x = l.countP (fun y => decide (y < x))
  | [], _, h => by cases h
  | a :: r, hp, h => by
    obtain ⟨h1, h2⟩ := List.pairwise_cons.mp hp
    rw [List.idxOf_cons, List.countP_cons]
    by_cases e : a = x
    · subst e
      have hz : r.countP (fun y => decide (y < a)) = 0 := by
        rw [List.countP_eq_zero]
        intro y hy
        have := h1 y hy
        simp; omega
      simp [hz]
    · have hm : x ∈ r := by
        rcases List.mem_cons.mp h with q | q
        · exact absurd q.symm e
        · exact q
      have := h1 x hm
      rw [idx_sorted h2 hm]
      have e1 : (a == x) = false := by simpa using e
      have e2 : a < x := by omega
      simp [e1, e2]
/-- the pairs j < k with l[k] ≤ l[j] -/
def wv : List Int → Nat
  | [] => 0
  | x :: r => r.countP (fun y => decide (y ≤ x)) + wv r
theorem wv_snoc (l : List Int) (x : Int) : wv (l ++ [x]) = wv l + l.countP (fun y => decide (x ≤ y)) := by
  induction l with
  | nil => simp [wv]
  | cons a r ih =>
    show List.countP _ (r ++ [x]) + wv (r ++ [x]) = _
    rw [ih, List.countP_append]
    simp only [wv, List.countP_cons, List.countP_nil]
    omega
def WrP (pre laid : List Int) (found : Int) : Prop := laid.length = pre.length ∧ Sorted laid ∧ laid.Perm pre ∧ found = (wv pre : Int)
theorem wr0 : (([] : List Int)).length = ([] : List Int).length ∧ Sorted [] ∧ WrP [] [] 0 := by
  have h : Sorted [] := fun i j _ hj => by cases hj
  exact ⟨rfl, h, rfl, h, List.Perm.refl _, rfl⟩
theorem wr1 {pre laid ns' : List Int} {x found : Int} (h : WrP pre laid found) (hl : ns'.length = laid.length + 1) (hs : Sorted ns') (hp : ns'.Perm (x :: laid)) :
    ns'.length = (pre ++ [x]).length ∧ Sorted ns' ∧ WrP (pre ++ [x]) ns' (found + (ns'.length : Int) - 1 - (ns'.idxOf x : Int)) := by
  obtain ⟨h1, h2, h3, h4⟩ := h
  have e1 : ns'.length = (pre ++ [x]).length := by rw [List.length_append, hl, h1]; rfl
  have hx : x ∈ ns' := hp.mem_iff.mpr List.mem_cons_self
  have hp2 : ns'.Perm (pre ++ [x]) := hp.trans ((h3.cons x).trans (List.perm_append_singleton x pre).symm)
  refine ⟨e1, hs, e1, hs, hp2, ?_⟩
  rw [idx_sorted (sorted_pairwise hs) hx, hp2.countP_eq, h4, wv_snoc, e1, List.countP_append, List.length_append]
  have := List.length_eq_countP_add_countP (fun y => decide (y < x)) (l := pre)
  have e2 : List.countP (fun a => decide (¬ (decide (a < x)) = true)) pre = List.countP (fun y => decide (x ≤ y)) pre := by
    congr 1
    funext y
    simp
  rw [e2] at this
  simp only [List.countP_cons, List.countP_nil, Int.lt_irrefl, decide_false, Bool.false_eq_true, if_false, List.length_singleton]
  omega
theorem wr_ne {laid ns' : List Int} (hs : Sorted laid) (hp : ns'.Perm laid) (ho : ns'.Pairwise (fun a b => a ≤ b)) : laid = ns' :=
  (hp.symm.eq_of_pairwise (fun a b _ _ h1 h2 => by omega) (sorted_pairwise hs) ho)
end
section
local macro_rules | `(tactic| walk_at "pad") => `(tactic| skip)
local macro_rules | `(tactic| walk_at "pad") => `(tactic| skip)
local macro_rules | `(tactic| walk_at "pad") => `(tactic| skip)
local macro_rules | `(tactic| walk_at "pad") => `(tactic| skip)
local macro_rules | `(tactic| walk_at "pad") => `(tactic| skip)
local macro_rules | `(tactic| walk_at "pad") => `(tactic| skip)
local macro_rules | `(tactic| walk_at "pad") => `(tactic| skip)
local macro_rules | `(tactic| walk_at "pad") => `(tactic| skip)
local macro_rules | `(tactic| walk_at "pad") => `(tactic| skip)
local macro_rules | `(tactic| walk_at "call ref") => `(tactic| (k_here; (with_reducible show wpAny _ _ (call (Value.ref 30) [Value.ref _, Value.int _ _]) _ _ _); k_dflt (refine' c_ins _ _ _ _ ?ci ?cn ?cs _ _ _ _ _ _ _ _ _ _ _ _ _ _ _ _ _ _ _ _ _ _ _ _ _ ?B ?F ?X ?N ?T ?hk ?hd ?hu ?hH ?_; walk_at "back0"; (case hH => k_updF); (case ci => assumption); (case cn => walk_at "len10"); (case cs => assumption)); (intro v' o' h' tk' hP' F' N'; obtain ⟨hv', vs', ns', ho', hi', hl', hs', hp'⟩ := hP'; subst hv'; subst ho')))
local macro_rules | `(tactic| walk_at "len10") => `(tactic| first | assumption | omega)
local macro_rules | `(tactic| walk_at "call builtin:list.index") => `(tactic| (k_here; (with_reducible show wpAny _ _ (call (Value.builtin _) [Value.ref _, Value.int _ _]) _ _ _); k_dflt (refine' idx_any ?N ?m ?i ?k ?z ?_; (case N => k_asm); (case m => k_mem); (case i => assumption); (case k => first | assumption | exact (List.Perm.mem_iff (by assumption)).mpr List.mem_cons_self); (case z => omega))))
def WrR (ks : List Int) (v : Value) : Prop := ∃ t, v = .int (wv ks : Int) t
theorem wr_end {ks laid : List Int} {f : Int} {t : Tok} (h : WrP ks laid f) : WrR ks (.int f t) := ⟨t, by rw [h.2.2.2]⟩
set_option maxRecDepth 100000 in
set_option maxHeartbeats 8000000 in
theorem c_wrong (b : Array UInt8) (tb : Tok) (ks : List Int) (hb : KBw.bInts b = ks) (hn : ks.length ≤ 10) : Claim 30 53 [.bytes b tb] (fun _ _ => True) (WrR ks) := by
  k_with_none
  w_top off
  (k_with "pyIter bytes" => k_state (fun pre laid found => laid.length = pre.length ∧ Sorted laid ∧ WrP pre laid found) "laid" "found")
  (k_with "state" => first | exact wr0 | exact wr1 (by assumption) (by assumption) (by assumption) (by assumption))
  unfold Claim
  k_fill; intro w mean mg mb news dp un gd cn cs a ccd cl outer A₀ base h₀ L m s Q E B F X N T hk hd hu hH hret; refine wpAny_call ?_; k_dflt (walk_at "enter0")
  k_steps
  · exact hret _ _ _ (wr_end (by assumption)) (by assumption) (cb_drop (by assumption) (by kcj_all))
  · exact absurd (wr_ne (by assumption) (by assumption) (by assumption)) (by assumption)
end
section
def fL (ks : List Int) (p : Int) : Int := ks.getD p.toNat 0
/-- from a to b, each place going to the one that its octet tells -/
inductive Reach (ks : List Int) (a : Int) : Int → Prop
  | refl : Reach ks a a
  | tail {b : Int} : Reach ks a b → Reach ks a (fL ks b)
/-- the places below k that no smaller one reaches -/
noncomputable def rings (ks : List Int) : Nat → Nat
  | 0 => 0
  | k + 1 => rings ks k + (open Classical in if ∀ j : Nat, j < k → ¬ Reach ks j k then 1 else 0)
def InB (ks : List Int) (seen : List Int) : Prop := seen.Nodup ∧ ∀ x ∈ seen, 0 ≤ x ∧ x < ks.length
def RiP (ks : List Int) (pre seen : List Int) (found : Int) : Prop := InB ks seen ∧ (∀ x, x ∈ seen ↔ ∃ j : Nat, j < pre.length ∧ Reach ks j x) ∧ found = (rings ks pre.length : Int)
def RwP (ks : List Int) (k : Nat) (seen : List Int) (place : Int) : Prop := InB ks seen ∧ Reach ks k place ∧ (∀ x ∈ seen, ∃ j : Nat, j ≤ k ∧ Reach ks j x) ∧ (∀ j : Nat, j < k → ∀ x, Reach ks j x → x ∈ seen) ∧ (∀ x ∈ seen, fL ks x ∈ seen ∨ fL ks x = place) ∧ ((k : Int) ∈ seen ∨ place = k)
abbrev RiW (ks : List Int) (pre seen : List Int) (found : Int) : Prop := seen.length ≤ ks.length ∧ RiP ks pre seen found
abbrev RwW (ks : List Int) (k : Nat) (seen : List Int) (place : Int) : Prop := seen.length ≤ ks.length ∧ 0 ≤ place ∧ place < ks.length ∧ RwP ks k seen place
def RiR (ks : List Int) (v : Value) : Prop := ∃ t, v = .int (rings ks ks.length : Int) t
def KsIn (ks : List Int) : Prop := ∀ i : Nat, i < ks.length → 0 ≤ ks.getD i 0 ∧ ks.getD i 0 < ks.length
theorem mem_rangeKs {n : Nat} {x : Int} : x ∈ rangeKs 0 n ↔ 0 ≤ x ∧ x < n := by
  simp only [rangeKs, List.mem_map, List.mem_range]
  constructor
  · rintro ⟨i, h, rfl⟩; omega
  · intro h; exact ⟨x.toNat, by omega, by omega⟩
theorem inb_length {ks seen : List Int} (h : InB ks seen) : seen.length ≤ ks.length := by
  have := h.1.length_le_of_subset (l₂ := rangeKs 0 ks.length) (fun x hx => mem_rangeKs.mpr (h.2 x hx))
  rwa [rangeKs_length] at this
theorem ri0 (ks : List Int) : RiW ks [] [] 0 := ⟨Nat.zero_le _, ⟨.nil, fun x h => by cases h⟩, fun x => ⟨fun h => (by cases h), fun h => by obtain ⟨j, hj, _⟩ := h; cases hj⟩, rfl⟩
theorem rw0 {ks pre seen : List Int} {found k : Int} (h : RiP ks pre seen found) (hk : k = 0 + (pre.length : Int)) (hl : pre.length < ((ks.length : Int) - 0).toNat) : RwW ks pre.length seen k := by
  obtain ⟨h1, h2, h3⟩ := h
  have hk' : k = (pre.length : Int) := by omega
  subst hk'
  refine ⟨inb_length h1, by omega, by omega, h1, .refl, fun x hx => ?_, fun j hj x hx => (h2 x).mpr ⟨j, hj, hx⟩, fun x hx => .inl ?_, .inr rfl⟩
  · obtain ⟨j, hj, hr⟩ := (h2 x).mp hx
    exact ⟨j, by omega, hr⟩
  · obtain ⟨j, hj, hr⟩ := (h2 x).mp hx
    exact (h2 _).mpr ⟨j, hj, .tail hr⟩
theorem rw1 {ks seen : List Int} {k : Nat} {place : Int} (hin : KsIn ks) (h0 : 0 ≤ place) (h1 : place < ks.length) (h : RwP ks k seen place) (hp : seen.contains place = false) : RwW ks k (seen ++ [place]) (ks.getD place.toNat 0) := by
  obtain ⟨a1, a2, a3, a4, a5, a6⟩ := h
  have hn : place ∉ seen := by simpa using hp
  have hI : InB ks (seen ++ [place]) := by
    refine ⟨List.nodup_append.mpr ⟨a1.1, by simp, fun x hx y hy => ?_⟩, fun x hx => ?_⟩
    · rw [List.mem_singleton] at hy
      subst hy
      exact fun e => hn (e ▸ hx)
    · rcases List.mem_append.mp hx with q | q
      · exact a1.2 x q
      · rw [List.mem_singleton.mp q]; exact ⟨h0, h1⟩
  have hb := hin place.toNat (by omega)
  refine ⟨inb_length hI, hb.1, hb.2, hI, .tail a2, fun x hx => ?_, fun j hj x hx => List.mem_append_left _ (a4 j hj x hx), fun x hx => ?_, ?_⟩
  · rcases List.mem_append.mp hx with q | q
    · exact a3 x q
    · rw [List.mem_singleton.mp q]; exact ⟨k, Nat.le_refl _, a2⟩
  · rcases List.mem_append.mp hx with q | q
    · rcases a5 x q with z | z
      · exact .inl (List.mem_append_left _ z)
      · exact .inl (List.mem_append_right _ (by rw [z]; simp))
    · rw [List.mem_singleton.mp q]; exact .inr rfl
  · rcases a6 with z | z
    · exact .inl (List.mem_append_left _ z)
    · exact .inl (List.mem_append_right _ (by rw [z]; simp))
theorem rwm {ks seen : List Int} {k : Nat} {place : Int} (hn : ks.length ≤ 10) (h0 : 0 ≤ place) (h1 : place < ks.length) (hin : KsIn ks) (h : RwP ks k seen place) (hp : seen.contains place = false) : 10 - (seen ++ [place]).length < 10 - seen.length := by
  have := (rw1 hin h0 h1 h hp).1
  rw [List.length_append, List.length_singleton] at this ⊢
  omega
theorem ri1 {ks pre seen₀ seen : List Int} {found place k : Int} (h : RiP ks pre seen₀ found) (hk : k = 0 + (pre.length : Int)) (h' : RwP ks pre.length seen place) (hp : seen.contains place = true) :
    RiW ks (pre ++ [k]) seen (found + if (!seen₀.contains k) = true then 1 else 0) := by
  obtain ⟨h1, h2, h3⟩ := h
  obtain ⟨a1, a2, a3, a4, a5, a6⟩ := h'
  have hk' : k = (pre.length : Int) := by omega
  subst hk'
  have hm : place ∈ seen := by simpa using hp
  have hcl : ∀ x ∈ seen, fL ks x ∈ seen := fun x hx => by
    rcases a5 x hx with q | q
    · exact q
    · rw [q]; exact hm
  have hks : (pre.length : Int) ∈ seen := by
    rcases a6 with q | q
    · exact q
    · rw [← q]; exact hm
  have hre : ∀ x, Reach ks (pre.length : Int) x → x ∈ seen := fun x hx => by
    induction hx with
    | refl => exact hks
    | tail _ ih => exact hcl _ ih
  refine ⟨inb_length a1, a1, fun x => ⟨fun hx => ?_, fun hx => ?_⟩, ?_⟩
  · obtain ⟨j, hj, hr⟩ := a3 x hx
    exact ⟨j, by simp; omega, hr⟩
  · obtain ⟨j, hj, hr⟩ := hx
    rw [List.length_append, List.length_singleton] at hj
    by_cases e : j = pre.length
    · subst e; exact hre x hr
    · exact a4 j (by omega) x hr
  · rw [h3, List.length_append, List.length_singleton]
    show _ = ((rings ks pre.length + _ : Nat) : Int)
    have e : (!seen₀.contains (pre.length : Int)) = true ↔ ∀ j : Nat, j < pre.length → ¬ Reach ks j (pre.length : Int) := by
      have : (!seen₀.contains (pre.length : Int)) = true ↔ (pre.length : Int) ∉ seen₀ := by simp
      rw [this, h2]
      exact ⟨fun h j hj hr => h ⟨j, hj, hr⟩, fun h ⟨j, hj, hr⟩ => h j hj hr⟩
    by_cases q : ∀ j : Nat, j < pre.length → ¬ Reach ks j (pre.length : Int)
    · rw [if_pos (e.mpr q), if_pos q]; omega
    · rw [if_neg (fun z => q (e.mp z)), if_neg q]; omega
theorem ri_end {ks seen : List Int} {f : Int} {t : Tok} (h : RiP ks (rangeKs 0 ((ks.length : Int) - 0).toNat) seen f) : RiR ks (.int f t) := by
  have e : ((ks.length : Int) - 0).toNat = ks.length := by omega
  rw [e] at h
  refine ⟨t, ?_⟩
  rw [h.2.2, rangeKs_length]
end
section
local macro_rules | `(tactic| walk_at "pad") => `(tactic| skip)
local macro_rules | `(tactic| walk_at "pad") => `(tactic| skip)
local macro_rules | `(tactic| walk_at "pad") => `(tactic| skip)
local macro_rules | `(tactic| walk_at "pad") => `(tactic| skip)
local macro_rules | `(tactic| walk_at "pad") => `(tactic| skip)
local macro_rules | `(tactic| walk_at "pad") => `(tactic| skip)
local macro_rules | `(tactic| walk_at "pad") => `(tactic| skip)
local macro_rules | `(tactic| walk_at "pad") => `(tactic| skip)
local macro_rules | `(tactic| walk_at "pad") => `(tactic| skip)
local macro_rules | `(tactic| walk_at "pad") => `(tactic| skip)
local macro_rules | `(tactic| walk_at "pad") => `(tactic| skip)
local macro_rules | `(tactic| walk_at "pad") => `(tactic| skip)
local macro_rules | `(tactic| walk_at "pad") => `(tactic| skip)
local macro_rules | `(tactic| walk_at "pad") => `(tactic| skip)
local macro_rules | `(tactic| walk_at "compareOp NotIn int ref") => `(tactic| (k_here; k_dflt (refine' notin_any ?N ?m ?i ?_; (case N => k_asm); (case m => k_mem); (case i => assumption))))
set_option maxRecDepth 100000 in
set_option maxHeartbeats 8000000 in
theorem c_rings (b : Array UInt8) (tb : Tok) (ks : List Int) (hb : KBw.bInts b = ks) (hn : ks.length ≤ 10) (hin : KsIn ks) : Claim 10 60 [.bytes b tb] (fun _ _ => True) (RiR ks) := by
  k_with_none
  w_top off
  (k_with "pyIter ref" => k_state (fun pre seen found => seen.length ≤ ks.length ∧ RiP ks pre seen found) "seen" "found")
  (k_with "exec While Compare cons nil" => k_while (fun (ns : List Int) seen place => seen.length ≤ ks.length ∧ 0 ≤ place ∧ place < ks.length ∧ RwP ks kPre.length seen place) (fun _ seen _ => 10 - seen.length) "seen" "place")
  (k_with "state" => first | exact ri0 ks | exact rw0 (by assumption) (by assumption) (by assumption) | exact rw1 hin (by assumption) (by assumption) (by assumption) (by assumption) | exact ri1 (by assumption) (by assumption) (by assumption) (by assumption))
  (k_with "measure" => exact rwm hn (by assumption) (by assumption) hin (by assumption) (by assumption))
  unfold Claim
  k_fill; intro w mean mg mb news dp un gd cn cs a ccd cl outer A₀ base h₀ L m s Q E B F X N T hk hd hu hH hret; refine wpAny_call ?_; k_dflt (walk_at "enter0")
  k_steps
  exact hret _ _ _ (ri_end (by assumption)) (by assumption) (cb_drop (by assumption) (by kcj_all))
end
section
set_option maxRecDepth 100000
abbrev e2 (elt : Expr) (x : Str) (px : Pos) (i0 : Expr) (y : Str) (py : Pos) (i1 test : Expr) (scope : Scope) (pos : Pos) : Expr :=
  .ListComp elt [⟨.Name x px, i0, [], 0⟩, ⟨.Name y py, i1, [test], 0⟩] scope pos
section
variable {elt : Expr} {x : Str} {px : Pos} {i0 : Expr} {y : Str} {py : Pos} {i1 test : Expr} {scope : Scope} {pos : Pos}
theorem ct0 (it acc : Value) (env : Env) : compTurn (e2 elt x px i0 y py i1 test scope pos) 0 it acc env = (do
      standAt i0.pos
      match ← pyNext it with
      | none => pure (.done .next)
      | some v =>
        letOwnedTupleGo (.Name x px) it v
        assign (.Name x px) env v
        let z ← eval i1 env
        standAt i1.pos
        let z ← foldedSetIterable i1 env z
        let _ ← runOwn (.compStart (e2 elt x px i0 y py i1 test scope pos) 1 (← holding [z] (pyIter z)) acc env) env
        again (.compLoop (e2 elt x px i0 y py i1 test scope pos) 0 it acc env)) := by rfl
theorem ct1 (it acc : Value) (env : Env) : compTurn (e2 elt x px i0 y py i1 test scope pos) 1 it acc env = (do
      standAt i1.pos
      match ← pyNext it with
      | none => pure (.done .next)
      | some v =>
        letOwnedTupleGo (.Name y py) it v
        assign (.Name y py) env v
        let mut ok := true
        for c in [test] do
          if ok then ok ← isTrue c env (eval c env)
        if ok then
          (do let _ ← call (.builtin "list.append") [acc, ← eval elt env])
        again (.compLoop (e2 elt x px i0 y py i1 test scope pos) 1 it acc env)) := by rfl
end
abbrev rangeCnt (p : Nat → Bool) (n : Nat) : Nat := (List.range n).countP p
theorem rangeCnt_succ (p : Nat → Bool) (n : Nat) : rangeCnt p (n + 1) = rangeCnt p n + if p n then 1 else 0 := by
  unfold rangeCnt
  rw [List.range_succ, List.countP_append, List.countP_singleton]
section
variable {prog : Program} {w : World} {A : Around} {R : Result → Shared → Prop} {s : Shared}
variable {x : Str} {px : Pos} {i0 : Expr} {y : Str} {py : Pos} {i1 test : Expr} {scope : Scope} {pos : Pos} {kk : Nat} {pp : Pos}

theorem nest_inner {C D I : Addr} {cenv : Env} {i : Value} {n : Nat} {m₀ : Str → Option Value} {ys : List Value} (p : Nat → Bool) (hh : A.handled = none) (hC : cenv.locals = C) (hy : cenv.kindOf y = some .local)
    (hp : (cenv.scope.kind == .class || (cenv.scope.kind == .module && cenv.locals != cenv.globals)) = false) (hxy : x ≠ y)
    (hIC : I ≠ C) (hID : I ≠ D) (hDC : D ≠ C) (hit : IsRangeIter s.heap I 0 (n : Int) 1) (hn : s.heap.Ns C m₀) (hx : m₀ x = some i) (hD : s.heap.get? D = some (LCg.lst ys)) (hz : ys.length + n ≤ 16777216)
    (htest : ∀ (j : Nat) u h tk m₂ (E' : Value → Shared → Prop), j < n → h.Ns C m₂ → m₂ x = some i → m₂ y = some (.int (j : Int) u) → (∀ b o, b ≠ C → b ≠ D → b ≠ I → s.heap.get? b = some o → h.get? b = some o) →
      wpAny (model prog w) A (isTrue test cenv (eval test cenv)) (fun b s' => b = p j ∧ Keeps { s with heap := h, toks := tk } s') E' { s with heap := h, toks := tk })
    (hR : ∀ h tk m' zs, h.Ns C m' → h.get? D = some (LCg.lst zs) → zs.length = ys.length + rangeCnt p n → (∀ b o, b ≠ C → b ≠ D → b ≠ I → s.heap.get? b = some o → h.get? b = some o) → R (.ok .next) { s with heap := h, toks := tk }) :
    codeAny (model prog w) A (.compLoop (e2 (.Constant (.int 1) kk pp) x px i0 y py i1 test scope pos) 1 (.ref I) (.ref D) cenv) R s := by
  subst hC
  refine codeAny_loop rfl (fun k s' => ∃ h tk m' zs j, s' = { s with heap := h, toks := tk } ∧ j ≤ n ∧ k = n + 1 - j ∧ IsRangeIter h I (0 + (j : Nat) * 1) ((n : Int) - (j : Nat)) 1 ∧ h.Ns cenv.locals m' ∧ m' x = some i ∧ h.get? D = some (LCg.lst zs) ∧
    zs.length = ys.length + rangeCnt p j ∧ (∀ b o, b ≠ cenv.locals → b ≠ D → b ≠ I → s.heap.get? b = some o → h.get? b = some o)) (fun k s' hk => ?_) (n + 1)
    ⟨s.heap, s.toks, m₀, ys, 0, rfl, Nat.zero_le _, rfl, by simpa using hit, hn, hx, hD, by simp [rangeCnt], fun _ _ _ _ _ e => e⟩
  obtain ⟨h, tk, m', zs, j, rfl, hj, rfl, hit', hn', hx', hD', hl, keep⟩ := hk
  show wpAny _ A ((compTurn (e2 (.Constant (.int 1) kk pp) x px i0 y py i1 test scope pos) 1 (.ref I) (.ref D) cenv).onRaise (fun x => do noteFrame x cenv; theTreesLotGoes x)) _ _ _
  refine wpAny_noted ?_
  rw [ct1]
  have W := LCg.range_walks (prog := prog) (w := w) (A := A) (I := I) hh 0 n
  refine wpAny_bind (wpAny_standAt (wpAny_bind ?_))
  by_cases hlt : j < n
  · refine W.item j _ _ _ hlt hit' fun v h₁ tk₁ hPv hst₁ hk₁ => ?_
    obtain ⟨u, rfl⟩ := hPv
    have ej : (0 : Int) + (j : Int) = (j : Int) := by omega
    rw [ej]
    refine wpAny_bind (wpAny_of_eq (rfl : letOwnedTupleGo (.Name y py) (.ref I) (.int (j : Int) u) = pure ()) ?_)
    refine wpAny_bind (wpAny_assign_Name (wpAny_storeName_local hy (hn'.at' fun o e => hk₁ _ o (by simpa using Ne.symm hIC) e) (fun h₂ hn₂ hs₂ => ?_) hp))
    have up₂ : ∀ b o, b ≠ cenv.locals → b ≠ I → h.get? b = some o → h₂.get? b = some o := fun b o hb hb2 e => hs₂.extBut b o hb (hk₁ b o (by simpa using hb2) e)
    refine wpAny_bind (wpAny_tests_one (wpAny_mono (htest j u h₂ _ _ _ hlt hn₂ (by simpa [hxy] using hx') (by simp) (fun b o b1 b2 b3 e => up₂ b o b1 b3 (keep b o b1 b2 b3 e))) (fun b s₃ hb => ?_) fun _ _ e => e))
    obtain ⟨rfl, h₃, tk₃, rfl, hk₃⟩ := hb
    have hit₃ : IsRangeIter h₃ I (0 + ((j + 1 : Nat) : Nat) * 1) ((n : Int) - ((j + 1 : Nat) : Nat)) 1 := hk₃ _ _ (hs₂.extBut _ _ hIC hst₁)
    have hD₃ : h₃.get? D = some (LCg.lst zs) := hk₃ _ _ (up₂ _ _ hDC (Ne.symm hID) hD')
    have hn₃ := hn₂.keeps hk₃
    have hcs := rangeCnt_succ p j
    have hcb : rangeCnt p j ≤ j := by
      have := List.countP_le_length (p := p) (l := List.range j)
      rwa [List.length_range] at this
    cases hpj : p j with
    | false =>
      simp only [Bool.false_eq_true, if_false]
      exact wpAny_pure ⟨rfl, n + 1 - (j + 1), by omega, h₃, tk₃, _, zs, j + 1, rfl, hlt, rfl, hit₃, hn₃, by simpa [hxy] using hx', hD₃, by rw [hcs, hpj, hl]; simp, fun b o b1 b2 b3 e => hk₃ b o (up₂ b o b1 b3 (keep b o b1 b2 b3 e))⟩
    | true =>
      simp only [if_true]
      refine wpAny_bind (wpAny_bind (wpAny_Constant_int ?_))
      refine wpAny_bind (append_at (hsz := by show zs.toArray.size ≤ sizeLine; rw [List.size_toArray, sizeLine_eq, hl]; omega) hD₃ fun h₅ hs₅ hD₅ => ?_)
      refine wpAny_pure (wpAny_pure ⟨rfl, n + 1 - (j + 1), by omega, h₅, _, _, zs ++ [.int 1 _], j + 1, rfl, hlt, rfl, hs₅.extBut _ _ hID hit₃, hn₃.sameBut hs₅ (Ne.symm hDC), by simpa [hxy] using hx', hD₅.trans (congrArg some (LCg.lst_snoc zs _)), ?_, fun b o b1 b2 b3 e => hs₅.extBut b o b2 (hk₃ b o (up₂ b o b1 b3 (keep b o b1 b2 b3 e)))⟩)
      rw [List.length_append, List.length_singleton, hcs, hpj, hl]
      simp
      omega
  · obtain rfl : j = n := Nat.le_antisymm hj (Nat.not_lt.mp hlt)
    refine W.done _ _ _ hit' fun h₁ tk₁ hk₁ => ?_
    refine wpAny_pure (hR h₁ tk₁ m' zs (hn'.at' fun o e => hk₁ _ o (by simpa using Ne.symm hIC) e) (hk₁ _ _ (by simpa using Ne.symm hID) hD') hl fun b o b1 b2 b3 e => hk₁ b o (by simpa using b3) (keep b o b1 b2 b3 e))

theorem nest_start {env : Env} {it acc : Value} {elt : Expr} (h0 : codeAny (model prog w) A (.compLoop (e2 elt x px i0 y py i1 test scope pos) 1 it acc env) R s)
    (h : wpAny (model prog w) A (pyIter it) (fun it' s' => codeAny (model prog w) A (.compLoop (e2 elt x px i0 y py i1 test scope pos) 1 it' acc env) R s')
      (notedBy (model prog w) A env fun x s' => R (.error x) s') s) :
    codeAny (model prog w) A (.compStart (e2 elt x px i0 y py i1 test scope pos) 1 it acc env) R s := by
  refine codeAny_of_tree ?_
  show wpAny _ _ ((compStart (e2 elt x px i0 y py i1 test scope pos) 1 it acc env).onRaise (fun x => do noteFrame x env; standAt theWindowsPlace)) _ _ s
  refine wpAny_notedAt ?_
  unfold compStart
  show wpAny _ _ (ask >>= _) _ _ s
  refine wpAny_bind (wpAny_askSetting (wpAny_ite ?_))
  split
  · first
      | exact wpAny_bind (wpAny_pure (wpAny_pure (And.intro rfl h0)))
      | exact wpAny_pure (And.intro rfl h0)
  · first
      | exact wpAny_bind (wpAny_rule (wpAny_bind (wpAny_standAt (wpAny_bind (wpAny_mono h (fun it' s' h' => wpAny_pure (And.intro rfl h')) fun _ _ x => x)))))
      | (refine wpAny_bind (wpAny_rule ?_); show wpAny _ _ (standAt i1.pos >>= _) _ _ s; exact wpAny_bind (wpAny_standAt (wpAny_bind (wpAny_mono h (fun it' s' h' => wpAny_pure (And.intro rfl h')) fun _ _ x => x))))
/-- all pairs j < i < n with p i j -/
def tot (p : Nat → Nat → Bool) : Nat → Nat
  | 0 => 0
  | i + 1 => tot p i + rangeCnt (p i) i
theorem tot_le (p : Nat → Nat → Bool) : ∀ i, i ≤ 100 → tot p i ≤ 100 * i
  | 0, _ => Nat.le_refl _
  | i + 1, h => by
    have := tot_le p i (by omega)
    have h2 := List.countP_le_length (p := p i) (l := List.range i)
    rw [List.length_range] at h2
    show tot p i + List.countP (p i) (List.range i) ≤ _
    omega
theorem nest_outer {C D I : Addr} {cenv : Env} {n : Nat} {m₀ : Str → Option Value} (p : Nat → Nat → Bool) (hh : A.handled = none) (hC : cenv.locals = C) (hx : cenv.kindOf x = some .local) (hy : cenv.kindOf y = some .local)
    (hp : (cenv.scope.kind == .class || (cenv.scope.kind == .module && cenv.locals != cenv.globals)) = false) (hxy : x ≠ y)
    (hIC : I ≠ C) (hID : I ≠ D) (hDC : D ≠ C) (hit : IsRangeIter s.heap I 0 (n : Int) 1) (hn : s.heap.Ns C m₀) (hD : s.heap.get? D = some (LCg.lst [])) (hz : n ≤ 100)
    (hfold : ∀ z, foldedSetIterable i1 cenv z = pure z)
    (hiter : ∀ (i : Nat) t h tk m₂ (E' : Value → Shared → Prop), i < n → h.Ns C m₂ → m₂ x = some (.int (i : Int) t) → (∀ b o, b ≠ C → b ≠ D → b ≠ I → s.heap.get? b = some o → h.get? b = some o) →
      wpAny (model prog w) A (eval i1 cenv) (fun v s' => ∃ r a b c h' tk', v = .ref r ∧ s' = { s with heap := h', toks := tk' } ∧ IsRange h' r 0 (i : Int) 1 a b c ∧ ∀ b o, h.get? b = some o → h'.get? b = some o) E' { s with heap := h, toks := tk })
    (htest : ∀ (i j : Nat) t u h tk m₂ (E' : Value → Shared → Prop), i < n → j < i → h.Ns C m₂ → m₂ x = some (.int (i : Int) t) → m₂ y = some (.int (j : Int) u) → (∀ b o, b ≠ C → b ≠ D → b ≠ I → s.heap.get? b = some o → h.get? b = some o) →
      wpAny (model prog w) A (isTrue test cenv (eval test cenv)) (fun b s' => b = p i j ∧ Keeps { s with heap := h, toks := tk } s') E' { s with heap := h, toks := tk })
    (hR : ∀ h tk m' zs, h.Ns C m' → h.get? D = some (LCg.lst zs) → zs.length = tot p n → (∀ b o, b ≠ C → b ≠ D → b ≠ I → s.heap.get? b = some o → h.get? b = some o) → R (.ok .next) { s with heap := h, toks := tk }) :
    codeAny (model prog w) A (.compLoop (e2 (.Constant (.int 1) kk pp) x px i0 y py i1 test scope pos) 0 (.ref I) (.ref D) cenv) R s := by
  subst hC
  refine codeAny_loop rfl (fun k s' => ∃ h tk m' zs i, s' = { s with heap := h, toks := tk } ∧ i ≤ n ∧ k = n + 1 - i ∧ IsRangeIter h I (0 + (i : Nat) * 1) ((n : Int) - (i : Nat)) 1 ∧ h.Ns cenv.locals m' ∧ h.get? D = some (LCg.lst zs) ∧
    zs.length = tot p i ∧ (∀ b o, b ≠ cenv.locals → b ≠ D → b ≠ I → s.heap.get? b = some o → h.get? b = some o)) (fun k s' hk => ?_) (n + 1)
    ⟨s.heap, s.toks, m₀, [], 0, rfl, Nat.zero_le _, rfl, by simpa using hit, hn, hD, rfl, fun _ _ _ _ _ e => e⟩
  obtain ⟨h, tk, m', zs, i, rfl, hi, rfl, hit', hn', hD', hl, keep⟩ := hk
  show wpAny _ A ((compTurn (e2 (.Constant (.int 1) kk pp) x px i0 y py i1 test scope pos) 0 (.ref I) (.ref D) cenv).onRaise (fun x => do noteFrame x cenv; theTreesLotGoes x)) _ _ _
  refine wpAny_noted ?_
  rw [ct0]
  have W := LCg.range_walks (prog := prog) (w := w) (A := A) (I := I) hh 0 n
  refine wpAny_bind (wpAny_standAt (wpAny_bind ?_))
  by_cases hlt : i < n
  · refine W.item i _ _ _ hlt hit' fun v h₁ tk₁ hPv hst₁ hk₁ => ?_
    obtain ⟨u, rfl⟩ := hPv
    have ej : (0 : Int) + (i : Int) = (i : Int) := by omega
    rw [ej]
    refine wpAny_bind (wpAny_of_eq (rfl : letOwnedTupleGo (.Name x px) (.ref I) (.int (i : Int) u) = pure ()) ?_)
    refine wpAny_bind (wpAny_assign_Name (wpAny_storeName_local hx (hn'.at' fun o e => hk₁ _ o (by simpa using Ne.symm hIC) e) (fun h₂ hn₂ hs₂ => ?_) hp))
    have up₂ : ∀ b o, b ≠ cenv.locals → b ≠ I → h.get? b = some o → h₂.get? b = some o := fun b o hb hb2 e => hs₂.extBut b o hb (hk₁ b o (by simpa using hb2) e)
    refine wpAny_bind (wpAny_mono (hiter i u h₂ _ _ _ hlt hn₂ (by simp) (fun b o b1 b2 b3 e => up₂ b o b1 b3 (keep b o b1 b2 b3 e))) (fun v s₃ hv => ?_) fun _ _ e => e)
    obtain ⟨r, ta, tb, tc, h₃, tk₃, rfl, rfl, hr, hk₃⟩ := hv
    refine wpAny_bind (wpAny_standAt ?_)
    refine wpAny_bind (wpAny_of_eq (hfold _) ?_)
    refine wpAny_bind (wpAny_holding (wpAny_pyIter_range hr (small_one (by omega) (by omega) (by omega) (by omega)) ?_))
    have hsz : Builtin.Range.rangeSize 0 (i : Int) 1 = (i : Int) := by
      have := rangeSize_nat 0 (i : Int)
      rw [this]
      omega
    have hn₃ := hn₂.keeps hk₃
    have hD₃ : h₃.get? D = some (LCg.lst zs) := hk₃ _ _ (up₂ _ _ hDC (Ne.symm hID) hD')
    have hit₃ : IsRangeIter h₃ I (0 + ((i + 1 : Nat) : Nat) * 1) ((n : Int) - ((i + 1 : Nat) : Nat)) 1 := hk₃ _ _ (hs₂.extBut _ _ hIC hst₁)
    have hlC : cenv.locals < h₃.objs.size := hn₃.lt
    have hlD : D < h₃.objs.size := Heap.lt_size hD₃
    have hlI : I < h₃.objs.size := Heap.lt_size hit₃
    rw [hsz]
    have hpush : ∀ b o, h₃.get? b = some o → (h₃.push { cls := .type "range_iterator", data := .fields #[rawInt 0, rawInt (i : Int), rawInt 1] }).get? b = some o := fun b o e => Heap.get?_push_of_some _ e
    have hit2 : IsRangeIter (h₃.push { cls := .type "range_iterator", data := .fields #[rawInt 0, rawInt (i : Int), rawInt 1] }) h₃.objs.size 0 (i : Int) 1 := Heap.get?_push_size _ rfl
    have htot := tot_le p i (by omega)
    refine wpAny_bind (wpAny_runOwn ?_)
    have W2 := LCg.range_walks (prog := prog) (w := w) (A := A) (I := h₃.objs.size) hh 0 i
    have mk : ∀ (RR : Result → Shared → Prop), codeAny (model prog w) A (.compLoop (e2 (.Constant (.int 1) kk pp) x px i0 y py i1 test scope pos) 1 (.ref h₃.objs.size) (.ref D) cenv) RR { s with heap := h₃.push { cls := .type "range_iterator", data := .fields #[rawInt 0, rawInt (i : Int), rawInt 1] }, toks := tk₃ } →
        codeAny (model prog w) A (.compStart (e2 (.Constant (.int 1) kk pp) x px i0 y py i1 test scope pos) 1 (.ref h₃.objs.size) (.ref D) cenv) RR { s with heap := h₃.push { cls := .type "range_iterator", data := .fields #[rawInt 0, rawInt (i : Int), rawInt 1] }, toks := tk₃ } :=
      fun RR inner => nest_start inner (W2.self 0 _ _ _ (by simpa using hit2) inner)
    refine mk _ ?_
    refine nest_inner (s := { s with heap := h₃.push { cls := .type "range_iterator", data := .fields #[rawInt 0, rawInt (i : Int), rawInt 1] }, toks := tk₃ }) (i := .int (i : Int) u) (n := i) (ys := zs) (p i) hh rfl hy hp hxy (Nat.ne_of_gt hlC) (Nat.ne_of_gt hlD) hDC hit2 (hn₃.keeps hpush) (by simp) (hpush _ _ hD₃) (by rw [hl]; omega) ?_ ?_
    · intro j u' h₄ tk₄ m₂ E' hj hnj hxj hyj kj
      refine htest i j u u' h₄ tk₄ m₂ E' hlt hj hnj hxj hyj fun b o b1 b2 b3 e => ?_
      have e3 := hk₃ b o (up₂ b o b1 b3 (keep b o b1 b2 b3 e))
      exact kj b o b1 b2 (Nat.ne_of_lt (Heap.lt_size e3)) (hpush b o e3)
    · intro h₅ tk₅ m₅ zs₅ hn₅ hD₅ hl₅ k₅
      refine wpAny_pure ⟨rfl, n + 1 - (i + 1), by omega, h₅, tk₅, m₅, zs₅, i + 1, rfl, hlt, rfl, k₅ _ _ hIC hID (Nat.ne_of_lt hlI) (hpush _ _ hit₃), hn₅, hD₅, by rw [hl₅, hl]; rfl, fun b o b1 b2 b3 e => ?_⟩
      have e3 := hk₃ b o (up₂ b o b1 b3 (keep b o b1 b2 b3 e))
      exact k₅ b o b1 b2 (Nat.ne_of_lt (Heap.lt_size e3)) (hpush b o e3)
  · obtain rfl : i = n := Nat.le_antisymm hi (Nat.not_lt.mp hlt)
    refine W.done _ _ _ hit' fun h₁ tk₁ hk₁ => ?_
    refine wpAny_pure (hR h₁ tk₁ m' zs (hn'.at' fun o e => hk₁ _ o (by simpa using Ne.symm hIC) e) (hk₁ _ _ (by simpa using Ne.symm hID) hD') hl fun b o b1 b2 b3 e => hk₁ b o (by simpa using b3) (keep b o b1 b2 b3 e))
end
end
section
set_option maxRecDepth 100000

theorem by_len : typeLookup (.type "bytes") "__len__" = pure (some (.builtin "bytes.__len__")) := by rw [typeLookup_type, builtinLookup_eq_fast]; kernel_rfl

section
variable {prog : Program} {w : World} {A : Around} {E : Value → Shared → Prop} {s : Shared}
theorem extend_bytes {R : Result → Shared → Prop} (hh : A.handled = none) (b : Array UInt8) (t : Tok) (S : Addr) (res : Value) (c₀ : Nat) (hS : s.heap.get? S = some { cls := .type "list", data := .seq #[] c₀ })
    (hR : ∀ h' tk acc' c', (∀ b o, b ≠ S → s.heap.get? b = some o → h'.get? b = some o) → h'.get? S = some { cls := .type "list", dict := none, data := .seq acc' c', slots := #[] } →
      ItemsOf (fun i v => ∃ c u, b[i]? = some c ∧ v = .int (c.toNat : Int) u) acc' b.size → R (.ok (.ret res)) { s with heap := h', toks := tk }) (hn : b.size ≤ sizeLine) :
    wpAny (model prog w) A.in1 (Builtin.List.listExtendWith (.ref S) (.bytes b t) res)
      (fun fin s' => match fin with | .done f => R (.ok f) s' | .again c' => c'.quiet = true ∧ codeAny (model prog w) A c' R s') (fun e s' => R (.error e) s') s := by
  have hSI : S ≠ s.heap.objs.size := Nat.ne_of_lt (Heap.lt_size hS)
  have hSf : S ∉ [s.heap.objs.size] := fun hm => hSI (List.mem_singleton.mp hm)
  unfold Builtin.List.listExtendWith
  refine wpAny_bind (wpAny_typeOf (T := "bytes") (v := .bytes b t) rfl ?_)
  have h1 : Builtin.List.listSameRef (.ref S) (.bytes b t) = false := rfl
  have h2 : (Value.type "bytes" == Value.type "list") = false := by decide
  have h3 : (Value.type "bytes" == Value.type "tuple") = false := by decide
  simp only [h1, h2, h3, Bool.or_false, Bool.false_eq_true, if_false]
  refine wpAny_bind (KBw.pyIter_bytes ?_)
  refine wpAny_bind (wpAny_holding ?_)
  unfold Builtin.List.listLengthHint
  refine wpAny_bind (wpAny_specialOf (T := "bytes") (v := .bytes b t) rfl by_len ?_)
  wp_delta
  refine wpAny_bind (wpAny_isInstance (T := "bytes") (v := .bytes b t) (b := true) rfl (by rw [isSubtype_type]; kernel_rfl) ?_)
  show wpAny _ _ (typeOf (Value.bytes b t) >>= _) _ _ _
  refine wpAny_bind (wpAny_typeOf (T := "bytes") (v := .bytes b t) rfl ?_)
  refine wpAny_pure ?_
  rw [if_neg (by decide)]
  refine wpAny_pure ⟨plainId_quiet F.plain_extend_loop _, codeAny_extend_loopS (KBw.walks (A := A.in1) hh s.heap.objs.size b t).toS hn _ hSf _ b.size 0 _ _ _ rfl (Nat.zero_le _) ⟨_, Heap.get?_push_size _ rfl, rfl, rfl⟩ (Heap.get?_push_of_some _ hS) (ItemsOf.nil _) fun s' acc' c' hm hS' hacc => ?_⟩
  rw [Moved.eq_with hm]
  refine hR s'.heap s'.toks acc' c' (fun b ob hb e => hm.heap b ob (fun hmem => ?_) (Heap.get?_push_of_some _ e)) hS' hacc
  rcases List.mem_cons.mp hmem with e' | hmem
  · exact hb e'
  · exact absurd (Heap.lt_size e) (by rw [List.mem_singleton.mp hmem]; exact Nat.lt_irrefl _)

theorem list_init_bytes {R : Result → Shared → Prop} (hh : A.handled = none) (x : Array UInt8) (t : Tok) (S : Addr) (hS : s.heap.get? S = some { cls := .type "list", data := .seq #[] })
    (hR : ∀ h' tk acc' c', (∀ b o, b ≠ S → s.heap.get? b = some o → h'.get? b = some o) → h'.get? S = some { cls := .type "list", dict := none, data := .seq acc' c', slots := #[] } →
      ItemsOf (fun i v => ∃ c u, x[i]? = some c ∧ v = .int (c.toNat : Int) u) acc' x.size → R (.ok (.ret .none)) { s with heap := h', toks := tk }) (hn : x.size ≤ sizeLine) :
    wpAny (model prog w) A.in1 (Builtin.«list.__init__» ⟨[.ref S, .bytes x t], []⟩)
      (fun fin s' => match fin with | .done f => R (.ok f) s' | .again c' => c'.quiet = true ∧ codeAny (model prog w) A c' R s') (fun e s' => R (.error e) s') s := by
  show wpAny _ _ (do let old ← Builtin.List.listItems (.ref S); Builtin.List.listUpdate (.ref S) (fun _ => #[]); letGo old.toList.reverse; Builtin.List.listExtendWith (.ref S) (.bytes x t) .none) _ _ s
  refine wpAny_bind ?_
  unfold Builtin.List.listItems
  refine wpAny_bind (wpAny_seqItems hS rfl (wpAny_pure ?_))
  show wpAny _ _ (updateSeq S (fun _ => #[]) >>= fun _ => letGo (#[] : Array Value).toList.reverse >>= fun _ => Builtin.List.listExtendWith (.ref S) (.bytes x t) .none) _ _ s
  refine wpAny_bind (wpAny_updateSeq hS rfl ?_)
  have hS₂ := Heap.get?_update_self (Obj.mapSeq (fun _ => (#[] : Array Value))) hS rfl
  have oth : ∀ b o, b ≠ S → s.heap.get? b = some o → (s.heap.update S (Obj.mapSeq (fun _ => (#[] : Array Value)))).get? b = some o :=
    fun b o hb e => (Heap.get?_update_other _ _ (Ne.symm hb)).trans e
  refine wpAny_bind (wpAny_letGo ?_)
  refine extend_bytes (hn := hn) hh x t S .none _ hS₂ fun h' tk acc' c' hk hS' hacc => ?_
  exact hR h' tk acc' c' (fun b o hb e => hk b o hb (oth b o hb e)) hS' hacc

theorem call_list_bytes {Q : Value → Shared → Prop} (hh : A.handled = none) (x : Array UInt8) (t : Tok)
    (hQ : ∀ h' tk acc' c', (∀ b o, s.heap.get? b = some o → h'.get? b = some o) →
      h'.get? s.heap.objs.size = some { cls := .type "list", dict := none, data := .seq acc' c', slots := #[] } → ItemsOf (fun i v => ∃ c u, x[i]? = some c ∧ v = .int (c.toNat : Int) u) acc' x.size → Q (.ref s.heap.objs.size) { s with heap := h', toks := tk }) (hn : x.size ≤ sizeLine) :
    wpAny (model prog w) A (call (.type "list") [.bytes x t]) Q E s := by
  refine callType_codes (Q₁ := fun obj s₁ => obj = .ref s.heap.objs.size ∧ s₁ = { s with heap := s.heap.push { cls := .type "list", data := .seq #[] } }) F.called_list (F.typeCall_list_1 _) F.entry_list_init
    (code_list_new _ ⟨rfl, rfl⟩) fun obj s₁ h₁ => ?_
  obtain ⟨rfl, rfl⟩ := h₁
  have hS : (s.heap.push { cls := .type "list", data := .seq #[] }).get? s.heap.objs.size = some { cls := .type "list", data := .seq #[] } := Heap.get?_push_size _ rfl
  refine ⟨⟨_, hS, rfl⟩, F.args_list_init_2 _ _, list_init_bytes (A := A.in1) (hn := hn) hh x t _ hS fun h' tk acc' c' hk hS' hacc => ?_⟩
  exact ⟨rfl, hQ h' tk acc' c' (fun b o e => hk b o (Nat.ne_of_lt (Heap.lt_size e)) (Heap.get?_push_of_some _ e)) hS' hacc⟩
end

theorem ints_of_items : ∀ (l : List UInt8) (vs : List Value), vs.length = l.length → (∀ (i : Nat) (v : Value), vs[i]? = some v → ∃ (c : UInt8) (u : Tok), l[i]? = some c ∧ v = Value.int (c.toNat : Int) u) → IntsAre vs (l.map fun c => (c.toNat : Int))
  | [], [], _, _ => .nil
  | [], _ :: _, h, _ => by cases h
  | _ :: _, [], h, _ => by cases h
  | c :: l, v :: vs, h, hv => by
    obtain ⟨c', u, e, rfl⟩ := hv 0 v rfl
    cases e
    exact .cons _ u (ints_of_items l vs (by simpa using h) fun i v e => hv (i + 1) v e)

section
variable {prog : Program} {w : World} {A : Around} {E : Value → Shared → Prop} {s : Shared} {h₀ : Heap} {L : Addr} {m : Str → Option Value} {news : List (Addr × Obj)} {Q : Value → Shared → Prop} {b : Array UInt8} {t : Tok} {ks : List Int}
theorem list_bytes_N (F : Fr h₀ L s.heap m) (N : News h₀ L s.heap news) (hh : A.handled = none) (hb : KBw.bInts b = ks) (hn : ks.length ≤ 16777216)
    (h : ∀ D vs c h' tk, IntsAre vs ks → Fr h₀ L h' m → News h₀ L h' ((D, listOf vs.toArray c) :: news) → (∀ q ∈ news, q.1 < D) → Q (.ref D) { s with heap := h', toks := tk }) :
    wpAny (model prog w) A (call (.type "list") [.bytes b t]) Q E s := by
  subst hb
  rw [KBw.ints_length] at hn
  refine call_list_bytes hh b t (fun h' tk acc' c' hk hD hacc => ?_) (by rw [sizeLine_eq]; exact hn)
  refine h _ acc'.toList c' h' tk ?_ (F.keeps hk) (news_pushed F N hk (by simpa using hD) rfl) fun q hq => Heap.lt_size (N q hq).1
  exact ints_of_items b.toList acc'.toList (by simp [hacc.1]) fun i v e => by simpa using hacc.2 i v (by simpa using e)
end
end
section
abbrev PermN (ks : List Int) : Prop := ks.Perm (rangeKs 0 ks.length)
def swapL (ks : List Int) (i k : Nat) : List Int := (ks.set i (ks.getD k 0)).set k (ks.getD i 0)
-- a map's walks
def it (f : Nat → Nat) : Nat → Nat → Nat
  | 0, x => x
  | m + 1, x => f (it f m x)
def RN (f : Nat → Nat) (a b : Nat) : Prop := ∃ m, b = it f m a
theorem it_add (f : Nat → Nat) (a : Nat) (p : Nat) : ∀ q, it f (p + q) a = it f q (it f p a)
  | 0 => rfl
  | q + 1 => by
    show f (it f (p + q) a) = f (it f q (it f p a))
    rw [it_add f a p q]
structure Pf (f : Nat → Nat) (n : Nat) : Prop where
  maps : ∀ x, x < n → f x < n
  inj : ∀ x y, x < n → y < n → f x = f y → x = y
theorem Pf.it {f : Nat → Nat} {n : Nat} (h : Pf f n) {a : Nat} (ha : a < n) : ∀ m, Mine.it f m a < n
  | 0 => ha
  | m + 1 => h.maps _ (Pf.it h ha m)
theorem Pf.cancel {f : Nat → Nat} {n : Nat} (h : Pf f n) {a b : Nat} (ha : a < n) (hb : b < n) : ∀ p, Mine.it f p a = Mine.it f p b → a = b
  | 0, e => e
  | p + 1, e => Pf.cancel h ha hb p (h.inj _ _ (h.it ha p) (h.it hb p) e)
theorem Pf.period {f : Nat → Nat} {n : Nat} (h : Pf f n) {a : Nat} (ha : a < n) : ∃ d, 1 ≤ d ∧ Mine.it f d a = a := by
  have hnd : ¬ ((List.range (n + 1)).map fun m => Mine.it f m a).Nodup := fun hn => by
    have := hn.length_le_of_subset (l₂ := List.range n) (fun x hx => by
      obtain ⟨m, _, rfl⟩ := List.mem_map.mp hx
      exact List.mem_range.mpr (h.it ha m))
    simp at this
    omega
  rw [List.nodup_iff_pairwise_ne, List.pairwise_iff_getElem] at hnd
  simp only [Classical.not_forall] at hnd
  obtain ⟨p, q, hp, hq, hpq, he⟩ := hnd
  have he' : Mine.it f p a = Mine.it f q a := by
    have := Classical.not_not.mp he
    simpa using this
  refine ⟨q - p, by omega, (h.cancel ha (h.it ha _) p ?_).symm⟩
  rw [he', ← it_add]
  congr 1
  omega
theorem RN.refl (f : Nat → Nat) (a : Nat) : RN f a a := ⟨0, rfl⟩
theorem RN.trans {f : Nat → Nat} {a b c : Nat} (h : RN f a b) (h' : RN f b c) : RN f a c := by
  obtain ⟨p, rfl⟩ := h
  obtain ⟨q, rfl⟩ := h'
  exact ⟨p + q, (it_add f a p q).symm⟩
theorem RN.step (f : Nat → Nat) (a : Nat) : RN f a (f a) := ⟨1, rfl⟩
theorem RN.lt {f : Nat → Nat} {n a b : Nat} (h : Pf f n) (ha : a < n) (r : RN f a b) : b < n := by
  obtain ⟨m, rfl⟩ := r
  exact h.it ha m
theorem it_mul {f : Nat → Nat} {a d : Nat} (h : Mine.it f d a = a) : ∀ k, Mine.it f (d * k) a = a
  | 0 => rfl
  | k + 1 => by
    rw [Nat.mul_succ, it_add, it_mul h k, h]
theorem RN.symm {f : Nat → Nat} {n a b : Nat} (h : Pf f n) (ha : a < n) (r : RN f a b) : RN f b a := by
  obtain ⟨m, rfl⟩ := r
  obtain ⟨d, hd, he⟩ := h.period ha
  refine ⟨d * m - m, ?_⟩
  rw [← it_add]
  have : m + (d * m - m) = d * m := by
    have : 1 * m ≤ d * m := Nat.mul_le_mul_right m hd
    omega
  rw [this, it_mul he]
/-- the least number of steps -/
theorem least_step {P : Nat → Prop} : ∀ m, P m → ∃ k, P k ∧ ∀ r, r < k → ¬ P r := by
  intro m
  induction m using Nat.strongRecOn with
  | _ m ih =>
    intro hm
    by_cases q : ∃ r, r < m ∧ P r
    · obtain ⟨r, h1, h2⟩ := q
      exact ih r h1 h2
    · exact ⟨m, hm, fun r h1 h2 => q ⟨r, h1, h2⟩⟩
-- exchanging two places
def exc (f : Nat → Nat) (i j x : Nat) : Nat := if x = i then f j else if x = j then f i else f x
theorem exc_ne {f : Nat → Nat} {i j x : Nat} (h1 : x ≠ i) (h2 : x ≠ j) : exc f i j x = f x := by unfold exc; rw [if_neg h1, if_neg h2]
theorem exc_i (f : Nat → Nat) (i j : Nat) : exc f i j i = f j := if_pos rfl
theorem exc_j {f : Nat → Nat} {i j : Nat} (h : i ≠ j) : exc f i j j = f i := by unfold exc; rw [if_neg (Ne.symm h), if_pos rfl]
theorem exc_exc {f : Nat → Nat} {i j : Nat} (h : i ≠ j) : exc (exc f i j) i j = f := by
  funext x
  by_cases h1 : x = i
  · subst h1; rw [exc_i, exc_j h]
  · by_cases h2 : x = j
    · subst h2; rw [exc_j h, exc_i]
    · rw [exc_ne h1 h2, exc_ne h1 h2]
theorem exc_pf {f : Nat → Nat} {n i j : Nat} (h : Pf f n) (hi : i < n) (hj : j < n) (hij : i ≠ j) : Pf (exc f i j) n := by
  refine ⟨fun x hx => ?_, fun x y hx hy e => ?_⟩
  · unfold exc
    split
    · exact h.maps j hj
    · split
      · exact h.maps i hi
      · exact h.maps x hx
  · by_cases a1 : x = i
    · subst a1
      rw [exc_i] at e
      by_cases b1 : y = x
      · exact b1.symm
      · by_cases b2 : y = j
        · subst b2; rw [exc_j (Ne.symm b1)] at e; exact h.inj _ _ hy hx e |>.symm
        · rw [exc_ne b1 b2] at e; exact absurd (h.inj _ _ hj hy e).symm b2
    · by_cases a2 : x = j
      · subst a2
        rw [exc_j hij] at e
        by_cases b1 : y = i
        · subst b1; rw [exc_i] at e; exact h.inj _ _ hx hy e.symm
        · by_cases b2 : y = x
          · exact b2.symm
          · rw [exc_ne b1 b2] at e; exact absurd (h.inj _ _ hi hy e).symm b1
      · rw [exc_ne a1 a2] at e
        by_cases b1 : y = i
        · subst b1; rw [exc_i] at e; exact absurd (h.inj _ _ hx hj e) a2
        · by_cases b2 : y = j
          · subst b2; rw [exc_j hij] at e; exact absurd (h.inj _ _ hx hi e) a1
          · rw [exc_ne b1 b2] at e; exact h.inj _ _ hx hy e
theorem exc_merge {f : Nat → Nat} {n i j : Nat} (h : Pf f n) (hj : j < n) (hn : ¬ RN f j i) (hij : i ≠ j) : RN (exc f i j) i j := by
  obtain ⟨d, hd, he⟩ := h.period hj
  obtain ⟨k, ⟨hk1, hk2⟩, hk⟩ := least_step (P := fun k => 1 ≤ k ∧ it f k j = j) d ⟨hd, he⟩
  have key : ∀ m, 1 ≤ m → m ≤ k → it (exc f i j) m i = it f m j := by
    intro m
    induction m with
    | zero => intro h1; omega
    | succ m ih =>
      intro _ h2
      by_cases hm : m = 0
      · subst hm
        show exc f i j i = f j
        exact exc_i f i j
      · show exc f i j (it (exc f i j) m i) = f (it f m j)
        rw [ih (by omega) (by omega)]
        exact exc_ne (fun e => hn ⟨m, e.symm⟩) (fun e => hk m (by omega) ⟨by omega, e⟩)
  exact ⟨k, by rw [key k hk1 (Nat.le_refl _), hk2]⟩
theorem exc_split {f : Nat → Nat} {n i j : Nat} (h : Pf f n) (hi : i < n) (hj : j < n) (hr : RN f i j) (hij : i ≠ j) : ¬ RN (exc f i j) i j := by
  obtain ⟨m, hm⟩ := hr.symm h hi
  have hm1 : 1 ≤ m := by
    cases m with
    | zero => exact absurd hm hij
    | succ m => omega
  obtain ⟨k, ⟨hk1, hk2⟩, hk⟩ := least_step (P := fun k => 1 ≤ k ∧ it f k j = i) m ⟨hm1, hm.symm⟩
  have hnj : ∀ r, 1 ≤ r → r ≤ k → it f r j ≠ j := fun r h1 h2 e => by
    by_cases hrk : r = k
    · subst hrk; rw [hk2] at e; exact hij e
    · refine hk (k - r) (by omega) ⟨by omega, ?_⟩
      have := it_add f j r (k - r)
      rw [e, show r + (k - r) = k by omega, hk2] at this
      exact this.symm
  have key : ∀ m, ∃ r, 1 ≤ r ∧ r ≤ k ∧ it (exc f i j) m i = it f r j := by
    intro m
    induction m with
    | zero => exact ⟨k, hk1, Nat.le_refl _, hk2.symm⟩
    | succ m ih =>
      obtain ⟨r, h1, h2, e⟩ := ih
      by_cases hrk : r = k
      · subst hrk
        refine ⟨1, Nat.le_refl _, h1, ?_⟩
        show exc f i j (it (exc f i j) m i) = f j
        rw [e, hk2, exc_i]
      · refine ⟨r + 1, by omega, by omega, ?_⟩
        show exc f i j (it (exc f i j) m i) = f (it f r j)
        rw [e]
        exact exc_ne (fun z => hk r (by omega) ⟨h1, z⟩) (hnj r h1 h2)
  intro ⟨m, e⟩
  obtain ⟨r, h1, h2, e2⟩ := key m
  exact hnj r h1 h2 (by rw [← e2, ← e])
noncomputable def cnt (P : Nat → Prop) : Nat → Nat
  | 0 => 0
  | k + 1 => cnt P k + (open Classical in if P k then 1 else 0)
theorem cnt_congr {P P' : Nat → Prop} : ∀ n, (∀ p, p < n → (P p ↔ P' p)) → cnt P n = cnt P' n
  | 0, _ => rfl
  | n + 1, h => by
    have e := h n (by omega)
    show cnt P n + _ = cnt P' n + _
    rw [cnt_congr n fun p hp => h p (by omega)]
    by_cases q : P n
    · rw [if_pos q, if_pos (e.mp q)]
    · rw [if_neg q, if_neg (fun z => q (e.mpr z))]
theorem cnt_succ (P : Nat → Prop) (n : Nat) : (P n ∧ cnt P (n + 1) = cnt P n + 1) ∨ (¬ P n ∧ cnt P (n + 1) = cnt P n) := by
  by_cases q : P n
  · exact .inl ⟨q, by show cnt P n + _ = _; rw [if_pos q]⟩
  · exact .inr ⟨q, by show cnt P n + _ = _; rw [if_neg q]; rfl⟩
theorem cnt_one {P P' : Nat → Prop} {c : Nat} (hc : ¬ P c) : ∀ n, (∀ p, p < n → (P' p ↔ P p ∨ p = c)) → (c < n → cnt P' n = cnt P n + 1) ∧ (¬ c < n → cnt P' n = cnt P n)
  | 0, _ => ⟨fun h => by omega, fun _ => rfl⟩
  | n + 1, h => by
    have e := h n (by omega)
    obtain ⟨i1, i2⟩ := cnt_one hc n fun p hp => h p (by omega)
    rcases cnt_succ P n with ⟨p1, p2⟩ | ⟨p1, p2⟩
    · have hn : n ≠ c := fun z => hc (z ▸ p1)
      rcases cnt_succ P' n with ⟨q1, q2⟩ | ⟨q1, q2⟩
      · exact ⟨fun z => by have := i1 (by omega); omega, fun z => by have := i2 (by omega); omega⟩
      · exact absurd (e.mpr (.inl p1)) q1
    · rcases cnt_succ P' n with ⟨q1, q2⟩ | ⟨q1, q2⟩
      · have hn : n = c := (e.mp q1).resolve_left p1
        exact ⟨fun z => by have := i2 (by omega); omega, fun z => by omega⟩
      · have hn : n ≠ c := fun z => q1 (e.mpr (.inr z))
        exact ⟨fun z => by have := i1 (by omega); omega, fun z => by have := i2 (by omega); omega⟩
theorem cnt_le (P : Nat → Prop) : ∀ n, cnt P n ≤ n
  | 0 => Nat.le_refl _
  | n + 1 => by
    have := cnt_le P n
    show cnt P n + _ ≤ _
    split <;> omega
theorem cnt_all {P : Nat → Prop} : ∀ n, (∀ p, p < n → P p) → cnt P n = n
  | 0, _ => rfl
  | n + 1, h => by
    show cnt P n + _ = _
    rw [cnt_all n fun p hp => h p (by omega), if_pos (h n (by omega))]
def Lead (R : Nat → Nat → Prop) (p : Nat) : Prop := ∀ j, j < p → ¬ R j p
theorem split_core {n : Nat} {R R' : Nat → Nat → Prop} (rs : ∀ a b, a < n → R a b → b < n ∧ R b a) (rs' : ∀ a b, a < n → R' a b → b < n ∧ R' b a) (rt : ∀ a b c, R a b → R b c → R a c) (rt' : ∀ a b c, R' a b → R' b c → R' a c)
    (h1 : ∀ a b, a < n → R' a b → R a b) {x y : Nat} (hx : x < n) (hy : y < n) (hxy : R x y) (h2 : ∀ a b, a < n → ¬ R x a → R a b → R' a b) (h3 : ∀ z, R x z → R' x z ∨ R' y z)
    {mx my : Nat} (ax : R' x mx) (lx : ∀ r, r < mx → ¬ R' x r) (ay : R' y my) (ly : ∀ r, r < my → ¬ R' y r) (hlt : mx < my) : cnt (Lead R') n = cnt (Lead R) n + 1 := by
  have hmx := rs' _ _ hx ax
  have hmy := rs' _ _ hy ay
  have hc : ¬ Lead R my := fun h => h mx hlt (rt _ _ _ (rs _ _ hx (h1 _ _ hx ax)).2 (rt _ _ _ hxy (h1 _ _ hy ay)))
  refine (cnt_one hc n fun p hp => ?_).1 hmy.1
  constructor
  · intro hL
    by_cases q : R x p
    · rcases h3 p q with z | z
      · by_cases e : p = mx
        · subst e
          refine .inl fun j hj hr => ?_
          have hxj : R x j := rt _ _ _ q (rs _ _ (by omega) hr).2
          rcases h3 j hxj with w | w
          · exact lx j hj w
          · exact ly j (by omega) w
        · have : mx < p := Nat.lt_of_le_of_ne (Nat.le_of_not_lt fun w => lx p w z) (Ne.symm e)
          exact absurd (rt' _ _ _ hmx.2 z) (hL mx this)
      · by_cases e : p = my
        · exact .inr e
        · have : my < p := Nat.lt_of_le_of_ne (Nat.le_of_not_lt fun w => ly p w z) (Ne.symm e)
          exact absurd (rt' _ _ _ hmy.2 z) (hL my this)
    · refine .inl fun j hj hr => hL j hj ?_
      have hj' : j < n := by omega
      have := h2 p j hp q (rs _ _ hj' hr).2
      exact (rs' _ _ hp this).2
  · rintro (hL | rfl)
    · exact fun j hj hr => hL j hj (h1 _ _ (by omega) hr)
    · exact fun j hj hr => ly j hj ((rs' _ _ (by omega) hr).2 |> rt' _ _ _ ay)
theorem exc_comm {f : Nat → Nat} {i j : Nat} : exc f i j = exc f j i := by
  funext x
  unfold exc
  by_cases h1 : x = i
  · subst h1
    by_cases h2 : x = j
    · subst h2; rfl
    · rw [if_pos rfl, if_neg h2, if_pos rfl]
  · by_cases h2 : x = j
    · subst h2; rw [if_neg h1, if_pos rfl, if_pos rfl]
    · rw [if_neg h1, if_neg h2, if_neg h2, if_neg h1]
theorem exc_sub {f : Nat → Nat} {n i j : Nat} (h : Pf f n) (hi : i < n) (hj : j < n) (hr : RN f i j) (hij : i ≠ j) {a b : Nat} (ha : a < n) (hab : RN (exc f i j) a b) : RN f a b := by
  obtain ⟨m, rfl⟩ := hab
  induction m with
  | zero => exact .refl f a
  | succ m ih =>
    show RN f a (exc f i j (it (exc f i j) m a))
    generalize it (exc f i j) m a = x at ih
    by_cases h1 : x = i
    · subst h1; rw [exc_i]; exact ih.trans (hr.trans (.step f j))
    · by_cases h2 : x = j
      · subst h2; rw [exc_j hij]; exact ih.trans ((hr.symm h hi).trans (.step f i))
      · rw [exc_ne h1 h2]; exact ih.trans (.step f x)
theorem exc_off {f : Nat → Nat} {n i j : Nat} (h : Pf f n) (hi : i < n) (hr : RN f i j) {a b : Nat} (ha : a < n) (hn : ¬ RN f i a) (hab : RN f a b) : RN (exc f i j) a b := by
  obtain ⟨m, rfl⟩ := hab
  refine ⟨m, ?_⟩
  induction m with
  | zero => rfl
  | succ m ih =>
    show f (it f m a) = exc f i j (it (exc f i j) m a)
    rw [← ih]
    have hra : RN f a (it f m a) := ⟨m, rfl⟩
    refine (exc_ne (fun e => hn ?_) (fun e => hn ?_)).symm
    · rw [e] at hra; exact hra.symm h ha
    · rw [e] at hra; exact hr.trans (hra.symm h ha)
theorem exc_cover {f : Nat → Nat} {i j : Nat} (hij : i ≠ j) {z : Nat} (hz : RN f i z) : RN (exc f i j) i z ∨ RN (exc f i j) j z := by
  obtain ⟨m, rfl⟩ := hz
  induction m with
  | zero => exact .inl (.refl _ _)
  | succ m ih =>
    show RN _ i (f (it f m i)) ∨ RN _ j (f (it f m i))
    generalize it f m i = x at ih
    by_cases h1 : x = i
    · subst h1
      exact .inr ⟨1, (exc_j hij).symm⟩
    · by_cases h2 : x = j
      · subst h2
        exact .inl ⟨1, (exc_i _ _ _).symm⟩
      · have := RN.step (exc f i j) x
        rw [exc_ne h1 h2] at this
        rcases ih with z | z
        · exact .inl (z.trans this)
        · exact .inr (z.trans this)
theorem split_count {f : Nat → Nat} {n i j : Nat} (h : Pf f n) (hi : i < n) (hj : j < n) (hij : i ≠ j) (hr : RN f i j) : cnt (Lead (RN (exc f i j))) n = cnt (Lead (RN f)) n + 1 := by
  have hg := exc_pf h hi hj hij
  obtain ⟨mi, ai, li⟩ := least_step (P := fun r => RN (exc f i j) i r) i (.refl _ _)
  obtain ⟨mj, aj, lj⟩ := least_step (P := fun r => RN (exc f i j) j r) j (.refl _ _)
  have hne : mi ≠ mj := fun e => exc_split h hi hj hr hij (by subst e; exact ai.trans (aj.symm hg hj))
  have rs : ∀ a b, a < n → RN f a b → b < n ∧ RN f b a := fun a b ha r => ⟨r.lt h ha, r.symm h ha⟩
  have rs' : ∀ a b, a < n → RN (exc f i j) a b → b < n ∧ RN (exc f i j) b a := fun a b ha r => ⟨r.lt hg ha, r.symm hg ha⟩
  by_cases q : mi < mj
  · exact split_core rs rs' (fun _ _ _ => RN.trans) (fun _ _ _ => RN.trans) (fun a b ha => exc_sub h hi hj hr hij ha) hi hj hr (fun a b ha hn => exc_off h hi hr ha hn) (fun z => exc_cover hij) ai li aj lj q
  · exact split_core rs rs' (fun _ _ _ => RN.trans) (fun _ _ _ => RN.trans) (fun a b ha => exc_sub h hi hj hr hij ha) hj hi (hr.symm h hi) (fun a b ha hn => exc_off h hi hr ha fun z => hn ((hr.symm h hi).trans z)) (fun z hz => (exc_cover hij (hr.trans hz)).symm) aj lj ai li (by omega)
theorem merge_count {f : Nat → Nat} {n i j : Nat} (h : Pf f n) (hi : i < n) (hj : j < n) (hij : i ≠ j) (hr : ¬ RN f i j) : cnt (Lead (RN (exc f i j))) n + 1 = cnt (Lead (RN f)) n := by
  have hm := exc_merge h hj (fun z => hr (z.symm h hj)) hij
  have := split_count (exc_pf h hi hj hij) hi hj hij hm
  rw [exc_exc hij] at this
  exact this.symm
-- lists
def fN (ks : List Int) (i : Nat) : Nat := (ks.getD i 0).toNat
theorem permN_nodup {ks : List Int} (h : PermN ks) : ks.Nodup := by
  rw [h.nodup_iff]
  rw [List.nodup_iff_pairwise_ne, List.pairwise_iff_getElem]
  intro i j hi hj hij
  simp [rangeKs]
  omega
theorem permN_in {ks : List Int} (h : PermN ks) {i : Nat} (hi : i < ks.length) : 0 ≤ ks.getD i 0 ∧ ks.getD i 0 < ks.length := by
  have hm : ks.getD i 0 ∈ ks := by rw [List.getD_eq_getElem?_getD, List.getElem?_eq_getElem hi]; exact List.getElem_mem hi
  exact mem_rangeKs.mp (h.mem_iff.mp hm)
theorem nodup_getD {ks : List Int} (h : ks.Nodup) {i j : Nat} (hi : i < ks.length) (hj : j < ks.length) (e : ks.getD i 0 = ks.getD j 0) : i = j := by
  rw [List.getD_eq_getElem?_getD, List.getElem?_eq_getElem hi, List.getD_eq_getElem?_getD, List.getElem?_eq_getElem hj] at e
  exact (List.getElem_inj h).mp e
theorem fN_pf {ks : List Int} (h : PermN ks) : Pf (fN ks) ks.length := by
  refine ⟨fun x hx => ?_, fun x y hx hy e => ?_⟩
  · have := permN_in h hx
    unfold fN
    omega
  · have a := permN_in h hx
    have b := permN_in h hy
    unfold fN at e
    exact nodup_getD (permN_nodup h) hx hy (by omega)
theorem reach_iff {ks : List Int} (h : PermN ks) {a : Nat} (ha : a < ks.length) (y : Int) : Reach ks a y ↔ ∃ b : Nat, y = b ∧ RN (fN ks) a b := by
  constructor
  · intro hr
    induction hr with
    | refl => exact ⟨a, rfl, .refl _ _⟩
    | tail _ ih =>
      obtain ⟨b, rfl, hb⟩ := ih
      have hbn := hb.lt (fN_pf h) ha
      have := permN_in h hbn
      refine ⟨fN ks b, ?_, hb.trans (.step _ _)⟩
      unfold fL fN
      rw [Int.toNat_natCast]
      omega
  · rintro ⟨b, rfl, m, rfl⟩
    induction m with
    | zero => exact .refl
    | succ m ih =>
      have hbn := (fN_pf h).it ha m
      have := permN_in h hbn
      have e : ((it (fN ks) (m + 1) a : Nat) : Int) = fL ks (it (fN ks) m a : Nat) := by
        show ((fN ks (it (fN ks) m a) : Nat) : Int) = _
        unfold fL fN at *
        rw [Int.toNat_natCast]
        omega
      rw [e]
      exact .tail ih
theorem rings_cnt (ks : List Int) : ∀ n, rings ks n = cnt (fun k => ∀ j : Nat, j < k → ¬ Reach ks j k) n
  | 0 => rfl
  | n + 1 => by
    show rings ks n + _ = cnt _ n + _
    rw [rings_cnt ks n]
    congr 1
    congr
theorem rings_lead {ks : List Int} (h : PermN ks) : rings ks ks.length = cnt (Lead (RN (fN ks))) ks.length := by
  rw [rings_cnt]
  refine cnt_congr _ fun p hp => ?_
  unfold Lead
  refine forall_congr' fun j => forall_congr' fun hj => ?_
  rw [reach_iff h (by omega)]
  constructor
  · intro z r; exact z ⟨p, rfl, r⟩
  · rintro z ⟨b, e, r⟩
    have : p = b := by omega
    subst this
    exact z r
theorem swapL_length (ks : List Int) (i j : Nat) : (swapL ks i j).length = ks.length := by simp [swapL]
theorem getD_set (ks : List Int) (i : Nat) (x : Int) (p : Nat) (hp : p < ks.length) : (ks.set i x).getD p 0 = if i = p then x else ks.getD p 0 := by
  rw [List.getD_eq_getElem?_getD, List.getElem?_eq_getElem (by simpa using hp), List.getD_eq_getElem?_getD, List.getElem?_eq_getElem hp]
  simp [List.getElem_set]
theorem swapL_getD {ks : List Int} {i j p : Nat} (hp : p < ks.length) : (swapL ks i j).getD p 0 = if j = p then ks.getD i 0 else if i = p then ks.getD j 0 else ks.getD p 0 := by
  unfold swapL
  rw [getD_set _ _ _ _ (by simpa using hp), getD_set _ _ _ _ hp]
theorem fN_swap {ks : List Int} {i j p : Nat} (hij : i ≠ j) (hp : p < ks.length) : fN (swapL ks i j) p = exc (fN ks) i j p := by
  unfold fN exc
  rw [swapL_getD hp]
  by_cases h1 : p = i
  · subst h1
    rw [if_neg (Ne.symm hij), if_pos rfl, if_pos rfl]
  · rw [if_neg h1]
    by_cases h2 : p = j
    · subst h2; rw [if_pos rfl, if_pos rfl]
    · rw [if_neg h2, if_neg (Ne.symm h2), if_neg (Ne.symm h1)]
end
section
theorem snoc_ind {P : List Int → Prop} (h0 : P []) (h1 : ∀ l x, P l → P (l ++ [x])) (l : List Int) : P l := by
  rw [← List.reverse_reverse l]
  induction l.reverse with
  | nil => exact h0
  | cons a r ih => rw [List.reverse_cons]; exact h1 _ _ ih
/-- pairs across -/
def crs (A B : List Int) : Nat := (B.map fun b => A.countP fun a => decide (b ≤ a)).sum
theorem crs_nil (A : List Int) : crs A [] = 0 := rfl
theorem crs_snoc (A B : List Int) (x : Int) : crs A (B ++ [x]) = crs A B + A.countP (fun a => decide (x ≤ a)) := by
  simp [crs]
theorem crs_app (A B C : List Int) : crs A (B ++ C) = crs A B + crs A C := by simp [crs]
theorem crs_appL (A B C : List Int) : crs (A ++ B) C = crs A C + crs B C := by
  induction C with
  | nil => rfl
  | cons c r ih =>
    have e : ∀ X : List Int, crs X (c :: r) = X.countP (fun a => decide (c ≤ a)) + crs X r := fun X => by simp [crs]
    rw [e, e, e, ih, List.countP_append]
    omega
theorem crs_permL {A A' : List Int} (h : A.Perm A') (B : List Int) : crs A B = crs A' B := by
  unfold crs
  congr 1
  exact List.map_congr_left fun b _ => h.countP_eq _
theorem crs_permR (A : List Int) {B B' : List Int} (h : B.Perm B') : crs A B = crs A B' := (h.map _).sum_nat
theorem wv_app (A B : List Int) : wv (A ++ B) = wv A + wv B + crs A B := by
  induction B using snoc_ind with
  | h0 => simp [crs, wv]
  | h1 B x ih => rw [← List.append_assoc, wv_snoc, ih, wv_snoc, crs_snoc, List.countP_append]; omega
theorem crs_one (A : List Int) (x : Int) : crs A [x] = A.countP fun a => decide (x ≤ a) := by simp [crs]
theorem crs_oneL (x : Int) (B : List Int) : crs [x] B = B.countP fun b => decide (b ≤ x) := by
  induction B with
  | nil => rfl
  | cons b r ih =>
    rw [show crs [x] (b :: r) = [x].countP (fun a => decide (b ≤ a)) + crs [x] r by simp [crs], ih, List.countP_cons, List.countP_cons, List.countP_nil]
    omega
theorem pair_sum {x : Int} : ∀ {B : List Int}, x ∉ B → crs B [x] + crs [x] B = B.length
  | [], _ => rfl
  | b :: r, h => by
    have ih := pair_sum (x := x) (B := r) (fun z => h (List.mem_cons_of_mem _ z))
    have hb : x ≠ b := fun z => h (z ▸ List.mem_cons_self)
    rw [crs_one, crs_oneL] at ih ⊢
    rw [List.countP_cons, List.countP_cons, List.length_cons]
    by_cases q : x ≤ b
    · rw [if_pos (decide_eq_true q), if_neg (by simp; omega)]; omega
    · rw [if_neg (by simpa using q), if_pos (decide_eq_true (by omega))]; omega
theorem wv_rev {B : List Int} (h : B.Nodup) : 2 * (wv B.reverse + wv B) + B.length = B.length * B.length := by
  induction B with
  | nil => rfl
  | cons b r ih =>
    have hn := List.nodup_cons.mp h
    have := pair_sum hn.1
    have ih' := ih hn.2
    rw [List.reverse_cons, wv_app, crs_permL (List.reverse_perm r) [b], show wv (b :: r) = wv ([b] ++ r) from rfl, wv_app [b] r]
    have e : wv [b] = 0 := rfl
    rw [e, List.length_cons]
    have : (r.length + 1) * (r.length + 1) = r.length * r.length + 2 * r.length + 1 := by
      rw [Nat.add_mul, Nat.mul_add]
      omega
    omega
theorem pl_seg {A B C : List Int} (h : (A ++ B ++ C).Nodup) : (wv (A ++ B.reverse ++ C) : Int) = wv (A ++ B ++ C) + ((B.length : Int) * ((B.length : Int) - 1)).fdiv 2 - 2 * wv B := by
  have hB : B.Nodup := (List.nodup_append.mp (List.nodup_append.mp h).1).2.1
  have hr := wv_rev hB
  have e : (B.length : Int) * ((B.length : Int) - 1) = 2 * ((wv B.reverse + wv B : Nat) : Int) := by
    have : ((B.length * B.length : Nat) : Int) = 2 * ((wv B.reverse + wv B : Nat) : Int) + B.length := by omega
    rw [Int.mul_sub, ← Int.natCast_mul, this]
    omega
  rw [e, Int.mul_fdiv_cancel_left _ (by omega), wv_app (A ++ B.reverse), wv_app A, wv_app (A ++ B), wv_app A, crs_permR A (List.reverse_perm B), crs_permL (List.Perm.append_left A (List.reverse_perm B)) C]
  omega
theorem wv_exch {A B C : List Int} {x y : Int} (h : (A ++ ([x] ++ B ++ [y]) ++ C).Nodup) : ((wv (A ++ ([y] ++ B ++ [x]) ++ C) : Int) - wv (A ++ ([x] ++ B ++ [y]) ++ C)).fmod 2 = 1 := by
  have hM : ([x] ++ B ++ [y]).Nodup := (List.nodup_append.mp (List.nodup_append.mp h).1).2.1
  have hp : ([y] ++ B ++ [x]).Perm ([x] ++ B ++ [y]) := by
    refine (List.perm_append_comm (l₁ := [y] ++ B) (l₂ := [x])).trans ?_
    rw [List.append_assoc]
    exact List.Perm.append_left _ List.perm_append_comm
  have h3 := List.nodup_append.mp hM
  have h4 := List.nodup_append.mp h3.1
  have hx : x ∉ B := fun z => h4.2.2 x (by simp) x z rfl
  have hy : y ∉ B := fun z => h3.2.2 y (by simp [z]) y (by simp) rfl
  have hxy : x ∉ [y] := fun z => h3.2.2 x (by simp) y (by simp) (by simpa using z)
  have p1 := pair_sum hx
  have p2 := pair_sum hy
  have p3 := pair_sum hxy
  rw [wv_app (A ++ ([y] ++ B ++ [x])), wv_app A, wv_app (A ++ ([x] ++ B ++ [y])), wv_app A, crs_permR A hp, crs_permL (List.Perm.append_left A hp) C,
    wv_app ([y] ++ B), wv_app [y], wv_app ([x] ++ B), wv_app [x], crs_appL [x] B [y], crs_appL [y] B [x]]
  have e1 : wv [x] = 0 := rfl
  have e2 : wv [y] = 0 := rfl
  rw [e1, e2]
  rw [List.length_singleton] at p3
  generalize crs [x] B = a1 at *
  generalize crs [y] B = a2 at *
  generalize crs B [x] = a3 at *
  generalize crs B [y] = a4 at *
  generalize crs [x] [y] = a5 at *
  generalize crs [y] [x] = a6 at *
  rw [Int.fmod_eq_emod_of_nonneg _ (by omega)]
  omega
theorem swapL_comm {ks : List Int} {i j : Nat} (h : i ≠ j) : swapL ks i j = swapL ks j i := by
  unfold swapL
  rw [List.set_comm _ _ h]
theorem cut_two {ks : List Int} {i j : Nat} (hij : i < j) (hj : j < ks.length) : ∃ A B C x y, ks = A ++ ([x] ++ B ++ [y]) ++ C ∧ swapL ks i j = A ++ ([y] ++ B ++ [x]) ++ C := by
  have e1 : ks = ks.take i ++ ks[i]'(by omega) :: ks.drop (i + 1) := by rw [← List.drop_eq_getElem_cons, List.take_append_drop]
  generalize hA : ks.take i = A at e1
  generalize ks[i]'(by omega) = x at e1
  generalize hR : ks.drop (i + 1) = R at e1
  have lA : A.length = i := by rw [← hA, List.length_take]; omega
  have lR : R.length = ks.length - (i + 1) := by rw [← hR, List.length_drop]
  have e2 : R = R.take (j - i - 1) ++ R[j - i - 1]'(by omega) :: R.drop (j - i - 1 + 1) := by rw [← List.drop_eq_getElem_cons, List.take_append_drop]
  generalize hB : R.take (j - i - 1) = B at e2
  generalize R[j - i - 1]'(by omega) = y at e2
  generalize R.drop (j - i - 1 + 1) = C at e2
  have lB : B.length = j - i - 1 := by rw [← hB, List.length_take]; omega
  clear hA hR lR hB
  subst e2
  subst e1
  obtain rfl : j = A.length + (1 + B.length) := by omega
  subst lA
  refine ⟨A, B, C, x, y, by simp, ?_⟩
  unfold swapL
  have g1 : (A ++ x :: (B ++ y :: C)).getD A.length 0 = x := by simp
  have g2 : (A ++ x :: (B ++ y :: C)).getD (A.length + (1 + B.length)) 0 = y := by
    rw [Nat.add_comm 1]
    simp [List.getElem?_append_right]
  rw [g1, g2, List.set_append_right _ _ (Nat.le_refl _), List.set_append_right _ _ (by omega)]
  rw [Nat.sub_self, Nat.add_sub_cancel_left, Nat.add_comm 1, List.set_cons_zero, List.set_cons_succ, List.set_append_right _ _ (Nat.le_refl _), Nat.sub_self, List.set_cons_zero]
  simp
theorem swapL_perm {ks : List Int} {i j : Nat} (hi : i < ks.length) (hj : j < ks.length) (hij : i ≠ j) : (swapL ks i j).Perm ks := by
  have key : ∀ {i j : Nat}, i < j → j < ks.length → (swapL ks i j).Perm ks := fun hij hj => by
    obtain ⟨A, B, C, x, y, e, e2⟩ := cut_two hij hj
    rw [e2]
    conv => rhs; rw [e]
    refine List.Perm.append_right _ (List.Perm.append_left _ ?_)
    refine (List.perm_append_comm (l₁ := [y] ++ B) (l₂ := [x])).trans ?_
    rw [List.append_assoc]
    exact List.Perm.append_left _ List.perm_append_comm
  rcases Nat.lt_or_gt_of_ne hij with q | q
  · exact key q hj
  · rw [swapL_comm hij]; exact key q hi
theorem swap_wv {ks : List Int} (hn : ks.Nodup) {i j : Nat} (hi : i < ks.length) (hj : j < ks.length) (hij : i ≠ j) : ((wv (swapL ks i j) : Int) - wv ks).fmod 2 = 1 := by
  have key : ∀ {i j : Nat}, i < j → j < ks.length → ((wv (swapL ks i j) : Int) - wv ks).fmod 2 = 1 := fun hij hj => by
    obtain ⟨A, B, C, x, y, e, e2⟩ := cut_two hij hj
    rw [e2]
    rw [e] at hn ⊢
    exact wv_exch hn
  rcases Nat.lt_or_gt_of_ne hij with q | q
  · exact key q hj
  · rw [swapL_comm hij]; exact key q hi
end
section
def SortP (ks pre hs : List Int) (st : Int) : Prop := hs.Perm (rangeKs 0 ks.length) ∧ (∀ j : Nat, j < pre.length → hs.getD j 0 = j) ∧ (rings hs hs.length : Int) = rings ks ks.length + st
theorem range_nodup (n : Nat) : (rangeKs 0 n).Nodup := by
  rw [List.nodup_iff_pairwise_ne, List.pairwise_iff_getElem]
  intro i j hi hj hij
  simp [rangeKs]
  omega
theorem range_getD {n i : Nat} (h : i < n) : (rangeKs 0 n).getD i 0 = i := by
  rw [List.getD_eq_getElem?_getD, List.getElem?_eq_getElem (by rw [rangeKs_length]; exact h)]
  simp [rangeKs]
theorem permN_of {ks : List Int} {n : Nat} (h : ks.Perm (rangeKs 0 n)) : PermN ks := by
  have : ks.length = n := by rw [h.length_eq, rangeKs_length]
  unfold PermN
  rw [this]; exact h
theorem swap_permN {ks : List Int} (h : PermN ks) {i j : Nat} (hi : i < ks.length) (hj : j < ks.length) (hij : i ≠ j) : PermN (swapL ks i j) := by
  unfold PermN
  rw [swapL_length]
  exact (swapL_perm hi hj hij).trans h
theorem rings_swap {ks : List Int} (h : PermN ks) {i j : Nat} (hi : i < ks.length) (hj : j < ks.length) (hij : i ≠ j) :
    rings (swapL ks i j) (swapL ks i j).length = cnt (Lead (RN (exc (fN ks) i j))) ks.length := by
  rw [rings_lead (swap_permN h hi hj hij), swapL_length]
  have hp := fN_pf h
  have hg := exc_pf hp hi hj hij
  have e : ∀ a, a < ks.length → ∀ m, it (fN (swapL ks i j)) m a = it (exc (fN ks) i j) m a := fun a ha m => by
    induction m with
    | zero => rfl
    | succ m ih =>
      show fN (swapL ks i j) (it (fN (swapL ks i j)) m a) = exc (fN ks) i j (it (exc (fN ks) i j) m a)
      rw [ih]
      exact fN_swap hij (hg.it ha m)
  refine cnt_congr _ fun p hp => ?_
  unfold Lead RN
  refine forall_congr' fun j => forall_congr' fun hj => ?_
  simp only [e j (by omega)]
theorem rings_split {ks : List Int} (h : PermN ks) {i j : Nat} (hi : i < ks.length) (hj : j < ks.length) (hij : i ≠ j) (hr : RN (fN ks) i j) : rings (swapL ks i j) (swapL ks i j).length = rings ks ks.length + 1 := by
  rw [rings_swap h hi hj hij, rings_lead h, split_count (fN_pf h) hi hj hij hr]
theorem pl_swapPerm {ks : List Int} (h : PermN ks) {i j : Nat} (hi : i < ks.length) (hj : j < ks.length) (hij : i ≠ j) : (swapL ks i j).Perm (rangeKs 0 ks.length) := (swapL_perm hi hj hij).trans h
theorem pl_exch {ks : List Int} (h : PermN ks) {i j : Nat} (hi : i < ks.length) (hj : j < ks.length) (hij : i ≠ j) :
    ((rings (swapL ks i j) (swapL ks i j).length : Int) - rings ks ks.length).natAbs = 1 ∧ ((wv (swapL ks i j) : Int) - wv ks).fmod 2 = 1 := by
  refine ⟨?_, swap_wv (permN_nodup h) hi hj hij⟩
  by_cases q : RN (fN ks) i j
  · rw [rings_split h hi hj hij q]; omega
  · have := merge_count (fN_pf h) hi hj hij q
    rw [rings_swap h hi hj hij, rings_lead h]
    omega
theorem idx_getD {ks : List Int} {k : Int} (h : k ∈ ks) : ks.idxOf k < ks.length ∧ ks.getD (ks.idxOf k) 0 = k := by
  have hl := List.idxOf_lt_length_iff.mpr h
  refine ⟨hl, ?_⟩
  rw [List.getD_eq_getElem?_getD, List.getElem?_eq_getElem hl, Option.getD_some, List.getElem_idxOf]
/-- a place that is not its own octet's: the exchange with the one that holds it -/
theorem fix_step {hs : List Int} (h : PermN hs) {p : Nat} (hp : p < hs.length) (e : hs.getD p 0 ≠ p) :
    hs.idxOf (p : Int) < hs.length ∧ p ≠ hs.idxOf (p : Int) ∧ hs.getD (hs.idxOf (p : Int)) 0 = p ∧ rings (swapL hs p (hs.idxOf (p : Int))) (swapL hs p (hs.idxOf (p : Int))).length = rings hs hs.length + 1 := by
  have hm : (p : Int) ∈ hs := h.mem_iff.mpr (mem_rangeKs.mpr ⟨by omega, by omega⟩)
  obtain ⟨h1, h2⟩ := idx_getD hm
  have hne : p ≠ hs.idxOf (p : Int) := fun z => e (by rw [← z] at h2; exact h2)
  refine ⟨h1, hne, h2, rings_split h hp h1 hne ?_⟩
  have : RN (fN hs) (hs.idxOf (p : Int)) p := ⟨1, by
    show p = fN hs _
    unfold fN it
    rw [h2]; rfl⟩
  exact this.symm (fN_pf h) h1
theorem all_fixed {hs : List Int} (h : ∀ j : Nat, j < hs.length → hs.getD j 0 = j) : hs = rangeKs 0 hs.length := by
  refine List.ext_getElem (by rw [rangeKs_length]) fun i h1 h2 => ?_
  have := h i h1
  rw [List.getD_eq_getElem?_getD, List.getElem?_eq_getElem h1] at this
  rw [Option.getD_some] at this
  rw [this]
  simp [rangeKs]
theorem range_rings (n : Nat) : rings (rangeKs 0 n) (rangeKs 0 n).length = n := by
  have hp : PermN (rangeKs 0 n) := permN_of (List.Perm.refl _)
  rw [rings_lead hp, rangeKs_length]
  refine cnt_all n fun p hpn j hj hr => ?_
  obtain ⟨m, e⟩ := hr
  have : ∀ m, it (fN (rangeKs 0 n)) m j = j := fun m => by
    induction m with
    | zero => rfl
    | succ m ih =>
      show fN _ (it (fN (rangeKs 0 n)) m j) = j
      rw [ih]
      unfold fN
      rw [range_getD (by omega)]
      rfl
  rw [this] at e
  omega
theorem wv_le_zero {l : List Int} (h : l.Pairwise (· < ·)) : wv l = 0 := by
  induction l with
  | nil => rfl
  | cons a r ih =>
    obtain ⟨h1, h2⟩ := List.pairwise_cons.mp h
    show List.countP _ r + wv r = 0
    rw [ih h2]
    have : List.countP (fun y => decide (y ≤ a)) r = 0 := List.countP_eq_zero.mpr fun y hy => by
      have := h1 y hy
      simp
      omega
    omega
theorem range_wv (n : Nat) : wv (rangeKs 0 n) = 0 := by
  refine wv_le_zero ?_
  rw [List.pairwise_iff_getElem]
  intro i j hi hj hij
  simp [rangeKs]
  omega
theorem rings_le (ks : List Int) : rings ks ks.length ≤ ks.length := by rw [rings_cnt]; exact cnt_le _ _
theorem pl_par {ks : List Int} (h : PermN ks) : ((wv ks : Int) - ks.length + rings ks ks.length).fmod 2 = 0 := by
  have key : ∀ d : Nat, ∀ hs : List Int, PermN hs → hs.length - rings hs hs.length = d → ((wv hs : Int) - hs.length + rings hs hs.length) % 2 = 0 := by
    intro d
    induction d with
    | zero =>
      intro hs h hd
      by_cases q : ∀ j : Nat, j < hs.length → hs.getD j 0 = j
      · rw [all_fixed q, range_rings, range_wv, rangeKs_length]
        omega
      · simp only [Classical.not_forall] at q
        obtain ⟨p, hp, e⟩ := q
        obtain ⟨a1, a2, a3, a4⟩ := fix_step h hp e
        have := rings_le (swapL hs p (hs.idxOf (p : Int)))
        rw [swapL_length] at this a4
        omega
    | succ d ih =>
      intro hs h hd
      by_cases q : ∀ j : Nat, j < hs.length → hs.getD j 0 = j
      · rw [all_fixed q, range_rings, range_wv, rangeKs_length]
        omega
      · simp only [Classical.not_forall] at q
        obtain ⟨p, hp, e⟩ := q
        obtain ⟨a1, a2, a3, a4⟩ := fix_step h hp e
        have b1 := ih _ (swap_permN h hp a1 a2) (by rw [a4, swapL_length]; omega)
        have b2 := swap_wv (permN_nodup h) hp a1 a2
        rw [Int.fmod_eq_emod_of_nonneg _ (by omega)] at b2
        rw [a4, swapL_length] at b1
        omega
  rw [Int.fmod_eq_emod_of_nonneg _ (by omega)]
  exact key _ ks h rfl
theorem pl_sort0 {ks : List Int} (h : PermN ks) : SortP ks [] ks 0 := ⟨h, fun j hj => by simp at hj, by omega⟩
theorem pl_sort1 {ks pre hs : List Int} {st k : Int} (h : SortP ks pre hs st) (hk : k = 0 + (pre.length : Int)) (e : hs.getD k.toNat 0 = k) : SortP ks (pre ++ [k]) hs st := by
  refine ⟨h.1, fun j hj => ?_, h.2.2⟩
  rw [List.length_append, List.length_singleton] at hj
  by_cases q : j < pre.length
  · exact h.2.1 j q
  · have : k.toNat = j := by omega
    rw [this] at e
    rw [e]; omega
theorem pl_sort2 {ks pre hs : List Int} {st k : Int} (h : SortP ks pre hs st) (hk : k = 0 + (pre.length : Int)) (hl : pre.length < ks.length) (e : hs.getD k.toNat 0 ≠ k) : SortP ks (pre ++ [k]) (swapL hs k.toNat (hs.idxOf k)) (st + 1) := by
  obtain ⟨h1, h2, h3⟩ := h
  have hp := permN_of h1
  have hlen : hs.length = ks.length := by rw [h1.length_eq, rangeKs_length]
  have hkk : k = ((pre.length : Nat) : Int) := by omega
  subst hkk
  rw [Int.toNat_natCast] at e ⊢
  obtain ⟨a1, a2, a3, a4⟩ := fix_step hp (p := pre.length) (by omega) e
  refine ⟨(swapL_perm (by omega) a1 a2).trans h1, fun j hj => ?_, by omega⟩
  rw [List.length_append, List.length_singleton] at hj
  rw [swapL_getD (by omega)]
  by_cases q : j < pre.length
  · rw [if_neg (fun z => ?_), if_neg (by omega)]
    · exact h2 j q
    · rw [z] at a3
      have := h2 j q
      omega
  · have : j = pre.length := by omega
    subst this
    rw [if_neg (fun z => a2 z.symm), if_pos rfl, a3]
theorem pl_sortE {ks pre hs : List Int} {st : Int} (h : SortP ks pre hs st) (hl : pre.length = ks.length) : hs = rangeKs 0 ks.length ∧ st = ks.length - rings ks ks.length := by
  obtain ⟨h1, h2, h3⟩ := h
  have hlen : hs.length = ks.length := by rw [h1.length_eq, rangeKs_length]
  have e : hs = rangeKs 0 ks.length := by
    rw [← hlen]
    exact all_fixed fun j hj => h2 j (by omega)
  refine ⟨e, ?_⟩
  rw [e, range_rings] at h3
  omega
end
section
theorem take_succ_getD {ks : List Int} {m : Nat} (h : m < ks.length) : ks.take (m + 1) = ks.take m ++ [ks.getD m 0] := by
  rw [List.getD_eq_getElem?_getD, List.getElem?_eq_getElem h, Option.getD_some, List.take_add_one, List.getElem?_eq_getElem h]
  rfl
theorem take_map {ks : List Int} : ∀ {m : Nat}, m ≤ ks.length → ks.take m = (List.range m).map fun j => ks.getD j 0
  | 0, _ => rfl
  | m + 1, h => by
    rw [take_succ_getD (by omega), take_map (by omega), List.range_succ, List.map_append]
    rfl
theorem tot_wv {ks : List Int} (h : ks.Nodup) : ∀ m, m ≤ ks.length → tot (fun i j => decide (ks.getD i 0 < ks.getD j 0)) m = wv (ks.take m)
  | 0, _ => rfl
  | m + 1, hm => by
    show tot _ m + List.countP _ (List.range m) = _
    rw [tot_wv h m (by omega), take_succ_getD (by omega), wv_snoc, take_map (ks := ks) (m := m) (by omega), List.countP_map]
    congr 1
    refine List.countP_congr fun j hj => ?_
    have hj' := List.mem_range.mp hj
    have hne : ks.getD m 0 ≠ ks.getD j 0 := fun e => by
      have := nodup_getD h (by omega) (by omega) e
      omega
    simp only [Function.comp, decide_eq_true_eq]
    omega
theorem pl_tot {ks : List Int} (h : PermN ks) : tot (fun i j => decide (ks.getD i 0 < ks.getD j 0)) ks.length = wv ks := by
  rw [tot_wv (permN_nodup h) _ (Nat.le_refl _), List.take_length]
/-- the pairs, told by each octet's place -/
def dbl (l : List Int) (p : Int → Int → Bool) : Nat := (l.map fun x => l.countP fun y => p x y).sum
theorem sum_zero {α : Type} (f : α → Nat) : ∀ l : List α, (∀ x ∈ l, f x = 0) → (l.map f).sum = 0
  | [], _ => rfl
  | a :: r, h => by
    rw [List.map_cons, List.sum_cons, h a List.mem_cons_self, sum_zero f r fun x hx => h x (List.mem_cons_of_mem _ hx)]
theorem sum_add {α : Type} (f g : α → Nat) : ∀ l : List α, (l.map fun x => f x + g x).sum = (l.map f).sum + (l.map g).sum
  | [] => rfl
  | a :: r => by
    rw [List.map_cons, List.sum_cons, sum_add f g r, List.map_cons, List.sum_cons, List.map_cons, List.sum_cons]
    omega
theorem sum_countP {α β : Type} (p : α → β → Bool) (A : List α) : ∀ B : List β, (A.map fun x => B.countP fun y => p x y).sum = (B.map fun y => A.countP fun x => p x y).sum
  | [] => by
    exact sum_zero _ _ fun x _ => rfl
  | b :: r => by
    have e : (fun x => List.countP (fun y => p x y) (b :: r)) = fun x => List.countP (fun y => p x y) r + (if p x b = true then 1 else 0) := by
      funext x
      rw [List.countP_cons]
    rw [e, sum_add, sum_countP p A r, List.map_cons, List.sum_cons]
    have e2 : ∀ A : List α, (A.map fun x => if p x b = true then 1 else 0).sum = A.countP fun x => p x b := fun A => by
      induction A with
      | nil => rfl
      | cons a s ih => rw [List.map_cons, List.sum_cons, ih, List.countP_cons]; omega
    rw [e2]
    omega
theorem idx_app_l {l : List Int} {x y : Int} (h : y ∈ l) : (l ++ [x]).idxOf y = l.idxOf y := by rw [List.idxOf_append, if_pos h]
theorem wv_dbl {l : List Int} (h : l.Nodup) : wv l = dbl l fun x y => decide (l.idxOf y < l.idxOf x) && decide (x ≤ y) := by
  induction l using snoc_ind with
  | h0 => rfl
  | h1 l x ih =>
    have hn := List.nodup_append.mp h
    have hx : x ∉ l := fun z => hn.2.2 x z x (by simp) rfl
    have hix : (l ++ [x]).idxOf x = l.length := by
      rw [List.idxOf_append, if_neg hx, List.idxOf_cons_self]; omega
    rw [wv_snoc, ih hn.1]
    unfold dbl
    rw [List.map_append, List.sum_append]
    congr 1
    · congr 1
      refine List.map_congr_left fun a ha => ?_
      have hal := List.idxOf_lt_length_iff.mpr ha
      rw [List.countP_append, List.countP_cons, List.countP_nil, if_neg]
      · rw [Nat.zero_add, Nat.add_zero]
        refine List.countP_congr fun y hy => ?_
        dsimp only
        rw [idx_app_l ha, idx_app_l hy]
      · dsimp only
        rw [hix, idx_app_l ha]
        simp
        omega
    · rw [List.map_cons, List.map_nil, List.sum_cons, List.sum_nil, Nat.add_zero, List.countP_append, List.countP_cons, List.countP_nil, if_neg]
      · rw [Nat.zero_add, Nat.add_zero]
        refine List.countP_congr fun y hy => ?_
        have hyl := List.idxOf_lt_length_iff.mpr hy
        dsimp only
        rw [idx_app_l hy, hix]
        simp [hyl]
      · simp
theorem dbl_perm {l l' : List Int} (h : l.Perm l') (p : Int → Int → Bool) : dbl l p = dbl l' p := by
  unfold dbl
  rw [(h.map _).sum_nat]
  congr 1
  exact List.map_congr_left fun x _ => h.countP_eq _
theorem dbl_congr {l : List Int} {p q : Int → Int → Bool} (h : ∀ x ∈ l, ∀ y ∈ l, p x y = q x y) : dbl l p = dbl l q := by
  unfold dbl
  congr 1
  refine List.map_congr_left fun x hx => List.countP_congr fun y hy => ?_
  rw [h x hx y hy]
theorem idx_inj {ks : List Int} {a b : Int} (ha : a ∈ ks) (hb : b ∈ ks) (e : ks.idxOf a = ks.idxOf b) : a = b := by
  have h1 := (idx_getD ha).2
  have h2 := (idx_getD hb).2
  rw [e] at h1
  rw [← h1, h2]
theorem idx_map {f : Int → Int} {x : Int} : ∀ {l : List Int}, (∀ a ∈ l, f a = f x → a = x) → x ∈ l → (l.map f).idxOf (f x) = l.idxOf x
  | [], _, h => by cases h
  | a :: r, hi, h => by
    rw [List.map_cons, List.idxOf_cons, List.idxOf_cons]
    by_cases q : a = x
    · subst q; simp
    · have hf : f a ≠ f x := fun z => q (hi a List.mem_cons_self z)
      have hm : x ∈ r := by
        rcases List.mem_cons.mp h with z | z
        · exact absurd z.symm q
        · exact z
      rw [show (f a == f x) = false by simpa using hf, show (a == x) = false by simpa using q, idx_map (fun b hb => hi b (List.mem_cons_of_mem _ hb)) hm]
theorem range_idx {n : Nat} {x : Int} (h : x ∈ rangeKs 0 n) : ((rangeKs 0 n).idxOf x : Int) = x := by
  obtain ⟨h1, h2⟩ := idx_getD h
  rw [rangeKs_length] at h1
  rw [range_getD h1] at h2
  exact h2
theorem pl_inv {ks : List Int} (h : PermN ks) : wv ((rangeKs 0 ks.length).map fun o => (ks.idxOf o : Int)) = wv ks := by
  have hmem : ∀ x, x ∈ rangeKs 0 ks.length → x ∈ ks := fun x hx => h.mem_iff.mpr hx
  have hinj : ∀ x, x ∈ rangeKs 0 ks.length → ∀ a ∈ rangeKs 0 ks.length, ((ks.idxOf a : Nat) : Int) = ((ks.idxOf x : Nat) : Int) → a = x := fun x hx a ha e => idx_inj (hmem a ha) (hmem x hx) (by omega)
  have hnd : ((rangeKs 0 ks.length).map fun o => (ks.idxOf o : Int)).Nodup := by
    have := range_nodup ks.length
    rw [List.nodup_iff_pairwise_ne] at this ⊢
    rw [List.pairwise_map]
    exact this.imp_of_mem fun {a b} ha hb hne e => hne (hinj b hb a ha e)
  rw [wv_dbl hnd, wv_dbl (permN_nodup h), dbl_perm h]
  have e1 : dbl ((rangeKs 0 ks.length).map fun o => (ks.idxOf o : Int)) (fun x y => decide (((rangeKs 0 ks.length).map fun o => (ks.idxOf o : Int)).idxOf y < ((rangeKs 0 ks.length).map fun o => (ks.idxOf o : Int)).idxOf x) && decide (x ≤ y)) =
      dbl (rangeKs 0 ks.length) (fun x y => decide (y < x) && decide (ks.idxOf x ≤ ks.idxOf y)) := by
    unfold dbl
    rw [List.map_map]
    congr 1
    refine List.map_congr_left fun x hx => ?_
    show List.countP _ (List.map _ _) = _
    rw [List.countP_map]
    refine List.countP_congr fun y hy => ?_
    simp only [Function.comp]
    rw [idx_map (f := fun o => ((ks.idxOf o : Nat) : Int)) (hinj x hx) hx, idx_map (f := fun o => ((ks.idxOf o : Nat) : Int)) (hinj y hy) hy]
    have i1 := range_idx hx
    have i2 := range_idx hy
    simp only [Bool.and_eq_true, decide_eq_true_eq]
    omega
  rw [e1]
  unfold dbl
  rw [sum_countP]
  show dbl (rangeKs 0 ks.length) (fun y x => decide (y < x) && decide (ks.idxOf x ≤ ks.idxOf y)) = _
  refine dbl_congr fun x hx y hy => ?_
  rw [Bool.eq_iff_iff]
  simp only [Bool.and_eq_true, decide_eq_true_eq]
  constructor
  · rintro ⟨a, b⟩
    refine ⟨?_, by omega⟩
    rcases Nat.lt_or_eq_of_le b with z | z
    · exact z
    · have := idx_inj (hmem y hy) (hmem x hx) z; omega
  · rintro ⟨a, b⟩
    refine ⟨?_, by omega⟩
    rcases Int.lt_or_eq_of_le b with z | z
    · exact z
    · subst z; omega
end
section
local macro_rules | `(tactic| walk_at "pad") => `(tactic| skip)
local macro_rules | `(tactic| walk_at "pad") => `(tactic| skip)
local macro_rules | `(tactic| walk_at "pad") => `(tactic| skip)
local macro_rules | `(tactic| walk_at "pad") => `(tactic| skip)
local macro_rules | `(tactic| walk_at "pad") => `(tactic| skip)
local macro_rules | `(tactic| walk_at "pad") => `(tactic| skip)
local macro_rules | `(tactic| walk_at "pad") => `(tactic| skip)
local macro_rules | `(tactic| walk_at "pad") => `(tactic| skip)
local macro_rules | `(tactic| walk_at "pad") => `(tactic| skip)
local macro_rules | `(tactic| walk_at "pad") => `(tactic| skip)
local macro_rules | `(tactic| walk_at "pad") => `(tactic| skip)
local macro_rules | `(tactic| walk_at "pad") => `(tactic| skip)
local macro_rules | `(tactic| walk_at "pad") => `(tactic| skip)
local macro_rules | `(tactic| walk_at "pad") => `(tactic| skip)
local macro_rules | `(tactic| walk_at "pad") => `(tactic| skip)
local macro_rules | `(tactic| walk_at "pad") => `(tactic| skip)
local macro_rules | `(tactic| walk_at "pad") => `(tactic| skip)
local macro_rules | `(tactic| walk_at "pad") => `(tactic| skip)
local macro_rules | `(tactic| walk_at "pad") => `(tactic| skip)
local macro_rules | `(tactic| walk_at "pad") => `(tactic| skip)
local macro_rules | `(tactic| walk_at "pad") => `(tactic| skip)
local macro_rules | `(tactic| walk_at "pad") => `(tactic| skip)
local macro_rules | `(tactic| walk_at "call type:list") => `(tactic| (k_here; (with_reducible show wpAny _ _ (call (Value.type "list") [Value.bytes _ _]) _ _ _); k_dflt (refine' list_bytes_N ?F ?N ?h ?b ?n ?_; (case F => k_asm); (case N => k_asm); (case h => exact rfl); (case b => kba_ints); (case n => kba_size)); intro D' vs' c' h' tk' hI' F' N' l1; (try k_lt l1); (try k_sweep)))
theorem in_bytes {b : Array UInt8} {ks : List Int} (hb : KBw.bInts b = ks) : KBa.In ks := fun n hn => KBw.ints_in (b := b) (by rw [hb]; exact hn)
theorem in_getD {ks : List Int} (h : KBa.In ks) (i : Nat) : 0 ≤ ks.getD i 0 ∧ ks.getD i 0 < 256 := KBw.getD_in h
theorem in_set {ks : List Int} (h : KBa.In ks) (i : Nat) {x : Int} (hx : 0 ≤ x ∧ x < 256) : KBa.In (ks.set i x) := fun n hn => by
  rcases List.mem_or_eq_of_mem_set hn with q | q
  · exact h n q
  · rw [q]; exact hx
theorem in_swap {ks : List Int} (h : KBa.In ks) (i k : Nat) : KBa.In ((ks.set i (ks.getD k 0)).set k (ks.getD i 0)) := in_set (in_set h _ (in_getD h _)) _ (in_getD h _)
theorem bytes_made {ns : List Int} {t : Tok} (h : KBa.In ns) : BytesR ns (.bytes (byteArr ns) t) := ⟨_, _, rfl, KBa.ints_make h⟩
set_option maxRecDepth 100000 in
set_option maxHeartbeats 8000000 in
theorem c_ex (b : Array UInt8) (tb : Tok) (ks : List Int) (hb : KBw.bInts b = ks) (hn : ks.length ≤ 10) (i k : Int) (t t2 : Tok) (hi0 : 0 ≤ i) (hi1 : i < ks.length) (hk0 : 0 ≤ k) (hk1 : k < ks.length) : Claim 10 67 [.bytes b tb, .int i t, .int k t2] (fun _ _ => True) (BytesR (swapL ks i.toNat k.toNat)) := by
  k_with_none
  w_top off
  unfold Claim
  k_fill; intro w mean mg mb news dp un gd cn cs a ccd cl outer A₀ base h₀ L m s Q E B F X N T hk hd hu hH hret; refine wpAny_call ?_; k_dflt (walk_at "enter0")
  k_steps
  refine' KBa.make_K ?kbaF ?kbaN ?kbah ?kbal ?kbai ?kbar ?kban ?_
  case kbaF => k_asm
  case kbaN => k_asm
  case kbah => exact rfl
  case kbal => kba_isList
  case kbai => assumption
  case kbar => exact in_swap (in_bytes hb) _ _
  case kban => (simp only [List.length_set]; omega)
  intro _ _ _ F' N' kbaIn
  k_steps
  exact hret _ _ _ (bytes_made (by assumption)) (by assumption) (cb_drop (by assumption) (by kcj_all))
end
section
local macro_rules | `(tactic| walk_at "pad") => `(tactic| skip)
local macro_rules | `(tactic| walk_at "pad") => `(tactic| skip)
local macro_rules | `(tactic| walk_at "pad") => `(tactic| skip)
local macro_rules | `(tactic| walk_at "pad") => `(tactic| skip)
local macro_rules | `(tactic| walk_at "pad") => `(tactic| skip)
local macro_rules | `(tactic| walk_at "pad") => `(tactic| skip)
local macro_rules | `(tactic| walk_at "pad") => `(tactic| skip)
local macro_rules | `(tactic| walk_at "pad") => `(tactic| skip)
local macro_rules | `(tactic| walk_at "pad") => `(tactic| skip)
local macro_rules | `(tactic| walk_at "pad") => `(tactic| skip)
local macro_rules | `(tactic| walk_at "pad") => `(tactic| skip)
local macro_rules | `(tactic| walk_at "pad") => `(tactic| skip)
local macro_rules | `(tactic| walk_at "pad") => `(tactic| skip)
local macro_rules | `(tactic| walk_at "pad") => `(tactic| skip)
local macro_rules | `(tactic| walk_at "pad") => `(tactic| skip)
local macro_rules | `(tactic| walk_at "pad") => `(tactic| skip)
local macro_rules | `(tactic| walk_at "pad") => `(tactic| skip)
local macro_rules | `(tactic| walk_at "pad") => `(tactic| skip)
local macro_rules | `(tactic| walk_at "pad") => `(tactic| skip)
local macro_rules | `(tactic| walk_at "pad") => `(tactic| skip)
local macro_rules | `(tactic| walk_at "pad") => `(tactic| skip)
local macro_rules | `(tactic| walk_at "pad") => `(tactic| skip)
local macro_rules | `(tactic| walk_at "pad") => `(tactic| skip)
local macro_rules | `(tactic| walk_at "pad") => `(tactic| skip)
local macro_rules | `(tactic| walk_at "call builtin:list.pop") => `(tactic| (k_here; (with_reducible show wpAny _ _ (call (Value.builtin _) [Value.ref _, Value.int _ _]) _ _ _); k_dflt (refine' pop_any ?F ?N ?i ?U ?a ?b ?z ?_; (case F => k_asm); (case N => k_asm); (case U => k_upd); (case i => assumption); (case a => exact fmod_lo _ (by omega)); (case b => exact fmod_hi _ (by omega)); (case z => omega)); (intro h' y t' hy hI' F' N'; (try dsimp only [List.nil_append, List.cons_append] at N'))))

theorem in_rangeKs {k : Nat} (hk : k ≤ 256) : KBa.In (rangeKs 0 k) := by
  intro n hn
  simp [rangeKs] at hn
  omega
def OrdP (ns pre left found : List Int) : Prop := left.length + pre.length = min 10 ns.length ∧ found.length = pre.length ∧ (found ++ left).Perm (rangeKs 0 (min 10 ns.length))
abbrev OrdW (ns pre left found : List Int) : Prop := left.length + pre.length = min 10 ns.length ∧ found.length = pre.length ∧ KBa.In found ∧ OrdP ns pre left found
theorem ordA {ns pre left found : List Int} (h : OrdP ns pre left found) : OrdW ns pre left found := by
  refine ⟨h.1, h.2.1, fun n hn => ?_, h⟩
  exact in_rangeKs (k := min 10 ns.length) (by omega) n (h.2.2.mem_iff.mp (List.mem_append_left _ hn))
theorem ordp0 (ns : List Int) : OrdP ns [] (rangeKs 0 ((if (ns.length : Int) < 10 then (ns.length : Int) else 10) - 0).toNat) [] := by
  have e : ((if (ns.length : Int) < 10 then (ns.length : Int) else 10) - 0).toNat = min 10 ns.length := by split <;> omega
  rw [e]
  exact ⟨by simp [rangeKs], rfl, List.Perm.refl _⟩
theorem erase_perm : ∀ {l : List Int} {k : Nat} {y : Int}, l[k]? = some y → (y :: l.eraseIdx k).Perm l
  | [], _, _, h => by cases h
  | x :: r, 0, y, h => by cases h; exact List.Perm.refl _
  | x :: r, k + 1, y, h => (List.Perm.swap _ _ _).trans ((erase_perm (l := r) h).cons x)
theorem ordp1 {ns pre left found : List Int} {k : Nat} {x y : Int} (h : OrdP ns pre left found) (hy : left[k]? = some y) : OrdP ns (pre ++ [x]) (left.eraseIdx k) (found ++ [y]) := by
  have hp := erase_perm hy
  have hl := hp.length_eq
  rw [List.length_cons] at hl
  refine ⟨?_, ?_, ?_⟩
  · have := h.1; rw [List.length_append, List.length_singleton]; omega
  · rw [List.length_append, List.length_append, h.2.1]; rfl
  · rw [List.append_assoc]
    exact (List.Perm.append_left found hp).trans h.2.2
def OrdR (n : Nat) (v : Value) : Prop := ∃ b t ks, v = .bytes b t ∧ KBw.bInts b = ks ∧ ks.Perm (rangeKs 0 n)
theorem ordE {ns found left : List Int} {t : Tok} (hin : KBa.In found) (h : OrdP ns (ns.take 10) left found) : OrdR (min 10 ns.length) (.bytes (byteArr found) t) := by
  refine ⟨_, _, found, rfl, KBa.ints_make hin, ?_⟩
  have h1 := h.1
  rw [List.length_take] at h1
  have : left = [] := List.eq_nil_of_length_eq_zero (by omega)
  subst this
  simpa using h.2.2

set_option maxRecDepth 100000 in
set_option maxHeartbeats 8000000 in
theorem c_order (l : Addr) (vs : List Value) (ns : List Int) (hi : IntsAre vs ns) (hn : ns.length ≤ 63) : Claim 10 46 [.ref l] (fun h _ => h.IsList l vs.toArray) (OrdR (min 10 ns.length)) := by
  k_with_none
  w_top off
  (k_with "pyIter ref" => k_state (fun pre left found => left.length + pre.length = min 10 ns.length ∧ found.length = pre.length ∧ KBa.In found ∧ OrdP ns pre left found) "left" "found")
  (k_with "state" => first | exact ordA (ordp0 _) | exact ordA (ordp1 (by assumption) (by assumption)))
  unfold Claim
  k_fill; intro w mean mg mb news dp un gd cn cs a ccd cl outer A₀ base h₀ L m s Q E B F X N T hk hd hu hH hret; refine wpAny_call ?_; k_dflt (walk_at "enter0")
  k_steps
  exact hret _ _ _ (ordE (by assumption) (by assumption)) (by assumption) (cb_drop (by assumption) (by kcj_all))
end
section
set_option maxRecDepth 100000
section
variable {prog : Program} {w : World} {A : Around} {E : Value → Shared → Prop} {s : Shared} {h₀ : Heap} {L : Addr} {m : Str → Option Value} {news : List (Addr × Obj)} {b : Array UInt8} {t : Tok} {ks : List Int}
theorem iadd_bytes {R : Result → Shared → Prop} (hh : A.handled = none) (b : Array UInt8) (t : Tok) (S : Addr) (c₀ : Nat) (hS : s.heap.get? S = some { cls := .type "list", data := .seq #[] c₀ })
    (hR : ∀ h' tk acc' c', (∀ b o, b ≠ S → s.heap.get? b = some o → h'.get? b = some o) → h'.get? S = some { cls := .type "list", dict := none, data := .seq acc' c', slots := #[] } →
      ItemsOf (fun i v => ∃ c u, b[i]? = some c ∧ v = .int (c.toNat : Int) u) acc' b.size → R (.ok (.ret (.ref S))) { s with heap := h', toks := tk }) (hn : b.size ≤ sizeLine) :
    codeAny (model prog w) A (.builtin "list.__iadd__" ⟨[.ref S, .bytes b t], []⟩) R s := by
  refine codeAny_builtin entry_list_iadd' ?_
  show wpAny _ _ (Builtin.List.listExtendWith (.ref S) (.bytes b t) (.ref S)) _ _ s
  exact extend_bytes (A := A) hh b t S _ c₀ hS hR hn
theorem collect_bytes {Q : List Value → Shared → Prop} (hh : A.handled = none) (hb : KBw.bInts b = ks) (hn : ks.length ≤ 16777216)
    (h : ∀ h' tk vs, IntsAre vs ks → (∀ b o, s.heap.get? b = some o → h'.get? b = some o) → Q vs { s with heap := h', toks := tk }) :
    wpAny (model prog w) A (collect (.bytes b t)) Q E s := by
  subst hb
  rw [KBw.ints_length] at hn
  unfold collect
  refine wpAny_bind (wpAny_runValue (codeAny_builtin entry_proto_collect' ?_))
  show wpAny _ _ (do again (.builtin "list.__iadd__" ⟨[← newList [], .bytes b t], []⟩)) _ _ s
  refine wpAny_bind (wpAny_newList (wpAny_pure ⟨Code.quiet_builtin _ (by decide +kernel), iadd_bytes (s := { s with heap := s.heap.push (seqObj "list" #[] 0) }) hh b t s.heap.objs.size 0 (Heap.get?_push_size _ rfl) (fun h' tk acc' c' hk hS hacc => ?_) (by rw [sizeLine_eq]; exact hn)⟩))
  dsimp only
  show wpAny (model prog w) A (do
      let o ← load s.heap.objs.size
      match o.data with
      | .seq xs _ => pure xs.toList
      | _ => unsupported "internal:collect") Q E { s with heap := h', toks := tk }
  refine wpAny_bind (wpAny_load hS ?_)
  show wpAny _ _ (pure acc'.toList) Q E _
  refine wpAny_pure (h h' tk _ (ints_of_items b.toList acc'.toList (by simp [hacc.1]) fun i v e => by simpa using hacc.2 i v (by simpa using e)) fun c o e => ?_)
  exact hk c o (Nat.ne_of_lt (Heap.lt_size e)) (Heap.get?_push_of_some _ e)
theorem sorted_bytes_N {Q : Value → Shared → Prop} (F : Fr h₀ L s.heap m) (N : News h₀ L s.heap news) (hh : A.handled = none) (hb : KBw.bInts b = ks) (hn : ks.length < 64)
    (h : ∀ D vs ns' c h' tk, IntsAre vs ns' → ns'.Perm ks → ns'.Pairwise (· ≤ ·) → Fr h₀ L h' m → News h₀ L h' ((D, listOf vs.toArray c) :: news) → (∀ q ∈ news, q.1 < D) → Q (.ref D) { s with heap := h', toks := tk }) :
    wpAny (model prog w) A (call (.builtin "sorted") [.bytes b t]) Q E s := by
  refine Calls.call_function_entry kind_sorted plain_sorted entry_sorted (args_sorted1 _) ?_
  unfold Builtin.«sorted»
  refine wpAny_bind (m := checkCount "sorted" 1 1 _) (wpAny_pure ?_)
  refine wpAny_bind (collect_bytes (A := A.in1) hh hb (by omega) fun h' tk vs hI hk => ?_)
  refine wpAny_bind (wpAny_newList ?_)
  have hoL : (h'.push (seqObj "list" vs.toArray 0)).get? h'.objs.size = some (seqObj "list" vs.toArray 0) := Heap.get?_push_size _ rfl
  have h64 : vs.length < 64 := by rw [hI.length]; exact hn
  refine wpAny_bind (wpAny_holding (wpAny_call_entry slot_list_sort ⟨_, hoL, rfl⟩ entry_list_sort (list_sort_tree hoL hI h64 fun out ns' a1 a2 a3 => ⟨_, rfl, ?_⟩) (args_list_sort _)))
  refine wpAny_pure ⟨_, rfl, ?_⟩
  obtain ⟨e, he⟩ := sortedHeap_at (out := out) hoL
  have kk : ∀ b o, s.heap.get? b = some o → (sortedHeap (h'.push (seqObj "list" vs.toArray 0)) h'.objs.size vs out).get? b = some o := fun b o eo => by
    have e1 := hk b o eo
    have l1 := Heap.lt_size e1
    have hbn : b ≠ h'.objs.size := Nat.ne_of_lt l1
    rw [sortedHeap_old hbn (by rw [size_push']; exact Nat.lt_succ_of_lt l1)]
    exact Heap.get?_push_of_some _ e1
  have hq : ∀ q ∈ news, q.1 < h'.objs.size := fun q hq => Heap.lt_size (hk _ _ (N q hq).1)
  refine h h'.objs.size out.toList ns' e _ tk a1 a2 a3 (F.keeps kk) (fun p hp => ?_) hq
  rcases List.mem_cons.mp hp with rfl | hp
  · refine ⟨?_, ?_, ?_⟩
    · simpa [W.listOf, seqObj] using he
    · obtain ⟨oL, _, _, eL, _⟩ := F.ns
      exact Ne.symm (Nat.ne_of_lt (Heap.lt_size (hk _ _ eL)))
    · cases e' : h₀.get? h'.objs.size with
      | none => rfl
      | some o' => exact absurd (Heap.lt_size (hk _ _ (F.keep _ _ e'))) (Nat.lt_irrefl _)
  · exact ⟨kk _ _ (N p hp).1, (N p hp).2⟩
end
end
section
/-- The code may hold a bytearray while others run (by its name alone). -/
def holdy : Code → Bool
  | .builtin id _ => (["bytearray.__contains__", "bytearray.__mod__", "bytearray.__rmod__", "_struct.pack_into.held", "bytearray.find.held"] ++ Builtin.Bytes.decodersThatHold).contains id
  | _ => false
def Clean (l : List (Code × Pos)) : Prop := ∀ x ∈ l, holdy x.1 = false

theorem any_clean {f : Code × Pos → Bool} (hf : ∀ c p, holdy c = false → f (c, p) = false) {l : List (Code × Pos)} (h : Clean l) : l.any f = false := by
  rw [List.any_eq_false]
  intro x hx
  obtain ⟨c, p⟩ := x
  rw [hf c p (h _ hx)]
  exact Bool.false_ne_true

section
variable {α β : Type} {M : Model} {A : Around} {E : Value → Shared → Prop} {s : Shared}
def wpG {α : Type} (M : Model) (A : Around) (t : Sem α) (Q : α → Shared → Prop) (E : Value → Shared → Prop) (s : Shared) : Prop :=
  ∀ Γ p, Γ.In A → holdy Γ.code = false → Clean Γ.below → Sem.wp M Γ t (fun a _ s' => Q a s') (fun e _ s' => E e s') p s
def codeG (M : Model) (A : Around) (c : Code) (R : Result → Shared → Prop) (s : Shared) : Prop :=
  ∀ Γ p, Γ.code = c → Γ.Below A → Clean Γ.below → wpCode M Γ R p s
theorem g_any {t : Sem α} {Q : α → Shared → Prop} (h : wpAny M A t Q E s) : wpG M A t Q E s := fun Γ p hΓ _ _ => h Γ p hΓ
theorem g_mono {t : Sem α} {Q Q' : α → Shared → Prop} {E' : Value → Shared → Prop} (h : wpG M A t Q E s) (hQ : ∀ a s, Q a s → Q' a s) (hE : ∀ e s, E e s → E' e s) : wpG M A t Q' E' s :=
  fun Γ p hΓ h1 h2 => Sem.wp_mono M Γ t (fun a _ s => hQ a s) (fun e _ s => hE e s) p s (h Γ p hΓ h1 h2)
theorem g_bind {m : Sem α} {f : α → Sem β} {Q : β → Shared → Prop} (h : wpG M A m (fun a s' => wpG M A (f a) Q E s') E s) : wpG M A (m >>= f) Q E s := fun Γ p hΓ h1 h2 => by
  rw [Sem.wp_bind']
  exact Sem.wp_mono M Γ m (fun a p' s' h' => h' Γ p' hΓ h1 h2) (fun _ _ _ h' => h') p s (h Γ p hΓ h1 h2)
theorem g_bindA {m : Sem α} {f : α → Sem β} {Q : β → Shared → Prop} (h : wpAny M A m (fun a s' => wpG M A (f a) Q E s') E s) : wpG M A (m >>= f) Q E s := g_bind (g_any h)
theorem g_pure {a : α} {Q : α → Shared → Prop} (h : Q a s) : wpG M A (pure a) Q E s := g_any (wpAny_pure h)
theorem g_holding {vs : List Value} {m : Sem α} {Q : α → Shared → Prop} (h : wpG M A m Q E s) : wpG M A (holding vs m) Q E s :=
  fun Γ p hΓ h1 h2 => by rw [Sem.wp_holding]; exact h Γ p hΓ h1 h2
theorem g_keep {vs : List Value} {m : Sem α} {Q : α → Shared → Prop} (h : wpG M A m Q E s) : wpG M A (m.keep vs) Q E s :=
  fun Γ p hΓ h1 h2 => by rw [Sem.wp_keep]; exact h Γ p hΓ h1 h2
theorem g_onRaise {m : Sem α} {k : Value → Sem Unit} {Q : α → Shared → Prop} (h : wpG M A m Q (fun e s' => wpG M A (k e) (fun _ s'' => E e s'') E s') s) : wpG M A (m.onRaise k) Q E s := fun Γ p hΓ h1 h2 => by
  rw [Sem.wp_onRaise]
  exact Sem.wp_mono M Γ m (fun _ _ _ h' => h') (fun e p' s' h' => h' Γ p' hΓ h1 h2) p s (h Γ p hΓ h1 h2)
theorem g_in1 {t : Sem α} {Q : α → Shared → Prop} (h : wpG M A.in1 t Q E s) : wpG M A t Q E s :=
  fun Γ p hΓ => h Γ p ⟨hΓ.1, hΓ.2.1, hΓ.2.2.1, hΓ.2.2.2.1, Nat.le_succ_of_le hΓ.2.2.2.2⟩
theorem clean_cons {c : Code} {p : Pos} {l : List (Code × Pos)} (h : holdy c = false) (hl : Clean l) : Clean ((c, p) :: l) := fun x hx => by
  rcases List.mem_cons.mp hx with rfl | hx
  · exact h
  · exact hl x hx
theorem g_runValue {c : Code} {Q : Value → Shared → Prop}
    (hc : codeG M A c (fun r s' => match r with | .ok (.ret v) => Q v s' | .ok _ => False | .error e => E e s') s) : wpG M A (runValue c) Q E s := fun Γ p hΓ h1 h2 => by
  rw [Sem.wp_runValue]
  exact hc _ p rfl (hΓ.enter c none p (by intro x; cases x)) (clean_cons h1 h2)
theorem g_call {f : Value} {pos : List Value} {kw : List (Str × Value)} {Q : Value → Shared → Prop}
    (hc : codeG M A (.call f ⟨pos, kw⟩) (fun r s' => match r with | .ok (.ret v) => Q v s' | .ok _ => False | .error e => E e s') s) : wpG M A (call f pos kw) Q E s := g_runValue hc
theorem cg_any {c : Code} {R : Result → Shared → Prop} (h : codeAny M A c R s) : codeG M A c R s := fun Γ p hc hΓ _ => h Γ p hc hΓ
theorem cg_mono {c : Code} {R R' : Result → Shared → Prop} (h : codeG M A c R s) (hR : ∀ r s, R r s → R' r s) : codeG M A c R' s :=
  fun Γ p hc hΓ hcl => wpCode_mono hR (h Γ p hc hΓ hcl)
theorem cg_tree {c : Code} {R : Result → Shared → Prop} (hc : holdy c = false)
    (h : wpG M (A.under c) (M.den c) (fun fin s' => match fin with | .done f => R (.ok f) s' | .again c' => c'.quiet = true ∧ codeG M A c' R s') (fun e s' => R (.error e) s') s) : codeG M A c R s := fun Γ p hcd hΓ hcl => by
  rw [wpCode_iff_wp, hcd]
  refine Sem.wp_mono M Γ _ (fun fin p' s' h' => ?_) (fun _ _ _ h' => h') p s (h Γ p (hcd ▸ hΓ.in) (by rw [hcd]; exact hc) hcl)
  cases fin with
  | done f => exact h'
  | again c' => exact ⟨h'.1, h'.2 (Γ.goto c') p' rfl (hΓ.goto c') hcl⟩
/-- where no code on the stack may hold one, no bytearray is held -/
theorem g_exported {v : Value} {Q : Bool → Shared → Prop} (h : Q false s) : wpG M A (Builtin.Bytes.exported v) Q E s := fun Γ p _ h1 h2 => by
  unfold Builtin.Bytes.exported
  rw [Sem.wp_bind']
  unfold stack
  rw [Sem.wp_stack, Sem.wp_pure, Sem.wp_pure']
  rw [any_clean (l := (Γ.code, p) :: Γ.below) (fun c p hc => ?_) (clean_cons h1 h2)]
  · exact h
  · split
    · rename_i heq; obtain ⟨rfl, _⟩ := Prod.mk.inj heq; exact absurd hc (by simp [holdy])
    · rename_i heq; obtain ⟨rfl, _⟩ := Prod.mk.inj heq; exact absurd hc (by simp [holdy])
    · rename_i heq; obtain ⟨rfl, _⟩ := Prod.mk.inj heq; exact absurd hc (by simp [holdy])
    · rename_i heq; obtain ⟨rfl, _⟩ := Prod.mk.inj heq; exact absurd hc (by simp [holdy])
    · rename_i heq; obtain ⟨rfl, _⟩ := Prod.mk.inj heq; exact absurd hc (by simp [holdy])
    · rename_i id v' _ _ _ _ _ _ _ _ heq
      have e : Builtin.Bytes.decodersThatHold.contains id = false := by
        obtain ⟨rfl, _⟩ := Prod.mk.inj heq
        unfold holdy at hc
        simp only [List.contains_eq_mem, List.mem_append, decide_eq_false_iff_not, not_or] at hc ⊢
        exact hc.2
      rw [e, Bool.and_false]
    · rfl
end

section
variable {prog : Program} {w : World} {A : Around} {s : Shared}
theorem cg_function {R : Result → Shared → Prop} {a : Addr} {args : Args} {o : Obj} {fd : FuncData} {body : List Stmt} (hroom : A.depth < recursionLimit)
    (ho : s.heap.get? a = some o)
    (hd' : o.data = .func fd) (hco : fd.scope.isCoroutine = false) (hgen : fd.scope.isGenerator = false) (hbody : fd.body = .stmts body) (hcd : s.heap.CodeRec fd.code fd.qualname)
    (h : wpAny (model prog w) A.in1 (bindArgs fd args) (fun binds s₁ =>
      wpAny (model prog w) A.in1 (newFunctionEnv fd.scope fd.globals fd.closure binds (fd.qualname ++ ".<locals>.") (some a) fd.code none fd.builtins)
        (fun env s₂ => s₂.heap.NoLimit ∧ codeG (model prog w) A (.func body env) R s₂) (fun e s' => R (.error e) s') s₁) (fun e s' => R (.error e) s') s) :
    codeG (model prog w) A (.call (.ref a) args) R s := by
  refine cg_tree rfl ?_
  show wpG _ A.in1 (callAny (.ref a) args) _ _ s
  simp only [callAny]
  refine g_bindA (wpAny_load ho ?_)
  obtain ⟨c, oc, vs, tq, hc, hoc, hdc, hq⟩ := hcd
  simp only [hd', callFunction, hco, hgen, hbody, hc]
  rw [hc] at h
  refine g_bindA (m := field (.ref c) 1) (wpAny_field hoc hdc hq (g_bindA (wpAny_pure ?_)))
  exact g_bindA (wpAny_mono h (fun binds s₁ h₁ => g_bindA (wpAny_mono h₁ (fun env s₂ h₂ => g_bindA (wpAny_enterFrame h₂.1 hroom
    (g_pure (And.intro rfl h₂.2)))) fun _ _ h' => h')) fun _ _ h' => h')
theorem cg_func {R : Result → Shared → Prop} {body : List Stmt} {env : Env}
    (h : wpG (model prog w) (A.deeper env) (execs body env) (fun f s' => R (.ok (.ret (match f with | .ret v => v | _ => .none))) s')
      (fun e s' => wpAny (model prog w) (A.deeper env) (leaving env e) (fun _ s'' => R (.error e) s'') (fun e' s'' => R (.error e') s'') s') s) :
    codeG (model prog w) A (.func body env) R s := by
  refine cg_tree rfl ?_
  show wpG _ (A.deeper env) (do point; match ← (execs body env).onRaise (leaving env) with | .ret v => ret v | _ => ret .none) _ _ s
  refine g_bindA (wpAny_point (g_bind (g_onRaise (g_mono h (fun f s' h' => ?_) fun _ _ h' => g_any h'))))
  cases f <;> exact g_pure h'
theorem cg_def {R : Result → Shared → Prop} {a : Addr} {o : Obj} {fd : FuncData} {body : List Stmt} {args : Args} {binds : List (Str × Value)}
    (hroom : A.depth < recursionLimit) (ho : s.heap.get? a = some o) (hdata : o.data = .func fd) (hlim : s.heap.NoLimit) (hcd : s.heap.CodeRec fd.code fd.qualname)
    (hbody : fd.body = .stmts body) (hbind : BindsTo s fd args binds)
    (hcell : ∀ x ∈ fd.scope.names, x.2 ≠ .cell) (hloc : ∀ x ∈ binds, fd.scope.names.lookup x.1 = some .local)
    (h : ∀ h₀, h₀.Ns s.heap.objs.size (fun x => binds.reverse.lookup x) → (∀ b o, s.heap.get? b = some o → h₀.get? b = some o) →
      wpG (model prog w) (A.deeper (callEnv fd s.heap.objs.size a)) (execs body (callEnv fd s.heap.objs.size a)) (fun f s' => R (.ok (.ret (match f with | .ret v => v | _ => .none))) s')
        (fun e s' => wpAny (model prog w) (A.deeper (callEnv fd s.heap.objs.size a)) (leaving (callEnv fd s.heap.objs.size a) e) (fun _ s'' => R (.error e) s'') (fun e' s'' => R (.error e') s'') s')
        { s with heap := h₀, toks := s.toks + binds.length })
    (hco : fd.scope.isCoroutine = false := by rfl) (hgen : fd.scope.isGenerator = false := by rfl) (hk : fd.scope.kind = .function := by rfl) :
    codeG (model prog w) A (.call (.ref a) args) R s := by
  refine cg_function hroom ho hdata hco hgen hbody hcd (hbind _ _ _ _ ?_)
  refine wpAny_newFunctionEnv hcell hloc (fun h₀ hns₀ hsb₀ => ⟨hlim.fresh _ hsb₀, cg_func (h h₀ hns₀ fun b o e => ?_)⟩) hk
  exact hsb₀.extBut b o (Nat.ne_of_lt (Heap.lt_size e)) (Heap.get?_push_of_some _ e)
theorem cg_full {R : Result → Shared → Prop} {name : Str} {params : Arguments} {body : List Stmt} {scope : Scope}
    {dV kV pm cd doc : Value} {a : Addr} {o : Obj} {args : Args} {binds : List (Str × Value)}
    (hroom : A.depth < recursionLimit) (ho : s.heap.get? a = some o) (hdata : o.data = .func { docDef name params body scope pm cd doc with defaults := dV, kwdefaults := kV }) (hlim : s.heap.NoLimit) (hcd : s.heap.CodeRec cd name)
    (hbind : BindsTo s { docDef name params body scope pm cd doc with defaults := dV, kwdefaults := kV } args binds)
    (hloc : ∀ x ∈ binds, scope.names.lookup x.1 = some .local)
    (h : ∀ h₁, Fr s.heap s.heap.objs.size h₁ (fun x => binds.reverse.lookup x) →
      wpG (model prog w) (A.deeper (envOf name scope s.heap.objs.size a cd)) (execs body (envOf name scope s.heap.objs.size a cd))
        (fun f s' => R (.ok (.ret (match f with | .ret v => v | _ => .none))) s')
        (fun e s' => wpAny (model prog w) (A.deeper (envOf name scope s.heap.objs.size a cd)) (leaving (envOf name scope s.heap.objs.size a cd) e)
          (fun _ s'' => R (.error e) s'') (fun e' s'' => R (.error e') s'') s')
        { s with heap := h₁, toks := s.toks + binds.length })
    (hco : scope.isCoroutine = false := by rfl) (hgen : scope.isGenerator = false := by rfl) (hk : scope.kind = .function := by rfl)
    (hcell : ∀ x ∈ scope.names, x.2 ≠ .cell := by decide) :
    codeG (model prog w) A (.call (.ref a) args) R s :=
  cg_def hroom ho hdata hlim hcd rfl hbind hcell hloc (fun h₁ hns hkeep => h h₁ ⟨hns, hkeep, Nat.le_refl _⟩) hco hgen hk
end
section
variable {prog : Program} {w : World} {A A₀ : Around} {s : Shared} {K : Frag} {L : Addr} {h₀ base : Heap} {m mg mb : Str → Option Value} {news : List (Addr × Obj)} {p : Program} {loose : List Str} {mean : ExcName → Option Value}
theorem cg_codeDef {env : Env} {outer : List Env} {R : Result → Shared → Prop} {name qual : Str} {params : Arguments} {body : List Stmt} {scope : Scope} {dV kV doc pm cdv ct oc : Value} {an od : Option Addr} {osl : Array (Option Value)} {f : Addr} {args : Args} {binds : List (Str × Value)}
    (B : Below A₀ base outer h₀) (F : Fr h₀ L s.heap m) (X₀ : K.In h₀) (N : News h₀ L s.heap news) (T : Top p loose mean mg mb h₀) (hA : A.frames = some (env :: outer)) (hf : env.frame = some L) (hke : env.scope.kind = .function)
    (ho : K.lookup f = some ⟨oc, od, .func (fnOf name qual params body scope dV kV doc pm an cdv ct), osl⟩) (hcd : codeIn K cdv qual = true) (hroom : A.depth < recursionLimit)
    (hbind : BindsTo s (fnOf name qual params body scope dV kV doc pm an cdv ct) args binds) (hloc : ∀ y ∈ binds, scope.names.lookup y.1 = some .local)
    (h : ∀ g L' h₁, Fr h₀ L g m → Fr g L' h₁ (fun y => binds.reverse.lookup y) → News g L' h₁ news → Below A base (env :: outer) g → K.In g → Top p loose mean mg mb g → L' = s.heap.objs.size →
      wpG (model prog w) (A.deeper (envOf qual scope L' f cdv)) (execs body (envOf qual scope L' f cdv))
        (fun fl s' => LeaveK h₀ L m g R (match fl with | .ret v => v | _ => .none) s')
        (fun e s' => wpAny (model prog w) (A.deeper (envOf qual scope L' f cdv)) (leaving (envOf qual scope L' f cdv) e) (fun _ s'' => R (.error e) s'') (fun e' s'' => R (.error e') s'') s')
        { s with heap := h₁, toks := s.toks + binds.length })
    (hco : scope.isCoroutine = false) (hgen : scope.isGenerator = false) (hk : scope.kind = .function)
    (hcell : ∀ x ∈ scope.names, x.2 ≠ .cell) : codeG (model prog w) A (.call (.ref f) args) R s := by
  obtain ⟨FG, BG, st, lv⟩ := groundX (R := R) B F N hA hf hke
  refine cg_def (fd := fnOf name qual params body scope dV kV doc pm an cdv ct) (body := body) (binds := binds) hroom ((X₀.keeps F.keep) _ _ ho) rfl (T.nolimit.keeps F.keep) (codeRec_of (X₀.keeps F.keep) hcd) rfl hbind hcell hloc (fun h₁ hns hk₁ => ?_) hco hgen hk
  exact g_mono (h _ s.heap.objs.size h₁ FG ⟨hns, fun b o e => hk₁ b o (of_hideAll _ e), Nat.le_of_eq (hideAll_size _ _)⟩
    (fun p hp => ⟨hk₁ _ _ (N p hp).1, Nat.ne_of_lt (Heap.lt_size (N p hp).1), hideAll_none _ (List.mem_map_of_mem hp)⟩) BG (X₀.keeps st) (T.keeps st) rfl) (fun fl s' hl => lv _ _ hl) fun _ _ y => y
end

section
variable {M : Model} {A : Around} {E : Value → Shared → Prop} {s : Shared} {env : Env}
theorem g_execs_cons {st : Stmt} {rest : List Stmt} {Q : Flow → Shared → Prop}
    (h : wpG M A (exec st env) (fun f s' => match f with | .next => wpG M A (execs rest env) Q E s' | f => Q f s') E s) : wpG M A (execs (st :: rest) env) Q E s := fun Γ p hΓ h1 h2 => by
  rw [execs_cons, Sem.wp_bind']
  refine Sem.wp_mono M Γ _ (fun f p' s' h' => ?_) (fun _ _ _ h' => h') _ _ (h Γ p hΓ h1 h2)
  cases f <;> first | exact h' Γ p' hΓ h1 h2 | exact h'
theorem g_Assign_Name {x : Str} {pos' : Pos} {value : Expr} {pos : Pos} {Q : Flow → Shared → Prop}
    (h : wpG M A (eval value env) (fun v s₁ => wpAny M A (storeName env x v) (fun _ => Q .next) E s₁) E s)
    (hs : swapsWith value (some (.Name x pos')) pos.line env = pure false := by rfl) :
    wpG M A (exec (.Assign [.Name x pos'] value pos) env) Q E s := fun Γ p hΓ h1 h2 => by
  simp only [exec_Assign_Name env x pos' value pos hs, Sem.wp_bind', Sem.wp_cmd_standAt, Sem.wp_bindName, Sem.wp_pure']
  exact Sem.wp_mono M Γ _ (fun v _ s₁ h₁ => h₁ Γ _ hΓ) (fun _ _ _ h' => h') _ _ (h Γ _ hΓ h1 h2)
theorem g_BinOp {l : Expr} {op : Operator} {r : Expr} {pos : Pos} {Q : Value → Shared → Prop}
    (h : wpG M A (eval l env) (fun a s₁ => wpG M A (eval r env) (fun b s₂ => wpAny M A (binaryOp op a b) Q E s₂) E s₁) E s) : wpG M A (eval (.BinOp l op r pos) env) Q E s := fun Γ p hΓ h1 h2 => by
  simp only [eval_BinOp, Sem.wp_bind', Sem.wp_holding, Sem.wp_cmd_standAt, Sem.wp_operate]
  exact Sem.wp_mono M Γ _ (fun a p₁ s₁ h₁ => Sem.wp_mono M Γ _ (fun b _ s₂ h₂ => h₂ Γ _ hΓ) (fun _ _ _ h' => h') _ _ (h₁ Γ p₁ hΓ h1 h2))
    (fun _ _ _ h' => h') _ _ (h Γ p hΓ h1 h2)
theorem g_isTrue_Compare1 {l : Expr} {op : CmpOp} {r : Expr} {pos : Pos} {whole : Sem Value} {Q : Bool → Shared → Prop}
    (h : wpG M A (eval l env) (fun a s₁ => wpAny M A (eval r env) (fun b s₂ => wpAny M A (compareOp op a b)
      (fun c s₃ => wpAny M A (truthy c) Q E s₃) E s₂) E s₁) E s)
    (hm : behindInMarks op r = false := by with_unfolding_all rfl) : wpG M A (isTrue (.Compare l [op] [r] pos) env whole) Q E s := fun Γ p hΓ h1 h2 => by
  simp only [isTrue_Compare1, markedBehindIn_of_false hm, Sem.wp_bind', Sem.wp_holding, Sem.wp_cmd_standAt, Sem.wp_operate]
  exact Sem.wp_mono M Γ _ (fun a p₁ s₁ h₁ => Sem.wp_mono M Γ _ (fun b _ s₂ h₂ => Sem.wp_mono M Γ _ (fun c p₃ s₃ h₃ => h₃ Γ p₃ hΓ)
    (fun _ _ _ h' => h') _ _ (h₂ Γ _ hΓ)) (fun _ _ _ h' => h') _ _ (h₁ Γ p₁ hΓ)) (fun _ _ _ h' => h') _ _ (h Γ p hΓ h1 h2)
theorem g_If {test : Expr} {body orelse : List Stmt} {pos : Pos} {Q : Flow → Shared → Prop}
    (h : wpG M A (isTrue test env (eval test env))
      (fun b s₂ => if b then wpG M A (execs body env) Q E s₂ else wpG M A (execs orelse env) Q E s₂) E s) : wpG M A (exec (.If test body orelse pos) env) Q E s := fun Γ p hΓ h1 h2 => by
  simp only [exec_If, Sem.wp_bind', Sem.wp_cmd_standAt]
  refine Sem.wp_mono M Γ _ (fun b p₂ s₂ h₂ => ?_) (fun _ _ _ h' => h') _ _ (h Γ _ hΓ h1 h2)
  cases b <;> exact h₂ Γ p₂ hΓ h1 h2
theorem g_Call {func : Expr} {args : List Expr} {pos : Pos} {Q : Value → Shared → Prop}
    (h : wpAny M A (eval func env) (fun f s₁ => wpG M A (callWith pos f [] (backTo pos (starEach args env)) []) Q E s₁) E s)
    (he : eval (.Call func args [] pos) env = (do callWith pos (← eval func env) [] (backTo pos (starEach args env)) (backToKw pos (keywordEach [] env))) := by rfl) :
    wpG M A (eval (.Call func args [] pos) env) Q E s := by
  rw [he]; exact g_bindA h
theorem g_spliced_cons {x : Sem Value} {rest : List (Bool × Sem Value)} {Q : List Value → Shared → Prop}
    (h : wpG M A x (fun v s₁ => wpG M A (spliced rest) (fun vs s₂ => Q (v :: vs) s₂) E s₁) E s) : wpG M A (spliced ((false, x) :: rest)) Q E s := by
  rw [spliced]
  refine g_bind (g_mono h (fun v s₁ h₁ => ?_) fun _ _ x => x)
  simp only [Bool.false_eq_true, if_false]
  exact g_bindA (wpAny_pure (g_bind (g_holding (g_mono h₁ (fun vs s₂ h₂ => g_pure h₂) fun _ _ x => x))))
theorem g_evalArgs {f : Value} {x : Sem Value} {rest : List (Bool × Sem Value)} {Q : Args → Shared → Prop}
    (h : wpG M A (spliced ((false, x) :: rest)) (fun vs s' => Q ⟨vs, []⟩ s') E s) : wpG M A (evalArgs f true ((false, x) :: rest) []) Q E s := by
  unfold evalArgs
  show wpG M A (spliced ((false, x) :: rest) >>= _) Q E s
  refine g_bind (g_mono h (fun vs s' h' => ?_) fun _ _ x => x)
  refine g_holding ?_
  exact g_bindA (wpAny_pure (g_bindA (wpAny_pure (g_pure h'))))
theorem g_callWith_of {P : Heap → Prop} {pos : Pos} {f : Value} {first : List Value} {args : List (Bool × Sem Value)} {Q : Value → Shared → Prop} (hplain : (args.any (·.1) || ([] : List (Option Str × Sem Value)).any (·.1.isNone)) = false)
    (hk : ∀ h, P h → ∃ k, (k = Keeper.frame ∨ k = Keeper.machine ∨ k = Keeper.boundFrame) ∧ Looks M h (keeperOf f) k)
    (h : wpG M A (evalArgs f true args []) (fun a s₁ => P s₁.heap ∧ wpG M A (call f (first ++ a.pos) a.kw) Q E s₁) E s) : wpG M A (callWith pos f first args []) Q E s := by
  unfold callWith
  refine g_bind (g_holding (g_mono h (fun a s₁ h₁ => g_bindA (wpAny_standAt ?_)) fun _ _ x => x))
  obtain ⟨k, hk', L⟩ := hk _ h₁.1
  simp only [hplain]
  refine g_bindA (L.here ?_)
  have tail : ∀ {t : Sem Value}, wpG M A t Q E s₁ → wpG M A (t >>= fun r => holding [r] point >>= fun _ => pure r) Q E s₁ :=
    fun ht => g_bind (g_mono ht (fun r s₂ hr => g_bindA (wpAny_holding (wpAny_point (g_pure hr)))) fun _ _ x => x)
  have marked (mk : Value) : wpG M A (callMarked mk f (first ++ a.pos) a.kw) Q E s₁ := by unfold callMarked; exact g_keep h₁.2
  rcases hk' with rfl | rfl | rfl <;> dsimp only <;> first | exact tail h₁.2 | (split <;> first | exact tail h₁.2 | exact tail (marked _))
theorem g_callWith_K {K : Frag} {f : Value} {pos : Pos} {e : Expr} {rest : List Expr} {Q : Value → Shared → Prop} (hk : keepIn K f = true)
    (h : wpG M A (spliced (backTo pos (starEach (e :: rest) env))) (fun vs s₁ => K.In s₁.heap ∧ wpG M A (call f vs) Q E s₁) E s)
    (he : starEach (e :: rest) env = (false, eval e env) :: starEach rest env := by rfl) (hplain : (backTo pos (starEach rest env)).any (·.1) = false := by rfl) :
    wpG M A (callWith pos f [] (backTo pos (starEach (e :: rest) env)) []) Q E s := by
  rw [he] at h ⊢
  exact g_callWith_of (by show ((false || (backTo pos (starEach rest env)).any (·.1)) || false) = false; rw [hplain]; rfl) (keeps_K hk) (g_evalArgs h)
theorem g_callWith_T {T : String} {pos : Pos} {e : Expr} {rest : List Expr} {Q : Value → Shared → Prop}
    (h : wpG M A (spliced (backTo pos (starEach (e :: rest) env))) (fun vs s₁ => wpG M A (call (.type T) vs) Q E s₁) E s)
    (he : starEach (e :: rest) env = (false, eval e env) :: starEach rest env := by rfl) (hplain : (backTo pos (starEach rest env)).any (·.1) = false := by rfl) :
    wpG M A (callWith pos (.type T) [] (backTo pos (starEach (e :: rest) env)) []) Q E s := by
  rw [he] at h ⊢
  exact g_callWith_of (P := fun _ => True) (by show ((false || (backTo pos (starEach rest env)).any (·.1)) || false) = false; rw [hplain]; rfl)
    (fun h _ => ⟨.machine, .inr (.inl rfl), Looks.of_pure rfl⟩) (g_evalArgs (g_mono h (fun _ _ x => ⟨trivial, x⟩) fun _ _ x => x))
end
end
section
set_option maxRecDepth 100000
theorem ba_mro : mroOf (.type "bytearray") = pure [.type "bytearray", .type "object"] := by rw [mroOf_type]; kernel_rfl
theorem ba_lookup_new : typeLookup (.type "bytearray") "__new__" = pure (some (.builtin "bytearray.__new__")) := by rw [typeLookup_type, builtinLookup_eq_fast]; kernel_rfl
theorem ba_slot_init : Slot "bytearray" "__init__" "bytearray.__init__" :=
  .of (owner := "bytearray") (n := "__init__") (by rw [typeLookup_type, builtinLookup_eq_fast]; kernel_rfl) (by decide +kernel) (by decide +kernel) (by decide +kernel)
    (by first | exact .inl (by decide +kernel) | exact .inr (by decide +kernel)) (by rw [isSubtype_type]; kernel_rfl)
theorem ba_called : TypeCalled "bytearray" "bytearray.__new__" "bytearray.__init__" :=
  ⟨by decide +kernel, by decide +kernel, ⟨_, _, ba_mro⟩, madeBy_type ba_mro ba_lookup_new (by decide +kernel), by decide +kernel, by rw [isSubtype_type]; kernel_rfl, ba_slot_init⟩
theorem ba_typeCall (a : Value) : checkTypeCall "bytearray" ⟨[a], []⟩ = pure () := by kernel_rfl
theorem ba_newCall (a : Value) : checkBuiltinCall "bytearray.__new__" ⟨[.type "bytearray", a], []⟩ = pure () := by kernel_rfl
theorem ba_entry_new : entryFor table "bytearray.__new__" = some Builtin.«list.__new__» := entryFor_alias (id' := "list.__new__") (by kernel_rfl) (by first | rfl | decide +kernel) (by decide +kernel) (by kernel_rfl)
theorem ba_plain_new : plainId "bytearray.__new__" = true := by decide +kernel
theorem ba_plain_init : plainId "bytearray.__init__" = true := by decide +kernel
theorem ba_entry_init : entryFor table "bytearray.__init__" = some Builtin.«bytearray.__init__» := by first | exact entryFor_of_tree (by kernel_rfl) | exact entryFor_of_fast (by kernel_rfl)
theorem ba_bind (v : Value) : Builtin.Bytes.bindOptional "bytearray.__init__" "bytearray" ["source", "encoding", "errors"] [v] [] = pure [some v, none, none] := by kernel_rfl
theorem ba_sub : isSubtype (.type "bytearray") (.type "bytearray") = pure true := by rw [isSubtype_type]; kernel_rfl
theorem ba_release : typeLookup (.type "bytearray") "__release_buffer__" = pure (some (.builtin "bytearray.__release_buffer__")) := by rw [typeLookup_type, builtinLookup_eq_fast]; kernel_rfl
set_option maxRecDepth 1000000 in
set_option maxHeartbeats 4000000 in
theorem ba_owner : ("bytearray.__new__".splitOn ".__new__").headD "" = "bytearray" := by simp +decide [String.splitOn, String.splitOnAux]
section
variable {prog : Program} {w : World} {A : Around} {E : Value → Shared → Prop} {s : Shared}
theorem ba_new (a : Value) {Q₁ : Value → Shared → Prop}
    (h : Q₁ (.ref s.heap.objs.size) { s with heap := s.heap.push { cls := .type "bytearray", data := .bytearray #[] } }) :
    codeAny (model prog w) A (.call (.builtin "bytearray.__new__") ⟨[.type "bytearray", a], []⟩) (wants Q₁ E) s := by
  refine codeAny_of_tree ?_
  show wpAny _ A.in1 (do checkBuiltinCall "bytearray.__new__" ⟨[.type "bytearray", a], []⟩; again (.builtin "bytearray.__new__" ⟨[.type "bytearray", a], []⟩)) _ _ s
  refine wpAny_bind (wpAny_of_eq (ba_newCall a) (wpAny_pure ⟨plainId_quiet ba_plain_new _, codeAny_builtin_stack ba_entry_new rfl fun p st => ?_⟩))
  rw [Around.under_plainId ba_plain_new _]
  have hsub := ba_sub
  have hown := ba_owner
  obtain ⟨hp, g, d, tk, os⟩ := s
  simp only [hown]
  wp_walk
  exact h

theorem ba_index : typeLookup (.type "int") "__index__" = pure (some (.builtin "int.__index__")) := by rw [typeLookup_type, builtinLookup_eq_fast]; kernel_rfl
theorem ba_ownRelease {D : Addr} {b : Array UInt8} {Q : Bool → Shared → Prop} (hD : s.heap.get? D = some { cls := .type "bytearray", data := .bytearray b }) (h : Q false s) : wpAny (model prog w) A (Builtin.Bytes.ownRelease (.ref D)) Q E s := by
  have hT : s.TypeIs (.ref D) "bytearray" := ⟨_, hD, rfl⟩
  unfold Builtin.Bytes.ownRelease
  refine wpAny_bind ?_
  unfold Builtin.Bytes.slotIsOwn
  refine wpAny_bind (wpAny_specialOf hT ba_release ?_)
  show wpAny _ _ (if (!("bytearray.__release_buffer__".endsWith ("." ++ "__release_buffer__"))) = true then _ else _) _ _ _
  rw [if_neg (by decide +kernel)]
  have e : ("bytearray.__release_buffer__".dropRight ("__release_buffer__".length + 1)) = "bytearray" := by decide +kernel
  rw [e]
  refine wpAny_isInstance hT ba_sub ?_
  exact wpAny_pure h
theorem ba_write {D : Addr} {b : Array UInt8} {f : Array UInt8 → Array UInt8} {Q : Unit → Shared → Prop} (hD : s.heap.get? D = some { cls := .type "bytearray", data := .bytearray b }) (hz : (f b).size ≤ sizeLine)
    (h : Q () { s with heap := s.heap.update D (Obj.mapBytearray f) }) : wpAny (model prog w) A (Builtin.Bytes.write (.ref D) f) Q E s := by
  show wpAny _ _ (updateBytearray D f) _ _ _
  unfold updateBytearray
  refine wpAny_bind (wpAny_load hD ?_)
  show wpAny _ _ (update D (Obj.mapBytearray f) >>= fun _ => lookBehind D) _ _ _
  refine wpAny_bind (wpAny_update hD ?_)
  have h2 := Heap.get?_update_self (Obj.mapBytearray f) hD rfl
  refine wpAny_lookBehind h2 ?_ h
  show (if (f b).size > sizeLine then some "bytearray:memory" else none) = none
  rw [if_neg (by omega)]
end
end
section
set_option maxRecDepth 100000
section
variable {prog : Program} {w : World} {A : Around} {E : Value → Shared → Prop} {s : Shared}
theorem ba_init_rest {A' : Around} {D : Addr} {n : Int} {t : Tok} {R : Result → Shared → Prop} (h0 : 0 ≤ n) (h1 : n ≤ 16777216) (hD : s.heap.get? D = some { cls := .type "bytearray", data := .bytearray #[] })
    (h : ∀ h', (∀ b o, b ≠ D → s.heap.get? b = some o → h'.get? b = some o) → h'.get? D = some { cls := .type "bytearray", data := .bytearray (Array.replicate n.toNat 0) } → R (.ok (.ret .none)) { s with heap := h' }) :
    wpG (model prog w) A (Builtin.«bytearray.__init__» ⟨[.ref D, .int n t], []⟩) (fun fin s' => match fin with | .done f => R (.ok f) s' | .again c' => c'.quiet = true ∧ codeG (model prog w) A' c' R s') (fun e s' => R (.error e) s') s := by
  unfold Builtin.«bytearray.__init__»
  refine g_bindA (ba_ownRelease hD ?_)
  refine g_bindA ?_
  rw [ba_bind]
  refine wpAny_pure ?_
  dsimp only
  refine g_bindA (wpAny_of_eq (a := ()) rfl ?_)
  refine g_bindA (wpAny_of_eq (a := ()) rfl ?_)
  refine g_bind ?_
  unfold orM
  refine g_bind (g_exported ?_)
  refine g_any ?_
  show wpAny _ _ (Builtin.Bytes.exportsOf (.ref D) >>= fun x => pure (decide (x > 0))) _ _ _
  refine wpAny_bind ?_
  unfold Builtin.Bytes.exportsOf
  refine wpAny_bind (wpAny_load hD ?_)
  refine wpAny_pure (wpAny_pure ?_)
  refine g_any ?_
  refine wpAny_mono (Q := fun fin s' => match fin with | .done f => R (.ok f) s' | .again c' => False) (E := fun e s' => R (.error e) s') ?_ (fun fin s' h => by cases fin with | done f => exact h | again c => exact h.elim) (fun _ _ h => h)
  show wpAny _ _ (Builtin.Bytes.write (Value.ref D) (fun x => #[]) >>= _) _ _ _
  refine wpAny_bind (ba_write hD (Nat.zero_le _) ?_)
  have hD1 := Heap.get?_update_self (Obj.mapBytearray fun _ => #[]) hD rfl
  have k1 : ∀ b o, b ≠ D → s.heap.get? b = some o → (s.heap.update D (Obj.mapBytearray fun _ => #[])).get? b = some o := fun b o hb e => (Heap.get?_update_other _ _ (Ne.symm hb)).trans e
  refine wpAny_bind (wpAny_of_eq (a := none) rfl ?_)
  show wpAny _ _ (pure () >>= fun _ => specialOf (Value.int n t) (Str.ofString "__index__") >>= _) _ _ _
  refine wpAny_bind (wpAny_pure ?_)
  refine wpAny_bind (wpAny_specialOf (T := "int") (v := .int n t) rfl ba_index ?_)
  refine bm_if_true rfl ?_
  refine wpAny_bind (wpAny_attempt (wpAny_of_eq (rfl : asIndex (.int n t) = pure n) ?_))
  have hf : Builtin.Bytes.fitsIndex n = true := by
    unfold Builtin.Bytes.fitsIndex
    simp only [Bool.and_eq_true, decide_eq_true_eq]
    omega
  have hn1 : ¬ n < 0 := by omega
  have hn2 : ¬ (n == 2 ^ 63 - 1) = true := by simp; omega
  have hn3 : ¬ Builtin.Bytes.tooLong n.toNat = true := by
    unfold Builtin.Bytes.tooLong
    rw [sizeLine_eq]
    simp; omega
  show wpAny _ _ (if (!Builtin.Bytes.fitsIndex n) = true then _ else _) _ _ _
  rw [if_neg (by rw [hf]; decide), if_neg hn1, if_neg hn2, if_neg hn3]
  refine wpAny_bind (wpAny_rule ?_)
  by_cases hp : n > 0
  · rw [if_pos hp]
    refine wpAny_bind (ba_write hD1 (by rw [Array.size_replicate, sizeLine_eq]; omega) ?_)
    refine wpAny_pure (h _ (fun b o hb e => (Heap.get?_update_other _ _ (Ne.symm hb)).trans (k1 b o hb e)) ?_)
    exact Heap.get?_update_self (Obj.mapBytearray fun _ => Array.replicate n.toNat 0) hD1 rfl
  · rw [if_neg hp]
    have : n = 0 := by omega
    subst this
    exact wpAny_pure (h _ k1 hD1)
theorem cg_builtin {id : String} {args : Args} {b : Builtin} {R : Result → Shared → Prop} (hq : holdy (.builtin id args) = false) (hb : entryFor table id = some b)
    (h : wpG (model prog w) (A.under (.builtin id args)) (b args)
      (fun fin s' => match fin with | .done f => R (.ok f) s' | .again c' => c'.quiet = true ∧ codeG (model prog w) A c' R s') (fun e s' => R (.error e) s') s) :
    codeG (model prog w) A (.builtin id args) R s := by
  refine cg_tree hq ?_
  show wpG _ _ (match entryFor table id with | some b => b args | none => unsupported ((withoutEnding? id "#data").getD id)) _ _ s
  rw [hb]; exact h
theorem cg_call_builtin {id : String} {args : Args} {b : Builtin} {R : Result → Shared → Prop} (hq : plainId id = true) (hh : holdy (.builtin id args) = false) (hb : entryFor table id = some b)
    (h : wpAny (model prog w) A.in1 (checkBuiltinCall id args) (fun _ s₁ => wpG (model prog w) A.in1 (b args)
      (fun fin s' => match fin with | .done f => R (.ok f) s' | .again c' => c'.quiet = true ∧ codeG (model prog w) A c' R s') (fun e s' => R (.error e) s') s₁)
      (fun e s' => R (.error e) s') s) : codeG (model prog w) A (.call (.builtin id) args) R s := by
  refine cg_tree rfl ?_
  show wpG _ A.in1 (do checkBuiltinCall id args; again (.builtin id args)) _ _ s
  refine g_bindA (wpAny_mono h (fun _ s₁ h₁ => g_pure (And.intro (plainId_quiet hq args) (cg_builtin hh hb ?_))) fun _ _ h' => h')
  rw [Around.under_plainId hq args]
  exact h₁
theorem g_if_false {α : Type} {M : Model} {c : Bool} {a b : Sem α} {Q : α → Shared → Prop} (hc : c = false) (h : wpG M A b Q E s) : wpG M A (if c = true then a else b) Q E s := by
  subst hc
  exact h
theorem holdy_typeCall (a : Args) : holdy (.builtin "type.__call__" a) = false := by
  show (List.contains _ "type.__call__") = false
  decide +kernel
theorem holdy_init (a : Args) : holdy (.builtin "bytearray.__init__" a) = false := by
  show (List.contains _ "bytearray.__init__") = false
  decide +kernel
theorem ba_args (a b : Value) : argsOk "bytearray.__init__" ⟨[a, b], []⟩ := by
  unfold argsOk
  kernel_rfl
theorem ba_init_code {D : Addr} {n : Int} {t : Tok} {R : Result → Shared → Prop} (h0 : 0 ≤ n) (h1 : n ≤ 16777216) (hD : s.heap.get? D = some { cls := .type "bytearray", data := .bytearray #[] })
    (h : ∀ h', (∀ b o, b ≠ D → s.heap.get? b = some o → h'.get? b = some o) → h'.get? D = some { cls := .type "bytearray", data := .bytearray (Array.replicate n.toNat 0) } → R (.ok (.ret .none)) { s with heap := h' }) :
    codeG (model prog w) A (.call (.builtin "bytearray.__init__") ⟨[.ref D, .int n t], []⟩) R s :=
  cg_call_builtin ba_plain_init (holdy_init _) ba_entry_init (ba_called.init.check _ _ _ _ _ _ _ _ ⟨_, hD, rfl⟩ (ba_args _ _) (ba_init_rest h0 h1 hD h))
theorem g_bytearray {n : Int} {t : Tok} {Q : Value → Shared → Prop} (h0 : 0 ≤ n) (h1 : n ≤ 16777216)
    (h : ∀ h', (∀ b o, s.heap.get? b = some o → h'.get? b = some o) → h'.get? s.heap.objs.size = some { cls := .type "bytearray", data := .bytearray (Array.replicate n.toNat 0) } → Q (.ref s.heap.objs.size) { s with heap := h' }) :
    wpG (model prog w) A (call (.type "bytearray") [.int n t]) Q E s := by
  have ft := ba_called
  obtain ⟨c, tl, hmro⟩ := ft.mro
  have hmade := ft.made
  have hsub := ft.sub
  refine g_call (cg_tree rfl ?_)
  refine g_pure ⟨Code.quiet_builtin _ (by decide +kernel), cg_builtin (holdy_typeCall _) F.entry_type_call ?_⟩
  rw [Around.under_plain (weight_type_call_type "bytearray" _ []) rfl]
  have h1' := ft.notType
  have h2' := ft.canCreate
  unfold Builtin.«type.__call__»
  refine g_if_false h1' ?_
  refine g_if_false h2' ?_
  refine g_bindA (wpAny_of_eq (ba_typeCall _) ?_)
  refine g_bindA (wpAny_of_eq hmro ?_)
  refine g_if_false rfl ?_
  refine g_bindA (wpAny_of_eq hmade ?_)
  refine g_bindA (wpAny_pure ?_)
  refine g_bindA (wpAny_holding (wpAny_call (ba_new _ ?_)))
  have hD : (s.heap.push { cls := .type "bytearray", data := .bytearray #[] }).get? s.heap.objs.size = some { cls := .type "bytearray", data := .bytearray #[] } := Heap.get?_push_size _ rfl
  have hT : ({ s with heap := s.heap.push { cls := .type "bytearray", data := .bytearray #[] } } : Shared).TypeIs (.ref s.heap.objs.size) "bytearray" := ⟨_, hD, rfl⟩
  refine g_bindA (wpAny_isInstance hT ba_sub ?_)
  refine g_if_false rfl ?_
  refine g_bind (g_holding ?_)
  unfold callSpecial?
  refine g_bindA (wpAny_specialOf hT ft.init.lookup ?_)
  refine g_holding ?_
  refine g_bindA (wpAny_of_eq (ft.init.bind _) ?_)
  refine g_bind (g_call (ba_init_code (s := { s with heap := s.heap.push { cls := .type "bytearray", data := .bytearray #[] } }) (D := s.heap.objs.size) h0 h1 hD fun h' hk hD' => ?_))
  refine g_pure ?_
  exact g_pure (h h' (fun b o e => hk b o (Nat.ne_of_lt (Heap.lt_size e)) (Heap.get?_push_of_some _ e)) hD')
end
end
section
set_option maxRecDepth 100000
abbrev baObj (b : Array UInt8) : Obj := { cls := .type "bytearray", data := .bytearray b }
theorem ba_slot_set : Slot "bytearray" "__setitem__" "bytearray.__setitem__" :=
  .of (owner := "bytearray") (n := "__setitem__") (by rw [typeLookup_type, builtinLookup_eq_fast]; kernel_rfl) (by decide +kernel) (by decide +kernel) (by decide +kernel)
    (by first | exact .inl (by decide +kernel) | exact .inr (by decide +kernel)) (by rw [isSubtype_type]; kernel_rfl)
theorem ba_entry_set : entryFor table "bytearray.__setitem__" = some Builtin.«bytearray.__setitem__» := entryFor_of_tree (by kernel_rfl)
theorem ba_args_set (a b c : Value) : argsOk "bytearray.__setitem__" ⟨[a, b, c], []⟩ := by
  unfold argsOk
  kernel_rfl
theorem ba_no_bytes : typeLookup (.type "bytearray") "__bytes__" = pure none := by rw [typeLookup_type, builtinLookup_eq_fast]; kernel_rfl
theorem ba_no_index : typeLookup (.type "bytearray") "__index__" = pure none := by rw [typeLookup_type, builtinLookup_eq_fast]; kernel_rfl
theorem ba_buffer : typeLookup (.type "bytearray") "__buffer__" = pure (some (.builtin "bytearray.__buffer__")) := by rw [typeLookup_type, builtinLookup_eq_fast]; kernel_rfl
section
variable {prog : Program} {w : World} {A : Around} {E : Value → Shared → Prop} {s : Shared} {h₀ : Heap} {L : Addr} {m : Str → Option Value} {news : List (Addr × Obj)} {nf : Obj → List (Addr × Obj)}
theorem ba_setItem {D : Addr} {b : Array UInt8} {k v : Int} {t u : Tok} {Q : Unit → Shared → Prop} (hD : s.heap.get? D = some (baObj b)) (h0 : 0 ≤ k) (h1 : k < b.size) (hz : b.size ≤ 16777216) (hv0 : 0 ≤ v) (hv1 : v < 256)
    (hQ : Q () { s with heap := s.heap.update D (Obj.mapBytearray (·.setIfInBounds k.toNat v.toNat.toUInt8)) }) : wpAny (model prog w) A (setItem (.ref D) (.int k t) (.int v u)) Q E s := by
  have hT : s.TypeIs (.ref D) "bytearray" := ⟨_, hD, rfl⟩
  unfold setItem
  refine wpAny_holding ?_
  refine wpAny_bind (wpAny_sequenceKey hT (by decide) ?_)
  refine wpAny_bind (wpAny_callSpecial?_slot (name := Str.ofString "__setitem__") hT ba_slot_set
    (wpAny_call_entry ba_slot_set hT ba_entry_set ?_ (ba_args_set _ _ _)))
  show wpAny _ _ (Builtin.Bytes.subscript? (.int k t) >>= _) _ _ s
  refine wpAny_bind ?_
  unfold Builtin.Bytes.subscript?
  refine wpAny_bind (wpAny_specialOf (T := "int") (v := .int k t) rfl ba_index ?_)
  refine bm_if_false rfl ?_
  refine wpAny_bind (wpAny_of_eq (rfl : asIndex (.int k t) = pure k) ?_)
  have hf : Builtin.Bytes.fitsIndex k = true := by
    unfold Builtin.Bytes.fitsIndex
    simp only [Bool.and_eq_true, decide_eq_true_eq]
    omega
  refine bm_if_false (by rw [hf]; rfl) ?_
  refine wpAny_pure ?_
  show wpAny _ _ (Builtin.Bytes.byteValue (.int v u) >>= _) _ _ s
  refine wpAny_bind ?_
  unfold Builtin.Bytes.byteValue
  refine wpAny_bind (wpAny_of_eq (rfl : asIndex (.int v u) = pure v) ?_)
  refine bm_if_false (by simp only [Bool.or_eq_false_iff, decide_eq_false_iff_not]; omega) ?_
  refine wpAny_pure ?_
  refine wpAny_bind ?_
  unfold Builtin.Bytes.payload Builtin.Bytes.payload?
  refine wpAny_bind (wpAny_bind (wpAny_load hD ?_))
  refine wpAny_pure (wpAny_pure ?_)
  have hs : seqIndex? k b.size = some k.toNat := by
    have e : ¬ k < 0 := by omega
    unfold seqIndex?
    simp only [e, if_false, decide_eq_true h0, decide_eq_true h1, Bool.and_true, if_true]
  dsimp only
  rw [hs]
  refine wpAny_bind (ba_write hD (by rw [Array.size_setIfInBounds, sizeLine_eq]; exact hz) ?_)
  exact wpAny_pure ⟨.none, rfl, wpAny_pure hQ⟩
theorem ba_set_N {D : Addr} {b : Array UInt8} {k v : Int} {t u : Tok} {Q : Unit → Shared → Prop} (F : Fr h₀ L s.heap m) (N : News h₀ L s.heap news) (U : UpdF D (baObj b) news nf) (h0 : 0 ≤ k) (h1 : k < b.size) (hz : b.size ≤ 16777216) (hv0 : 0 ≤ v) (hv1 : v < 256)
    (hQ : ∀ h', Fr h₀ L h' m → News h₀ L h' (nf (baObj (b.setIfInBounds k.toNat v.toNat.toUInt8))) → Q () { s with heap := h' }) : wpAny (model prog w) A (setItem (.ref D) (.int k t) (.int v u)) Q E s := by
  obtain ⟨pre, post, rfl, hg, a, c⟩ := U.split
  have z := N (D, baObj b) (List.mem_append.mpr (.inr (.head _)))
  refine ba_setItem z.1 h0 h1 hz hv0 hv1 (hQ _ (F.change (Heap.SameBut.update ..) z.2.1 z.2.2) ?_)
  rw [hg]
  exact news_set N a c (Heap.SameBut.update ..) (Heap.get?_update_self (Obj.mapBytearray (·.setIfInBounds k.toNat v.toNat.toUInt8)) z.1 rfl)
theorem ba_bytes {D : Addr} {b : Array UInt8} {Q : Value → Shared → Prop} (hD : s.heap.get? D = some (baObj b)) (hz : b.size ≤ 16777216) (hQ : Q (.bytes b s.toks) { s with toks := s.toks + 1 }) :
    wpAny (model prog w) A (call (.type "bytes") [.ref D]) Q E s := by
  have hT : s.TypeIs (.ref D) "bytearray" := ⟨_, hD, rfl⟩
  refine callType_codes (Q₁ := fun obj s₁ => s₁.TypeIs obj "bytes" ∧ Q obj s₁) F.bm_called (F.bm_typeCall _) F.entry_object_init ?_ fun obj s₁ h₁ => ?_
  · refine codeAny_of_tree ?_
    show wpAny _ A.in1.in1 (do checkBuiltinCall "bytes.__new__" ⟨[.type "bytes", .ref D], []⟩; again (.builtin "bytes.__new__" ⟨[.type "bytes", .ref D], []⟩)) _ _ s
    refine wpAny_bind (wpAny_of_eq (F.bm_newCall _) (wpAny_pure ⟨plainId_quiet F.bm_plain _, codeAny_builtin F.bm_entry ?_⟩))
    rw [Around.under_plainId F.bm_plain _]
    unfold Builtin.«bytes.__new__»
    refine wpAny_bind (wpAny_of_eq (a := true) rfl ?_)
    refine bm_if_false rfl ?_
    refine wpAny_bind (wpAny_of_eq F.bm_sub ?_)
    refine bm_if_false rfl ?_
    refine wpAny_bind (wpAny_of_eq (F.bm_bind _) ?_)
    refine wpAny_bind (wpAny_of_eq (a := ()) rfl ?_)
    refine wpAny_bind (wpAny_of_eq (a := ()) rfl ?_)
    refine bm_if_false rfl ?_
    refine wpAny_bind (wpAny_specialOf hT ba_no_bytes ?_)
    refine wpAny_bind (wpAny_bind ?_)
    show wpAny _ _ (load D >>= _) _ _ _
    refine wpAny_bind (wpAny_load hD ?_)
    refine wpAny_pure (wpAny_pure ?_)
    refine bm_if_false rfl ?_
    refine wpAny_bind (wpAny_specialOf hT ba_no_index ?_)
    refine bm_if_true rfl ?_
    first
      | show wpAny _ _ (Builtin.Bytes.buffer? "bytes.__new__" (.ref D) true >>= _) _ _ _
      | (refine wpAny_bind ?_; show wpAny _ _ (Builtin.Bytes.buffer? "bytes.__new__" (.ref D) true >>= _) _ _ _)
    refine wpAny_bind ?_
    unfold Builtin.Bytes.buffer?
    refine wpAny_bind (wpAny_specialOf hT ba_buffer ?_)
    refine wpAny_bind ?_
    unfold Builtin.Bytes.slotIsOwn
    refine wpAny_bind (wpAny_specialOf hT ba_buffer ?_)
    show wpAny _ _ (if (!("bytearray.__buffer__".endsWith ("." ++ "__buffer__"))) = true then _ else _) _ _ _
    refine bm_if_false (by decide +kernel) ?_
    have e : ("bytearray.__buffer__".dropRight ("__buffer__".length + 1)) = "bytearray" := by decide +kernel
    rw [e]
    refine wpAny_isInstance hT ba_sub ?_
    refine bm_if_false rfl ?_
    refine wpAny_bind (wpAny_specialOf hT ba_buffer ?_)
    show wpAny _ _ (Builtin.Bytes.ownRelease (.ref D) >>= _) _ _ _
    refine wpAny_bind (ba_ownRelease hD ?_)
    refine bm_if_false rfl ?_
    refine wpAny_bind ?_
    unfold Builtin.Bytes.payload Builtin.Bytes.payload?
    refine wpAny_bind (wpAny_bind (wpAny_load hD ?_))
    refine wpAny_pure (wpAny_pure ?_)
    refine wpAny_pure ?_
    refine wpAny_bind (wpAny_rule ?_)
    refine wpAny_bind (wpAny_mkBytes ?_ (by rw [sizeLine_eq]; exact hz))
    show wpAny _ _ (if (Value.type "bytes" == Value.type "bytes") = true then _ else _) _ _ _
    refine bm_if_true (by decide) ?_
    first
      | exact wpAny_pure ⟨PySem.W.typeIs_bytes _ _ _, hQ⟩
      | exact wpAny_bind (wpAny_pure (wpAny_pure ⟨PySem.W.typeIs_bytes _ _ _, hQ⟩))
  · exact ⟨h₁.1, F.args_object_init_2 obj _, object_init_meets F.bm_called.init.lookup F.bm_called.made (by decide) prog w A.in1 _ s₁ ⟨h₁.1, rfl, h₁.2⟩⟩
theorem g_ba_N {n : Int} {t : Tok} {Q : Value → Shared → Prop} (F : Fr h₀ L s.heap m) (N : News h₀ L s.heap news) (h0 : 0 ≤ n) (h1 : n ≤ 16777216)
    (h : ∀ D h', Fr h₀ L h' m → News h₀ L h' ((D, baObj (Array.replicate n.toNat 0)) :: news) → (∀ q ∈ news, q.1 < D) → Q (.ref D) { s with heap := h' }) :
    wpG (model prog w) A (call (.type "bytearray") [.int n t]) Q E s :=
  g_bytearray h0 h1 fun h' hk hD => h _ h' (F.keeps hk) (news_pushed F N hk hD rfl) fun q hq => Heap.lt_size (N q hq).1
theorem ba_bytes_N {D : Addr} {b : Array UInt8} {Q : Value → Shared → Prop} (N : News h₀ L s.heap news) (hm : (D, baObj b) ∈ news) (hz : b.size ≤ 16777216) (hQ : Q (.bytes b s.toks) { s with toks := s.toks + 1 }) :
    wpAny (model prog w) A (call (.type "bytes") [.ref D]) Q E s := ba_bytes (N _ hm).1 hz hQ
end
end
section
local macro_rules | `(tactic| walk_at "pad") => `(tactic| skip)
local macro_rules | `(tactic| walk_at "pad") => `(tactic| skip)
local macro_rules | `(tactic| walk_at "pad") => `(tactic| skip)
local macro_rules | `(tactic| walk_at "pad") => `(tactic| skip)
local macro_rules | `(tactic| walk_at "pad") => `(tactic| skip)
local macro_rules | `(tactic| walk_at "pad") => `(tactic| skip)
local macro_rules | `(tactic| walk_at "pad") => `(tactic| skip)
local macro_rules | `(tactic| walk_at "pad") => `(tactic| skip)
local macro_rules | `(tactic| walk_at "pad") => `(tactic| skip)
local macro_rules | `(tactic| walk_at "pad") => `(tactic| skip)
local macro_rules | `(tactic| walk_at "pad") => `(tactic| skip)
local macro_rules | `(tactic| walk_at "pad") => `(tactic| skip)
local macro_rules | `(tactic| walk_at "pad") => `(tactic| skip)
local macro_rules | `(tactic| walk_at "pad") => `(tactic| skip)
local macro_rules | `(tactic| walk_at "pad") => `(tactic| skip)
local macro_rules | `(tactic| walk_at "pad") => `(tactic| skip)
local macro_rules | `(tactic| walk_at "pad") => `(tactic| skip)
local macro_rules | `(tactic| walk_at "pad") => `(tactic| skip)
local macro_rules | `(tactic| walk_at "pad") => `(tactic| skip)
local macro_rules | `(tactic| walk_at "pad") => `(tactic| skip)
local macro_rules | `(tactic| walk_at "pad") => `(tactic| skip)
local macro_rules | `(tactic| walk_at "pad") => `(tactic| skip)
local macro_rules | `(tactic| walk_at "pad") => `(tactic| skip)
local macro_rules | `(tactic| walk_at "pad") => `(tactic| skip)
local macro_rules | `(tactic| walk_at "pad") => `(tactic| skip)
local macro_rules | `(tactic| walk_at "pad") => `(tactic| skip)
local macro_rules | `(tactic| walk_at "pad") => `(tactic| skip)
local macro_rules | `(tactic| walk_at "pad") => `(tactic| skip)
local macro_rules | `(tactic| walk_at "pad") => `(tactic| skip)
local macro_rules | `(tactic| walk_at "pad") => `(tactic| skip)
local macro_rules | `(tactic| walk_at "pad") => `(tactic| skip)
local macro_rules | `(tactic| walk_at "enterG") => `(tactic| (refine' cg_codeDef ?k1 ?k2 ?k3 ?k4 ?k5 ?kA ?kF ?kK ?k6 ?k7 ?k8 ?k9 ?kB ?_ ?c2 ?c3 ?c4 ?c5; (case kA => exact rfl); (case kF => exact rfl); (case kK => assumption); (case k1 => k_asm); (case k2 => k_asm); (case k3 => k_asm); (case k4 => k_asm); (case k5 => k_asm); (case k6 => k_is); (case k7 => k_is); (case k8 => ktr_room); (case k9 => first | exact BindsTo.of_eq rfl | (refine' kp_binds ?kx ?ke; (case kx => k_in); (case ke => exact fun _ => rfl))); (case c5 => decide); (case kB => exact locs rfl); (case c2 => exact rfl); (case c3 => exact rfl); (case c4 => exact rfl); k_whole; intro g' L' h' FG' F' N' B' X' T' hL'; clear hL'; (try dsimp only); (try dsimp only at F'); (try k_lift B')))
local macro_rules | `(tactic| walk_at "call type:bytes") => `(tactic| (k_here; (with_reducible show wpAny _ _ (call (Value.type "bytes") [Value.ref _]) _ _ _); k_dflt (refine' ba_bytes_N ?N ?m ?z ?_; (case N => k_asm); (case m => k_mem); (case z => assumption))))
theorem sw_size {n : Nat} (h : 1 ≤ n) : Builtin.Range.rangeSize 0 (n : Int) (n : Int) = ((1 : Nat) : Int) := by
  unfold Builtin.Range.rangeSize
  rw [if_pos (by omega), if_pos (by omega)]
  have : ((n : Int) - 0 - 1) / (n : Int) = 0 := Int.ediv_eq_zero_of_lt (by omega) (by omega)
  rw [this]
  rfl
theorem sw_small {n : Nat} (h : 1 ≤ n) (h2 : n ≤ 100) : Builtin.Range.small 0 (n : Int) (n : Int) = true := by
  unfold Builtin.Range.small
  rw [sw_size h]
  simp only [Builtin.Range.rangeFitsLong, Bool.and_eq_true, Bool.or_eq_true, decide_eq_true_eq, beq_iff_eq]
  have e : ((n : Int) > 0) := by omega
  simp only [if_pos e, decide_eq_true_eq, Bool.and_eq_true]
  omega
def SwP (ks : List Int) (pre : List Int) (c : Array UInt8) : Prop := c.size = ks.length ∧ ∀ j : Nat, j < pre.length → (KBw.bInts c).getD (ks.length - 1 - j) 0 = ks.getD j 0
theorem bInts_len (c : Array UInt8) : (KBw.bInts c).length = c.size := KBw.ints_length c
theorem bInts_set (c : Array UInt8) (i : Nat) (v : Int) (h0 : 0 ≤ v) (h1 : v < 256) (hi : i < c.size) (j : Nat) : (KBw.bInts (c.setIfInBounds i v.toNat.toUInt8)).getD j 0 = if j = i then v else (KBw.bInts c).getD j 0 := by
  unfold KBw.bInts
  rw [Array.toList_setIfInBounds, List.map_set]
  have hv : ((v.toNat.toUInt8.toNat : Nat) : Int) = v := by
    rw [UInt8.toNat_ofNat']
    omega
  rw [hv, List.getD_eq_getElem?_getD, List.getD_eq_getElem?_getD, List.getElem?_set]
  by_cases e : j = i
  · subst e
    rw [if_pos rfl, if_pos rfl, if_pos (by simpa using hi)]
    rfl
  · rw [if_neg (fun h => e h.symm), if_neg e]
theorem sw1 {ks pre : List Int} {c : Array UInt8} {k : Int} (hn : ks.length ≤ 10) (hP : SwP ks pre c) (hk : k = 0 + (pre.length : Int)) (hl : pre.length < ks.length) (h0 : 0 ≤ ks.getD (0 + k).toNat 0) (h1 : ks.getD (0 + k).toNat 0 < 256) :
    SwP ks (pre ++ [k]) (c.setIfInBounds (0 + (ks.length : Int) - 1 - k).toNat (ks.getD (0 + k).toNat 0).toNat.toUInt8) := by
  obtain ⟨p1, p2⟩ := hP
  have e1 : (0 + (ks.length : Int) - 1 - k).toNat = ks.length - 1 - pre.length := by omega
  have e2 : (0 + k).toNat = pre.length := by omega
  rw [e2] at h0 h1
  rw [e1, e2]
  refine ⟨by rw [Array.size_setIfInBounds]; exact p1, fun j hj => ?_⟩
  rw [List.length_append, List.length_singleton] at hj
  rw [bInts_set _ _ _ h0 h1 (by omega)]
  by_cases e : j = pre.length
  · subst e; rw [if_pos rfl]
  · rw [if_neg (by omega)]
    exact p2 j (by omega)
theorem led_sub {α : Type} {a b : α} {l o : List α} : ∀ p ∈ a :: b :: l, p ∈ a :: b :: (l ++ o) := fun p hp => by
  rcases List.mem_cons.mp hp with q | q
  · exact List.mem_cons.mpr (.inl q)
  · rcases List.mem_cons.mp q with q | q
    · exact List.mem_cons.mpr (.inr (List.mem_cons.mpr (.inl q)))
    · exact List.mem_cons.mpr (.inr (List.mem_cons.mpr (.inr (List.mem_append_left _ q))))
theorem led_own {α : Type} {a b : α} {l o : List α} : ∀ p ∈ o, p ∈ a :: b :: (l ++ o) := fun p hp => List.mem_cons.mpr (.inr (List.mem_cons.mpr (.inr (List.mem_append_right _ hp))))
theorem off_all {D i' : Addr} {o o' : Obj} {news : List (Addr × Obj)} (h : ∀ p ∈ (D, o) :: news, p.1 < i') : ∀ p ∈ (D, o') :: news, p.1 ≠ i' := fun p hp => by
  rcases List.mem_cons.mp hp with rfl | q
  · exact Nat.ne_of_lt (h (D, o) List.mem_cons_self)
  · exact Nat.ne_of_lt (h p (List.mem_cons_of_mem _ q))
theorem sw0 (ks : List Int) : SwP ks [] (Array.replicate (ks.length : Int).toNat 0) := ⟨by rw [Array.size_replicate]; omega, fun j hj => by cases hj⟩
theorem sw_end {ks pre : List Int} {c : Array UInt8} (hl : pre.length = ks.length) (hP : SwP ks pre c) : KBw.bInts c = ks.reverse := by
  obtain ⟨p1, p2⟩ := hP
  refine List.ext_getElem (by rw [bInts_len, p1, List.length_reverse]) fun i h1 h2 => ?_
  rw [bInts_len, p1] at h1
  have := p2 (ks.length - 1 - i) (by omega)
  have e : ks.length - 1 - (ks.length - 1 - i) = i := by omega
  rw [e] at this
  rw [List.getElem_reverse]
  have g1 : (KBw.bInts c).getD i 0 = (KBw.bInts c)[i]'(by rw [bInts_len, p1]; exact h1) := by
    rw [List.getD_eq_getElem?_getD, List.getElem?_eq_getElem (by rw [bInts_len, p1]; exact h1)]
    rfl
  have g2 : ks.getD (ks.length - 1 - i) 0 = ks[ks.length - 1 - i]'(by omega) := by
    rw [List.getD_eq_getElem?_getD, List.getElem?_eq_getElem (by omega)]
    rfl
  rw [← g1, this, g2]
abbrev ClaimG (d : Nat) (f : Addr) (vs : List Value) (P : Value → Prop) : Prop :=
  ∀ (w : World) (mean : ExcName → Option Value) (mg mb : Str → Option Value) (news : List (Addr × Obj)) (dp un : Nat) (gd : Option (List Code)) (cn : Str) (cs : Scope) (a : Addr) (ccd : Value) (cl : List (Str × Addr)) (outer : List Env) (A₀ : Around) (base h₀ : Heap) (L : Addr) (m : Str → Option Value) (s : Shared) (Q E : Value → Shared → Prop),
    Below A₀ base outer h₀ → Fr h₀ L s.heap m → (hd.heap_39 w.params).In h₀ → News h₀ L s.heap news → Top hd.view_39 LS mean mg mb h₀ → cs.kind = .function →
    dp + d < recursionLimit → un + 8 * d < cLine → True →
    (∀ (v : Value) (h' : Heap) (tk' : Nat), P v → Fr h₀ L h' m → News h₀ L h' news → Q v { s with heap := h', toks := tk' }) →
      wpG (model PySem.Challenge.rw_zz0001_01.row.prog w) (ktrTop dp un gd cn cs L a ccd cl outer) (call (.ref f) vs) Q E s
set_option maxRecDepth 100000 in
set_option maxHeartbeats 8000000 in
theorem c_swap (b : Array UInt8) (tb : Tok) (ks : List Int) (hb : KBw.bInts b = ks) (hn : ks.length ≤ 10) (hn2 : 1 ≤ ks.length) (tw : Tok) : ClaimG 10 21 [.bytes b tb, .int (ks.length : Int) tw] (BytesR ks.reverse) := by
  k_with_none
  w_top off
  unfold ClaimG
  k_fill; intro w mean mg mb news dp un gd cn cs a ccd cl outer A₀ base h₀ L m s Q E B F X N T hk hd hu hH hret; refine g_call ?_; k_dflt (walk_at "enterG")
  refine g_execs_cons (g_Assign_Name (g_Call ?_))
  k_fold
  k_steps
  refine g_callWith_T (g_any ?_)
  k_fold
  k_steps
  refine' g_ba_N ?F ?N ?a ?b ?_
  case F => k_asm
  case N => k_asm
  case a => omega
  case b => omega
  intro D' h' F' N' l1
  (try k_lt l1)
  k_sweep
  (try dsimp only)
  k_steps
  refine g_any ?_
  k_fold
  repeat' ((fail_if_success (with_reducible show wpAny _ _ (pyIter _) _ _ _)); (first | (k_unfold; (try dsimp only)) | (k_end; wrow_close) | walk1 | (dsimp only; walk1) | (leave1; walk_say "STEP leave1"; try dsimp only)))
  (rename Fr _ _ _ _ => lF'); (rename News _ _ _ _ => lN'); (rename IsRange _ _ _ _ _ _ _ _ => lR')
  with_unfolding_all refine krs_iter (n := 1) (by rfl) lR' ?hsm (sw_size hn2) lF' lN' ?_
  case hsm => exact sw_small hn2 (by omega)
  clear lF' lN'
  intro i' l2
  with_unfolding_all refine' KrsRest.succ (v := 0) (by simp) (fun t' h' tk' F' N' => ?_)
  k_fold
  repeat' ((fail_if_success (with_reducible show wpAny _ _ (pyIter _) _ _ _)); (first | (k_unfold; (try dsimp only)) | (k_end; wrow_close) | walk1 | (dsimp only; walk1) | (leave1; walk_say "STEP leave1"; try dsimp only)))
  (rename Fr _ _ _ _ => lF'); (rename News _ _ _ _ => lN'); (rename IsRange _ _ _ _ _ _ _ _ => lR')
  with_unfolding_all refine' kst_range (n := ks.length) (σ := Array UInt8) (fun c => (i', _) :: (D', baObj c) :: news) (fun _ => []) (fun _ => True) [] (SwP ks) (Array.replicate (ks.length : Int).toNat 0) (by rfl) lR' ?hsm ?hsz lF' lN' trivial (List.forall_mem_nil _) ?hp ?_ ?_
  case hsm => exact small_one (by omega) (by omega) (by omega) (by omega)
  case hsz => exact rangeSize_nat _ _
  case hp => exact sw0 ks
  · intro c pre k t u h tk own hk hlt hoff _ hP F1 N1
    clear lF' lN'
    (try dsimp only [kstB] at F1); (try dsimp only at N1); (try simp only [List.nil_append, List.cons_append] at N1)
    (try dsimp only at hoff); (try simp only [List.map_cons, List.map_nil] at hoff)
    k_fold
    k_steps
    have hne : i' ≠ D' := Nat.ne_of_gt (l2 _ List.mem_cons_self)
    have hnn : ∀ p ∈ news ++ own, p.1 ≠ D' := fun p hp => by
      rcases List.mem_append.mp hp with q | q
      · exact Nat.ne_of_lt (l1 p q)
      · exact hoff p q D' (by simp)
    refine ba_set_N F1 N1 (.tail hne (.head hnn)) (by omega) (by rw [hP.1]; omega) (by rw [hP.1]; omega) (by assumption) (by assumption) ?_
    intro h2 F2 N2
    (try dsimp only at N2)
    clear N1 F1
    k_steps
    refine kst_end (c.setIfInBounds (0 + (ks.length : Int) - 1 - k).toNat (ks.getD (0 + k).toNat 0).toNat.toUInt8) F2 N2 ?hn ?ho (by rfl) trivial (List.forall_mem_nil _) ?hr (sw1 hn hP hk hlt (by assumption) (by assumption))
    case hn => exact led_sub
    case ho => exact led_own
    case hr => intro z h1 _ _; (try dsimp only); rw [if_neg h1]; rfl
  · intro c u h tk _ hP F1 N1
    clear lF' lN'
    (try dsimp only [kstB] at F1); (try dsimp only at N1)
    have hc : KBw.bInts c = ks.reverse := sw_end (by rw [rangeKs_length]) hP
    k_steps
    refine UnrEnd.intro F1 N1 ((D', baObj c) :: news) (fun p hp => hp) (off_all l2) ?_
    refine KrsRest.zero (fun h3 tk3 F3 N3 => ?_)
    clear F1 N1
    have hcs : c.size ≤ 16777216 := by rw [hP.1]; omega
    k_steps
    exact hret _ _ _ ⟨_, _, rfl, hc⟩ (by assumption) (cb_drop (by assumption) (by kcj_all))
end
section
theorem enter_looks {M : Model} {A : Around} {s : Shared} {f : Value} {pos : List Value} {c : ClaimW} {cl : Str → Option Addr} {mean : ExcName → Option Value} {args : List WData} {s₁ : Shared}
    (ho : GoodWG c cl mean args s₁ (.ok (.ret (.bool true))) s) (h : codeG M A (.call f ⟨pos, []⟩) (GoodWG c cl mean args s₁) s) :
    wpAny M A (looks (PySem.call f pos []) (pure (.bool true))) (fun v s' => GoodWG c cl mean args s₁ (.ok (.ret v)) s') (fun e s' => GoodWG c cl mean args s₁ (.error e) s') s := fun Γ p hΓ => by
  unfold looks
  rw [Sem.wp_stack]
  by_cases hb : bottom ((Γ.code, p) :: Γ.below) = true
  · rw [if_pos hb]
    have hcl : holdy Γ.code = false ∧ Clean Γ.below := by
      obtain ⟨code, hd, own, below, past⟩ := Γ
      unfold bottom at hb
      split at hb
      · rename_i e
        obtain ⟨e1, e2⟩ := List.cons.inj e
        obtain ⟨e3, _⟩ := Prod.mk.inj e1
        simp only at e3 e2 ⊢
        subst e3; subst e2
        have := eq_of_beq hb
        subst this
        exact ⟨by show (List.contains _ "claim.caller") = false; decide +kernel, fun x hx => by cases hx⟩
      · cases hb
    exact g_call (cg_mono h fun res s' g => by rcases g.1 with ⟨v, _, _, rfl, _⟩ | ⟨e, _, _, rfl, _⟩ <;> exact g) Γ p hΓ hcl.1 hcl.2
  · rw [if_neg hb]
    exact ho
theorem cg_cellsN {prog : Program} {w : World} {A : Around} {R : Result → Shared → Prop} {s : Shared} {name : Str} {params : Arguments} {body : List Stmt} {scope : Scope}
    {pm cd doc : Value} {a : Addr} {o : Obj} {args : List Value} {binds : List (Str × Value)}
    (hroom : A.depth < recursionLimit) (ho : s.heap.get? a = some o) (hdata : o.data = .func (Calls.docDef name params body scope pm cd doc)) (hlim : s.heap.NoLimit) (hcd : s.heap.CodeRec cd name)
    (hbind : bindArgs (Calls.docDef name params body scope pm cd doc) ⟨args, []⟩ = pure binds)
    (hkind : ∀ x ∈ binds, scope.names.lookup x.1 = some .local ∨ (scope.names.lookup x.1 = some .cell ∧ ((cellsFrom (s.heap.objs.size + 1) scope.names []).lookup x.1).isSome = true))
    (hnd : ((cellsFrom 0 scope.names []).map (·.1)).Nodup)
    (h : ∀ h₁ tk cells, Fr s.heap s.heap.objs.size h₁ (bindL (envOfC name scope s.heap.objs.size a cd).kindOf binds fun _ => none) → News s.heap s.heap.objs.size h₁ cells →
      CellsAre (bindC (envOfC name scope s.heap.objs.size a cd).kindOf binds fun _ => none) (cellsFrom (s.heap.objs.size + 1) scope.names []) cells →
      wpG (model prog w) (A.deeper (envOfC name scope s.heap.objs.size a cd)) (execs body (envOfC name scope s.heap.objs.size a cd))
        (fun f s' => R (.ok (.ret (match f with | .ret v => v | _ => .none))) s')
        (fun e s' => wpAny (model prog w) (A.deeper (envOfC name scope s.heap.objs.size a cd)) (leaving (envOfC name scope s.heap.objs.size a cd) e)
          (fun _ s'' => R (.error e) s'') (fun e' s'' => R (.error e') s'') s')
        { s with heap := h₁, toks := tk })
    (hco : scope.isCoroutine = false := by rfl) (hgen : scope.isGenerator = false := by rfl) (hk : scope.kind = .function := by rfl) :
    codeG (model prog w) A (.call (.ref a) ⟨args, []⟩) R s := by
  refine cg_function hroom ho hdata hco hgen rfl hcd ?_
  rw [hbind]
  refine wpAny_pure (wpAny_newFunctionEnv_cells hk hkind fun env' he s' X => ?_)
  subst he
  refine ⟨hlim.keeps X.toInCall.keep, cg_func ?_⟩
  obtain ⟨h₁, tk, rfl, _⟩ := X.done
  obtain ⟨cells, NC, Y⟩ := Cl.news (h₀ := s.heap) (Nat.le_refl _) fun n c hm => ⟨X.cell n c (lookup_of_mem_nodup (cellsFrom_names scope.names 0 (s.heap.objs.size + 1) [] [] rfl ▸ hnd) hm), X.above n c hm⟩
  exact h h₁ tk cells ⟨X.toInCall.ns, X.toInCall.keep, X.toInCall.fresh⟩ NC Y
end
section
set_option maxRecDepth 100000
section
variable {prog : Program} {w : World} {A : Around} {E : Value → Shared → Prop} {s : Shared} {h₀ : Heap} {L : Addr} {m : Str → Option Value} {env : Env}
variable {x : Str} {px : Pos} {i0 : Expr} {y : Str} {py : Pos} {i1 test : Expr} {scope : Scope} {pos : Pos} {kk : Nat} {pp : Pos}
def RangeOut (s₁ : Shared) (h : Heap) (i : Nat) (v : Value) (s' : Shared) : Prop := ∃ r a b c h' tk', v = .ref r ∧ s' = { s₁ with heap := h', toks := tk' } ∧ IsRange h' r 0 (i : Int) 1 a b c ∧ ∀ b o, h.get? b = some o → h'.get? b = some o
def TestOut (s : Shared) (p : Bool) (b : Bool) (s' : Shared) : Prop := b = p ∧ Keeps s s'
def NestI (prog : Program) (w : World) (A : Around) (h₀ : Heap) (L : Addr) (m : Str → Option Value) (env : Env) (cl : List (Str × Addr)) (x : Str) (i1 : Expr) (scope : Scope) (n : Nat) (news : List (Addr × Obj)) (s₁ : Shared) : Prop :=
  ∀ (i : Nat) t C oC h tk m₂ (E' : Value → Shared → Prop), i < n → LCg.NsObj oC m₂ → m₂ x = some (.int (i : Int) t) → Fr h₀ L h m → News h₀ L h ((C, oC) :: news) → (∀ q ∈ news, q.1 ≠ C) →
    wpAny (model prog w) A (eval i1 (compEnvC scope cl C env)) (RangeOut s₁ h i) E' { s₁ with heap := h, toks := tk }
def NestT (prog : Program) (w : World) (A : Around) (h₀ : Heap) (L : Addr) (m : Str → Option Value) (env : Env) (cl : List (Str × Addr)) (x y : Str) (test : Expr) (scope : Scope) (p : Nat → Nat → Bool) (n : Nat) (news : List (Addr × Obj)) (s₁ : Shared) : Prop :=
  ∀ (i j : Nat) t u C oC h tk m₂ (E' : Value → Shared → Prop), i < n → j < i → LCg.NsObj oC m₂ → m₂ x = some (.int (i : Int) t) → m₂ y = some (.int (j : Int) u) → Fr h₀ L h m → News h₀ L h ((C, oC) :: news) → (∀ q ∈ news, q.1 ≠ C) →
    wpAny (model prog w) A (isTrue test (compEnvC scope cl C env) (eval test (compEnvC scope cl C env))) (TestOut { s₁ with heap := h, toks := tk } (p i j)) E' { s₁ with heap := h, toks := tk }
def NestSrc (prog : Program) (w : World) (A : Around) (h₀ : Heap) (L : Addr) (m : Str → Option Value) (env : Env) (cl : List (Str × Addr)) (x y : Str) (i1 test : Expr) (scope : Scope) (p : Nat → Nat → Bool) (Q : Value → Shared → Prop) (xv : Value) (s₁ : Shared) : Prop :=
  ∃ (r : Addr) (ta tb tc : Tok) (n : Nat) (news : List (Addr × Obj)), xv = .ref r ∧ A.handled = none ∧ n ≤ 100 ∧ Fr h₀ L s₁.heap m ∧ News h₀ L s₁.heap news ∧ IsRange s₁.heap r 0 (n : Int) 1 ta tb tc ∧
      NestI prog w A h₀ L m env cl x i1 scope n news s₁ ∧ NestT prog w A h₀ L m env cl x y test scope p n news s₁ ∧
      (∀ D h tk zs, Fr h₀ L h m → News h₀ L h ((D, LCg.lst zs) :: news) → (∀ q ∈ news, q.1 < D) → zs.length = tot p n → Q (.ref D) { s₁ with heap := h, toks := tk })
theorem nest_comp {cl : List (Str × Addr)} {Q : Value → Shared → Prop} (F₀ : Fr h₀ L s.heap m) (p : Nat → Nat → Bool)
    (hclos : closureFor scope env = pure cl) (hcell : ∀ y ∈ scope.names, y.2 ≠ .cell) (hkind : scope.kind = .function)
    (hnames : ∀ y ∈ scope.names, y.2 = .local → scope.names.lookup y.1 = some .local) (hx : scope.names.lookup x = some .local) (hy : scope.names.lookup y = some .local) (hxy : x ≠ y)
    (hs : ∀ z, foldedSetIterable i0 env z = pure z) (hfold : ∀ C z, foldedSetIterable i1 (compEnvC scope cl C env) z = pure z)
    (h : wpAny (model prog w) A (eval i0 env) (NestSrc prog w A h₀ L m env cl x y i1 test scope p Q) E s) :
    wpAny (model prog w) A (eval (e2 (.Constant (.int 1) kk pp) x px i0 y py i1 test scope pos) env) Q E s := by
  rw [eval_ListComp]
  refine wpAny_comprehension_free (use := none) rfl hs hclos hkind hnames (wpAny_mono h (fun xv s₁ h₁ => ?_) fun _ _ e => e)
  obtain ⟨r, ta, tb, tc, n, news, rfl, hh, hn100, F, N, hr, hI, hT, fin⟩ := h₁
  refine wpAny_pyIter_range hr (small_one (by omega) (by omega) (by omega) (by omega)) ?_
  have hsz : Builtin.Range.rangeSize 0 (n : Int) 1 = (n : Int) := by
    have := rangeSize_nat 0 (n : Int)
    rw [this]
    omega
  rw [hsz]
  refine wpAny_newObj_type (wpAny_newFunctionEnv hcell (by intro y hy; simp at hy) (fun h₁ hns₁ hsb₁ => ?_) hkind)
  dsimp only at hns₁ hsb₁ ⊢
  generalize hH1 : s₁.heap.push { cls := .type "range_iterator", data := .fields #[rawInt 0, rawInt (n : Int), rawInt 1] } = H1 at hns₁ hsb₁ ⊢
  generalize hH2 : H1.push { cls := .type "list", dict := none, data := .seq ([] : List Value).toArray } = H2 at hns₁ hsb₁ ⊢
  have e1 : H1.objs.size = s₁.heap.objs.size + 1 := by rw [← hH1, Heap.size_push]
  have e2' : H2.objs.size = H1.objs.size + 1 := by rw [← hH2, Heap.size_push]
  have up1 : ∀ b o, s₁.heap.get? b = some o → H1.get? b = some o := fun b o e => hH1 ▸ Heap.get?_push_of_some _ e
  have up2 : ∀ b o, H1.get? b = some o → H2.get? b = some o := fun b o e => hH2 ▸ Heap.get?_push_of_some _ e
  have up3 : ∀ b o, H2.get? b = some o → h₁.get? b = some o := fun b o e => hsb₁.extBut b o (Nat.ne_of_lt (Heap.lt_size e)) (Heap.get?_push_of_some _ e)
  have hIg : H1.get? s₁.heap.objs.size = some { cls := .type "range_iterator", data := .fields #[rawInt 0, rawInt (n : Int), rawInt 1] } := hH1 ▸ Heap.get?_push_size _ rfl
  have hDg : H2.get? H1.objs.size = some (LCg.lst []) := hH2 ▸ Heap.get?_push_size _ rfl
  have lt1 : ∀ (b : Addr) o, s₁.heap.get? b = some o → @LT.lt Nat _ b s₁.heap.objs.size := fun b o e => Heap.lt_size e
  -- what a later heap that keeps all but the three keeps of the frame
  have later : ∀ h : Heap, (∀ b o, b ≠ H2.objs.size → b ≠ H1.objs.size → b ≠ s₁.heap.objs.size → h₁.get? b = some o → h.get? b = some o) → ∀ b o, s₁.heap.get? b = some o → h.get? b = some o := fun h k b o e => by
    have := lt1 b o e
    exact k b o (neN (by omega)) (neN (by omega)) (neN (by omega)) (up3 _ _ (up2 _ _ (up1 _ _ e)))
  have nw : ∀ h : Heap, (∀ b o, s₁.heap.get? b = some o → h.get? b = some o) → News h₀ L h news := fun h k p hp => ⟨k _ _ (N p hp).1, (N p hp).2⟩
  have fresh : ∀ (a : Addr), @LE.le Nat _ s₁.heap.objs.size a → h₀.get? a = none := fun a ha => by
    cases e : h₀.get? a with
    | none => rfl
    | some o' => exact absurd (lt1 _ _ (F.keep a o' e)) (Nat.not_lt.mpr ha)
  have hLlt : @LT.lt Nat _ L s₁.heap.objs.size := F.ns.lt
  have withC : ∀ (h : Heap) oC, (∀ b o, s₁.heap.get? b = some o → h.get? b = some o) → h.get? H2.objs.size = some oC → News h₀ L h ((H2.objs.size, oC) :: news) := fun h oC k e p hp => by
    rcases List.mem_cons.mp hp with rfl | hp
    · exact ⟨e, neN (by omega), fresh _ (by omega)⟩
    · exact nw h k p hp
  have offC : ∀ q ∈ news, q.1 ≠ H2.objs.size := fun q hq => by
    have := lt1 _ _ (N q hq).1
    exact neN (by omega)
  have main : ∀ s₅ : Shared, s₅ = { s₁ with heap := h₁, toks := s₁.toks + ([] : List (Str × Value)).length } →
      codeAny (model prog w) A (.compLoop (e2 (.Constant (.int 1) kk pp) x px i0 y py i1 test scope pos) 0 (.ref s₁.heap.objs.size) (.ref H1.objs.size) (compEnvC scope cl H2.objs.size env)) (compPost (model prog w) A E none Q (.ref H1.objs.size) H2.objs.size) s₅ := by
    rintro s₅ rfl
    refine nest_outer (s := { s₁ with heap := h₁, toks := s₁.toks + ([] : List (Str × Value)).length }) (C := H2.objs.size) (n := n) p hh rfl (lookup_relabel_local hx) (lookup_relabel_local hy) (by simp [compEnvC, relabel, hkind]) hxy (neN (by omega)) (neN (by omega)) (neN (by omega))
      (up3 _ _ (up2 _ _ hIg)) hns₁ (up3 _ _ hDg) hn100 (hfold _) ?_ ?_ ?_
    · intro i t h tk m₂ E' hi hn hxi k
      obtain ⟨oC, heC, hoC⟩ := LCg.ns_obj hn
      exact hI i t _ oC h tk m₂ E' hi hoC hxi (F.keeps (later h k)) (withC h oC (later h k) heC) offC
    · intro i j t u h tk m₂ E' hi hj hn hxi hyj k
      obtain ⟨oC, heC, hoC⟩ := LCg.ns_obj hn
      exact hT i j t u _ oC h tk m₂ E' hi hj hoC hxi hyj (F.keeps (later h k)) (withC h oC (later h k) heC) offC
    · intro h tk m' zs hn hD hl k
      refine ⟨m', hn, fun h'' hs'' => ?_⟩
      have kk'' : ∀ b o, s₁.heap.get? b = some o → h''.get? b = some o := fun b o e => by
        have := lt1 b o e
        exact hs''.extBut b o (neN (by omega)) (later h k b o e)
      refine fin H1.objs.size h'' tk zs (F.keeps kk'') (fun p hp => ?_) (fun q hq => by have := lt1 _ _ (N q hq).1; exact ltN (by omega)) hl
      rcases List.mem_cons.mp hp with rfl | hp
      · exact ⟨hs''.extBut _ _ (neN (by omega)) hD, neN (by omega), fresh _ (by omega)⟩
      · exact nw h'' kk'' p hp
  have W := LCg.range_walks (prog := prog) (w := w) (A := A) (I := s₁.heap.objs.size) hh 0 n
  exact codeAny_compStart_list (main _ rfl) (W.self 0 _ _ _ (by simpa using up3 _ _ (up2 _ _ hIg)) (main _ rfl))
end
end
section
set_option maxRecDepth 100000
theorem bx_slot : Slot "bytes" "index" "bytes.index" :=
  .of (owner := "bytes") (n := "index") (by rw [typeLookup_type, builtinLookup_eq_fast]; kernel_rfl) (by decide +kernel) (by decide +kernel) (by decide +kernel)
    (by first | exact .inl (by decide +kernel) | exact .inr (by decide +kernel)) (by rw [isSubtype_type]; kernel_rfl)
theorem bx_entry : entryFor table "bytes.index" = some Builtin.«bytes.index» := entryFor_of_tree (by kernel_rfl)
theorem bx_args (a b : Value) : argsOk "bytes.index" ⟨[a, b], []⟩ := by unfold argsOk; kernel_rfl
theorem bx_type : typeOf (.builtin "bytes.index") = pure (.type "method_descriptor") := by kernel_rfl
theorem int_no_buffer : typeLookup (.type "int") "__buffer__" = pure none := by rw [typeLookup_type, builtinLookup_eq_fast]; kernel_rfl
theorem int_index : typeLookup (.type "int") "__index__" = pure (some (.builtin "int.__index__")) := by rw [typeLookup_type, builtinLookup_eq_fast]; kernel_rfl
theorem extract_one (b : Array UInt8) (c : UInt8) (i : Nat) (h : i < b.size) : (b.extract i (i + 1) == #[c]) = (b[i] == c) := by
  have e : b.extract i (i + 1) = #[b[i]] := by
    apply Array.ext
    · simp; omega
    · intro j h1 h2
      have : j = 0 := by simpa using h2
      subst this
      simp
  rw [e]
  simp
theorem byte_eq {b : Array UInt8} {i : Nat} (h : i < b.size) {k : Int} (h0 : 0 ≤ k) (h1 : k < 256) : (b[i] == k.toNat.toUInt8) = ((KBw.bInts b)[i]'(by rw [KBw.ints_length]; exact h) == k) := by
  have e : (KBw.bInts b)[i]'(by rw [KBw.ints_length]; exact h) = (b[i].toNat : Int) := by simp [KBw.bInts]
  rw [e]
  have hl := b[i].toNat_lt
  rw [Bool.eq_iff_iff]
  simp only [beq_iff_eq]
  constructor
  · intro q
    rw [q, UInt8.toNat_ofNat']
    omega
  · intro q
    apply UInt8.toNat_inj.mp
    rw [UInt8.toNat_ofNat']
    omega
theorem find_one {b : Array UInt8} {ks : List Int} (hb : KBw.bInts b = ks) {k : Int} (hk : k ∈ ks) : Builtin.Bytes.find? b #[k.toNat.toUInt8] 0 b.size = some (ks.idxOf k) := by
  subst hb
  have hin := KBw.ints_in hk
  unfold Builtin.Bytes.find?
  have e : (List.range (b.size + 1 - (0 + (#[k.toNat.toUInt8] : Array UInt8).size))).map (· + 0) = List.range b.size := by simp
  rw [e, List.find?_range_eq_some]
  have hlt : (KBw.bInts b).idxOf k < (KBw.bInts b).length := List.idxOf_lt_length_iff.mpr hk
  rw [KBw.ints_length] at hlt
  refine ⟨?_, List.mem_range.mpr hlt, fun j hj => ?_⟩
  · show (b.extract _ (_ + 1) == _) = true
    rw [extract_one _ _ _ hlt, byte_eq hlt hin.1 hin.2, List.getElem_idxOf]
    simp
  · show (!(b.extract _ (_ + 1) == _)) = true
    have hj' : j < b.size := by omega
    rw [extract_one _ _ _ hj', byte_eq hj' hin.1 hin.2]
    have := List.not_of_lt_findIdx (p := (· == k)) (xs := KBw.bInts b) (i := j) hj
    simpa using this
section
variable {prog : Program} {w : World} {A : Around} {E : Value → Shared → Prop} {s : Shared} {b : Array UInt8} {t : Tok} {ks : List Int}
theorem bx_method {M : Model} {pl : Sem Bool} {Q : Value × List Value → Shared → Prop} (h : Q (.builtin "bytes.index", [.bytes b t]) s) : wpAny M A (getMethod (.bytes b t) "index" pl) Q E s := by
  with_reducible exact KBd.method_of (.bytes b t) (typeIs_bytes _ _ _) bx_slot bx_type KBd.noRef h
theorem bx_index {k : Int} {u : Tok} {Q : Value → Shared → Prop} (hb : KBw.bInts b = ks) (hk : k ∈ ks) (h : Q (.int (ks.idxOf k : Int) s.toks) { s with toks := s.toks + 1 }) :
    wpAny (model prog w) A (call (.builtin "bytes.index") [.bytes b t, .int k u]) Q E s := by
  have hin := KBw.ints_in (b := b) (by rw [hb]; exact hk)
  refine wpAny_call_entry bx_slot (typeIs_bytes _ _ _) bx_entry ?_ (bx_args _ _)
  show wpAny _ _ (Builtin.Bytes.searchArgs .bytes "index" ⟨[.bytes b t, .int k u], []⟩ >>= _) _ _ _
  refine wpAny_bind ?_
  unfold Builtin.Bytes.searchArgs
  refine wpAny_bind (wpAny_of_eq (a := (Value.bytes b t, [Value.int k u])) rfl ?_)
  refine wpAny_bind (wpAny_of_eq (a := none) rfl ?_)
  refine wpAny_bind (wpAny_of_eq (a := none) rfl ?_)
  show wpAny _ _ (Builtin.Bytes.buffer? _ (.int k u) >>= _) _ _ _
  refine wpAny_bind ?_
  unfold Builtin.Bytes.buffer?
  refine wpAny_bind (wpAny_specialOf (T := "int") (v := .int k u) rfl int_no_buffer ?_)
  refine wpAny_bind (wpAny_specialOf (T := "int") (v := .int k u) rfl int_no_buffer ?_)
  refine wpAny_pure ?_
  show wpAny _ _ (specialOf (Value.int k u) (Str.ofString "__index__") >>= _) _ _ _
  refine wpAny_bind (wpAny_specialOf (T := "int") (v := .int k u) rfl int_index ?_)
  refine bm_if_false rfl ?_
  refine wpAny_bind (wpAny_of_eq (a := k) (by rfl : Builtin.Bytes.indexHeld [Value.bytes b t] ([Value.int k u].headD Value.none) = pure k) ?_)
  refine bm_if_false (by simp only [Bool.or_eq_false_iff, decide_eq_false_iff_not]; omega) ?_
  refine wpAny_bind (wpAny_pure ?_)
  refine wpAny_bind (wpAny_of_eq (a := b) rfl ?_)
  have hw : Builtin.Bytes.window b.size none none = (0, (b.size : Int)) := by
    unfold Builtin.Bytes.window
    simp
    omega
  rw [hw]
  have hpos : 0 < b.size := by
    have := List.length_pos_of_mem hk
    rwa [← hb, KBw.ints_length] at this
  have hn : ¬ ((b.size : Int) - 0 < ((#[k.toNat.toUInt8] : Array UInt8).size : Int)) := by simp; omega
  dsimp only
  rw [if_neg hn]
  refine wpAny_pure ?_
  have hf := find_one hb hk
  have e0 : (0 : Int).toNat = 0 := rfl
  have e1 : ((b.size : Int)).toNat = b.size := by simp
  simp only [Option.bind_some, Bool.false_eq_true, if_false, e0, e1, hf]
  exact wpAny_bind (wpAny_mkInt (wpAny_pure ⟨_, rfl, h⟩))
end
end
section
local macro_rules | `(tactic| walk_at "pad") => `(tactic| skip)
local macro_rules | `(tactic| walk_at "pad") => `(tactic| skip)
local macro_rules | `(tactic| walk_at "pad") => `(tactic| skip)
local macro_rules | `(tactic| walk_at "pad") => `(tactic| skip)
local macro_rules | `(tactic| walk_at "pad") => `(tactic| skip)
local macro_rules | `(tactic| walk_at "pad") => `(tactic| skip)
local macro_rules | `(tactic| walk_at "pad") => `(tactic| skip)
local macro_rules | `(tactic| walk_at "pad") => `(tactic| skip)
local macro_rules | `(tactic| walk_at "pad") => `(tactic| skip)
local macro_rules | `(tactic| walk_at "pad") => `(tactic| skip)
local macro_rules | `(tactic| walk_at "pad") => `(tactic| skip)
local macro_rules | `(tactic| walk_at "pad") => `(tactic| skip)
local macro_rules | `(tactic| walk_at "pad") => `(tactic| skip)
local macro_rules | `(tactic| walk_at "pad") => `(tactic| skip)
local macro_rules | `(tactic| walk_at "pad") => `(tactic| skip)
local macro_rules | `(tactic| walk_at "pad") => `(tactic| skip)
local macro_rules | `(tactic| walk_at "pad") => `(tactic| skip)
local macro_rules | `(tactic| walk_at "pad") => `(tactic| skip)
local macro_rules | `(tactic| walk_at "pad") => `(tactic| skip)
local macro_rules | `(tactic| walk_at "pad") => `(tactic| skip)
local macro_rules | `(tactic| walk_at "pad") => `(tactic| skip)
local macro_rules | `(tactic| walk_at "pad") => `(tactic| skip)
local macro_rules | `(tactic| walk_at "pad") => `(tactic| skip)
local macro_rules | `(tactic| walk_at "pad") => `(tactic| skip)
local macro_rules | `(tactic| walk_at "pad") => `(tactic| skip)
local macro_rules | `(tactic| walk_at "pad") => `(tactic| skip)
local macro_rules | `(tactic| walk_at "pad") => `(tactic| skip)
local macro_rules | `(tactic| walk_at "pad") => `(tactic| skip)
local macro_rules | `(tactic| walk_at "pad") => `(tactic| skip)
local macro_rules | `(tactic| walk_at "pad") => `(tactic| skip)
local macro_rules | `(tactic| walk_at "pad") => `(tactic| skip)
local macro_rules | `(tactic| walk_at "pad") => `(tactic| skip)
local macro_rules | `(tactic| walk_at "pad") => `(tactic| skip)
local macro_rules | `(tactic| walk_at "pad") => `(tactic| skip)
local macro_rules | `(tactic| walk_at "pad") => `(tactic| skip)
local macro_rules | `(tactic| walk_at "pad") => `(tactic| skip)
local macro_rules | `(tactic| walk_at "pad") => `(tactic| skip)
theorem perm_len {ks : List Int} {n : Nat} (h : ks.Perm (rangeKs 0 n)) : ks.length = n := by rw [h.length_eq, rangeKs_length]
theorem ksIn_of_perm {ks : List Int} {n : Nat} (h : ks.Perm (rangeKs 0 n)) : KsIn ks := fun i hi => by
  have hm : ks.getD i 0 ∈ ks := by rw [List.getD_eq_getElem?_getD, List.getElem?_eq_getElem hi]; exact List.getElem_mem hi
  have := mem_rangeKs.mp (h.mem_iff.mp hm)
  rw [perm_len h]
  exact this
theorem sort_len {ks pre hs : List Int} {st : Int} (h : SortP ks pre hs st) : hs.length = ks.length := by
  have := h.1.length_eq
  rwa [rangeKs_length] at this
theorem sort_open {ks pre : List Int} {c : Array UInt8} {st : Int} (h : SortP ks pre (KBw.bInts c) st) : ∃ hs, KBw.bInts c = hs ∧ SortP ks pre hs st ∧ hs.length = ks.length ∧ c.size = ks.length :=
  ⟨_, rfl, h, sort_len h, by rw [← KBw.ints_length]; exact sort_len h⟩
theorem sort_mem {ks pre hs : List Int} {st k : Int} (h : SortP ks pre hs st) (hk : k = 0 + (pre.length : Int)) (hl : pre.length < ((ks.length : Int) - 0).toNat) : k ∈ hs :=
  h.1.mem_iff.mpr (mem_rangeKs.mpr ⟨by omega, by omega⟩)
theorem sort_idx {ks pre hs : List Int} {st k : Int} (h : SortP ks pre hs st) (hk : k = 0 + (pre.length : Int)) (hl : pre.length < ((ks.length : Int) - 0).toNat) : ((hs.idxOf k : Nat) : Int) < (hs.length : Int) := by
  have := List.idxOf_lt_length_iff.mpr (sort_mem h hk hl)
  omega
theorem range_sorted : ∀ (n : Nat) (a : Int), (rangeKs a n).Pairwise (· ≤ ·) := fun n a => by
  refine List.pairwise_iff_getElem.mpr fun i j hi hj hij => ?_
  simp [rangeKs]
  omega
theorem sorted_ne {ks ns : List Int} (h : PermN ks) (hp : ns.Perm ks) (hs : ns.Pairwise (· ≤ ·)) (hn : ¬ rangeKs 0 ks.length = ns) : False :=
  hn ((hp.trans h).symm.eq_of_pairwise (fun _ _ _ _ => Int.le_antisymm) (range_sorted _ _) hs)
theorem sw_open {ks : List Int} {c : Array UInt8} {i j : Int} (hc : KBw.bInts c = swapL ks i.toNat j.toNat) (h : PermN ks) (i0 : 0 ≤ i) (i1 : i < ks.length) (j0 : 0 ≤ j) (j1 : j < ks.length) (hij : i ≠ j) :
    ∃ hs, KBw.bInts c = hs ∧ hs.length = ks.length ∧ KsIn hs ∧ (if (rings hs hs.length : Int) - rings ks ks.length < 0 then -((rings hs hs.length : Int) - rings ks ks.length) else (rings hs hs.length : Int) - rings ks ks.length) = 1 ∧ ((wv hs : Int) - wv ks).fmod 2 = 1 := by
  have e := pl_exch h (i := i.toNat) (j := j.toNat) (by omega) (by omega) (by omega)
  have hl : (swapL ks i.toNat j.toNat).length = ks.length := by simp [swapL]
  exact ⟨_, hc, hl, ksIn_of_perm (pl_swapPerm h (by omega) (by omega) (by omega)), by split <;> omega, e.2⟩
theorem low_bnd {s k : Int} (h : 0 < k) : 0 ≤ s.fmod k ∧ s.fmod k < k := ⟨Int.fmod_nonneg_of_pos _ h, Int.fmod_lt_of_pos _ h⟩
theorem low_of {ks sc : List Int} (h : ks.length = min 10 sc.length) (h2 : ¬ (ks.length : Int) < 2) : 0 ≤ sc.sum.fmod ((ks.length : Int) - 1) ∧ sc.sum.fmod ((ks.length : Int) - 1) < (ks.length : Int) - 1 := low_bnd (by omega)
theorem high_of {ks sc : List Int} (h : ks.length = min 10 sc.length) (h2 : ¬ (ks.length : Int) < 2) :
    0 ≤ (sc.sum.fdiv (ks.length : Int)).fmod ((ks.length : Int) - sc.sum.fmod ((ks.length : Int) - 1) - 1) ∧ (sc.sum.fdiv (ks.length : Int)).fmod ((ks.length : Int) - sc.sum.fmod ((ks.length : Int) - 1) - 1) < (ks.length : Int) - sc.sum.fmod ((ks.length : Int) - 1) - 1 := low_bnd (by have := low_of h h2; omega)
theorem clip_in {n : Nat} {i : Int} (h0 : 0 ≤ i) (h1 : i ≤ n) : clipAt n i = i.toNat := by
  have := clipAt_cast n i
  split at this <;> omega
def SegP (ks : List Int) (lo hi : Int) : Prop := ∃ A B C, ks = A ++ B ++ C ∧ ks.take (clipAt ks.length lo) = A ∧ (ks.drop (clipAt ks.length lo)).take (clipAt ks.length hi - clipAt ks.length lo) = B ∧
    (ks.drop (clipAt ks.length hi)).take (ks.length - clipAt ks.length hi) = C ∧ (B.length : Int) = hi - lo ∧ clipAt ks.length lo = A.length ∧ clipAt ks.length hi = A.length + B.length
theorem seg_open {ks : List Int} {lo hi : Int} (h0 : 0 ≤ lo) (h1 : lo + 2 ≤ hi) (h2 : hi ≤ ks.length) : SegP ks lo hi := by
  refine ⟨_, _, _, ?_, rfl, rfl, rfl, ?_, ?_, ?_⟩
  · rw [clip_in h0 (by omega), clip_in (by omega) h2]
    generalize hp : lo.toNat = p
    generalize hq : hi.toNat = q
    have hpq : p ≤ q := by omega
    rw [List.take_of_length_le (l := ks.drop q) (i := ks.length - q) (by rw [List.length_drop]; omega), List.append_assoc]
    have e : (ks.drop p).take (q - p) ++ ks.drop q = ks.drop p := by
      have := List.take_append_drop (q - p) (ks.drop p)
      rw [List.drop_drop, show p + (q - p) = q by omega] at this
      exact this
    rw [e, List.take_append_drop]
  · rw [clip_in h0 (by omega), clip_in (by omega) h2, List.length_take, List.length_drop]
    omega
  · rw [clip_in h0 (by omega), List.length_take]
    omega
  · rw [clip_in h0 (by omega), clip_in (by omega) h2, List.length_take, List.length_take, List.length_drop]
    omega
theorem no4 {x : Int} (h : (if x < 0 then -x else x) = 1) (hn : ¬ (if x < 0 then -x else x) = 1) : False := hn h
theorem no5 {x : Int} (h : x.fmod 2 = 1) (hn : ¬ x.fmod 2 = 1) : False := hn h
theorem seg_of {ks sc : List Int} (h : ks.length = min 10 sc.length) (h2 : ¬ (ks.length : Int) < 2) :
    SegP ks (sc.sum.fmod ((ks.length : Int) - 1)) (sc.sum.fmod ((ks.length : Int) - 1) + 2 + (sc.sum.fdiv (ks.length : Int)).fmod ((ks.length : Int) - sc.sum.fmod ((ks.length : Int) - 1) - 1)) :=
  seg_open (low_of h h2).1 (by have := high_of h h2; omega) (by have := high_of h h2; omega)
theorem seg_min {A B C : List Int} {n a b : Nat} (hn : n = (A ++ B ++ C).length) (ha : a = A.length) (hb : b = A.length + B.length) : ((min (b - a) (n - a) : Nat) : Int) = B.length := by
  simp at hn
  omega
theorem c_swap2 (b : Array UInt8) (tb : Tok) (ks : List Int) (hb : KBw.bInts b = ks) (hn : ks.length ≤ 10) (hn2 : 1 ≤ ks.length) (n : Int) (hw : n = ks.length) (tw : Tok) : ClaimG 10 21 [.bytes b tb, .int n tw] (BytesR ks.reverse) := by
  subst hw
  exact c_swap b tb ks hb hn hn2 tw
theorem g_arg {M : Model} {A : Around} {E : Value → Shared → Prop} {s : Shared} {env : Env} {pos : Pos} {e : Expr} {rest : List Expr} {Q : List Value → Shared → Prop}
    (h : wpG M A (eval e env) (fun v s₁ => wpG M A (spliced (backTo pos (starEach rest env))) (fun vs s₂ => Q (v :: vs) s₂) E s₁) E s)
    (he : starEach (e :: rest) env = (false, eval e env) :: starEach rest env := by rfl) : wpG M A (spliced (backTo pos (starEach (e :: rest) env))) Q E s := by
  rw [he]
  exact g_spliced_cons h
theorem idx_in {ks l : List Int} (hn : ks.length ≤ 10) : KBa.In (l.map fun k => ((ks.idxOf k : Nat) : Int)) := fun n h => by
  obtain ⟨k, _, rfl⟩ := List.mem_map.mp h
  have := List.idxOf_le_length (a := k) (l := ks)
  omega
theorem enter_looks2 {M : Model} {A : Around} {s : Shared} {f : Value} {pos : List Value} {c : ClaimW} {cl : Str → Option Addr} {mean : ExcName → Option Value} {args : List WData}
    (hn : ∀ cls, c.raises args cls = false) (hp : c.post args (.bool true) args = true) (hg : s.gens = #[])
    (h : (∀ h tk, (∀ b o, s.heap.get? b = some o → h.get? b = some o) → GoodW c cl mean args s (.ok (.ret (.bool true))) { s with heap := h, toks := tk }) → codeG M A (.call f ⟨pos, []⟩) (GoodWG c cl mean args s) s) :
    wpAny M A (looks (PySem.call f pos []) (pure (.bool true))) (fun v s' => GoodWG c cl mean args s (.ok (.ret v)) s') (fun e s' => GoodWG c cl mean args s (.error e) s') s := by
  have good : ∀ h tk, (∀ b o, s.heap.get? b = some o → h.get? b = some o) → GoodW c cl mean args s (.ok (.ret (.bool true))) { s with heap := h, toks := tk } := fun h tk k =>
    ⟨.inl ⟨_, .bool true, [], rfl, hn, .bool true, hp, fun _ => ⟨List.nodup_nil, fun _ h => nomatch h⟩⟩, k, rfl, hg⟩
  exact enter_looks (GoodW.toG (good s.heap s.toks fun _ _ e => e)) (h good)
theorem ex_lo {s k : Int} {p : Nat} (hk : k = 1 + (p : Int)) : 0 ≤ k - 1 - s.fmod k := by have := @low_bnd s k (by omega); omega
theorem ex_hi {s k : Int} {p n : Nat} (hk : k = 1 + (p : Int)) (hl : p < ((n : Int) - 1).toNat) : k - 1 - s.fmod k < n := by have := @low_bnd s k (by omega); omega
theorem ex_ne {s k : Int} {p : Nat} (hk : k = 1 + (p : Int)) : k - 1 - s.fmod k ≠ k := by have := @low_bnd s k (by omega); omega
theorem srt0 {ks : List Int} {c : Array UInt8} (hc : KBw.bInts c = ks) (h : PermN ks) : c.size = ks.length ∧ SortP ks [] (KBw.bInts c) 0 := by
  subst hc
  exact ⟨(KBw.ints_length _).symm, pl_sort0 h⟩
theorem srt1 {ks pre hs : List Int} {c : Array UInt8} {st k : Int} (hc : KBw.bInts c = hs) (h : SortP ks pre hs st) (hk : k = 0 + (pre.length : Int)) (he : hs.getD k.toNat 0 = k) : c.size = ks.length ∧ SortP ks (pre ++ [k]) (KBw.bInts c) st := by
  subst hc
  exact ⟨by rw [← KBw.ints_length]; exact sort_len h, pl_sort1 h hk he⟩
theorem srt2 {ks pre hs : List Int} {c : Array UInt8} {st k : Int} (hc : KBw.bInts c = swapL hs k.toNat ((hs.idxOf k : Nat) : Int).toNat) (h : SortP ks pre hs st) (hk : k = 0 + (pre.length : Int)) (hl : pre.length < ((ks.length : Int) - 0).toNat) (he : ¬ hs.getD k.toNat 0 = k) :
    c.size = ks.length ∧ SortP ks (pre ++ [k]) (KBw.bInts c) (st + 1) := by
  have h2 := pl_sort2 h hk (by omega) he
  have e : ((hs.idxOf k : Nat) : Int).toNat = hs.idxOf k := by omega
  rw [e] at hc
  rw [hc]
  exact ⟨by rw [← KBw.ints_length, hc]; exact sort_len h2, h2⟩
local macro_rules | `(tactic| walk_at "getMethod bytes") => `(tactic| (k_dflt (k_here; refine bx_method ?_)))
local macro_rules | `(tactic| walk_at "call builtin:bytes.index") => `(tactic| (k_dflt (k_here; (with_reducible show wpAny _ _ (call (Value.builtin "bytes.index") [Value.bytes _ _, Value.int _ _]) _ _ _); (refine' bx_index ?b ?m ?_; (case b => first | assumption | exact rfl); (case m => walk_at "mem")))))
theorem mem_rng {ks : List Int} {k : Int} (h : PermN ks) (h0 : 0 ≤ k) (h1 : k < 0 + (((ks.length : Int) - 0).toNat : Int)) : k ∈ ks := h.mem_iff.mpr (mem_rangeKs.mpr ⟨h0, by omega⟩)
local macro_rules | `(tactic| walk_at "mem") => `(tactic| first | exact mem_rng (by with_reducible assumption) (by with_reducible assumption) (by with_reducible assumption) | assumption | exact sort_mem (by assumption) (by assumption) (by assumption) | exact (by assumption : PermN _).mem_iff.mpr (mem_rangeKs.mpr ⟨by omega, by omega⟩))
local macro_rules | `(tactic| walk_at "bnd") => `(tactic| first | assumption | omega | exact sort_idx (by assumption) (by assumption) (by assumption) | walk_at "bnd2")
local macro_rules | `(tactic| walk_at "bnd2") => `(tactic| first | exact ex_lo (by assumption) | exact ex_hi (by assumption) (by assumption) | exact ex_ne (by assumption))
local macro_rules | `(tactic| walk_at "InvPostN") => `(tactic| first | exact (no4 (by assumption) (by assumption)).elim | exact (no5 (by assumption) (by assumption)).elim)
local macro_rules | `(tactic| walk_at "exfacts") => `(tactic| ((have hX := sw_open (by assumption) (by assumption) (by walk_at "bnd") (by walk_at "bnd") (by walk_at "bnd") (by walk_at "bnd") (by walk_at "bnd")); obtain ⟨hs9, hX1, hX2, hX3, hX4, hX5⟩ := hX))
local macro_rules | `(tactic| walk_at "call ref") => `(tactic| (k_dflt (k_here; (with_reducible show wpAny _ _ (call (Value.ref 67) [Value.bytes _ _, Value.int _ _, Value.int _ _]) _ _ _); (refine' c_ex _ _ _ ?cb ?cn _ _ _ _ ?i0 ?i1 ?j0 ?j1 _ _ _ _ _ _ _ _ _ _ _ _ _ _ _ _ _ _ _ _ _ _ ?B ?F ?X ?N ?T ?hk ?hd ?hu ?hH ?_; walk_at "back0"; (case hH => trivial); (case cb => first | assumption | exact rfl); (case cn => walk_at "bnd"); (case i0 => walk_at "bnd"); (case i1 => walk_at "bnd"); (case j0 => walk_at "bnd"); (case j1 => walk_at "bnd")); (intro v' h' tk' hP' F' N'; obtain ⟨b', t', hv', hb'⟩ := hP'; subst hv'; (try walk_at "exfacts")))))
local macro_rules | `(tactic| walk_at "call ref") => `(tactic| (k_dflt (k_here; (with_reducible show wpAny _ _ (call (Value.ref 46) [Value.ref _]) _ _ _); (refine' c_order _ _ _ ?ci ?cn _ _ _ _ _ _ _ _ _ _ _ _ _ _ _ _ _ _ _ _ _ _ ?B ?F ?X ?N ?T ?hk ?hd ?hu ?hH ?_; walk_at "back0"; (case hH => assumption); (case ci => assumption); (case cn => omega)); (intro v' h' tk' hP' F' N'; obtain ⟨b', t', ks', hv', hb', hks'⟩ := hP'; subst hv'; walk_at "permfacts"))))
local macro_rules | `(tactic| walk_at "call ref") => `(tactic| (k_dflt (k_here; (with_reducible show wpAny _ _ (call (Value.ref 53) [Value.bytes _ _]) _ _ _); (refine' c_wrong _ _ _ ?cb ?cn _ _ _ _ _ _ _ _ _ _ _ _ _ _ _ _ _ _ _ _ _ _ ?B ?F ?X ?N ?T ?hk ?hd ?hu ?hH ?_; walk_at "back0"; (case hH => trivial); (case cb => assumption); (case cn => first | omega | (simp only [List.length_append, List.length_reverse]; omega) | (simp only [List.length_map, rangeKs_length]; omega))); (intro v' h' tk' hP' F' N'; obtain ⟨t', hv'⟩ := hP'; subst hv'))))
local macro_rules | `(tactic| walk_at "call ref") => `(tactic| (k_dflt (k_here; (with_reducible show wpAny _ _ (call (Value.ref 60) [Value.bytes _ _]) _ _ _); (refine' c_rings _ _ _ ?cb ?cn ?ck _ _ _ _ _ _ _ _ _ _ _ _ _ _ _ _ _ _ _ _ _ _ ?B ?F ?X ?N ?T ?hk ?hd ?hu ?hH ?_; walk_at "back0"; (case hH => trivial); (case cb => assumption); (case cn => omega); (case ck => first | assumption | exact ksIn_of_perm (by assumption))); (intro v' h' tk' hP' F' N'; obtain ⟨t', hv'⟩ := hP'; subst hv'))))
local macro_rules | `(tactic| walk_at "permfacts") => `(tactic| (have hlen' := perm_len (by assumption)))
theorem small_wv {ks : List Int} {n : Nat} (h : ks.Perm (rangeKs 0 n)) (hn : (ks.length : Int) < 2) : ((wv ks : Int) == 0) = true := by
  match ks, hn with
  | [], _ => rfl
  | [a], _ => rfl
  | a :: b :: r, hn => simp at hn; omega
theorem small_rings {ks : List Int} {n : Nat} (h : ks.Perm (rangeKs 0 n)) (hn : (ks.length : Int) < 2) : ((rings ks ks.length : Int) == (ks.length : Int)) = true := by
  match ks, hn with
  | [], _ => rfl
  | [a], _ => simp [rings]
  | a :: b :: r, hn => simp at hn; omega
local macro_rules | `(tactic| walk_at "call type:list") => `(tactic| (k_dflt (k_here; (with_reducible show wpAny _ _ (call (Value.type "list") [Value.bytes _ _]) _ _ _); (refine' list_bytes_N ?F ?N ?h ?b ?n ?_; (case F => k_asm); (case N => k_asm); (case h => exact rfl); (case b => assumption); (case n => first | (rw [rangeKs_length]; omega) | omega)); intro D' vs' c' h' tk' hI' F' N' l1; (try k_lt l1); (try k_sweep))))
local macro_rules | `(tactic| walk_at "call builtin:sorted") => `(tactic| (k_dflt (k_here; (with_reducible show wpAny _ _ (call (Value.builtin "sorted") [Value.bytes _ _]) _ _ _); (refine' sorted_bytes_N ?F ?N ?h ?b ?n ?_; (case F => k_asm); (case N => k_asm); (case h => exact rfl); (case b => assumption); (case n => omega)); intro D' vs' ns' c' h' tk' hI' hp' hw' F' N' l1; (try k_lt l1); (try k_sweep))))
local macro_rules | `(tactic| walk_at "call builtin:len") => `(tactic| (k_dflt (k_here; (with_reducible show wpAny _ _ (call (Value.builtin "len") [Value.ref _]) _ _ _); (refine' kst_len ?k1 ?k2 ?k3 ?k4 ?_; (case k1 => k_asm); (case k2 => exact List.Mem.head _); (case k3 => assumption); (case k4 => omega)))))
set_option maxRecDepth 100000 in
set_option maxHeartbeats 8000000 in
theorem holds : PySem.Challenge.rw_zz0001_01.Holds := by
  k_with_none
  w_top off
  (k_with "state" => first | exact srt0 (by assumption) (by assumption) | exact srt1 (by assumption) (by assumption) (by assumption) (by assumption) | exact srt2 (by assumption) (by assumption) (by assumption) (by assumption) (by assumption))
  refine hd ?_
  k_fill
  intro w s₀ s₁ mg mb G Y fa o pm cd doc dV kV ho hd hcd hD hmg hg args vals as hpre hlay hrd hwl hlo
  have KX := kIn_of Y
  have X := (Ground.X G).1
  have V := (Ground.X G).2
  try w_nolog (first | (have GL := glob_more (Ground.glob G (by first | k_qdec | decide +kernel) (by first | k_qdec | decide +kernel)) V) | (have GL := glob_more (Ground.glob G (by decide +kernel)) V))
  refine Ground.open G ?_
  intro T B D TE TW
  try (refine guard_noD D (by decide +kernel) ?_; clear D)
  obtain ⟨_, _, M⟩ := bmod_of_top T
  have TA := at_of_top T
  try (obtain ⟨_, _, he, B0⟩ := based_of_top T rfl hmg ho hd; have he' : cd = _ := he; subst he'; clear he)
  clear hmg
  wrow_args hpre hlay hrd hwl hlo
  refine enter_looks2 (raisesW_false ?_) ?_ hg fun hgood => ?_
  · wrow_none_raised
  · wrow_post
  refine cg_mono ?_ (fun _ _ g => GoodW.toG g)
  have K0 := below_caller (Top.heap T)
  have he := Dflts.none hD rfl
  subst he
  have he2 := Dflts.noKw hD
  subst he2
  refine cg_cellsN (by decide) ho (fd_plain hd) (Top.nolimit T) hcd rfl (kinds_of (by kinds_ok)) (by decide) fun h₁ tk₁ cells F N0 X0 => ?_
  cells_open X0
  clear hd TA
  k_drop
  refine g_execs_cons (g_any ?_)
  k_fold
  repeat' ((fail_if_success (with_reducible show wpAny _ _ (call (Value.ref _) _) _ _ _)); (first | (k_unfold; (try dsimp only)) | (k_end; wrow_close) | walk1 | (dsimp only; walk1) | (leave1; walk_say "STEP leave1"; try dsimp only)))
  k_dflt (refine' c_order _ _ _ ?ci ?cn _ _ _ _ _ _ _ _ _ _ _ _ _ _ _ _ _ _ _ _ _ _ ?B ?F ?X ?N ?T ?hk ?hd ?hu ?hH ?_)
  (case B => k_asm); (case F => k_asm); (case X => k_asm); (case N => k_asm); (case T => k_asm)
  (case hk => first | exact rfl | assumption)
  (case hd => first | omega | ((try simp only [depth_mark, depth_under_make, depth_under_kw, depth_in1, depth_deeper, depth_caller]); (try dsimp only [ktrTop]); omega) | ktr_room)
  (case hu => first | omega | ((try simp only [units_in1, units_deeper, Around.mark_units, units_caller]); (try dsimp only [ktrTop]); omega) | ktr_units)
  (case hH => assumption); (case ci => assumption); (case cn => omega)
  intro v' h' tk' hP' F' N'
  obtain ⟨b, tb, ks, rfl, hb, hks⟩ := hP'
  have hlen := perm_len hks
  k_steps
  refine g_execs_cons (g_any ?_); k_fold; k_steps
  refine g_execs_cons (g_any ?_); k_fold; repeat' (first | (k_unfold; (try dsimp only)) | walk1 | (dsimp only; walk1) | (leave1; walk_say "STEP leave1"; try dsimp only))
  · --{
    rw [small_rings hks (by assumption)]
    dsimp only
    exact hgood _ _ (Fr.keep (by with_reducible assumption))
    --}
  · --{
    rw [small_wv hks (by assumption)]
    dsimp only
    exact hgood _ _ (Fr.keep (by with_reducible assumption))
    --}
  refine g_execs_cons (g_any ?_)
  k_fold
  repeat' ((fail_if_success (with_reducible show wpAny _ _ (eval (Expr.ListComp _ _ _ _) _) _ _ _)); (first | (k_unfold; (try dsimp only)) | (k_end; wrow_close) | walk1 | (dsimp only; walk1) | (leave1; walk_say "STEP leave1"; try dsimp only)))
  k_dflt (refine nest_comp (by k_asm) (fun i j => decide (ks.getD i 0 < ks.getD j 0)) (by with_unfolding_all rfl) (by decide) (by rfl) (by decide) (by rfl) (by rfl) (by decide) (by intro _; rfl) (by intro _ _; rfl) ?_)
  k_fold
  k_steps
  refine ⟨_, _, _, _, ks.length, _, rfl, rfl, by omega, (by k_asm), (by k_asm), (by assumption), ?_, ?_, ?_⟩
  · --{
    intro i t C oC h tk m₂ E' hi hoC hxi F1 N1 off
    k_fold
    k_steps
    exact ⟨_, _, _, _, _, _, rfl, rfl, by assumption, by assumption⟩
    --}
  · --{
    intro i j t u C oC h tk m₂ E' hi hj hoC hxi hyj F1 N1 off
    k_fold
    k_steps
    exact ⟨rfl, _, _, rfl, fun _ _ e => e⟩
    --}
  intro D h tk zs F1 N1 off hz
  have htot := tot_le (fun i j => decide (ks.getD i 0 < ks.getD j 0)) ks.length (by omega)
  have hpn : PermN ks := by rw [← hlen] at hks; exact hks
  rw [pl_tot hpn] at hz htot
  have hpar := pl_par hpn
  k_steps
  refine g_execs_cons (g_any ?_); k_fold; k_steps
  refine g_execs_cons (g_any ?_); k_fold; k_steps
  refine g_execs_cons (g_any ?_)
  k_fold
  repeat' ((fail_if_success (with_reducible show wpAny _ _ (pyIter _) _ _ _)); (first | (k_unfold; (try dsimp only)) | (k_end; wrow_close) | walk1 | (dsimp only; walk1) | (leave1; walk_say "STEP leave1"; try dsimp only)))
  k_state (fun pre here steps => here.size = ks.length ∧ SortP ks pre (KBw.bInts here) steps) "here" "steps"
  · --{
    (rename SortP _ _ _ _ => hS)
    obtain ⟨hs, hbh, hS', hsl, hcs⟩ := sort_open hS
    clear hS
    k_steps
    --}
  · (try dsimp only)
    (try k_unfold)
    (try dsimp only)
    (rename SortP _ _ _ _ => hS)
    obtain ⟨hs, hbh, hS', hsl, hcs⟩ := sort_open hS
    clear hS
    obtain ⟨hE, hst⟩ := pl_sortE hS' (by rw [rangeKs_length]; omega)
    clear hS'
    subst hE
    refine g_execs_cons (g_any ?_); k_fold; repeat' (first | (k_unfold; (try dsimp only)) | walk1 | (dsimp only; walk1) | (leave1; walk_say "STEP leave1"; try dsimp only))
    · exact absurd hst (by assumption)
    rotate_left
    · exact (sorted_ne hpn (by assumption) (by assumption) (by assumption)).elim
    refine g_execs_cons (g_any ?_)
    k_fold
    repeat' ((fail_if_success (with_reducible show wpAny _ _ (pyIter _) _ _ _)); (first | (k_unfold; (try dsimp only)) | (k_end; wrow_close) | walk1 | (dsimp only; walk1) | (leave1; walk_say "STEP leave1"; try dsimp only)))
    k_search (fun pre => True)
    · --{
      repeat' (first | (k_unfold; (try dsimp only)) | walk1 | (dsimp only; walk1) | (leave1; walk_say "STEP leave1"; try dsimp only))
      --}
    (try dsimp only)
    (try k_unfold)
    (try dsimp only)
    refine g_execs_cons (g_any ?_); k_fold; repeat' (first | (k_unfold; (try dsimp only)) | walk1 | (dsimp only; walk1) | (leave1; walk_say "STEP leave1"; try dsimp only))
    have hlow := low_of hlen (by assumption)
    have hhigh := high_of hlen (by assumption)
    obtain ⟨A, B, C, hABC, hA, hB, hC, hBl, hcA, hcB⟩ := seg_of hlen (by assumption)
    refine g_execs_cons (g_any ?_); k_fold; repeat' (first | (k_unfold; (try dsimp only)) | walk1 | (dsimp only; walk1) | (leave1; walk_say "STEP leave1"; try dsimp only))
    refine g_execs_cons (g_any ?_); k_fold; repeat' (first | (k_unfold; (try dsimp only)) | walk1 | (dsimp only; walk1) | (leave1; walk_say "STEP leave1"; try dsimp only))
    refine g_execs_cons (g_Assign_Name ?_)
    refine g_BinOp (g_BinOp (g_any ?_))
    k_fold
    repeat' (first | (k_unfold; (try dsimp only)) | walk1 | (dsimp only; walk1) | (leave1; walk_say "STEP leave1"; try dsimp only))
    refine g_Call ?_
    k_fold
    repeat' (first | (k_unfold; (try dsimp only)) | walk1 | (dsimp only; walk1) | (leave1; walk_say "STEP leave1"; try dsimp only))
    refine g_callWith_K (K := hd.heap_39 w.params) ?kk9 ?_
    case kk9 => k_is
    refine g_any ?_
    k_fold
    repeat' (first | (k_unfold; (try dsimp only)) | walk1 | (dsimp only; walk1) | (leave1; walk_say "STEP leave1"; try dsimp only))
    k_dflt (refine' c_swap2 _ _ B ?cb ?cn ?cn2 _ ?cw _ _ _ _ _ _ _ _ _ _ _ _ _ _ _ _ _ _ _ _ _ _ _ ?B ?F ?X ?N ?T ?hk ?hd ?hu ?hH ?_)
    walk_at "back0"
    (case hH => trivial)
    (case cb => exact Eq.trans (by assumption) hB)
    (case cn => omega)
    (case cn2 => omega)
    (case cw => exact seg_min (congrArg List.length hABC) hcA hcB)
    intro v' h' tk' hP' F' N'
    obtain ⟨bT, tT, rfl, hbT⟩ := hP'
    (try dsimp only)
    repeat' (first | (k_unfold; (try dsimp only)) | walk1 | (dsimp only; walk1) | (leave1; walk_say "STEP leave1"; try dsimp only))
    have hAl : ks.length = A.length + B.length + C.length := (congrArg List.length hABC).trans (by simp only [List.length_append])
    k_dflt (refine KBa.add_K (Eq.trans (by assumption) hA) hbT (by (try rw [List.length_reverse]); omega) ?_)
    intro tU kU hAB
    (try dsimp only)
    repeat' (first | (k_unfold; (try dsimp only)) | walk1 | (dsimp only; walk1) | (leave1; walk_say "STEP leave1"; try dsimp only))
    refine g_any ?_
    k_fold
    repeat' (first | (k_unfold; (try dsimp only)) | walk1 | (dsimp only; walk1) | (leave1; walk_say "STEP leave1"; try dsimp only))
    k_dflt (refine KBa.add_K hAB (Eq.trans (by assumption) hC) (by (try simp only [List.length_append, List.length_reverse]); omega) ?_)
    intro tV kV hAC
    (try dsimp only)
    repeat' (first | (k_unfold; (try dsimp only)) | walk1 | (dsimp only; walk1) | (leave1; walk_say "STEP leave1"; try dsimp only))
    have hPB := Eq.trans (by assumption : KBw.bInts (KBy.picked b (some _) (some _)) = _) hB
    have hsg := pl_seg (A := A) (B := B) (C := C) (by rw [← hABC]; exact permN_nodup hpn)
    rw [← hABC] at hsg
    have hrv := pl_seg (A := []) (B := ks) (C := []) (by simpa using permN_nodup hpn)
    simp only [List.nil_append, List.append_nil] at hrv
    have hrw : (wv ks.reverse : Int) = ((ks.length : Int) * ((ks.length : Int) - 1)).fdiv 2 - wv ks := by omega
    clear hrv
    have hin := pl_inv hpn
    refine g_execs_cons (g_any ?_); k_fold; repeat' (first | (k_unfold; (try dsimp only)) | walk1 | (dsimp only; walk1) | (leave1; walk_say "STEP leave1"; try dsimp only))
    · exact absurd hsg (by assumption)
    refine g_execs_cons (g_If (g_isTrue_Compare1 (g_Call ?_)))
    k_fold
    repeat' (first | (k_unfold; (try dsimp only)) | walk1 | (dsimp only; walk1) | (leave1; walk_say "STEP leave1"; try dsimp only))
    refine g_callWith_K (K := hd.heap_39 w.params) ?kk9 ?_
    case kk9 => k_is
    refine g_arg ?_
    refine g_Call ?_
    k_fold
    repeat' (first | (k_unfold; (try dsimp only)) | walk1 | (dsimp only; walk1) | (leave1; walk_say "STEP leave1"; try dsimp only))
    refine g_callWith_K (K := hd.heap_39 w.params) ?kk9 ?_
    case kk9 => k_is
    refine g_any ?_
    k_fold
    repeat' (first | (k_unfold; (try dsimp only)) | walk1 | (dsimp only; walk1) | (leave1; walk_say "STEP leave1"; try dsimp only))
    k_dflt (refine' c_swap2 _ _ ks ?cb ?cn ?cn2 _ ?cw _ _ _ _ _ _ _ _ _ _ _ _ _ _ _ _ _ _ _ _ _ _ _ ?B ?F ?X ?N ?T ?hk ?hd ?hu ?hH ?_)
    walk_at "back0"
    (case hH => trivial)
    (case cb => assumption)
    (case cn => omega)
    (case cn2 => omega)
    (case cw => rfl)
    intro v' h' tk' hP' F' N'
    obtain ⟨bY, tY, rfl, hbY⟩ := hP'
    (try dsimp only)
    refine g_any ?_
    k_fold
    repeat' (first | (k_unfold; (try dsimp only)) | walk1 | (dsimp only; walk1) | (leave1; walk_say "STEP leave1"; try dsimp only))
    refine g_any ?_
    k_fold
    repeat' (first | (k_unfold; (try dsimp only)) | walk1 | (dsimp only; walk1) | (leave1; walk_say "STEP leave1"; try dsimp only))
    · exact absurd hrw (by assumption)
    refine g_any ?_
    k_fold
    repeat' (first | (k_unfold; (try dsimp only)) | walk1 | (dsimp only; walk1) | (leave1; walk_say "STEP leave1"; try dsimp only))
    refine g_execs_cons (g_any ?_)
    k_fold
    repeat' ((fail_if_success (with_reducible show wpAny _ _ (call (Value.type "bytes") _) _ _ _)); (first | (k_unfold; (try dsimp only)) | (k_end; wrow_close) | walk1 | (dsimp only; walk1) | (leave1; walk_say "STEP leave1"; try dsimp only)))
    k_dflt (refine' KBa.make_K ?kbaF ?kbaN ?kbah ?kbal ?kbai ?kbar ?kban ?_)
    case kbaF => k_asm
    case kbaN => k_asm
    case kbah => exact rfl
    case kbal => kba_isList
    case kbai => assumption
    case kbar => exact idx_in (by omega)
    case kban => (simp only [List.length_map, rangeKs_length]; omega)
    intro _ _ _ F' N' kbaIn
    have hbz := KBa.ints_make kbaIn
    repeat' (first | (k_unfold; (try dsimp only)) | walk1 | (dsimp only; walk1) | (leave1; walk_say "STEP leave1"; try dsimp only))
    rw [Int.sub_zero, Int.toNat_natCast, hin, beq_self_eq_true]
    (try dsimp only)
    exact hgood _ _ (Fr.keep (by with_reducible assumption))
end
end Mine
set_option maxRecDepth 100000 in
set_option maxHeartbeats 8000000 in
theorem PySem.Challenge.cw_zz0001_01_holds : PySem.Challenge.rw_zz0001_01.Holds := by
  exact Mine.holds

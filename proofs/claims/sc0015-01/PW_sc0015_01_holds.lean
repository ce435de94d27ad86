import PyProof.Rows.All
import Wide.All
import OpenK.AllK
import Wide.FinOn
import PySem.Challenge.RW_sc0015_01
open PySem PySem.W PyProof.Rows PySem.Calls PySem.Spec
set_option Elab.async false
set_option maxRecDepth 100000
set_option maxHeartbeats 8000000
set_option rowWalk.seconds 0
namespace Mine
/-- the text without the two rows that say its name -/
def view : Program := { PySem.Challenge.pw_sc0015_01 with main := { PySem.Challenge.pw_sc0015_01.main with body := (PySem.Challenge.pw_sc0015_01.main.body.drop 1).take 12 ++ PySem.Challenge.pw_sc0015_01.main.body.drop 14 } }
local macro_rules | `(tactic| o_head $H) => `(tactic| (refine holds_open (q := view) (loose := []) (Xt := fun s => xlAt view [] s && recOk (RowW.records (OpenRow.toRowW (OpenLaw.row PySem.Challenge.rw_sc0015_01))) s) (XP := XL view []) (Yf := Hook.obs $H) (Ya := Hook.val $H) (YP := Hook.says $H) (N := 1356) ?hl (Hook.of $H) (Hook.keeps $H) (fun s e => xl_of s (Bool.and_eq_true_iff.mp e).1) XL.keeps (by rfl) (by rfl) (by rfl) (fun s e => recFacts_of (Bool.and_eq_true_iff.mp e).2) (by rfl) (by first | assumption | decide +kernel) (by decide +kernel) ⟨rfl, rfl, rfl, rfl, rfl, by decide +kernel⟩ ?hw ?hc; (case hl => (intro w; kernel_rfl))))
open_top hd for PySem.Challenge.rw_sc0015_01
/-- h' is h but for what lies at l, where o lies now -/
def HUpd (h h' : Heap) (l : Addr) (o : Obj) : Prop := h'.get? l = some o ∧ ∀ b x, b ≠ l → h.get? b = some x → h'.get? b = some x

abbrev PR : Program := PySem.Challenge.rw_sc0015_01.row.prog
abbrev TopM (mean : ExcName → Option Value) (mg mb : Str → Option Value) (h : Heap) : Prop := Top view (looseW view []) mean mg mb h

/-- entering a def of the text: what lies outside the ledger is kept in the base g -/
theorem def_enter {w : World} {A A₀ : Around} {s : Shared} {K : Frag} {L : Addr} {h₀ base : Heap} {m mg mb : Str → Option Value} {news : List (Addr × Obj)} {p : Program} {loose : List Str} {mean : ExcName → Option Value}
    {env : Env} {outer : List Env} {R : Result → Shared → Prop} {name qual : Str} {params : Arguments} {body : List Stmt} {scope : Scope} {dV kV doc pm cdv ct oc : Value} {an od : Option Addr} {osl : Array (Option Value)} {f : Addr} {args : Args} {binds : List (Str × Value)} {prog : Program}
    (B : Below A₀ base outer h₀) (F : Fr h₀ L s.heap m) (X₀ : K.In h₀) (N : News h₀ L s.heap news) (T : Top p loose mean mg mb h₀) (hA : A.frames = some (env :: outer)) (hf : env.frame = some L) (hke : env.scope.kind = .function)
    (ho : K.lookup f = some ⟨oc, od, .func (fnOf name qual params body scope dV kV doc pm an cdv ct), osl⟩) (hcd : codeIn K cdv qual = true) (hroom : A.depth < recursionLimit)
    (hbind : BindsTo s (fnOf name qual params body scope dV kV doc pm an cdv ct) args binds) (hloc : ∀ y ∈ binds, scope.names.lookup y.1 = some .local)
    (h : ∀ g L' h₁, (∀ b o, b ∉ news.map (·.1) → s.heap.get? b = some o → g.get? b = some o) → (∀ p ∈ news, p.1 < L') → Fr g L' h₁ (fun y => binds.reverse.lookup y) → News g L' h₁ news → Below A base (env :: outer) g → K.In g → Top p loose mean mg mb g →
      wpAny (model prog w) (A.deeper (envOf qual scope L' f cdv)) (execs body (envOf qual scope L' f cdv))
        (fun fl s' => R (.ok (.ret (match fl with | .ret v => v | _ => .none))) s')
        (fun e s' => wpAny (model prog w) (A.deeper (envOf qual scope L' f cdv)) (leaving (envOf qual scope L' f cdv) e) (fun _ s'' => R (.error e) s'') (fun e' s'' => R (.error e') s'') s')
        { s with heap := h₁, toks := s.toks + binds.length })
    (hco : scope.isCoroutine = false) (hgen : scope.isGenerator = false) (hk : scope.kind = .function)
    (hcell : ∀ x ∈ scope.names, x.2 ≠ .cell) : codeAny (model prog w) A (.call (.ref f) args) R s := by
  have nm : ∀ b o, h₀.get? b = some o → b ∉ news.map (·.1) := fun b o e q => by
    obtain ⟨p, hp, rfl⟩ := List.mem_map.mp q
    rw [(N p hp).2.2] at e; cases e
  have st : h₀.StaysIn (hideAll s.heap (news.map (·.1))) := fun b o e => hideAll_get _ (F.keep b o e) (nm b o e)
  obtain ⟨oL, es, ep, hL, hLd, hLk, hLf⟩ := F.ns
  have nL : L ∉ news.map (·.1) := fun q => by
    obtain ⟨p, hp, e⟩ := List.mem_map.mp q
    exact (N p hp).2.1 e
  have B₁ := pushX B F hf hke
  have BG : Below A base (env :: outer) (hideAll s.heap (news.map (·.1))) := ⟨hA, fun b o e => st b o (B.stays b o e), funFrames_hideAll B₁.frames fun env' he b hb hf' => by
    cases he with
    | head => exact nL ((Option.some.inj (hf.symm.trans hf') : L = b) ▸ hb)
    | tail _ he =>
      obtain ⟨L₁, o₁, hf₁, ho₁⟩ := funFrames_in B.frames env' he
      rw [hf₁] at hf'
      exact nm L₁ o₁ ho₁ ((Option.some.inj hf' : L₁ = b) ▸ hb)⟩
  refine codeAny_call_def (fd := fnOf name qual params body scope dV kV doc pm an cdv ct) (body := body) (binds := binds) hroom ((X₀.keeps F.keep) _ _ ho) rfl (T.nolimit.keeps F.keep) (codeRec_of (X₀.keeps F.keep) hcd) rfl hbind hcell hloc (fun h₁ hns hk₁ => ?_) hco hgen hk
  exact h _ s.heap.objs.size h₁ (fun b o hb e => hideAll_get _ e hb) (fun p hp => Heap.lt_size (N p hp).1) ⟨hns, fun b o e => hk₁ b o (of_hideAll _ e), Nat.le_of_eq (hideAll_size _ _)⟩
    (fun p hp => ⟨hk₁ _ _ (N p hp).1, Nat.ne_of_lt (Heap.lt_size (N p hp).1), hideAll_none _ (List.mem_map_of_mem hp)⟩) BG (X₀.keeps st) (T.keeps st)

/-- a def that changes one list of ints: what it leaves there and hands back -/
def MutC (w : World) (mean : ExcName → Option Value) (mg mb : Str → Option Value) (k : Nat) (f : Addr) (args : Addr → List Value) (hs : List Int) (Out : List Int → Value → Prop) : Prop :=
  ∀ (dp un : Nat) (gd : Option (List Code)) (cn : Str) (cs : Scope) (a : Addr) (ccd : Value) (cl : List (Str × Addr)) (outer : List Env) (A₀ : Around) (base h₀ : Heap) (L : Addr) (m : Str → Option Value) (s : Shared) (Q E : Value → Shared → Prop)
    (l : Addr) (vs : List Value) (n : Nat),
    Below A₀ base outer h₀ → Fr h₀ L s.heap m → (hd.heap_39 w.params).In h₀ → News h₀ L s.heap [(l, listOf vs.toArray n)] → TopM mean mg mb h₀ → cs.kind = .function →
    dp + k < recursionLimit → un + 8 * k < cLine → IntsAre vs hs →
    (∀ h' tk' vs' hs' n' v, HUpd s.heap h' l (listOf vs'.toArray n') → IntsAre vs' hs' → Out hs' v → Q v { s with heap := h', toks := tk' }) →
    wpAny (model PR w) (ktrTop dp un gd cn cs L a ccd cl outer) (call (.ref f) (args l)) Q E s

theorem hupd_of {s : Shared} {l : Addr} {g h' : Heap} {L' : Addr} {m : Str → Option Value} {o o' : Obj} (hg : ∀ b x, ¬ b ∈ List.map (fun x => x.fst) [(l, o)] → s.heap.get? b = some x → g.get? b = some x) (F : Fr g L' h' m) (N : News g L' h' [(l, o')]) : HUpd s.heap h' l o' :=
  ⟨(N _ (.head _)).1, fun b x hb e => F.keep b x (hg b x (by simpa using hb) e)⟩
theorem hupd_fr {h₀ h h' : Heap} {L l : Addr} {m : Str → Option Value} {o' : Obj} (F : Fr h₀ L h m) (hL : l ≠ L) (hn : h₀.get? l = none) (H : HUpd h h' l o') : Fr h₀ L h' m := by
  obtain ⟨oL, es, ep, e, r⟩ := F.ns
  refine ⟨⟨oL, es, ep, H.2 _ _ (Ne.symm hL) e, r⟩, fun b o q => H.2 _ _ (fun z => ?_) (F.keep b o q), F.above⟩
  rw [z, hn] at q; cases q
theorem hupd_news {h₀ h h' : Heap} {L l : Addr} {o o' : Obj} {news : List (Addr × Obj)} {G : Obj → List (Addr × Obj)} (N : News h₀ L h news) (U : UpdF l o news G) (H : HUpd h h' l o') : News h₀ L h' (G o') := by
  obtain ⟨pre, post, rfl, hG, a, b⟩ := U.split
  rw [hG]
  have z := N (l, o) (List.mem_append.mpr (.inr (.head _)))
  intro p hp
  rcases List.mem_append.mp hp with hp | hp
  · exact ⟨H.2 _ _ (a p hp) (N p (List.mem_append_left _ hp)).1, (N p (List.mem_append_left _ hp)).2⟩
  · rcases List.mem_cons.mp hp with rfl | hp
    · exact ⟨H.1, z.2⟩
    · have N' := N p (List.mem_append_right _ (.tail _ hp))
      exact ⟨H.2 _ _ (b p hp) N'.1, N'.2⟩
theorem mut_use {w : World} {mean : ExcName → Option Value} {mg mb : Str → Option Value} {k : Nat} {f : Addr} {args : Addr → List Value} {hs : List Int} {Out : List Int → Value → Prop}
    {dp un : Nat} {gd : Option (List Code)} {cn : Str} {cs : Scope} {a : Addr} {ccd : Value} {cl : List (Str × Addr)} {outer : List Env} {A₀ : Around} {base h₀ : Heap} {L : Addr} {m : Str → Option Value} {s : Shared} {Q E : Value → Shared → Prop}
    {l : Addr} {vs : List Value} {n : Nat} {news : List (Addr × Obj)} {G : Obj → List (Addr × Obj)} (C : MutC w mean mg mb k f args hs Out)
    (B : Below A₀ base outer h₀) (F : Fr h₀ L s.heap m) (X : (hd.heap_39 w.params).In h₀) (N : News h₀ L s.heap news) (T : TopM mean mg mb h₀) (hk : cs.kind = .function) (U : UpdF l (listOf vs.toArray n) news G)
    (hd : dp + k < recursionLimit) (hu : un + 8 * k < cLine) (hi : IntsAre vs hs)
    (ret : ∀ h' tk' vs' hs' n' v, Fr h₀ L h' m → News h₀ L h' (G (listOf vs'.toArray n')) → IntsAre vs' hs' → Out hs' v → Q v { s with heap := h', toks := tk' }) :
    wpAny (model PR w) (ktrTop dp un gd cn cs L a ccd cl outer) (call (.ref f) (args l)) Q E s := by
  have z : News h₀ L s.heap [(l, listOf vs.toArray n)] := by
    obtain ⟨pre, post, rfl, hG, a, b⟩ := U.split
    intro p hp
    rw [List.mem_singleton.mp hp]
    exact N _ (List.mem_append.mpr (.inr (.head _)))
  have zz := z _ (.head _)
  exact C _ _ _ _ _ _ _ _ _ _ _ _ _ _ _ _ _ _ _ _ B F X z T hk hd hu hi fun h' tk' vs' hs' n' v H hi' ho => ret h' tk' vs' hs' n' v (hupd_fr F zz.2.1 zz.2.2 H) (hupd_news N U H) hi' ho
theorem ints_to {vs : List Value} {a b : List Int} (h : IntsAre vs a) (e : a = b) : IntsAre vs b := e ▸ h

theorem lt_cons {a D : Nat} {o : Obj} {r : List (Addr × Obj)} (h : ∀ p ∈ ((a, o) : Addr × Obj) :: r, p.1 < D) : a < D ∧ ∀ p ∈ r, p.1 < D := ⟨h _ (.head _), fun p hp => h p (.tail _ hp)⟩

theorem fill : PySem.Challenge.rw_sc0015_01.Holds → hd.heap_39 = hd.heap_39 := by
  k_fill
  intro _
  rfl
local macro_rules | `(tactic| walk_at $s:str) => `(tactic| k_extra $s)

local macro_rules | `(tactic| k_ne) => `(tactic| (refine neN ?_; (try dsimp only); first | (with_reducible assumption) | (with_reducible exact Nat.ne_of_lt (by assumption)) | (with_reducible exact Nat.ne_of_gt (by assumption)) | (with_reducible exact Ne.symm (by assumption)) | omega))
local macro_rules | `(tactic| k_lt $h:ident) => `(tactic| repeat ((have hlz := (lt_cons $h).1); replace $h := (lt_cons $h).2))

def sdN (lt : Int → Int → Bool) (x : Int) (i : Nat) (hs : List Int) (j : Nat) : List Int :=
  if i < j then (if lt x (hs.getD ((j - 1) / 2) 0) then sdN lt x i (hs.set j (hs.getD ((j - 1) / 2) 0)) ((j - 1) / 2) else hs.set j x) else hs.set j x
termination_by j
decreasing_by omega

theorem sd_start {lt : Int → Int → Bool} {x : Int} {i : Nat} {hs : List Int} {j : Int} (h0 : 0 ≤ j) (h1 : j < hs.length) : 0 ≤ j ∧ j < hs.length ∧ hs.length = hs.length ∧ sdN lt x i hs j.toNat = sdN lt x i hs j.toNat := ⟨h0, h1, rfl, rfl⟩
theorem sd_turn {lt : Int → Int → Bool} {x : Int} {i pos : Int} {hp hs R : List Int} (h0 : 0 ≤ pos) (hi : 0 ≤ i) (hlt : i < pos) (h1 : pos < hp.length) (hl : hp.length = hs.length) (hR : sdN lt x i.toNat hp pos.toNat = R) (hb : lt x (hp.getD ((pos - 1) / 2).toNat 0) = true) :
    0 ≤ (pos - 1) / 2 ∧ (pos - 1) / 2 < (hp.set pos.toNat (hp.getD ((pos - 1) / 2).toNat 0)).length ∧ (hp.set pos.toNat (hp.getD ((pos - 1) / 2).toNat 0)).length = hs.length ∧ sdN lt x i.toNat (hp.set pos.toNat (hp.getD ((pos - 1) / 2).toNat 0)) ((pos - 1) / 2).toNat = R := by
  refine ⟨by omega, by rw [List.length_set]; omega, by rw [List.length_set]; exact hl, ?_⟩
  rw [sdN] at hR
  have e : ((pos - 1) / 2).toNat = (pos.toNat - 1) / 2 := by omega
  rw [if_pos (by omega), ← e, if_pos hb] at hR
  exact hR
theorem sd_stop {lt : Int → Int → Bool} {x : Int} {i pos : Int} {hp R : List Int} (hi : 0 ≤ i) (h0 : 0 ≤ pos) (h : ¬ i < pos ∨ lt x (hp.getD ((pos - 1) / 2).toNat 0) = false) (hR : sdN lt x i.toNat hp pos.toNat = R) : hp.set pos.toNat x = R := by
  rw [sdN] at hR
  by_cases h1 : i < pos
  · have e : ((pos - 1) / 2).toNat = (pos.toNat - 1) / 2 := by omega
    rw [if_pos (by omega), ← e, if_neg (by rcases h with h | h; exact absurd h1 h; rw [h]; decide)] at hR
    exact hR
  · rw [if_neg (by omega)] at hR
    exact hR
theorem sdN_length (lt : Int → Int → Bool) (x : Int) (i : Nat) : ∀ (j : Nat) (hs : List Int), (sdN lt x i hs j).length = hs.length := by
  intro j
  induction j using Nat.strongRecOn with
  | ind j ih =>
    intro hs
    rw [sdN]
    split
    · split
      · rw [ih _ (by omega), List.length_set]
      · rw [List.length_set]
    · rw [List.length_set]

abbrev ltA : Int → Int → Bool := fun a b => decide (a < b)
abbrev ltB : Int → Int → Bool := fun a b => decide (b < a)
theorem sd_c (w : World) (mean : ExcName → Option Value) (mg mb : Str → Option Value) {hs : List Int} {i j : Int} (t u : Tok) (hi0 : 0 ≤ i) (hj0 : 0 ≤ j) (hj : j < hs.length) (hlen : hs.length < 2 ^ 60) :
    MutC w mean mg mb 1 77 (fun l => [.ref l, .int i t, .int j u]) hs (fun hs' v => hs' = sdN ltA (hs.getD j.toNat 0) i.toNat hs j.toNat ∧ v = .none) := by
  unfold MutC
  intro dp un gd cn cs a ccd cl outer A₀ base h₀ L m s Q E l vs n B F X N T hk hd hu hi hret
  w_top off
  k_with_none
  k_with "mine enter" => (refine' def_enter ?zr1k1 ?zr1k2 ?zr1k3 ?zr1k4 ?zr1k5 ?zr1kA ?zr1kF ?zr1kK ?zr1k6 ?zr1k7 ?zr1k8 ?zr1k9 ?zr1kB ?_ ?zr1c2 ?zr1c3 ?zr1c4 ?zr1c5; (case zr1kA => exact rfl); (case zr1kF => exact rfl); (case zr1kK => assumption); (case zr1k1 => k_asm); (case zr1k2 => k_asm); (case zr1k3 => k_asm); (case zr1k4 => k_asm); (case zr1k5 => k_asm); (case zr1k6 => k_is); (case zr1k7 => k_is); (case zr1k8 => ktr_room); (case zr1k9 => exact BindsTo.of_eq rfl); (case zr1c5 => decide); (case zr1kB => exact locs rfl); (case zr1c2 => exact rfl); (case zr1c3 => exact rfl); (case zr1c4 => exact rfl); k_whole)
  k_with "binaryOp RShift int int" => (k_here; (with_reducible refine PySem.wpAny_rshift1_int ?zr2kb1 ?_); (case zr2kb1 => omega))
  k_with "mine cj" => (with_reducible (rename @Ne Nat _ _ ∧ _ => zhcj)); have _ := zhcj.1; replace zhcj := zhcj.2
  k_with "mine go" => (repeat (first | walk_at "mine cj" | (k_unfold; (try dsimp only)) | walk_at "mine fold" | walk1 | (dsimp only; walk1)))
  k_with "mine fold" => ((with_reducible show wpAny _ _ (exec _ _) _ _ _); k_fold)
  k_with "mine go2" => (repeat (first | walk_at "mine cj" | (k_unfold; (try dsimp only)) | walk_at "mine fold" | walk_at "mine fold2" | walk1 | (dsimp only; walk1)))
  k_with "mine fold2" => ((fail_if_success (fail_if_success k_fold)); (with_reducible show wpAny _ _ _ (fun _ _ => wpAny _ _ _ _ _ _) _ _); k_fold)
  refine wpAny_call ?_
  k_dflt (walk_at "mine enter")
  intro g L' h' hg hlt F' N' B' X' T'
  (try dsimp only); (try k_fold)
  clear F N B
  k_with "exec While Compare cons nil" => k_while (fun script pos heap => 0 ≤ pos ∧ pos < heap.length ∧ heap.length = hs.length ∧ sdN ltA (hs.getD j.toNat 0) i.toNat heap pos.toNat = sdN ltA (hs.getD j.toNat 0) i.toNat hs j.toNat) (fun script pos heap => pos.toNat) "pos" "heap"
  k_with "state" => first | exact sd_start hj0 hj | exact sd_turn (by assumption) hi0 (by assumption) (by assumption) (by assumption) (by assumption) (by exact decide_eq_true (by assumption))
  k_steps
  all_goals exact hret _ _ _ _ _ _ (hupd_of hg (by assumption) (by assumption)) (by assumption) ⟨sd_stop (i := i) (lt := ltA) hi0 (by assumption) (by first | exact Or.inl (by assumption) | exact Or.inr (decide_eq_false (by assumption))) (by assumption), rfl⟩
theorem sdx_c (w : World) (mean : ExcName → Option Value) (mg mb : Str → Option Value) {hs : List Int} {i j : Int} (t u : Tok) (hi0 : 0 ≤ i) (hj0 : 0 ≤ j) (hj : j < hs.length) (hlen : hs.length < 2 ^ 60) :
    MutC w mean mg mb 1 91 (fun l => [.ref l, .int i t, .int j u]) hs (fun hs' v => hs' = sdN ltB (hs.getD j.toNat 0) i.toNat hs j.toNat ∧ v = .none) := by
  unfold MutC
  intro dp un gd cn cs a ccd cl outer A₀ base h₀ L m s Q E l vs n B F X N T hk hd hu hi hret
  w_top off
  k_with_none
  k_with "mine enter" => (refine' def_enter ?zr1k1 ?zr1k2 ?zr1k3 ?zr1k4 ?zr1k5 ?zr1kA ?zr1kF ?zr1kK ?zr1k6 ?zr1k7 ?zr1k8 ?zr1k9 ?zr1kB ?_ ?zr1c2 ?zr1c3 ?zr1c4 ?zr1c5; (case zr1kA => exact rfl); (case zr1kF => exact rfl); (case zr1kK => assumption); (case zr1k1 => k_asm); (case zr1k2 => k_asm); (case zr1k3 => k_asm); (case zr1k4 => k_asm); (case zr1k5 => k_asm); (case zr1k6 => k_is); (case zr1k7 => k_is); (case zr1k8 => ktr_room); (case zr1k9 => exact BindsTo.of_eq rfl); (case zr1c5 => decide); (case zr1kB => exact locs rfl); (case zr1c2 => exact rfl); (case zr1c3 => exact rfl); (case zr1c4 => exact rfl); k_whole)
  k_with "binaryOp RShift int int" => (k_here; (with_reducible refine PySem.wpAny_rshift1_int ?zr2kb1 ?_); (case zr2kb1 => omega))
  k_with "mine cj" => (with_reducible (rename @Ne Nat _ _ ∧ _ => zhcj)); have _ := zhcj.1; replace zhcj := zhcj.2
  k_with "mine go" => (repeat (first | walk_at "mine cj" | (k_unfold; (try dsimp only)) | walk_at "mine fold" | walk1 | (dsimp only; walk1)))
  k_with "mine fold" => ((with_reducible show wpAny _ _ (exec _ _) _ _ _); k_fold)
  k_with "mine go2" => (repeat (first | walk_at "mine cj" | (k_unfold; (try dsimp only)) | walk_at "mine fold" | walk_at "mine fold2" | walk1 | (dsimp only; walk1)))
  k_with "mine fold2" => ((fail_if_success (fail_if_success k_fold)); (with_reducible show wpAny _ _ _ (fun _ _ => wpAny _ _ _ _ _ _) _ _); k_fold)
  refine wpAny_call ?_
  k_dflt (walk_at "mine enter")
  intro g L' h' hg hlt F' N' B' X' T'
  (try dsimp only); (try k_fold)
  clear F N B
  k_with "exec While Compare cons nil" => k_while (fun script pos heap => 0 ≤ pos ∧ pos < heap.length ∧ heap.length = hs.length ∧ sdN ltB (hs.getD j.toNat 0) i.toNat heap pos.toNat = sdN ltB (hs.getD j.toNat 0) i.toNat hs j.toNat) (fun script pos heap => pos.toNat) "pos" "heap"
  k_with "state" => first | exact sd_start hj0 hj | exact sd_turn (by assumption) hi0 (by assumption) (by assumption) (by assumption) (by assumption) (by exact decide_eq_true (by assumption))
  k_steps
  all_goals exact hret _ _ _ _ _ _ (hupd_of hg (by assumption) (by assumption)) (by assumption) ⟨sd_stop (i := i) (lt := ltB) hi0 (by assumption) (by first | exact Or.inl (by assumption) | exact Or.inr (decide_eq_false (by assumption))) (by assumption), rfl⟩

def chN (lt : Int → Int → Bool) (hs : List Int) (pos : Nat) : Nat :=
  if 2 * pos + 2 < hs.length ∧ lt (hs.getD (2 * pos + 1) 0) (hs.getD (2 * pos + 2) 0) = false then 2 * pos + 2 else 2 * pos + 1
theorem chN_lt (lt : Int → Int → Bool) (hs : List Int) (pos : Nat) : pos < chN lt hs pos := by unfold chN; split <;> omega
theorem chN_len (lt : Int → Int → Bool) (hs : List Int) (pos : Nat) (h : 2 * pos + 1 < hs.length) : chN lt hs pos < hs.length := by
  unfold chN
  split
  · rename_i q; exact q.1
  · exact h
def suDn (lt : Int → Int → Bool) (hs : List Int) (pos : Nat) : List Int × Nat :=
  if 2 * pos + 1 < hs.length then suDn lt (hs.set pos (hs.getD (chN lt hs pos) 0)) (chN lt hs pos) else (hs, pos)
termination_by hs.length - pos
decreasing_by
  have := chN_lt lt hs pos
  rw [List.length_set]
  omega
@[irreducible] def suN (lt : Int → Int → Bool) (hs : List Int) (pos : Nat) : List Int :=
  sdN lt (((suDn lt hs pos).1.set (suDn lt hs pos).2 (hs.getD pos 0)).getD (suDn lt hs pos).2 0) pos ((suDn lt hs pos).1.set (suDn lt hs pos).2 (hs.getD pos 0)) (suDn lt hs pos).2
theorem suDn_length (lt : Int → Int → Bool) : ∀ (n : Nat) (hs : List Int) (pos : Nat), hs.length - pos ≤ n → (suDn lt hs pos).1.length = hs.length := by
  intro n
  induction n with
  | zero =>
    intro hs pos h
    rw [suDn, if_neg (by omega)]
  | succ n ih =>
    intro hs pos h
    rw [suDn]
    split
    · have := chN_lt lt hs pos
      rw [ih _ _ (by rw [List.length_set]; omega), List.length_set]
    · rfl
theorem suN_length (lt : Int → Int → Bool) (hs : List Int) (pos : Nat) : (suN lt hs pos).length = hs.length := by
  unfold suN
  rw [sdN_length, List.length_set, suDn_length lt _ hs pos (Nat.le_refl _)]

theorem su_start {lt : Int → Int → Bool} {hs : List Int} {j : Int} (h0 : 0 ≤ j) (h1 : j < hs.length) : 0 ≤ j ∧ j < hs.length ∧ hs.length = hs.length ∧ 2 * j + 1 = 2 * j + 1 ∧ suDn lt hs j.toNat = suDn lt hs j.toNat := ⟨h0, h1, rfl, rfl, rfl⟩
theorem su_turnR {lt : Int → Int → Bool} {pos c : Int} {hp hs : List Int} {R : List Int × Nat} (h0 : 0 ≤ pos) (hl : hp.length = hs.length) (hc : c = 2 * pos + 1) (hR : suDn lt hp pos.toNat = R) (hlt : c < hs.length) (hr : c + 1 < hs.length) (hb : lt (hp.getD c.toNat 0) (hp.getD (c + 1).toNat 0) = false) :
    0 ≤ c + 1 ∧ c + 1 < (hp.set pos.toNat (hp.getD (c + 1).toNat 0)).length ∧ (hp.set pos.toNat (hp.getD (c + 1).toNat 0)).length = hs.length ∧ 2 * (c + 1) + 1 = 2 * (c + 1) + 1 ∧ suDn lt (hp.set pos.toNat (hp.getD (c + 1).toNat 0)) (c + 1).toNat = R := by
  refine ⟨by omega, by rw [List.length_set]; omega, by rw [List.length_set]; exact hl, rfl, ?_⟩
  rw [suDn] at hR
  have e1 : c.toNat = 2 * pos.toNat + 1 := by omega
  have e2 : (c + 1).toNat = 2 * pos.toNat + 2 := by omega
  rw [e1, e2] at hb
  have e : chN lt hp pos.toNat = 2 * pos.toNat + 2 := by unfold chN; rw [if_pos ⟨by omega, hb⟩]
  rw [if_pos (by omega), e] at hR
  rw [e2]
  exact hR
theorem su_turnL {lt : Int → Int → Bool} {pos c : Int} {hp hs : List Int} {R : List Int × Nat} (h0 : 0 ≤ pos) (hl : hp.length = hs.length) (hc : c = 2 * pos + 1) (hR : suDn lt hp pos.toNat = R) (hlt : c < hs.length) (hb : ¬ c + 1 < hs.length ∨ lt (hp.getD c.toNat 0) (hp.getD (c + 1).toNat 0) = true) :
    0 ≤ c ∧ c < (hp.set pos.toNat (hp.getD c.toNat 0)).length ∧ (hp.set pos.toNat (hp.getD c.toNat 0)).length = hs.length ∧ 2 * c + 1 = 2 * c + 1 ∧ suDn lt (hp.set pos.toNat (hp.getD c.toNat 0)) c.toNat = R := by
  refine ⟨by omega, by rw [List.length_set]; omega, by rw [List.length_set]; exact hl, rfl, ?_⟩
  rw [suDn] at hR
  have e1 : c.toNat = 2 * pos.toNat + 1 := by omega
  have e2 : (c + 1).toNat = 2 * pos.toNat + 2 := by omega
  rw [e1, e2] at hb
  have e : chN lt hp pos.toNat = 2 * pos.toNat + 1 := by
    unfold chN
    rw [if_neg]
    rintro ⟨q1, q2⟩
    rcases hb with h | h
    · omega
    · rw [q2] at h; cases h
  rw [if_pos (by omega), e] at hR
  rw [e1]
  exact hR
theorem su_stop {lt : Int → Int → Bool} {pos c : Int} {hp hs : List Int} {R : List Int × Nat} (h0 : 0 ≤ pos) (hl : hp.length = hs.length) (hc : c = 2 * pos + 1) (hR : suDn lt hp pos.toNat = R) (hlt : ¬ c < hs.length) : hp = R.1 ∧ pos.toNat = R.2 := by
  rw [suDn, if_neg (by omega)] at hR
  rw [← hR]
  exact ⟨rfl, rfl⟩
theorem su_fin {lt : Int → Int → Bool} {pos c j : Int} {hp hs : List Int} (h0 : 0 ≤ pos) (hl : hp.length = hs.length) (hc : c = 2 * pos + 1) (hR : suDn lt hp pos.toNat = suDn lt hs j.toNat) (hlt : ¬ c < hs.length) :
    sdN lt ((hp.set pos.toNat (hs.getD j.toNat 0)).getD pos.toNat 0) j.toNat (hp.set pos.toNat (hs.getD j.toNat 0)) pos.toNat = suN lt hs j.toNat := by
  obtain ⟨e1, e2⟩ := su_stop h0 hl hc hR hlt
  unfold suN
  rw [← e1, ← e2]
theorem su_c (w : World) (mean : ExcName → Option Value) (mg mb : Str → Option Value) {hs : List Int} {j : Int} (t : Tok) (hj0 : 0 ≤ j) (hj : j < hs.length) (hlen : hs.length < 2 ^ 59) :
    MutC w mean mg mb 2 84 (fun l => [.ref l, .int j t]) hs (fun hs' v => hs' = suN ltA hs j.toNat ∧ v = .none) := by
  unfold MutC
  intro dp un gd cn cs a ccd cl outer A₀ base h₀ L m s Q E l vs n B F X N T hk hd hu hi hret
  w_top off
  k_with_none
  k_with "mine enter" => (refine' def_enter ?zr8k1 ?zr8k2 ?zr8k3 ?zr8k4 ?zr8k5 ?zr8kA ?zr8kF ?zr8kK ?zr8k6 ?zr8k7 ?zr8k8 ?zr8k9 ?zr8kB ?_ ?zr8c2 ?zr8c3 ?zr8c4 ?zr8c5; (case zr8kA => exact rfl); (case zr8kF => exact rfl); (case zr8kK => assumption); (case zr8k1 => k_asm); (case zr8k2 => k_asm); (case zr8k3 => k_asm); (case zr8k4 => k_asm); (case zr8k5 => k_asm); (case zr8k6 => k_is); (case zr8k7 => k_is); (case zr8k8 => ktr_room); (case zr8k9 => exact BindsTo.of_eq rfl); (case zr8c5 => decide); (case zr8kB => exact locs rfl); (case zr8c2 => exact rfl); (case zr8c3 => exact rfl); (case zr8c4 => exact rfl); k_whole)
  k_with "binaryOp RShift int int" => (k_here; (with_reducible refine PySem.wpAny_rshift1_int ?zr9kb1 ?_); (case zr9kb1 => omega))
  k_with "mine cj" => (with_reducible (rename @Ne Nat _ _ ∧ _ => zhcj)); have _ := zhcj.1; replace zhcj := zhcj.2
  k_with "mine go" => (repeat (first | walk_at "mine cj" | (k_unfold; (try dsimp only)) | walk_at "mine fold" | walk1 | (dsimp only; walk1)))
  k_with "mine fold" => ((with_reducible show wpAny _ _ (exec _ _) _ _ _); k_fold)
  k_with "mine go2" => (repeat (first | walk_at "mine cj" | (k_unfold; (try dsimp only)) | walk_at "mine fold" | walk_at "mine fold2" | walk1 | (dsimp only; walk1)))
  k_with "mine fold2" => ((fail_if_success (fail_if_success k_fold)); (with_reducible show wpAny _ _ _ (fun _ _ => wpAny _ _ _ _ _ _) _ _); k_fold)
  k_with "mine bnd" => first | with_reducible assumption | omega | ((try simp only [List.length_set, List.length_append, List.length_cons, List.length_nil, List.length_dropLast, sdN_length]); omega)
  k_with "mine ctx" => ((case zctxk1 => k_asm); (case zctxk2 => k_asm); (case zctxk3 => k_asm); (case zctxk4 => k_asm); (case zctxk5 => k_asm); (case zctxkK => first | exact rfl | assumption); (case zctxkU => k_updF); (case zctxkd => ktr_room); (case zctxku => ktr_units); (case zctxki => l_ints))
  k_with "call ref" => (k_here; (with_reducible show wpAny _ _ (call (Value.ref 77) _) _ _ _); k_dflt (refine' mut_use (sd_c _ _ _ _ _ _ ?zctxp1 ?zctxp2 ?zctxp3 ?zctxp4) ?zctxk1 ?zctxk2 ?zctxk3 ?zctxk4 ?zctxk5 ?zctxkK ?zctxkU ?zctxkd ?zctxku ?zctxki ?_; walk_at "mine ctx"; (case zctxp1 => walk_at "mine bnd"); (case zctxp2 => walk_at "mine bnd"); (case zctxp3 => walk_at "mine bnd"); (case zctxp4 => walk_at "mine bnd"); k_whole); intro _ _ _ _ _ _ _ zN' _ zho'; (have ze1 := zho'.1); (have ze2 := zho'.2); clear zho'; subst ze1; subst ze2; (try dsimp only at zN'); (try k_sweep))
  k_with "call ref" => (k_here; (with_reducible show wpAny _ _ (call (Value.ref 91) _) _ _ _); k_dflt (refine' mut_use (sdx_c _ _ _ _ _ _ ?zctxp1 ?zctxp2 ?zctxp3 ?zctxp4) ?zctxk1 ?zctxk2 ?zctxk3 ?zctxk4 ?zctxk5 ?zctxkK ?zctxkU ?zctxkd ?zctxku ?zctxki ?_; walk_at "mine ctx"; (case zctxp1 => walk_at "mine bnd"); (case zctxp2 => walk_at "mine bnd"); (case zctxp3 => walk_at "mine bnd"); (case zctxp4 => walk_at "mine bnd"); k_whole); intro _ _ _ _ _ _ _ zN' _ zho'; (have ze1 := zho'.1); (have ze2 := zho'.2); clear zho'; subst ze1; subst ze2; (try dsimp only at zN'); (try k_sweep))
  refine wpAny_call ?_
  k_dflt (walk_at "mine enter")
  intro g L' h' hg hlt F' N' B' X' T'
  (try dsimp only); (try k_fold)
  clear F N B
  k_with "exec While Compare cons nil" => k_while (fun script pos childpos heap => 0 ≤ pos ∧ pos < heap.length ∧ heap.length = hs.length ∧ childpos = 2 * pos + 1 ∧ suDn ltA heap pos.toNat = suDn ltA hs j.toNat) (fun script pos childpos heap => hs.length - pos.toNat) "pos" "childpos" "heap"
  k_with "state" => first
    | exact su_start hj0 hj
    | exact su_turnR (by assumption) (by assumption) (by assumption) (by assumption) (by assumption) (by assumption) (by exact decide_eq_false (by assumption))
    | exact su_turnL (by assumption) (by assumption) (by assumption) (by assumption) (by assumption) (by first | exact Or.inr (decide_eq_true (by assumption)) | exact Or.inl (by assumption))
  k_steps
  all_goals exact hret _ _ _ _ _ _ (hupd_of hg (by assumption) (by assumption)) (by assumption) ⟨su_fin (by assumption) (by assumption) (by assumption) (by assumption) (by assumption), rfl⟩
theorem sux_c (w : World) (mean : ExcName → Option Value) (mg mb : Str → Option Value) {hs : List Int} {j : Int} (t : Tok) (hj0 : 0 ≤ j) (hj : j < hs.length) (hlen : hs.length < 2 ^ 59) :
    MutC w mean mg mb 2 98 (fun l => [.ref l, .int j t]) hs (fun hs' v => hs' = suN ltB hs j.toNat ∧ v = .none) := by
  unfold MutC
  intro dp un gd cn cs a ccd cl outer A₀ base h₀ L m s Q E l vs n B F X N T hk hd hu hi hret
  w_top off
  k_with_none
  k_with "mine enter" => (refine' def_enter ?zr8k1 ?zr8k2 ?zr8k3 ?zr8k4 ?zr8k5 ?zr8kA ?zr8kF ?zr8kK ?zr8k6 ?zr8k7 ?zr8k8 ?zr8k9 ?zr8kB ?_ ?zr8c2 ?zr8c3 ?zr8c4 ?zr8c5; (case zr8kA => exact rfl); (case zr8kF => exact rfl); (case zr8kK => assumption); (case zr8k1 => k_asm); (case zr8k2 => k_asm); (case zr8k3 => k_asm); (case zr8k4 => k_asm); (case zr8k5 => k_asm); (case zr8k6 => k_is); (case zr8k7 => k_is); (case zr8k8 => ktr_room); (case zr8k9 => exact BindsTo.of_eq rfl); (case zr8c5 => decide); (case zr8kB => exact locs rfl); (case zr8c2 => exact rfl); (case zr8c3 => exact rfl); (case zr8c4 => exact rfl); k_whole)
  k_with "binaryOp RShift int int" => (k_here; (with_reducible refine PySem.wpAny_rshift1_int ?zr9kb1 ?_); (case zr9kb1 => omega))
  k_with "mine cj" => (with_reducible (rename @Ne Nat _ _ ∧ _ => zhcj)); have _ := zhcj.1; replace zhcj := zhcj.2
  k_with "mine go" => (repeat (first | walk_at "mine cj" | (k_unfold; (try dsimp only)) | walk_at "mine fold" | walk1 | (dsimp only; walk1)))
  k_with "mine fold" => ((with_reducible show wpAny _ _ (exec _ _) _ _ _); k_fold)
  k_with "mine go2" => (repeat (first | walk_at "mine cj" | (k_unfold; (try dsimp only)) | walk_at "mine fold" | walk_at "mine fold2" | walk1 | (dsimp only; walk1)))
  k_with "mine fold2" => ((fail_if_success (fail_if_success k_fold)); (with_reducible show wpAny _ _ _ (fun _ _ => wpAny _ _ _ _ _ _) _ _); k_fold)
  k_with "mine bnd" => first | with_reducible assumption | omega | ((try simp only [List.length_set, List.length_append, List.length_cons, List.length_nil, List.length_dropLast, sdN_length]); omega)
  k_with "mine ctx" => ((case zctxk1 => k_asm); (case zctxk2 => k_asm); (case zctxk3 => k_asm); (case zctxk4 => k_asm); (case zctxk5 => k_asm); (case zctxkK => first | exact rfl | assumption); (case zctxkU => k_updF); (case zctxkd => ktr_room); (case zctxku => ktr_units); (case zctxki => l_ints))
  k_with "call ref" => (k_here; (with_reducible show wpAny _ _ (call (Value.ref 77) _) _ _ _); k_dflt (refine' mut_use (sd_c _ _ _ _ _ _ ?zctxp1 ?zctxp2 ?zctxp3 ?zctxp4) ?zctxk1 ?zctxk2 ?zctxk3 ?zctxk4 ?zctxk5 ?zctxkK ?zctxkU ?zctxkd ?zctxku ?zctxki ?_; walk_at "mine ctx"; (case zctxp1 => walk_at "mine bnd"); (case zctxp2 => walk_at "mine bnd"); (case zctxp3 => walk_at "mine bnd"); (case zctxp4 => walk_at "mine bnd"); k_whole); intro _ _ _ _ _ _ _ zN' _ zho'; (have ze1 := zho'.1); (have ze2 := zho'.2); clear zho'; subst ze1; subst ze2; (try dsimp only at zN'); (try k_sweep))
  k_with "call ref" => (k_here; (with_reducible show wpAny _ _ (call (Value.ref 91) _) _ _ _); k_dflt (refine' mut_use (sdx_c _ _ _ _ _ _ ?zctxp1 ?zctxp2 ?zctxp3 ?zctxp4) ?zctxk1 ?zctxk2 ?zctxk3 ?zctxk4 ?zctxk5 ?zctxkK ?zctxkU ?zctxkd ?zctxku ?zctxki ?_; walk_at "mine ctx"; (case zctxp1 => walk_at "mine bnd"); (case zctxp2 => walk_at "mine bnd"); (case zctxp3 => walk_at "mine bnd"); (case zctxp4 => walk_at "mine bnd"); k_whole); intro _ _ _ _ _ _ _ zN' _ zho'; (have ze1 := zho'.1); (have ze2 := zho'.2); clear zho'; subst ze1; subst ze2; (try dsimp only at zN'); (try k_sweep))
  refine wpAny_call ?_
  k_dflt (walk_at "mine enter")
  intro g L' h' hg hlt F' N' B' X' T'
  (try dsimp only); (try k_fold)
  clear F N B
  k_with "exec While Compare cons nil" => k_while (fun script pos childpos heap => 0 ≤ pos ∧ pos < heap.length ∧ heap.length = hs.length ∧ childpos = 2 * pos + 1 ∧ suDn ltB heap pos.toNat = suDn ltB hs j.toNat) (fun script pos childpos heap => hs.length - pos.toNat) "pos" "childpos" "heap"
  k_with "state" => first
    | exact su_start hj0 hj
    | exact su_turnR (by assumption) (by assumption) (by assumption) (by assumption) (by assumption) (by assumption) (by exact decide_eq_false (by assumption))
    | exact su_turnL (by assumption) (by assumption) (by assumption) (by assumption) (by assumption) (by first | exact Or.inr (decide_eq_true (by assumption)) | exact Or.inl (by assumption))
  k_steps
  all_goals exact hret _ _ _ _ _ _ (hupd_of hg (by assumption) (by assumption)) (by assumption) ⟨su_fin (by assumption) (by assumption) (by assumption) (by assumption) (by assumption), rfl⟩

theorem truthy_ints {prog : Program} {w : World} {A : Around} {E : Value → Shared → Prop} {s : Shared} {h₀ : Heap} {L l : Addr} {news : List (Addr × Obj)} {vs : List Value} {hs : List Int} {n : Nat} {Q : Bool → Shared → Prop}
    (N : News h₀ L s.heap news) (hm : (l, listOf vs.toArray n) ∈ news) (hi : IntsAre vs hs) (hz : hs.length < 2 ^ 20) (h : Q (decide (0 < hs.length)) { s with toks := s.toks + 1 + 1 }) : wpAny (model prog w) A (truthy (.ref l)) Q E s := by
  have hl := hi.length
  refine wpAny_truthy_list (PySem.IsL.isList (n := n) (N _ hm).1) ?_ ?_
  · rw [List.size_toArray, hl]
    have e : (2 : Nat) ^ 20 = 1048576 := by decide
    omega
  · have e : (!vs.toArray.isEmpty) = decide (0 < hs.length) := by
      cases hi with
      | nil => rfl
      | cons _ _ _ => simp
    rw [e]
    exact h
theorem len_ints {prog : Program} {w : World} {A : Around} {E : Value → Shared → Prop} {s : Shared} {h₀ : Heap} {L l : Addr} {news : List (Addr × Obj)} {vs : List Value} {hs : List Int} {n : Nat} {Q : Value → Shared → Prop}
    (N : News h₀ L s.heap news) (hm : (l, listOf vs.toArray n) ∈ news) (hi : IntsAre vs hs) (hz : hs.length < 2 ^ 20) (h : Q (.int (hs.length : Nat) (s.toks + 1)) { s with toks := s.toks + 1 + 1 }) : wpAny (model prog w) A (call (.builtin "len") [.ref l]) Q E s := by
  have hl := hi.length
  refine PyProof.Rows.len_list (PySem.IsL.isList (n := n) (N _ hm).1) ?_ ?_
  · rw [List.size_toArray, hl]
    have e : (2 : Nat) ^ 20 = 1048576 := by decide
    omega
  · rw [List.size_toArray, hl]
    exact h

def pushN (lt : Int → Int → Bool) (hs : List Int) (x : Int) : List Int := sdN lt x 0 (hs ++ [x]) hs.length
def popN (lt : Int → Int → Bool) (hs : List Int) : List Int := if 1 < hs.length then suN lt (hs.dropLast.set 0 (hs.getLastD 0)) 0 else []
def popV (hs : List Int) : Int := if 1 < hs.length then hs.dropLast.getD 0 0 else hs.getLastD 0
def replN (lt : Int → Int → Bool) (hs : List Int) (x : Int) : List Int := suN lt (hs.set 0 x) 0
def pushpopN (lt : Int → Int → Bool) (hs : List Int) (x : Int) : List Int := if hs.getD 0 0 < x then suN lt (hs.set 0 x) 0 else hs
def pushpopV (hs : List Int) (x : Int) : Int := if hs.getD 0 0 < x then hs.getD 0 0 else x
theorem push_eq (lt : Int → Int → Bool) (hs : List Int) (x : Int) : sdN lt ((hs ++ [x]).getD ((((hs.length + 1 : Nat) : Int) - 1)).toNat 0) (Int.toNat 0) (hs ++ [x]) ((((hs.length + 1 : Nat) : Int) - 1)).toNat = pushN lt hs x := by
  have e : ((((hs.length + 1 : Nat) : Int) - 1)).toNat = hs.length := by omega
  rw [e]
  unfold pushN
  have e2 : (hs ++ [x]).getD hs.length 0 = x := by simp
  rw [e2]
  rfl
theorem pop_eq1 (lt : Int → Int → Bool) {hs : List Int} (h : 0 < hs.dropLast.length) : suN lt (hs.dropLast.set (Int.toNat 0) (hs.getLastD 0)) (Int.toNat 0) = popN lt hs ∧ hs.dropLast.getD (Int.toNat 0) 0 = popV hs := by
  rw [List.length_dropLast] at h
  unfold popN popV
  rw [if_pos (by omega), if_pos (by omega)]
  exact ⟨rfl, rfl⟩
theorem pop_eq0 (lt : Int → Int → Bool) {hs : List Int} (h : ¬ 0 < hs.dropLast.length) : hs.dropLast = popN lt hs ∧ hs.getLastD 0 = popV hs := by
  have h' := h
  rw [List.length_dropLast] at h
  unfold popN popV
  rw [if_neg (by omega), if_neg (by omega)]
  exact ⟨List.eq_nil_of_length_eq_zero (by omega), rfl⟩
theorem pp_eq1 (lt : Int → Int → Bool) {hs : List Int} {x : Int} (h : hs.getD (Int.toNat 0) 0 < x) : suN lt (hs.set (Int.toNat 0) x) (Int.toNat 0) = pushpopN lt hs x ∧ hs.getD (Int.toNat 0) 0 = pushpopV hs x := by
  unfold pushpopN pushpopV
  have h' : hs.getD 0 0 < x := h
  rw [if_pos h', if_pos h']
  exact ⟨rfl, rfl⟩
theorem pp_eq0 (lt : Int → Int → Bool) {hs : List Int} {x : Int} (h : ¬ hs.getD (Int.toNat 0) 0 < x) : hs = pushpopN lt hs x ∧ x = pushpopV hs x := by
  unfold pushpopN pushpopV
  have h' : ¬ hs.getD 0 0 < x := h
  rw [if_neg h', if_neg h']
  exact ⟨rfl, rfl⟩
theorem int_to {x y : Int} {t : Tok} (e : x = y) : ∃ t', Value.int x t = Value.int y t' := ⟨t, by rw [e]⟩
theorem hupd_sub {s : Shared} {l : Addr} {g h' : Heap} {L' : Addr} {m : Str → Option Value} {o o' : Obj} {news : List (Addr × Obj)} (hg : ∀ b x, ¬ b ∈ List.map (fun x => x.fst) [(l, o)] → s.heap.get? b = some x → g.get? b = some x) (F : Fr g L' h' m) (N : News g L' h' news) (hm : (l, o') ∈ news) : HUpd s.heap h' l o' :=
  ⟨(N _ hm).1, fun b x hb e => F.keep b x (hg b x (by simpa using hb) e)⟩
theorem push_c (w : World) (mean : ExcName → Option Value) (mg mb : Str → Option Value) {hs : List Int} {x : Int} (t : Tok) (hlen : hs.length < 2 ^ 20) :
    MutC w mean mg mb 2 21 (fun l => [.ref l, .int x t]) hs (fun hs' v => hs' = pushN ltA hs x ∧ v = .none) := by
  unfold MutC
  intro dp un gd cn cs a ccd cl outer A₀ base h₀ L m s Q E l vs n B F X N T hk hd hu hi hret
  w_top off
  k_with_none
  k_with "mine enter" => (refine' def_enter ?zr19k1 ?zr19k2 ?zr19k3 ?zr19k4 ?zr19k5 ?zr19kA ?zr19kF ?zr19kK ?zr19k6 ?zr19k7 ?zr19k8 ?zr19k9 ?zr19kB ?_ ?zr19c2 ?zr19c3 ?zr19c4 ?zr19c5; (case zr19kA => exact rfl); (case zr19kF => exact rfl); (case zr19kK => assumption); (case zr19k1 => k_asm); (case zr19k2 => k_asm); (case zr19k3 => k_asm); (case zr19k4 => k_asm); (case zr19k5 => k_asm); (case zr19k6 => k_is); (case zr19k7 => k_is); (case zr19k8 => ktr_room); (case zr19k9 => exact BindsTo.of_eq rfl); (case zr19c5 => decide); (case zr19kB => exact locs rfl); (case zr19c2 => exact rfl); (case zr19c3 => exact rfl); (case zr19c4 => exact rfl); k_whole)
  k_with "binaryOp RShift int int" => (k_here; (with_reducible refine PySem.wpAny_rshift1_int ?zr20kb1 ?_); (case zr20kb1 => omega))
  k_with "mine cj" => (with_reducible (rename @Ne Nat _ _ ∧ _ => zhcj)); have _ := zhcj.1; replace zhcj := zhcj.2
  k_with "mine go" => (repeat (first | walk_at "mine cj" | (k_unfold; (try dsimp only)) | walk_at "mine fold" | walk1 | (dsimp only; walk1)))
  k_with "mine fold" => ((with_reducible show wpAny _ _ (exec _ _) _ _ _); k_fold)
  k_with "mine go2" => (repeat (first | walk_at "mine cj" | (k_unfold; (try dsimp only)) | walk_at "mine fold" | walk_at "mine fold2" | walk1 | (dsimp only; walk1)))
  k_with "mine fold2" => ((fail_if_success (fail_if_success k_fold)); (with_reducible show wpAny _ _ _ (fun _ _ => wpAny _ _ _ _ _ _) _ _); k_fold)
  k_with "mine bnd" => first | with_reducible assumption | omega | ((try simp only [List.length_set, List.length_append, List.length_cons, List.length_nil, List.length_dropLast, sdN_length]); omega)
  k_with "mine ctx" => ((case zctxk1 => k_asm); (case zctxk2 => k_asm); (case zctxk3 => k_asm); (case zctxk4 => k_asm); (case zctxk5 => k_asm); (case zctxkK => first | exact rfl | assumption); (case zctxkU => k_updF); (case zctxkd => ktr_room); (case zctxku => ktr_units); (case zctxki => l_ints))
  k_with "call ref" => (k_here; (with_reducible show wpAny _ _ (call (Value.ref 77) _) _ _ _); k_dflt (refine' mut_use (sd_c _ _ _ _ _ _ ?zctxp1 ?zctxp2 ?zctxp3 ?zctxp4) ?zctxk1 ?zctxk2 ?zctxk3 ?zctxk4 ?zctxk5 ?zctxkK ?zctxkU ?zctxkd ?zctxku ?zctxki ?_; walk_at "mine ctx"; (case zctxp1 => walk_at "mine bnd"); (case zctxp2 => walk_at "mine bnd"); (case zctxp3 => walk_at "mine bnd"); (case zctxp4 => walk_at "mine bnd"); k_whole); intro _ _ _ _ _ _ _ zN' _ zho'; (have ze1 := zho'.1); (have ze2 := zho'.2); clear zho'; subst ze1; subst ze2; (try dsimp only at zN'); (try k_sweep))
  k_with "call ref" => (k_here; (with_reducible show wpAny _ _ (call (Value.ref 91) _) _ _ _); k_dflt (refine' mut_use (sdx_c _ _ _ _ _ _ ?zctxp1 ?zctxp2 ?zctxp3 ?zctxp4) ?zctxk1 ?zctxk2 ?zctxk3 ?zctxk4 ?zctxk5 ?zctxkK ?zctxkU ?zctxkd ?zctxku ?zctxki ?_; walk_at "mine ctx"; (case zctxp1 => walk_at "mine bnd"); (case zctxp2 => walk_at "mine bnd"); (case zctxp3 => walk_at "mine bnd"); (case zctxp4 => walk_at "mine bnd"); k_whole); intro _ _ _ _ _ _ _ zN' _ zho'; (have ze1 := zho'.1); (have ze2 := zho'.2); clear zho'; subst ze1; subst ze2; (try dsimp only at zN'); (try k_sweep))
  k_with "mine bnd" => first | with_reducible assumption | omega | ((try simp only [List.length_set, List.length_append, List.length_cons, List.length_nil, List.length_dropLast, sdN_length, suN_length]); omega)
  k_with "call ref" => (k_here; (with_reducible show wpAny _ _ (call (Value.ref 84) _) _ _ _); k_dflt (refine' mut_use (su_c _ _ _ _ _ ?zctxp1 ?zctxp2 ?zctxp3) ?zctxk1 ?zctxk2 ?zctxk3 ?zctxk4 ?zctxk5 ?zctxkK ?zctxkU ?zctxkd ?zctxku ?zctxki ?_; walk_at "mine ctx"; (case zctxp1 => walk_at "mine bnd"); (case zctxp2 => walk_at "mine bnd"); (case zctxp3 => walk_at "mine bnd"); k_whole); intro _ _ _ _ _ _ _ zN' _ zho'; (have ze1 := zho'.1); (have ze2 := zho'.2); clear zho'; subst ze1; subst ze2; (try dsimp only at zN'); (try k_sweep))
  k_with "call ref" => (k_here; (with_reducible show wpAny _ _ (call (Value.ref 98) _) _ _ _); k_dflt (refine' mut_use (sux_c _ _ _ _ _ ?zctxp1 ?zctxp2 ?zctxp3) ?zctxk1 ?zctxk2 ?zctxk3 ?zctxk4 ?zctxk5 ?zctxkK ?zctxkU ?zctxkd ?zctxku ?zctxki ?_; walk_at "mine ctx"; (case zctxp1 => walk_at "mine bnd"); (case zctxp2 => walk_at "mine bnd"); (case zctxp3 => walk_at "mine bnd"); k_whole); intro _ _ _ _ _ _ _ zN' _ zho'; (have ze1 := zho'.1); (have ze2 := zho'.2); clear zho'; subst ze1; subst ze2; (try dsimp only at zN'); (try k_sweep))
  k_with "call builtin:len" => (k_here; (with_reducible show wpAny _ _ (call (Value.builtin "len") [Value.ref _]) _ _ _); k_dflt (refine' len_ints ?zr33k1 ?zr33k2 ?zr33k3 ?zr33k4 ?_; (case zr33k1 => k_asm); (case zr33k2 => k_mem); (case zr33k3 => l_ints); (case zr33k4 => walk_at "mine bnd"); k_whole))
  k_with "truthy ref" => (k_here; (with_reducible show wpAny _ _ (truthy (Value.ref _)) _ _ _); k_dflt (refine' truthy_ints ?zr34k1 ?zr34k2 ?zr34k3 ?zr34k4 ?_; (case zr34k1 => k_asm); (case zr34k2 => k_mem); (case zr34k3 => l_ints); (case zr34k4 => walk_at "mine bnd")))
  k_with "mine end" => ((try dsimp only); (try (k_unfold; try dsimp only)))
  refine wpAny_call ?_
  k_dflt (walk_at "mine enter")
  intro g L' h' hg hlt F' N' B' X' T'
  (try dsimp only); (try k_fold)
  clear F N B
  have hvl : vs.length = hs.length := hi.length
  k_steps
  all_goals walk_at "mine end"
  all_goals exact hret _ _ _ _ _ _ (hupd_sub hg (by assumption) (by assumption) (by k_mem)) (by assumption) ⟨push_eq _ _ _, rfl⟩
theorem pop_c (w : World) (mean : ExcName → Option Value) (mg mb : Str → Option Value) {hs : List Int}  (hlen : hs.length < 2 ^ 20) (h1 : 1 ≤ hs.length) :
    MutC w mean mg mb 3 28 (fun l => [.ref l]) hs (fun hs' v => hs' = popN ltA hs ∧ ∃ t, v = .int (popV hs) t) := by
  unfold MutC
  intro dp un gd cn cs a ccd cl outer A₀ base h₀ L m s Q E l vs n B F X N T hk hd hu hi hret
  w_top off
  k_with_none
  k_with "mine enter" => (refine' def_enter ?zr19k1 ?zr19k2 ?zr19k3 ?zr19k4 ?zr19k5 ?zr19kA ?zr19kF ?zr19kK ?zr19k6 ?zr19k7 ?zr19k8 ?zr19k9 ?zr19kB ?_ ?zr19c2 ?zr19c3 ?zr19c4 ?zr19c5; (case zr19kA => exact rfl); (case zr19kF => exact rfl); (case zr19kK => assumption); (case zr19k1 => k_asm); (case zr19k2 => k_asm); (case zr19k3 => k_asm); (case zr19k4 => k_asm); (case zr19k5 => k_asm); (case zr19k6 => k_is); (case zr19k7 => k_is); (case zr19k8 => ktr_room); (case zr19k9 => exact BindsTo.of_eq rfl); (case zr19c5 => decide); (case zr19kB => exact locs rfl); (case zr19c2 => exact rfl); (case zr19c3 => exact rfl); (case zr19c4 => exact rfl); k_whole)
  k_with "binaryOp RShift int int" => (k_here; (with_reducible refine PySem.wpAny_rshift1_int ?zr20kb1 ?_); (case zr20kb1 => omega))
  k_with "mine cj" => (with_reducible (rename @Ne Nat _ _ ∧ _ => zhcj)); have _ := zhcj.1; replace zhcj := zhcj.2
  k_with "mine go" => (repeat (first | walk_at "mine cj" | (k_unfold; (try dsimp only)) | walk_at "mine fold" | walk1 | (dsimp only; walk1)))
  k_with "mine fold" => ((with_reducible show wpAny _ _ (exec _ _) _ _ _); k_fold)
  k_with "mine go2" => (repeat (first | walk_at "mine cj" | (k_unfold; (try dsimp only)) | walk_at "mine fold" | walk_at "mine fold2" | walk1 | (dsimp only; walk1)))
  k_with "mine fold2" => ((fail_if_success (fail_if_success k_fold)); (with_reducible show wpAny _ _ _ (fun _ _ => wpAny _ _ _ _ _ _) _ _); k_fold)
  k_with "mine bnd" => first | with_reducible assumption | omega | ((try simp only [List.length_set, List.length_append, List.length_cons, List.length_nil, List.length_dropLast, sdN_length]); omega)
  k_with "mine ctx" => ((case zctxk1 => k_asm); (case zctxk2 => k_asm); (case zctxk3 => k_asm); (case zctxk4 => k_asm); (case zctxk5 => k_asm); (case zctxkK => first | exact rfl | assumption); (case zctxkU => k_updF); (case zctxkd => ktr_room); (case zctxku => ktr_units); (case zctxki => l_ints))
  k_with "call ref" => (k_here; (with_reducible show wpAny _ _ (call (Value.ref 77) _) _ _ _); k_dflt (refine' mut_use (sd_c _ _ _ _ _ _ ?zctxp1 ?zctxp2 ?zctxp3 ?zctxp4) ?zctxk1 ?zctxk2 ?zctxk3 ?zctxk4 ?zctxk5 ?zctxkK ?zctxkU ?zctxkd ?zctxku ?zctxki ?_; walk_at "mine ctx"; (case zctxp1 => walk_at "mine bnd"); (case zctxp2 => walk_at "mine bnd"); (case zctxp3 => walk_at "mine bnd"); (case zctxp4 => walk_at "mine bnd"); k_whole); intro _ _ _ _ _ _ _ zN' _ zho'; (have ze1 := zho'.1); (have ze2 := zho'.2); clear zho'; subst ze1; subst ze2; (try dsimp only at zN'); (try k_sweep))
  k_with "call ref" => (k_here; (with_reducible show wpAny _ _ (call (Value.ref 91) _) _ _ _); k_dflt (refine' mut_use (sdx_c _ _ _ _ _ _ ?zctxp1 ?zctxp2 ?zctxp3 ?zctxp4) ?zctxk1 ?zctxk2 ?zctxk3 ?zctxk4 ?zctxk5 ?zctxkK ?zctxkU ?zctxkd ?zctxku ?zctxki ?_; walk_at "mine ctx"; (case zctxp1 => walk_at "mine bnd"); (case zctxp2 => walk_at "mine bnd"); (case zctxp3 => walk_at "mine bnd"); (case zctxp4 => walk_at "mine bnd"); k_whole); intro _ _ _ _ _ _ _ zN' _ zho'; (have ze1 := zho'.1); (have ze2 := zho'.2); clear zho'; subst ze1; subst ze2; (try dsimp only at zN'); (try k_sweep))
  k_with "mine bnd" => first | with_reducible assumption | omega | ((try simp only [List.length_set, List.length_append, List.length_cons, List.length_nil, List.length_dropLast, sdN_length, suN_length]); omega)
  k_with "call ref" => (k_here; (with_reducible show wpAny _ _ (call (Value.ref 84) _) _ _ _); k_dflt (refine' mut_use (su_c _ _ _ _ _ ?zctxp1 ?zctxp2 ?zctxp3) ?zctxk1 ?zctxk2 ?zctxk3 ?zctxk4 ?zctxk5 ?zctxkK ?zctxkU ?zctxkd ?zctxku ?zctxki ?_; walk_at "mine ctx"; (case zctxp1 => walk_at "mine bnd"); (case zctxp2 => walk_at "mine bnd"); (case zctxp3 => walk_at "mine bnd"); k_whole); intro _ _ _ _ _ _ _ zN' _ zho'; (have ze1 := zho'.1); (have ze2 := zho'.2); clear zho'; subst ze1; subst ze2; (try dsimp only at zN'); (try k_sweep))
  k_with "call ref" => (k_here; (with_reducible show wpAny _ _ (call (Value.ref 98) _) _ _ _); k_dflt (refine' mut_use (sux_c _ _ _ _ _ ?zctxp1 ?zctxp2 ?zctxp3) ?zctxk1 ?zctxk2 ?zctxk3 ?zctxk4 ?zctxk5 ?zctxkK ?zctxkU ?zctxkd ?zctxku ?zctxki ?_; walk_at "mine ctx"; (case zctxp1 => walk_at "mine bnd"); (case zctxp2 => walk_at "mine bnd"); (case zctxp3 => walk_at "mine bnd"); k_whole); intro _ _ _ _ _ _ _ zN' _ zho'; (have ze1 := zho'.1); (have ze2 := zho'.2); clear zho'; subst ze1; subst ze2; (try dsimp only at zN'); (try k_sweep))
  k_with "call builtin:len" => (k_here; (with_reducible show wpAny _ _ (call (Value.builtin "len") [Value.ref _]) _ _ _); k_dflt (refine' len_ints ?zr33k1 ?zr33k2 ?zr33k3 ?zr33k4 ?_; (case zr33k1 => k_asm); (case zr33k2 => k_mem); (case zr33k3 => l_ints); (case zr33k4 => walk_at "mine bnd"); k_whole))
  k_with "truthy ref" => (k_here; (with_reducible show wpAny _ _ (truthy (Value.ref _)) _ _ _); k_dflt (refine' truthy_ints ?zr34k1 ?zr34k2 ?zr34k3 ?zr34k4 ?_; (case zr34k1 => k_asm); (case zr34k2 => k_mem); (case zr34k3 => l_ints); (case zr34k4 => walk_at "mine bnd")))
  k_with "mine end" => ((try dsimp only); (try (k_unfold; try dsimp only)))
  refine wpAny_call ?_
  k_dflt (walk_at "mine enter")
  intro g L' h' hg hlt F' N' B' X' T'
  (try dsimp only); (try k_fold)
  clear F N B
  have hvl : vs.length = hs.length := hi.length
  k_steps
  all_goals walk_at "mine end"
  all_goals exact hret _ _ _ _ _ _ (hupd_sub hg (by assumption) (by assumption) (by k_mem)) (by assumption) (by first | exact ⟨(pop_eq1 ltA (by assumption)).1, int_to (pop_eq1 ltA (by assumption)).2⟩ | exact ⟨(pop_eq0 ltA (by assumption)).1, int_to (pop_eq0 ltA (by assumption)).2⟩)
theorem popx_c (w : World) (mean : ExcName → Option Value) (mg mb : Str → Option Value) {hs : List Int}  (hlen : hs.length < 2 ^ 20) (h1 : 1 ≤ hs.length) :
    MutC w mean mg mb 3 56 (fun l => [.ref l]) hs (fun hs' v => hs' = popN ltB hs ∧ ∃ t, v = .int (popV hs) t) := by
  unfold MutC
  intro dp un gd cn cs a ccd cl outer A₀ base h₀ L m s Q E l vs n B F X N T hk hd hu hi hret
  w_top off
  k_with_none
  k_with "mine enter" => (refine' def_enter ?zr19k1 ?zr19k2 ?zr19k3 ?zr19k4 ?zr19k5 ?zr19kA ?zr19kF ?zr19kK ?zr19k6 ?zr19k7 ?zr19k8 ?zr19k9 ?zr19kB ?_ ?zr19c2 ?zr19c3 ?zr19c4 ?zr19c5; (case zr19kA => exact rfl); (case zr19kF => exact rfl); (case zr19kK => assumption); (case zr19k1 => k_asm); (case zr19k2 => k_asm); (case zr19k3 => k_asm); (case zr19k4 => k_asm); (case zr19k5 => k_asm); (case zr19k6 => k_is); (case zr19k7 => k_is); (case zr19k8 => ktr_room); (case zr19k9 => exact BindsTo.of_eq rfl); (case zr19c5 => decide); (case zr19kB => exact locs rfl); (case zr19c2 => exact rfl); (case zr19c3 => exact rfl); (case zr19c4 => exact rfl); k_whole)
  k_with "binaryOp RShift int int" => (k_here; (with_reducible refine PySem.wpAny_rshift1_int ?zr20kb1 ?_); (case zr20kb1 => omega))
  k_with "mine cj" => (with_reducible (rename @Ne Nat _ _ ∧ _ => zhcj)); have _ := zhcj.1; replace zhcj := zhcj.2
  k_with "mine go" => (repeat (first | walk_at "mine cj" | (k_unfold; (try dsimp only)) | walk_at "mine fold" | walk1 | (dsimp only; walk1)))
  k_with "mine fold" => ((with_reducible show wpAny _ _ (exec _ _) _ _ _); k_fold)
  k_with "mine go2" => (repeat (first | walk_at "mine cj" | (k_unfold; (try dsimp only)) | walk_at "mine fold" | walk_at "mine fold2" | walk1 | (dsimp only; walk1)))
  k_with "mine fold2" => ((fail_if_success (fail_if_success k_fold)); (with_reducible show wpAny _ _ _ (fun _ _ => wpAny _ _ _ _ _ _) _ _); k_fold)
  k_with "mine bnd" => first | with_reducible assumption | omega | ((try simp only [List.length_set, List.length_append, List.length_cons, List.length_nil, List.length_dropLast, sdN_length]); omega)
  k_with "mine ctx" => ((case zctxk1 => k_asm); (case zctxk2 => k_asm); (case zctxk3 => k_asm); (case zctxk4 => k_asm); (case zctxk5 => k_asm); (case zctxkK => first | exact rfl | assumption); (case zctxkU => k_updF); (case zctxkd => ktr_room); (case zctxku => ktr_units); (case zctxki => l_ints))
  k_with "call ref" => (k_here; (with_reducible show wpAny _ _ (call (Value.ref 77) _) _ _ _); k_dflt (refine' mut_use (sd_c _ _ _ _ _ _ ?zctxp1 ?zctxp2 ?zctxp3 ?zctxp4) ?zctxk1 ?zctxk2 ?zctxk3 ?zctxk4 ?zctxk5 ?zctxkK ?zctxkU ?zctxkd ?zctxku ?zctxki ?_; walk_at "mine ctx"; (case zctxp1 => walk_at "mine bnd"); (case zctxp2 => walk_at "mine bnd"); (case zctxp3 => walk_at "mine bnd"); (case zctxp4 => walk_at "mine bnd"); k_whole); intro _ _ _ _ _ _ _ zN' _ zho'; (have ze1 := zho'.1); (have ze2 := zho'.2); clear zho'; subst ze1; subst ze2; (try dsimp only at zN'); (try k_sweep))
  k_with "call ref" => (k_here; (with_reducible show wpAny _ _ (call (Value.ref 91) _) _ _ _); k_dflt (refine' mut_use (sdx_c _ _ _ _ _ _ ?zctxp1 ?zctxp2 ?zctxp3 ?zctxp4) ?zctxk1 ?zctxk2 ?zctxk3 ?zctxk4 ?zctxk5 ?zctxkK ?zctxkU ?zctxkd ?zctxku ?zctxki ?_; walk_at "mine ctx"; (case zctxp1 => walk_at "mine bnd"); (case zctxp2 => walk_at "mine bnd"); (case zctxp3 => walk_at "mine bnd"); (case zctxp4 => walk_at "mine bnd"); k_whole); intro _ _ _ _ _ _ _ zN' _ zho'; (have ze1 := zho'.1); (have ze2 := zho'.2); clear zho'; subst ze1; subst ze2; (try dsimp only at zN'); (try k_sweep))
  k_with "mine bnd" => first | with_reducible assumption | omega | ((try simp only [List.length_set, List.length_append, List.length_cons, List.length_nil, List.length_dropLast, sdN_length, suN_length]); omega)
  k_with "call ref" => (k_here; (with_reducible show wpAny _ _ (call (Value.ref 84) _) _ _ _); k_dflt (refine' mut_use (su_c _ _ _ _ _ ?zctxp1 ?zctxp2 ?zctxp3) ?zctxk1 ?zctxk2 ?zctxk3 ?zctxk4 ?zctxk5 ?zctxkK ?zctxkU ?zctxkd ?zctxku ?zctxki ?_; walk_at "mine ctx"; (case zctxp1 => walk_at "mine bnd"); (case zctxp2 => walk_at "mine bnd"); (case zctxp3 => walk_at "mine bnd"); k_whole); intro _ _ _ _ _ _ _ zN' _ zho'; (have ze1 := zho'.1); (have ze2 := zho'.2); clear zho'; subst ze1; subst ze2; (try dsimp only at zN'); (try k_sweep))
  k_with "call ref" => (k_here; (with_reducible show wpAny _ _ (call (Value.ref 98) _) _ _ _); k_dflt (refine' mut_use (sux_c _ _ _ _ _ ?zctxp1 ?zctxp2 ?zctxp3) ?zctxk1 ?zctxk2 ?zctxk3 ?zctxk4 ?zctxk5 ?zctxkK ?zctxkU ?zctxkd ?zctxku ?zctxki ?_; walk_at "mine ctx"; (case zctxp1 => walk_at "mine bnd"); (case zctxp2 => walk_at "mine bnd"); (case zctxp3 => walk_at "mine bnd"); k_whole); intro _ _ _ _ _ _ _ zN' _ zho'; (have ze1 := zho'.1); (have ze2 := zho'.2); clear zho'; subst ze1; subst ze2; (try dsimp only at zN'); (try k_sweep))
  k_with "call builtin:len" => (k_here; (with_reducible show wpAny _ _ (call (Value.builtin "len") [Value.ref _]) _ _ _); k_dflt (refine' len_ints ?zr33k1 ?zr33k2 ?zr33k3 ?zr33k4 ?_; (case zr33k1 => k_asm); (case zr33k2 => k_mem); (case zr33k3 => l_ints); (case zr33k4 => walk_at "mine bnd"); k_whole))
  k_with "truthy ref" => (k_here; (with_reducible show wpAny _ _ (truthy (Value.ref _)) _ _ _); k_dflt (refine' truthy_ints ?zr34k1 ?zr34k2 ?zr34k3 ?zr34k4 ?_; (case zr34k1 => k_asm); (case zr34k2 => k_mem); (case zr34k3 => l_ints); (case zr34k4 => walk_at "mine bnd")))
  k_with "mine end" => ((try dsimp only); (try (k_unfold; try dsimp only)))
  refine wpAny_call ?_
  k_dflt (walk_at "mine enter")
  intro g L' h' hg hlt F' N' B' X' T'
  (try dsimp only); (try k_fold)
  clear F N B
  have hvl : vs.length = hs.length := hi.length
  k_steps
  all_goals walk_at "mine end"
  all_goals exact hret _ _ _ _ _ _ (hupd_sub hg (by assumption) (by assumption) (by k_mem)) (by assumption) (by first | exact ⟨(pop_eq1 ltB (by assumption)).1, int_to (pop_eq1 ltB (by assumption)).2⟩ | exact ⟨(pop_eq0 ltB (by assumption)).1, int_to (pop_eq0 ltB (by assumption)).2⟩)
theorem repl_c (w : World) (mean : ExcName → Option Value) (mg mb : Str → Option Value) {hs : List Int} {x : Int} (t : Tok) (hlen : hs.length < 2 ^ 20) (h1 : 1 ≤ hs.length) :
    MutC w mean mg mb 3 35 (fun l => [.ref l, .int x t]) hs (fun hs' v => hs' = replN ltA hs x ∧ ∃ t, v = .int (hs.getD 0 0) t) := by
  unfold MutC
  intro dp un gd cn cs a ccd cl outer A₀ base h₀ L m s Q E l vs n B F X N T hk hd hu hi hret
  w_top off
  k_with_none
  k_with "mine enter" => (refine' def_enter ?zr19k1 ?zr19k2 ?zr19k3 ?zr19k4 ?zr19k5 ?zr19kA ?zr19kF ?zr19kK ?zr19k6 ?zr19k7 ?zr19k8 ?zr19k9 ?zr19kB ?_ ?zr19c2 ?zr19c3 ?zr19c4 ?zr19c5; (case zr19kA => exact rfl); (case zr19kF => exact rfl); (case zr19kK => assumption); (case zr19k1 => k_asm); (case zr19k2 => k_asm); (case zr19k3 => k_asm); (case zr19k4 => k_asm); (case zr19k5 => k_asm); (case zr19k6 => k_is); (case zr19k7 => k_is); (case zr19k8 => ktr_room); (case zr19k9 => exact BindsTo.of_eq rfl); (case zr19c5 => decide); (case zr19kB => exact locs rfl); (case zr19c2 => exact rfl); (case zr19c3 => exact rfl); (case zr19c4 => exact rfl); k_whole)
  k_with "binaryOp RShift int int" => (k_here; (with_reducible refine PySem.wpAny_rshift1_int ?zr20kb1 ?_); (case zr20kb1 => omega))
  k_with "mine cj" => (with_reducible (rename @Ne Nat _ _ ∧ _ => zhcj)); have _ := zhcj.1; replace zhcj := zhcj.2
  k_with "mine go" => (repeat (first | walk_at "mine cj" | (k_unfold; (try dsimp only)) | walk_at "mine fold" | walk1 | (dsimp only; walk1)))
  k_with "mine fold" => ((with_reducible show wpAny _ _ (exec _ _) _ _ _); k_fold)
  k_with "mine go2" => (repeat (first | walk_at "mine cj" | (k_unfold; (try dsimp only)) | walk_at "mine fold" | walk_at "mine fold2" | walk1 | (dsimp only; walk1)))
  k_with "mine fold2" => ((fail_if_success (fail_if_success k_fold)); (with_reducible show wpAny _ _ _ (fun _ _ => wpAny _ _ _ _ _ _) _ _); k_fold)
  k_with "mine bnd" => first | with_reducible assumption | omega | ((try simp only [List.length_set, List.length_append, List.length_cons, List.length_nil, List.length_dropLast, sdN_length]); omega)
  k_with "mine ctx" => ((case zctxk1 => k_asm); (case zctxk2 => k_asm); (case zctxk3 => k_asm); (case zctxk4 => k_asm); (case zctxk5 => k_asm); (case zctxkK => first | exact rfl | assumption); (case zctxkU => k_updF); (case zctxkd => ktr_room); (case zctxku => ktr_units); (case zctxki => l_ints))
  k_with "call ref" => (k_here; (with_reducible show wpAny _ _ (call (Value.ref 77) _) _ _ _); k_dflt (refine' mut_use (sd_c _ _ _ _ _ _ ?zctxp1 ?zctxp2 ?zctxp3 ?zctxp4) ?zctxk1 ?zctxk2 ?zctxk3 ?zctxk4 ?zctxk5 ?zctxkK ?zctxkU ?zctxkd ?zctxku ?zctxki ?_; walk_at "mine ctx"; (case zctxp1 => walk_at "mine bnd"); (case zctxp2 => walk_at "mine bnd"); (case zctxp3 => walk_at "mine bnd"); (case zctxp4 => walk_at "mine bnd"); k_whole); intro _ _ _ _ _ _ _ zN' _ zho'; (have ze1 := zho'.1); (have ze2 := zho'.2); clear zho'; subst ze1; subst ze2; (try dsimp only at zN'); (try k_sweep))
  k_with "call ref" => (k_here; (with_reducible show wpAny _ _ (call (Value.ref 91) _) _ _ _); k_dflt (refine' mut_use (sdx_c _ _ _ _ _ _ ?zctxp1 ?zctxp2 ?zctxp3 ?zctxp4) ?zctxk1 ?zctxk2 ?zctxk3 ?zctxk4 ?zctxk5 ?zctxkK ?zctxkU ?zctxkd ?zctxku ?zctxki ?_; walk_at "mine ctx"; (case zctxp1 => walk_at "mine bnd"); (case zctxp2 => walk_at "mine bnd"); (case zctxp3 => walk_at "mine bnd"); (case zctxp4 => walk_at "mine bnd"); k_whole); intro _ _ _ _ _ _ _ zN' _ zho'; (have ze1 := zho'.1); (have ze2 := zho'.2); clear zho'; subst ze1; subst ze2; (try dsimp only at zN'); (try k_sweep))
  k_with "mine bnd" => first | with_reducible assumption | omega | ((try simp only [List.length_set, List.length_append, List.length_cons, List.length_nil, List.length_dropLast, sdN_length, suN_length]); omega)
  k_with "call ref" => (k_here; (with_reducible show wpAny _ _ (call (Value.ref 84) _) _ _ _); k_dflt (refine' mut_use (su_c _ _ _ _ _ ?zctxp1 ?zctxp2 ?zctxp3) ?zctxk1 ?zctxk2 ?zctxk3 ?zctxk4 ?zctxk5 ?zctxkK ?zctxkU ?zctxkd ?zctxku ?zctxki ?_; walk_at "mine ctx"; (case zctxp1 => walk_at "mine bnd"); (case zctxp2 => walk_at "mine bnd"); (case zctxp3 => walk_at "mine bnd"); k_whole); intro _ _ _ _ _ _ _ zN' _ zho'; (have ze1 := zho'.1); (have ze2 := zho'.2); clear zho'; subst ze1; subst ze2; (try dsimp only at zN'); (try k_sweep))
  k_with "call ref" => (k_here; (with_reducible show wpAny _ _ (call (Value.ref 98) _) _ _ _); k_dflt (refine' mut_use (sux_c _ _ _ _ _ ?zctxp1 ?zctxp2 ?zctxp3) ?zctxk1 ?zctxk2 ?zctxk3 ?zctxk4 ?zctxk5 ?zctxkK ?zctxkU ?zctxkd ?zctxku ?zctxki ?_; walk_at "mine ctx"; (case zctxp1 => walk_at "mine bnd"); (case zctxp2 => walk_at "mine bnd"); (case zctxp3 => walk_at "mine bnd"); k_whole); intro _ _ _ _ _ _ _ zN' _ zho'; (have ze1 := zho'.1); (have ze2 := zho'.2); clear zho'; subst ze1; subst ze2; (try dsimp only at zN'); (try k_sweep))
  k_with "call builtin:len" => (k_here; (with_reducible show wpAny _ _ (call (Value.builtin "len") [Value.ref _]) _ _ _); k_dflt (refine' len_ints ?zr33k1 ?zr33k2 ?zr33k3 ?zr33k4 ?_; (case zr33k1 => k_asm); (case zr33k2 => k_mem); (case zr33k3 => l_ints); (case zr33k4 => walk_at "mine bnd"); k_whole))
  k_with "truthy ref" => (k_here; (with_reducible show wpAny _ _ (truthy (Value.ref _)) _ _ _); k_dflt (refine' truthy_ints ?zr34k1 ?zr34k2 ?zr34k3 ?zr34k4 ?_; (case zr34k1 => k_asm); (case zr34k2 => k_mem); (case zr34k3 => l_ints); (case zr34k4 => walk_at "mine bnd")))
  k_with "mine end" => ((try dsimp only); (try (k_unfold; try dsimp only)))
  refine wpAny_call ?_
  k_dflt (walk_at "mine enter")
  intro g L' h' hg hlt F' N' B' X' T'
  (try dsimp only); (try k_fold)
  clear F N B
  have hvl : vs.length = hs.length := hi.length
  k_steps
  all_goals walk_at "mine end"
  all_goals exact hret _ _ _ _ _ _ (hupd_sub hg (by assumption) (by assumption) (by k_mem)) (by assumption) ⟨rfl, ⟨_, rfl⟩⟩
theorem replx_c (w : World) (mean : ExcName → Option Value) (mg mb : Str → Option Value) {hs : List Int} {x : Int} (t : Tok) (hlen : hs.length < 2 ^ 20) (h1 : 1 ≤ hs.length) :
    MutC w mean mg mb 3 63 (fun l => [.ref l, .int x t]) hs (fun hs' v => hs' = replN ltB hs x ∧ ∃ t, v = .int (hs.getD 0 0) t) := by
  unfold MutC
  intro dp un gd cn cs a ccd cl outer A₀ base h₀ L m s Q E l vs n B F X N T hk hd hu hi hret
  w_top off
  k_with_none
  k_with "mine enter" => (refine' def_enter ?zr19k1 ?zr19k2 ?zr19k3 ?zr19k4 ?zr19k5 ?zr19kA ?zr19kF ?zr19kK ?zr19k6 ?zr19k7 ?zr19k8 ?zr19k9 ?zr19kB ?_ ?zr19c2 ?zr19c3 ?zr19c4 ?zr19c5; (case zr19kA => exact rfl); (case zr19kF => exact rfl); (case zr19kK => assumption); (case zr19k1 => k_asm); (case zr19k2 => k_asm); (case zr19k3 => k_asm); (case zr19k4 => k_asm); (case zr19k5 => k_asm); (case zr19k6 => k_is); (case zr19k7 => k_is); (case zr19k8 => ktr_room); (case zr19k9 => exact BindsTo.of_eq rfl); (case zr19c5 => decide); (case zr19kB => exact locs rfl); (case zr19c2 => exact rfl); (case zr19c3 => exact rfl); (case zr19c4 => exact rfl); k_whole)
  k_with "binaryOp RShift int int" => (k_here; (with_reducible refine PySem.wpAny_rshift1_int ?zr20kb1 ?_); (case zr20kb1 => omega))
  k_with "mine cj" => (with_reducible (rename @Ne Nat _ _ ∧ _ => zhcj)); have _ := zhcj.1; replace zhcj := zhcj.2
  k_with "mine go" => (repeat (first | walk_at "mine cj" | (k_unfold; (try dsimp only)) | walk_at "mine fold" | walk1 | (dsimp only; walk1)))
  k_with "mine fold" => ((with_reducible show wpAny _ _ (exec _ _) _ _ _); k_fold)
  k_with "mine go2" => (repeat (first | walk_at "mine cj" | (k_unfold; (try dsimp only)) | walk_at "mine fold" | walk_at "mine fold2" | walk1 | (dsimp only; walk1)))
  k_with "mine fold2" => ((fail_if_success (fail_if_success k_fold)); (with_reducible show wpAny _ _ _ (fun _ _ => wpAny _ _ _ _ _ _) _ _); k_fold)
  k_with "mine bnd" => first | with_reducible assumption | omega | ((try simp only [List.length_set, List.length_append, List.length_cons, List.length_nil, List.length_dropLast, sdN_length]); omega)
  k_with "mine ctx" => ((case zctxk1 => k_asm); (case zctxk2 => k_asm); (case zctxk3 => k_asm); (case zctxk4 => k_asm); (case zctxk5 => k_asm); (case zctxkK => first | exact rfl | assumption); (case zctxkU => k_updF); (case zctxkd => ktr_room); (case zctxku => ktr_units); (case zctxki => l_ints))
  k_with "call ref" => (k_here; (with_reducible show wpAny _ _ (call (Value.ref 77) _) _ _ _); k_dflt (refine' mut_use (sd_c _ _ _ _ _ _ ?zctxp1 ?zctxp2 ?zctxp3 ?zctxp4) ?zctxk1 ?zctxk2 ?zctxk3 ?zctxk4 ?zctxk5 ?zctxkK ?zctxkU ?zctxkd ?zctxku ?zctxki ?_; walk_at "mine ctx"; (case zctxp1 => walk_at "mine bnd"); (case zctxp2 => walk_at "mine bnd"); (case zctxp3 => walk_at "mine bnd"); (case zctxp4 => walk_at "mine bnd"); k_whole); intro _ _ _ _ _ _ _ zN' _ zho'; (have ze1 := zho'.1); (have ze2 := zho'.2); clear zho'; subst ze1; subst ze2; (try dsimp only at zN'); (try k_sweep))
  k_with "call ref" => (k_here; (with_reducible show wpAny _ _ (call (Value.ref 91) _) _ _ _); k_dflt (refine' mut_use (sdx_c _ _ _ _ _ _ ?zctxp1 ?zctxp2 ?zctxp3 ?zctxp4) ?zctxk1 ?zctxk2 ?zctxk3 ?zctxk4 ?zctxk5 ?zctxkK ?zctxkU ?zctxkd ?zctxku ?zctxki ?_; walk_at "mine ctx"; (case zctxp1 => walk_at "mine bnd"); (case zctxp2 => walk_at "mine bnd"); (case zctxp3 => walk_at "mine bnd"); (case zctxp4 => walk_at "mine bnd"); k_whole); intro _ _ _ _ _ _ _ zN' _ zho'; (have ze1 := zho'.1); (have ze2 := zho'.2); clear zho'; subst ze1; subst ze2; (try dsimp only at zN'); (try k_sweep))
  k_with "mine bnd" => first | with_reducible assumption | omega | ((try simp only [List.length_set, List.length_append, List.length_cons, List.length_nil, List.length_dropLast, sdN_length, suN_length]); omega)
  k_with "call ref" => (k_here; (with_reducible show wpAny _ _ (call (Value.ref 84) _) _ _ _); k_dflt (refine' mut_use (su_c _ _ _ _ _ ?zctxp1 ?zctxp2 ?zctxp3) ?zctxk1 ?zctxk2 ?zctxk3 ?zctxk4 ?zctxk5 ?zctxkK ?zctxkU ?zctxkd ?zctxku ?zctxki ?_; walk_at "mine ctx"; (case zctxp1 => walk_at "mine bnd"); (case zctxp2 => walk_at "mine bnd"); (case zctxp3 => walk_at "mine bnd"); k_whole); intro _ _ _ _ _ _ _ zN' _ zho'; (have ze1 := zho'.1); (have ze2 := zho'.2); clear zho'; subst ze1; subst ze2; (try dsimp only at zN'); (try k_sweep))
  k_with "call ref" => (k_here; (with_reducible show wpAny _ _ (call (Value.ref 98) _) _ _ _); k_dflt (refine' mut_use (sux_c _ _ _ _ _ ?zctxp1 ?zctxp2 ?zctxp3) ?zctxk1 ?zctxk2 ?zctxk3 ?zctxk4 ?zctxk5 ?zctxkK ?zctxkU ?zctxkd ?zctxku ?zctxki ?_; walk_at "mine ctx"; (case zctxp1 => walk_at "mine bnd"); (case zctxp2 => walk_at "mine bnd"); (case zctxp3 => walk_at "mine bnd"); k_whole); intro _ _ _ _ _ _ _ zN' _ zho'; (have ze1 := zho'.1); (have ze2 := zho'.2); clear zho'; subst ze1; subst ze2; (try dsimp only at zN'); (try k_sweep))
  k_with "call builtin:len" => (k_here; (with_reducible show wpAny _ _ (call (Value.builtin "len") [Value.ref _]) _ _ _); k_dflt (refine' len_ints ?zr33k1 ?zr33k2 ?zr33k3 ?zr33k4 ?_; (case zr33k1 => k_asm); (case zr33k2 => k_mem); (case zr33k3 => l_ints); (case zr33k4 => walk_at "mine bnd"); k_whole))
  k_with "truthy ref" => (k_here; (with_reducible show wpAny _ _ (truthy (Value.ref _)) _ _ _); k_dflt (refine' truthy_ints ?zr34k1 ?zr34k2 ?zr34k3 ?zr34k4 ?_; (case zr34k1 => k_asm); (case zr34k2 => k_mem); (case zr34k3 => l_ints); (case zr34k4 => walk_at "mine bnd")))
  k_with "mine end" => ((try dsimp only); (try (k_unfold; try dsimp only)))
  refine wpAny_call ?_
  k_dflt (walk_at "mine enter")
  intro g L' h' hg hlt F' N' B' X' T'
  (try dsimp only); (try k_fold)
  clear F N B
  have hvl : vs.length = hs.length := hi.length
  k_steps
  all_goals walk_at "mine end"
  all_goals exact hret _ _ _ _ _ _ (hupd_sub hg (by assumption) (by assumption) (by k_mem)) (by assumption) ⟨rfl, ⟨_, rfl⟩⟩
theorem pushpop_c (w : World) (mean : ExcName → Option Value) (mg mb : Str → Option Value) {hs : List Int} {x : Int} (t : Tok) (hlen : hs.length < 2 ^ 20) (h1 : 1 ≤ hs.length) :
    MutC w mean mg mb 3 42 (fun l => [.ref l, .int x t]) hs (fun hs' v => hs' = pushpopN ltA hs x ∧ ∃ t, v = .int (pushpopV hs x) t) := by
  unfold MutC
  intro dp un gd cn cs a ccd cl outer A₀ base h₀ L m s Q E l vs n B F X N T hk hd hu hi hret
  w_top off
  k_with_none
  k_with "mine enter" => (refine' def_enter ?zr19k1 ?zr19k2 ?zr19k3 ?zr19k4 ?zr19k5 ?zr19kA ?zr19kF ?zr19kK ?zr19k6 ?zr19k7 ?zr19k8 ?zr19k9 ?zr19kB ?_ ?zr19c2 ?zr19c3 ?zr19c4 ?zr19c5; (case zr19kA => exact rfl); (case zr19kF => exact rfl); (case zr19kK => assumption); (case zr19k1 => k_asm); (case zr19k2 => k_asm); (case zr19k3 => k_asm); (case zr19k4 => k_asm); (case zr19k5 => k_asm); (case zr19k6 => k_is); (case zr19k7 => k_is); (case zr19k8 => ktr_room); (case zr19k9 => exact BindsTo.of_eq rfl); (case zr19c5 => decide); (case zr19kB => exact locs rfl); (case zr19c2 => exact rfl); (case zr19c3 => exact rfl); (case zr19c4 => exact rfl); k_whole)
  k_with "binaryOp RShift int int" => (k_here; (with_reducible refine PySem.wpAny_rshift1_int ?zr20kb1 ?_); (case zr20kb1 => omega))
  k_with "mine cj" => (with_reducible (rename @Ne Nat _ _ ∧ _ => zhcj)); have _ := zhcj.1; replace zhcj := zhcj.2
  k_with "mine go" => (repeat (first | walk_at "mine cj" | (k_unfold; (try dsimp only)) | walk_at "mine fold" | walk1 | (dsimp only; walk1)))
  k_with "mine fold" => ((with_reducible show wpAny _ _ (exec _ _) _ _ _); k_fold)
  k_with "mine go2" => (repeat (first | walk_at "mine cj" | (k_unfold; (try dsimp only)) | walk_at "mine fold" | walk_at "mine fold2" | walk1 | (dsimp only; walk1)))
  k_with "mine fold2" => ((fail_if_success (fail_if_success k_fold)); (with_reducible show wpAny _ _ _ (fun _ _ => wpAny _ _ _ _ _ _) _ _); k_fold)
  k_with "mine bnd" => first | with_reducible assumption | omega | ((try simp only [List.length_set, List.length_append, List.length_cons, List.length_nil, List.length_dropLast, sdN_length]); omega)
  k_with "mine ctx" => ((case zctxk1 => k_asm); (case zctxk2 => k_asm); (case zctxk3 => k_asm); (case zctxk4 => k_asm); (case zctxk5 => k_asm); (case zctxkK => first | exact rfl | assumption); (case zctxkU => k_updF); (case zctxkd => ktr_room); (case zctxku => ktr_units); (case zctxki => l_ints))
  k_with "call ref" => (k_here; (with_reducible show wpAny _ _ (call (Value.ref 77) _) _ _ _); k_dflt (refine' mut_use (sd_c _ _ _ _ _ _ ?zctxp1 ?zctxp2 ?zctxp3 ?zctxp4) ?zctxk1 ?zctxk2 ?zctxk3 ?zctxk4 ?zctxk5 ?zctxkK ?zctxkU ?zctxkd ?zctxku ?zctxki ?_; walk_at "mine ctx"; (case zctxp1 => walk_at "mine bnd"); (case zctxp2 => walk_at "mine bnd"); (case zctxp3 => walk_at "mine bnd"); (case zctxp4 => walk_at "mine bnd"); k_whole); intro _ _ _ _ _ _ _ zN' _ zho'; (have ze1 := zho'.1); (have ze2 := zho'.2); clear zho'; subst ze1; subst ze2; (try dsimp only at zN'); (try k_sweep))
  k_with "call ref" => (k_here; (with_reducible show wpAny _ _ (call (Value.ref 91) _) _ _ _); k_dflt (refine' mut_use (sdx_c _ _ _ _ _ _ ?zctxp1 ?zctxp2 ?zctxp3 ?zctxp4) ?zctxk1 ?zctxk2 ?zctxk3 ?zctxk4 ?zctxk5 ?zctxkK ?zctxkU ?zctxkd ?zctxku ?zctxki ?_; walk_at "mine ctx"; (case zctxp1 => walk_at "mine bnd"); (case zctxp2 => walk_at "mine bnd"); (case zctxp3 => walk_at "mine bnd"); (case zctxp4 => walk_at "mine bnd"); k_whole); intro _ _ _ _ _ _ _ zN' _ zho'; (have ze1 := zho'.1); (have ze2 := zho'.2); clear zho'; subst ze1; subst ze2; (try dsimp only at zN'); (try k_sweep))
  k_with "mine bnd" => first | with_reducible assumption | omega | ((try simp only [List.length_set, List.length_append, List.length_cons, List.length_nil, List.length_dropLast, sdN_length, suN_length]); omega)
  k_with "call ref" => (k_here; (with_reducible show wpAny _ _ (call (Value.ref 84) _) _ _ _); k_dflt (refine' mut_use (su_c _ _ _ _ _ ?zctxp1 ?zctxp2 ?zctxp3) ?zctxk1 ?zctxk2 ?zctxk3 ?zctxk4 ?zctxk5 ?zctxkK ?zctxkU ?zctxkd ?zctxku ?zctxki ?_; walk_at "mine ctx"; (case zctxp1 => walk_at "mine bnd"); (case zctxp2 => walk_at "mine bnd"); (case zctxp3 => walk_at "mine bnd"); k_whole); intro _ _ _ _ _ _ _ zN' _ zho'; (have ze1 := zho'.1); (have ze2 := zho'.2); clear zho'; subst ze1; subst ze2; (try dsimp only at zN'); (try k_sweep))
  k_with "call ref" => (k_here; (with_reducible show wpAny _ _ (call (Value.ref 98) _) _ _ _); k_dflt (refine' mut_use (sux_c _ _ _ _ _ ?zctxp1 ?zctxp2 ?zctxp3) ?zctxk1 ?zctxk2 ?zctxk3 ?zctxk4 ?zctxk5 ?zctxkK ?zctxkU ?zctxkd ?zctxku ?zctxki ?_; walk_at "mine ctx"; (case zctxp1 => walk_at "mine bnd"); (case zctxp2 => walk_at "mine bnd"); (case zctxp3 => walk_at "mine bnd"); k_whole); intro _ _ _ _ _ _ _ zN' _ zho'; (have ze1 := zho'.1); (have ze2 := zho'.2); clear zho'; subst ze1; subst ze2; (try dsimp only at zN'); (try k_sweep))
  k_with "call builtin:len" => (k_here; (with_reducible show wpAny _ _ (call (Value.builtin "len") [Value.ref _]) _ _ _); k_dflt (refine' len_ints ?zr33k1 ?zr33k2 ?zr33k3 ?zr33k4 ?_; (case zr33k1 => k_asm); (case zr33k2 => k_mem); (case zr33k3 => l_ints); (case zr33k4 => walk_at "mine bnd"); k_whole))
  k_with "truthy ref" => (k_here; (with_reducible show wpAny _ _ (truthy (Value.ref _)) _ _ _); k_dflt (refine' truthy_ints ?zr34k1 ?zr34k2 ?zr34k3 ?zr34k4 ?_; (case zr34k1 => k_asm); (case zr34k2 => k_mem); (case zr34k3 => l_ints); (case zr34k4 => walk_at "mine bnd")))
  k_with "mine end" => ((try dsimp only); (try (k_unfold; try dsimp only)))
  refine wpAny_call ?_
  k_dflt (walk_at "mine enter")
  intro g L' h' hg hlt F' N' B' X' T'
  (try dsimp only); (try k_fold)
  clear F N B
  have hvl : vs.length = hs.length := hi.length
  k_steps
  all_goals walk_at "mine end"
  all_goals exact hret _ _ _ _ _ _ (hupd_sub hg (by assumption) (by assumption) (by k_mem)) (by assumption) (by first | exact ⟨(pp_eq1 ltA (by assumption)).1, int_to (pp_eq1 ltA (by assumption)).2⟩ | exact ⟨(pp_eq0 ltA (by assumption)).1, int_to (pp_eq0 ltA (by assumption)).2⟩)

/-- the iterator that reversed makes of a range -/
def ritObj (a left step : Int) : Obj := { cls := .type "range_iterator", data := .fields #[rawInt a, rawInt left, rawInt step] }
theorem sub_rit_reversed : isSubtype (.type "range_iterator") (.type "reversed") = pure false := by rw [isSubtype_type]; kernel_rfl

section
variable {prog : Program} {w : World} {A : Around} {E : Value → Shared → Prop} {s : Shared}
theorem call_range_reversed {r : Addr} {a b : Int} {t u v : Tok} {n : Nat} {Q : Value → Shared → Prop} (hr : IsRange s.heap r a b 1 t u v) (hn : Builtin.Range.rangeSize a b 1 = (n : Int)) (ha : 0 ≤ a) (ha' : a < 2 ^ 60) (hb : 0 ≤ b) (hb' : b < 2 ^ 60) (hn' : (n : Int) < 2 ^ 60)
    (h : Q (.ref s.heap.objs.size) { s with heap := s.heap.push (ritObj (a + ((n : Int) - 1) * 1) n (-1)) }) : wpAny (model prog w) A (call (.builtin "range.__reversed__") [.ref r]) Q E s := by
  have hT : s.TypeIs (.ref r) "range" := ⟨_, hr, rfl⟩
  refine wpAny_call_entry PySem.F.slot_range_reversed hT PySem.F.entry_range_reversed ?_ (PySem.F.args_range_reversed_1 _)
  unfold Builtin.«range.__reversed__»
  refine wpAny_bind (wpAny_of_eq (a := Value.ref r) rfl ?_)
  unfold Builtin.Range.rangeFields
  refine wpAny_bind (wpAny_bind (wpAny_field hr rfl (x := .int a t) rfl ?_))
  refine wpAny_bind (wpAny_of_eq (a := some a) rfl ?_)
  refine wpAny_bind (wpAny_field hr rfl (x := .int b u) rfl ?_)
  refine wpAny_bind (wpAny_of_eq (a := some b) rfl ?_)
  refine wpAny_bind (wpAny_field hr rfl (x := .int 1 v) rfl ?_)
  refine wpAny_bind (wpAny_of_eq (a := some (1 : Int)) rfl ?_)
  refine wpAny_pure ?_
  dsimp only
  rw [hn]
  have hs : (Builtin.Range.rangeFitsLong a && Builtin.Range.rangeFitsLong b && Builtin.Range.rangeFitsLong 1 && Builtin.Range.rangeFitsLong (-1) && Builtin.Range.rangeFitsLong (a - 1) && Builtin.Range.rangeFitsLong (n : Int)) = true := by
    simp only [Builtin.Range.rangeFitsLong, Bool.and_eq_true, decide_eq_true_eq]
    omega
  rw [hs]
  simp only [Bool.not_true, Bool.false_eq_true, if_false, if_true]
  exact wpAny_bind (wpAny_newObj_type (wpAny_pure ⟨_, rfl, h⟩))

theorem code_reversed_range {r : Addr} {a b : Int} {t u v : Tok} {n : Nat} {Q₁ : Value → Shared → Prop} (hr : IsRange s.heap r a b 1 t u v) (hn : Builtin.Range.rangeSize a b 1 = (n : Int)) (ha : 0 ≤ a) (ha' : a < 2 ^ 60) (hb : 0 ≤ b) (hb' : b < 2 ^ 60) (hn' : (n : Int) < 2 ^ 60)
    (h : Q₁ (.ref s.heap.objs.size) { s with heap := s.heap.push (ritObj (a + ((n : Int) - 1) * 1) n (-1)) }) :
    codeAny (model prog w) A (.call (.builtin "reversed.__new__") ⟨[.type "reversed", .ref r], []⟩) (wants Q₁ E) s := by
  have hT : s.TypeIs (.ref r) "range" := ⟨_, hr, rfl⟩
  refine codeAny_of_tree ?_
  show wpAny _ A.in1 (do checkBuiltinCall "reversed.__new__" ⟨[.type "reversed", .ref r], []⟩; again (.builtin "reversed.__new__" ⟨[.type "reversed", .ref r], []⟩)) _ _ s
  refine wpAny_bind (wpAny_of_eq (PySem.F.newCall_reversed_1 _) (wpAny_pure ⟨plainId_quiet PySem.F.plain_reversed_new _, codeAny_builtin PySem.F.entry_reversed_new ?_⟩))
  rw [Around.under_plainId PySem.F.plain_reversed_new _]
  unfold Builtin.«reversed.__new__»
  refine wpAny_bind (wpAny_of_eq (newClass_reversed _) ?_)
  try dsimp only
  refine wpAny_bind (wpAny_of_eq (a := ()) (by first | rfl | kernel_rfl) ?_)
  refine wpAny_bind (wpAny_of_eq (a := ()) (by first | rfl | kernel_rfl) ?_)
  try dsimp only
  refine wpAny_bind (wpAny_specialOf hT PySem.F.slot_range_reversed.lookup ?_)
  try dsimp only
  refine wpAny_bind (wpAny_of_eq (PySem.F.slot_range_reversed.bind _) ?_)
  try dsimp only
  first
  | rw [if_neg (show ¬ ((Value.builtin "range.__reversed__" == Value.none) = true) from Bool.false_ne_true)]
  | (show wpAny _ _ (if (Value.builtin "range.__reversed__" == Value.none) = true then _ else _) _ _ _; rw [if_neg (show ¬ ((Value.builtin "range.__reversed__" == Value.none) = true) from Bool.false_ne_true)])
  refine wpAny_bind (wpAny_rule ?_)
  refine wpAny_bind (m := runValue (.call (.builtin "range.__reversed__") ⟨[.ref r], []⟩)) (show wpAny _ _ (call (.builtin "range.__reversed__") [.ref r]) _ _ _ from call_range_reversed hr hn ha ha' hb hb' hn' ?_)
  first
  | exact wpAny_pure h
  | exact wpAny_bind (wpAny_pure (wpAny_pure h))

theorem call_reversed_range {r : Addr} {a b : Int} {t u v : Tok} {n : Nat} {Q : Value → Shared → Prop} (hr : IsRange s.heap r a b 1 t u v) (hn : Builtin.Range.rangeSize a b 1 = (n : Int)) (ha : 0 ≤ a) (ha' : a < 2 ^ 60) (hb : 0 ≤ b) (hb' : b < 2 ^ 60) (hn' : (n : Int) < 2 ^ 60)
    (h : Q (.ref s.heap.objs.size) { s with heap := s.heap.push (ritObj (a + ((n : Int) - 1) * 1) n (-1)) }) : wpAny (model prog w) A (call (.type "reversed") [.ref r]) Q E s := by
  refine callType_other (U := "range_iterator") (Q₁ := fun obj s₁ => obj = .ref s.heap.objs.size ∧ s₁ = { s with heap := s.heap.push (ritObj (a + ((n : Int) - 1) * 1) n (-1)) }) (by decide +kernel) PySem.F.create_reversed ⟨_, _, PySem.F.mro_reversed⟩ PySem.F.made_reversed sub_rit_reversed (PySem.F.typeCall_reversed_1 _) (code_reversed_range hr hn ha ha' hb hb' hn' ⟨rfl, rfl⟩) ?_
  rintro obj s₁ ⟨rfl, rfl⟩
  exact ⟨⟨_, Heap.get?_push_size _ rfl, rfl⟩, h⟩
end

section
variable {prog : Program} {w : World} {A : Around} {E : Value → Shared → Prop} {s : Shared} {env : Env} {h₀ : Heap} {target : Expr} {body : List Stmt} {Q : Flow → Shared → Prop}

theorem reversed_range {h₀ : Heap} {L : Addr} {m : Str → Option Value} {news : List (Addr × Obj)} {r : Addr} {b : Int} {t u v : Tok} {n : Nat} {Q : Value → Shared → Prop} (F : Fr h₀ L s.heap m) (N : News h₀ L s.heap news) (hr : IsRange s.heap r 0 b 1 t u v) (hb : 0 ≤ b) (hb' : b < 2 ^ 60) (hbn : b = (n : Int))
    (h : ∀ D h', Fr h₀ L h' m → News h₀ L h' ((D, ritObj ((n : Int) - 1) n (-1)) :: news) → (∀ p ∈ news, p.1 < D) → Q (.ref D) { s with heap := h' }) : wpAny (model prog w) A (call (.type "reversed") [.ref r]) Q E s := by
  have hn : Builtin.Range.rangeSize 0 b 1 = (n : Int) := by
    unfold Builtin.Range.rangeSize
    simp only [show (1 : Int) > 0 by decide, if_true, Int.ediv_one]
    split <;> omega
  refine call_reversed_range hr hn (by omega) (by omega) hb hb' (by omega) ?_
  have e : (0 : Int) + ((n : Int) - 1) * 1 = (n : Int) - 1 := by omega
  rw [e]
  exact h _ _ (F.push _) (News.push F N _) fun p hp => Heap.lt_size (N p hp).1

theorem letGo_rit {target : Expr} {I : Addr} {x left step : Int} {v : Value} {Q' : Unit → Shared → Prop} {s' : Shared} (hit : IsRangeIter s'.heap I x left step) (ht : ∃ y p, target = .Name y p) (h : Q' () s') : wpAny (model prog w) A (letOwnedTupleGo target (.ref I) v) Q' E s' := by
  obtain ⟨y, p, rfl⟩ := ht
  exact wpAny_pure h

/-- the items that a range's iterator hands out, downwards -/
def downItems (a : Int) (n : Nat) : List Itm := (List.range n).map fun (i : Nat) => Itm.tok (fun t => .int (a - (i : Int)) t)
theorem downItems_get {a : Int} {n i : Nat} (h : i < n) : (downItems a n)[i]? = some (Itm.tok (fun t => .int (a - (i : Int)) t)) := by simp [downItems, h]

theorem iter_ritTurns {D : Addr} {a : Int} {n : Nat} {m₀ : Str → Option Value} {news : List (Addr × Obj)} (hh : A.handled = none) (ht : ∃ y p, target = .Name y p)
    (F : Fr h₀ env.locals s.heap m₀) (N : News h₀ env.locals s.heap ((D, ritObj a n (-1)) :: news)) (hof : ∀ p ∈ news, p.1 ≠ D)
    (rest₀ : ItemsRest prog w A E h₀ env target body Q s [(D, "range_iterator")] [] (downItems a n) m₀ news) :
    wpAny (model prog w) A (pyIter (.ref D)) (fun it s₂ => TurnsAt prog w A h₀ env target body Q E it s₂) E s := by
  have hD := N _ (List.mem_cons_self ..)
  have hit : IsRangeIter s.heap D a n (-1) := hD.1
  refine wpAny_pyIter_rangeiter hit ?_
  refine ktu_core (tk0 := s.toks) (keep := []) (KTurns.ofWalks (Walks.range hh D a (-1) n).bound fun i v s Q E st q => letGo_rit st ht q) (by simp [downItems]) ?_ ?_ ?_ ?_ ?_ ?_ ?_ ?_ F (fun p hp => N p (List.mem_cons_of_mem _ hp)) trivial rest₀
  · rintro i v h ⟨hi, t, rfl⟩
    refine ⟨_, downItems_get hi, t, ?_⟩
    have e : a + (i : Int) * (-1) = a - (i : Int) := by omega
    rw [e]
  · intro i h st
    have st' : h.get? D = some (ritObj (a + (i : Int) * (-1)) ((n : Int) - (i : Int)) (-1)) := st
    exact ⟨[(D, _)], ⟨⟨rfl, rfl⟩, trivial⟩, fun p hp => by rw [List.mem_singleton.mp hp]; exact st'⟩
  · intro b hb
    have hb' : b = D := by simpa using hb
    rw [hb']
    exact ⟨by simp, hD.2.2⟩
  · intro b hb
    simpa using hb
  · intro b hb
    exact .inl (by simpa using hb)
  · intro hI
    exact hD.2.1 (List.mem_singleton.mp hI).symm
  · intro p hp hI
    exact hof p hp (List.mem_singleton.mp hI)
  · have e : a + ((0 : Nat) : Int) * (-1) = a := by omega
    have e2 : (n : Int) - ((0 : Nat) : Int) = n := by omega
    show IsRangeIter _ _ _ _ _
    rw [e, e2]
    exact hit

theorem AllObj.mono {k k' : List (Addr × Obj) → Prop} : ∀ {ws : List (Addr × String)}, (∀ its, its.map (·.1) = ws.map (·.1) → k its → k' its) → AllObj ws k → AllObj ws k'
  | [], h, x => h [] rfl x
  | w :: ws, h, x => fun o ho => AllObj.mono (ws := ws) (k := fun its => k ((w.1, o) :: its)) (k' := fun its => k' ((w.1, o) :: its)) (fun its e => h ((w.1, o) :: its) (by rw [List.map_cons, List.map_cons, e])) (x o ho)

/-- what a turn must leave -/
def LPost {σ : Type} (h₀ : Heap) (L : Addr) (s₁ : Shared) (its : List (Addr × Obj)) (Led : σ → List (Addr × Obj)) (Ps : σ → List (Str × Value)) (P : Nat → σ → Prop) (i : Nat) (Q : Flow → Shared → Prop) (f : Flow) (s₂ : Shared) : Prop :=
  match f with
  | .ret v => Q (.ret v) s₂
  | .brk => Q .next s₂
  | _ => ∃ (c : σ) (h' : Heap) (tk : Nat) (m' : Str → Option Value) (all : List (Addr × Obj)), s₂ = { s₁ with heap := h', toks := tk } ∧ Fr h₀ L h' m' ∧ News h₀ L h' all ∧ SubL its all ∧ SubL (Led c) all ∧ (∀ p ∈ Ps c, m' p.1 = some p.2) ∧ P i c

theorem rest_at {xs : List Itm} {ws : List (Addr × String)} {keep : List (Addr × Obj)} (J : Nat → (Str → Option Value) → List (Addr × Obj) → Prop)
    (turn : ∀ i a m news, xs[i]? = some a → J i m news → ∀ v h tk, a.Is v h → Fr h₀ env.locals h m → AllObj ws (fun its => News h₀ env.locals h (its ++ news) →
      wpAny (model prog w) A (assign target env v) (fun _ s₂ => wpAny (model prog w) A (execs body env) (UnrPostW h₀ env.locals { s with heap := h, toks := tk } its (fun m' n' => SubL keep n' ∧ J (i + 1) m' n') Q) E s₂) E { s with heap := h, toks := tk }))
    (done : ∀ m news, J xs.length m news → ∀ h tk, Fr h₀ env.locals h m → News h₀ env.locals h news → Q .next { s with heap := h, toks := tk }) :
    ∀ k i m news, xs.length - i = k → i ≤ xs.length → J i m news → ItemsRest prog w A E h₀ env target body Q s ws keep (xs.drop i) m news := by
  intro k
  induction k with
  | zero =>
    intro i m news hk hi hJ
    have e : i = xs.length := by omega
    subst e
    rw [List.drop_length]
    exact done m news hJ
  | succ k ih =>
    intro i m news hk hi hJ
    have hlt : i < xs.length := by omega
    rw [List.drop_eq_getElem_cons hlt]
    intro v h tk hv F
    refine AllObj.mono (fun its _ H N => ?_) (turn i _ m news (List.getElem?_eq_getElem hlt) hJ v h tk hv F)
    refine wpAny_mono (H N) (fun _ s₂ h₂ => wpAny_mono h₂ (fun f s₃ p => ?_) fun _ _ e => e) fun _ _ e => e
    have up : UnrEndW h₀ env.locals { s with heap := h, toks := tk } its (fun m' n' => SubL keep n' ∧ J (i + 1) m' n') s₃ → UnrEndW h₀ env.locals { s with heap := h, toks := tk } its (fun m' n' => SubL keep n' ∧ ItemsRest prog w A E h₀ env target body Q s ws keep (xs.drop (i + 1)) m' n') s₃ := by
      rintro ⟨h', tk', m', news', e, F', N', ho, hs, hj⟩
      exact ⟨h', tk', m', news', e, F', N', ho, hs, ih (i + 1) m' news' (by omega) (by omega) hj⟩
    cases f with
    | ret v => exact p
    | brk => exact p
    | next => exact up p
    | cont => exact up p

theorem subL_of {l all : List (Addr × Obj)} (h : ∀ p ∈ l, p ∈ all) : SubL l all := by
  induction l with
  | nil => exact trivial
  | cons p r ih => exact ⟨h p (.head _), ih fun q hq => h q (.tail _ hq)⟩

theorem rest_st {σ : Type} {xs : List Itm} {ws : List (Addr × String)} {keep : List (Addr × Obj)} {m₀ : Str → Option Value} {news₀ : List (Addr × Obj)} (Led : σ → List (Addr × Obj)) (Ps : σ → List (Str × Value)) (P : Nat → σ → Prop) (c₀ : σ)
    (hled : news₀ = Led c₀) (hps : ∀ p ∈ Ps c₀, m₀ p.1 = some p.2) (h0 : P 0 c₀) (hadr : ∀ c, (Led c).map (·.1) = news₀.map (·.1)) (hoff : ∀ p ∈ news₀, ∀ q ∈ ws, p.1 ≠ q.1) (hkeep : ∀ c, SubL keep (Led c))
    (turn : ∀ i a c (u : Str → Option Value), xs[i]? = some a → P i c → ∀ v h tk, a.Is v h → Fr h₀ env.locals h (kstB u (Ps c)) → AllObj ws (fun its => News h₀ env.locals h (its ++ Led c) →
      wpAny (model prog w) A (assign target env v) (fun _ s₂ => wpAny (model prog w) A (execs body env) (LPost h₀ env.locals { s with heap := h, toks := tk } its Led Ps P (i + 1) Q) E s₂) E { s with heap := h, toks := tk }))
    (done : ∀ c (u : Str → Option Value) h tk, P xs.length c → Fr h₀ env.locals h (kstB u (Ps c)) → News h₀ env.locals h (Led c) → Q .next { s with heap := h, toks := tk }) :
    ItemsRest prog w A E h₀ env target body Q s ws keep xs m₀ news₀ := by
  have fold : ∀ {h : Heap} {m : Str → Option Value} {c : σ}, (∀ p ∈ Ps c, m p.1 = some p.2) → Fr h₀ env.locals h m → Fr h₀ env.locals h (kstB m (Ps c)) := by
    intro h m c hp F
    have e : kstB m (Ps c) = m := by
      funext z
      exact kstB_eq hp fun _ => rfl
    rw [e]
    exact F
  refine rest_at (xs := xs) (fun i m news => ∃ c, news = Led c ∧ (∀ p ∈ Ps c, m p.1 = some p.2) ∧ P i c) ?_ ?_ _ 0 m₀ news₀ rfl (Nat.zero_le _) ⟨c₀, hled, hps, h0⟩
  · rintro i a m news ha ⟨c, rfl, hp, hP⟩ v h tk hv F
    refine AllObj.mono (fun its hits H N => ?_) (turn i a c m ha hP v h tk hv (fold hp F))
    refine wpAny_mono (H N) (fun _ s₂ h₂ => wpAny_mono h₂ (fun f s₃ p => ?_) fun _ _ e => e) fun _ _ e => e
    have up : (∃ (c : σ) (h' : Heap) (tk' : Nat) (m' : Str → Option Value) (all : List (Addr × Obj)), s₃ = { s with heap := h', toks := tk' } ∧ Fr h₀ env.locals h' m' ∧ News h₀ env.locals h' all ∧ SubL its all ∧ SubL (Led c) all ∧ (∀ p ∈ Ps c, m' p.1 = some p.2) ∧ P (i + 1) c) →
        UnrEndW h₀ env.locals { s with heap := h, toks := tk } its (fun m' n' => SubL keep n' ∧ ∃ c, n' = Led c ∧ (∀ p ∈ Ps c, m' p.1 = some p.2) ∧ P (i + 1) c) s₃ := by
      rintro ⟨c', h', tk', m', all, e, F', N', hi, hl, hp', hP'⟩
      refine ⟨h', tk', m', Led c', e, F', fun p hp => ?_, fun p hp q hq => ?_, hkeep c', c', rfl, hp', hP'⟩
      · rcases List.mem_append.mp hp with hp | hp
        · exact N' p (hi.mem p hp)
        · exact N' p (hl.mem p hp)
      · have h1 : p.1 ∈ news₀.map (·.1) := by rw [← hadr c']; exact List.mem_map_of_mem hp
        have h2 : q.1 ∈ ws.map (·.1) := by rw [← hits]; exact List.mem_map_of_mem hq
        obtain ⟨p', hp', e1⟩ := List.mem_map.mp h1
        obtain ⟨q', hq', e2⟩ := List.mem_map.mp h2
        rw [← e1, ← e2]
        exact hoff p' hp' q' hq'
    cases f with
    | ret v => exact p
    | brk => exact p
    | next => exact up p
    | cont => exact up p
  · rintro m news ⟨c, rfl, hp, hP⟩ h tk F N
    exact done c m h tk hP (fold hp F) N
end

def hpfN (lt : Int → Int → Bool) : Nat → List Int → List Int
  | 0, hs => hs
  | k + 1, hs => hpfN lt k (suN lt hs k)
theorem hpf_turn {lt : Int → Int → Bool} {k i : Nat} {hs R : List Int} (hi : i < k) (h : hpfN lt (k - i) hs = R) : hpfN lt (k - (i + 1)) (suN lt hs ((k : Int) - 1 - (i : Int)).toNat) = R := by
  have e : k - i = (k - (i + 1)) + 1 := by omega
  have e2 : ((k : Int) - 1 - (i : Int)).toNat = k - (i + 1) := by omega
  rw [e] at h
  rw [e2]
  exact h
theorem fdiv2 (n : Nat) : ((n : Int)).fdiv 2 = ((n / 2 : Nat) : Int) := by
  rw [Int.fdiv_eq_ediv_of_nonneg _ (by decide)]
  omega
theorem downItems_is {a : Int} {n i : Nat} {x : Itm} (h : (downItems a n)[i]? = some x) : i < n ∧ x = Itm.tok (fun t => .int (a - (i : Int)) t) := by
  have hl : i < (downItems a n).length := by
    rcases Nat.lt_or_ge i (downItems a n).length with q | q
    · exact q
    · rw [List.getElem?_eq_none q] at h; cases h
  have hn : (downItems a n).length = n := by simp [downItems]
  have hi : i < n := by omega
  rw [downItems_get hi] at h
  exact ⟨hi, (Option.some.inj h).symm⟩
theorem lpost_next {σ : Type} {h₀ : Heap} {L : Addr} {s₁ : Shared} {its : List (Addr × Obj)} {Led : σ → List (Addr × Obj)} {Ps : σ → List (Str × Value)} {P : Nat → σ → Prop} {i : Nat} {Q : Flow → Shared → Prop} {h' : Heap} {tk : Nat} {m' : Str → Option Value} {all : List (Addr × Obj)} (c : σ)
    (F : Fr h₀ L h' m') (N : News h₀ L h' all) (hi : SubL its all) (hl : SubL (Led c) all) (hp : ∀ p ∈ Ps c, m' p.1 = some p.2) (hP : P i c) : LPost h₀ L s₁ its Led Ps P i Q .next { s₁ with heap := h', toks := tk } :=
  ⟨c, h', tk, m', all, rfl, F, N, hi, hl, hp, hP⟩
theorem hpf_c (w : World) (mean : ExcName → Option Value) (mg mb : Str → Option Value) {hs : List Int} (hlen : hs.length < 2 ^ 20) :
    MutC w mean mg mb 3 49 (fun l => [.ref l]) hs (fun hs' v => hs' = hpfN ltA (hs.length / 2) hs ∧ v = .none) := by
  unfold MutC
  intro dp un gd cn cs a ccd cl outer A₀ base h₀ L m s Q E l vs n B F X N T hk hd hu hi hret
  w_top off
  k_with_none
  k_with "mine enter" => (refine' def_enter ?zr53k1 ?zr53k2 ?zr53k3 ?zr53k4 ?zr53k5 ?zr53kA ?zr53kF ?zr53kK ?zr53k6 ?zr53k7 ?zr53k8 ?zr53k9 ?zr53kB ?_ ?zr53c2 ?zr53c3 ?zr53c4 ?zr53c5; (case zr53kA => exact rfl); (case zr53kF => exact rfl); (case zr53kK => assumption); (case zr53k1 => k_asm); (case zr53k2 => k_asm); (case zr53k3 => k_asm); (case zr53k4 => k_asm); (case zr53k5 => k_asm); (case zr53k6 => k_is); (case zr53k7 => k_is); (case zr53k8 => ktr_room); (case zr53k9 => exact BindsTo.of_eq rfl); (case zr53c5 => decide); (case zr53kB => exact locs rfl); (case zr53c2 => exact rfl); (case zr53c3 => exact rfl); (case zr53c4 => exact rfl); k_whole)
  k_with "binaryOp RShift int int" => (k_here; (with_reducible refine PySem.wpAny_rshift1_int ?zr54kb1 ?_); (case zr54kb1 => omega))
  k_with "mine cj" => (with_reducible (rename @Ne Nat _ _ ∧ _ => zhcj)); have _ := zhcj.1; replace zhcj := zhcj.2
  k_with "mine go" => (repeat (first | walk_at "mine cj" | (k_unfold; (try dsimp only)) | walk_at "mine fold" | walk1 | (dsimp only; walk1)))
  k_with "mine fold" => ((with_reducible show wpAny _ _ (exec _ _) _ _ _); k_fold)
  k_with "mine go2" => (repeat (first | walk_at "mine cj" | (k_unfold; (try dsimp only)) | walk_at "mine fold" | walk_at "mine fold2" | walk1 | (dsimp only; walk1)))
  k_with "mine fold2" => ((fail_if_success (fail_if_success k_fold)); (with_reducible show wpAny _ _ _ (fun _ _ => wpAny _ _ _ _ _ _) _ _); k_fold)
  k_with "mine bnd" => first | with_reducible assumption | omega | ((try simp only [List.length_set, List.length_append, List.length_cons, List.length_nil, List.length_dropLast, sdN_length]); omega)
  k_with "mine ctx" => ((case zctxk1 => k_asm); (case zctxk2 => k_asm); (case zctxk3 => k_asm); (case zctxk4 => k_asm); (case zctxk5 => k_asm); (case zctxkK => first | exact rfl | assumption); (case zctxkU => k_updF); (case zctxkd => ktr_room); (case zctxku => ktr_units); (case zctxki => l_ints))
  k_with "call ref" => (k_here; (with_reducible show wpAny _ _ (call (Value.ref 77) _) _ _ _); k_dflt (refine' mut_use (sd_c _ _ _ _ _ _ ?zctxp1 ?zctxp2 ?zctxp3 ?zctxp4) ?zctxk1 ?zctxk2 ?zctxk3 ?zctxk4 ?zctxk5 ?zctxkK ?zctxkU ?zctxkd ?zctxku ?zctxki ?_; walk_at "mine ctx"; (case zctxp1 => walk_at "mine bnd"); (case zctxp2 => walk_at "mine bnd"); (case zctxp3 => walk_at "mine bnd"); (case zctxp4 => walk_at "mine bnd"); k_whole); intro _ _ _ _ _ _ _ zN' _ zho'; (have ze1 := zho'.1); (have ze2 := zho'.2); clear zho'; subst ze1; subst ze2; (try dsimp only at zN'); (try k_sweep))
  k_with "call ref" => (k_here; (with_reducible show wpAny _ _ (call (Value.ref 91) _) _ _ _); k_dflt (refine' mut_use (sdx_c _ _ _ _ _ _ ?zctxp1 ?zctxp2 ?zctxp3 ?zctxp4) ?zctxk1 ?zctxk2 ?zctxk3 ?zctxk4 ?zctxk5 ?zctxkK ?zctxkU ?zctxkd ?zctxku ?zctxki ?_; walk_at "mine ctx"; (case zctxp1 => walk_at "mine bnd"); (case zctxp2 => walk_at "mine bnd"); (case zctxp3 => walk_at "mine bnd"); (case zctxp4 => walk_at "mine bnd"); k_whole); intro _ _ _ _ _ _ _ zN' _ zho'; (have ze1 := zho'.1); (have ze2 := zho'.2); clear zho'; subst ze1; subst ze2; (try dsimp only at zN'); (try k_sweep))
  k_with "mine bnd" => first | with_reducible assumption | omega | ((try simp only [List.length_set, List.length_append, List.length_cons, List.length_nil, List.length_dropLast, sdN_length, suN_length]); omega)
  k_with "call ref" => (k_here; (with_reducible show wpAny _ _ (call (Value.ref 84) _) _ _ _); k_dflt (refine' mut_use (su_c _ _ _ _ _ ?zctxp1 ?zctxp2 ?zctxp3) ?zctxk1 ?zctxk2 ?zctxk3 ?zctxk4 ?zctxk5 ?zctxkK ?zctxkU ?zctxkd ?zctxku ?zctxki ?_; walk_at "mine ctx"; (case zctxp1 => walk_at "mine bnd"); (case zctxp2 => walk_at "mine bnd"); (case zctxp3 => walk_at "mine bnd"); k_whole); intro _ _ _ _ _ _ _ zN' _ zho'; (have ze1 := zho'.1); (have ze2 := zho'.2); clear zho'; subst ze1; subst ze2; (try dsimp only at zN'); (try k_sweep))
  k_with "call ref" => (k_here; (with_reducible show wpAny _ _ (call (Value.ref 98) _) _ _ _); k_dflt (refine' mut_use (sux_c _ _ _ _ _ ?zctxp1 ?zctxp2 ?zctxp3) ?zctxk1 ?zctxk2 ?zctxk3 ?zctxk4 ?zctxk5 ?zctxkK ?zctxkU ?zctxkd ?zctxku ?zctxki ?_; walk_at "mine ctx"; (case zctxp1 => walk_at "mine bnd"); (case zctxp2 => walk_at "mine bnd"); (case zctxp3 => walk_at "mine bnd"); k_whole); intro _ _ _ _ _ _ _ zN' _ zho'; (have ze1 := zho'.1); (have ze2 := zho'.2); clear zho'; subst ze1; subst ze2; (try dsimp only at zN'); (try k_sweep))
  k_with "call builtin:len" => (k_here; (with_reducible show wpAny _ _ (call (Value.builtin "len") [Value.ref _]) _ _ _); k_dflt (refine' len_ints ?zr67k1 ?zr67k2 ?zr67k3 ?zr67k4 ?_; (case zr67k1 => k_asm); (case zr67k2 => k_mem); (case zr67k3 => l_ints); (case zr67k4 => walk_at "mine bnd"); k_whole))
  k_with "truthy ref" => (k_here; (with_reducible show wpAny _ _ (truthy (Value.ref _)) _ _ _); k_dflt (refine' truthy_ints ?zr68k1 ?zr68k2 ?zr68k3 ?zr68k4 ?_; (case zr68k1 => k_asm); (case zr68k2 => k_mem); (case zr68k3 => l_ints); (case zr68k4 => walk_at "mine bnd")))
  k_with "mine end" => ((try dsimp only); (try (k_unfold; try dsimp only)))
  k_with "exec For Name Call cons nil" => (k_here; (rename Fr _ _ _ _ => zlF'); (with_unfolding_all refine' For_turns zlF' ?_; k_whole))
  k_with "call type:reversed" => (k_here; (with_reducible show wpAny _ _ (call (Value.type _) [Value.ref _]) _ _ _); k_dflt (refine' reversed_range ?zr71F ?zr71N ?zr71l ?zr71b ?zr71c ?zr71e ?_; (case zr71F => k_asm); (case zr71N => k_asm); (case zr71l => assumption); (case zr71e => exact fdiv2 _); (case zr71b => (rw [fdiv2]; omega)); (case zr71c => (rw [fdiv2]; omega))); intro _ _ _ _ zl1; (try k_lt zl1); (try k_sweep))
  k_with "mine maps" => first | exact List.forall_mem_nil _ | (refine List.forall_mem_cons.mpr ⟨by rfl, ?_⟩; walk_at "mine maps")
  refine wpAny_call ?_
  k_dflt (walk_at "mine enter")
  intro g L' h' hg hlt F' N' B' X' T'
  (try dsimp only); (try k_fold)
  clear F N B
  have hvl : vs.length = hs.length := hi.length
  k_with_none
  k_with "mine enter" => (refine' def_enter ?zr53k1 ?zr53k2 ?zr53k3 ?zr53k4 ?zr53k5 ?zr53kA ?zr53kF ?zr53kK ?zr53k6 ?zr53k7 ?zr53k8 ?zr53k9 ?zr53kB ?_ ?zr53c2 ?zr53c3 ?zr53c4 ?zr53c5; (case zr53kA => exact rfl); (case zr53kF => exact rfl); (case zr53kK => assumption); (case zr53k1 => k_asm); (case zr53k2 => k_asm); (case zr53k3 => k_asm); (case zr53k4 => k_asm); (case zr53k5 => k_asm); (case zr53k6 => k_is); (case zr53k7 => k_is); (case zr53k8 => ktr_room); (case zr53k9 => exact BindsTo.of_eq rfl); (case zr53c5 => decide); (case zr53kB => exact locs rfl); (case zr53c2 => exact rfl); (case zr53c3 => exact rfl); (case zr53c4 => exact rfl); k_whole)
  k_with "binaryOp RShift int int" => (k_here; (with_reducible refine PySem.wpAny_rshift1_int ?zr54kb1 ?_); (case zr54kb1 => omega))
  k_with "mine cj" => (with_reducible (rename @Ne Nat _ _ ∧ _ => zhcj)); have _ := zhcj.1; replace zhcj := zhcj.2
  k_with "mine go" => (repeat (first | walk_at "mine cj" | (k_unfold; (try dsimp only)) | walk_at "mine fold" | walk1 | (dsimp only; walk1)))
  k_with "mine fold" => ((with_reducible show wpAny _ _ (exec _ _) _ _ _); k_fold)
  k_with "mine go2" => (repeat (first | walk_at "mine cj" | (k_unfold; (try dsimp only)) | walk_at "mine fold" | walk_at "mine fold2" | walk1 | (dsimp only; walk1)))
  k_with "mine fold2" => ((fail_if_success (fail_if_success k_fold)); (with_reducible show wpAny _ _ _ (fun _ _ => wpAny _ _ _ _ _ _) _ _); k_fold)
  k_with "mine bnd" => first | with_reducible assumption | omega | ((try simp only [List.length_set, List.length_append, List.length_cons, List.length_nil, List.length_dropLast, sdN_length]); omega)
  k_with "mine ctx" => ((case zctxk1 => k_asm); (case zctxk2 => k_asm); (case zctxk3 => k_asm); (case zctxk4 => k_asm); (case zctxk5 => k_asm); (case zctxkK => first | exact rfl | assumption); (case zctxkU => k_updF); (case zctxkd => ktr_room); (case zctxku => ktr_units); (case zctxki => l_ints))
  k_with "call ref" => (k_here; (with_reducible show wpAny _ _ (call (Value.ref 77) _) _ _ _); k_dflt (refine' mut_use (sd_c _ _ _ _ _ _ ?zctxp1 ?zctxp2 ?zctxp3 ?zctxp4) ?zctxk1 ?zctxk2 ?zctxk3 ?zctxk4 ?zctxk5 ?zctxkK ?zctxkU ?zctxkd ?zctxku ?zctxki ?_; walk_at "mine ctx"; (case zctxp1 => walk_at "mine bnd"); (case zctxp2 => walk_at "mine bnd"); (case zctxp3 => walk_at "mine bnd"); (case zctxp4 => walk_at "mine bnd"); k_whole); intro _ _ _ _ _ _ _ zN' _ zho'; (have ze1 := zho'.1); (have ze2 := zho'.2); clear zho'; subst ze1; subst ze2; (try dsimp only at zN'); (try k_sweep))
  k_with "call ref" => (k_here; (with_reducible show wpAny _ _ (call (Value.ref 91) _) _ _ _); k_dflt (refine' mut_use (sdx_c _ _ _ _ _ _ ?zctxp1 ?zctxp2 ?zctxp3 ?zctxp4) ?zctxk1 ?zctxk2 ?zctxk3 ?zctxk4 ?zctxk5 ?zctxkK ?zctxkU ?zctxkd ?zctxku ?zctxki ?_; walk_at "mine ctx"; (case zctxp1 => walk_at "mine bnd"); (case zctxp2 => walk_at "mine bnd"); (case zctxp3 => walk_at "mine bnd"); (case zctxp4 => walk_at "mine bnd"); k_whole); intro _ _ _ _ _ _ _ zN' _ zho'; (have ze1 := zho'.1); (have ze2 := zho'.2); clear zho'; subst ze1; subst ze2; (try dsimp only at zN'); (try k_sweep))
  k_with "mine bnd" => first | with_reducible assumption | omega | ((try simp only [List.length_set, List.length_append, List.length_cons, List.length_nil, List.length_dropLast, sdN_length, suN_length]); omega)
  k_with "call ref" => (k_here; (with_reducible show wpAny _ _ (call (Value.ref 84) _) _ _ _); k_dflt (refine' mut_use (su_c _ _ _ _ _ ?zctxp1 ?zctxp2 ?zctxp3) ?zctxk1 ?zctxk2 ?zctxk3 ?zctxk4 ?zctxk5 ?zctxkK ?zctxkU ?zctxkd ?zctxku ?zctxki ?_; walk_at "mine ctx"; (case zctxp1 => walk_at "mine bnd"); (case zctxp2 => walk_at "mine bnd"); (case zctxp3 => walk_at "mine bnd"); k_whole); intro _ _ _ _ _ _ _ zN' _ zho'; (have ze1 := zho'.1); (have ze2 := zho'.2); clear zho'; subst ze1; subst ze2; (try dsimp only at zN'); (try k_sweep))
  k_with "call ref" => (k_here; (with_reducible show wpAny _ _ (call (Value.ref 98) _) _ _ _); k_dflt (refine' mut_use (sux_c _ _ _ _ _ ?zctxp1 ?zctxp2 ?zctxp3) ?zctxk1 ?zctxk2 ?zctxk3 ?zctxk4 ?zctxk5 ?zctxkK ?zctxkU ?zctxkd ?zctxku ?zctxki ?_; walk_at "mine ctx"; (case zctxp1 => walk_at "mine bnd"); (case zctxp2 => walk_at "mine bnd"); (case zctxp3 => walk_at "mine bnd"); k_whole); intro _ _ _ _ _ _ _ zN' _ zho'; (have ze1 := zho'.1); (have ze2 := zho'.2); clear zho'; subst ze1; subst ze2; (try dsimp only at zN'); (try k_sweep))
  k_with "call builtin:len" => (k_here; (with_reducible show wpAny _ _ (call (Value.builtin "len") [Value.ref _]) _ _ _); k_dflt (refine' len_ints ?zr67k1 ?zr67k2 ?zr67k3 ?zr67k4 ?_; (case zr67k1 => k_asm); (case zr67k2 => k_mem); (case zr67k3 => l_ints); (case zr67k4 => walk_at "mine bnd"); k_whole))
  k_with "truthy ref" => (k_here; (with_reducible show wpAny _ _ (truthy (Value.ref _)) _ _ _); k_dflt (refine' truthy_ints ?zr68k1 ?zr68k2 ?zr68k3 ?zr68k4 ?_; (case zr68k1 => k_asm); (case zr68k2 => k_mem); (case zr68k3 => l_ints); (case zr68k4 => walk_at "mine bnd")))
  k_with "mine end" => ((try dsimp only); (try (k_unfold; try dsimp only)))
  k_with "exec For Name Call cons nil" => (k_here; (rename Fr _ _ _ _ => zlF'); (with_unfolding_all refine' For_turns zlF' ?_; k_whole))
  k_with "call type:reversed" => (k_here; (with_reducible show wpAny _ _ (call (Value.type _) [Value.ref _]) _ _ _); k_dflt (refine' reversed_range ?zr71F ?zr71N ?zr71l ?zr71b ?zr71c ?zr71e ?_; (case zr71F => k_asm); (case zr71N => k_asm); (case zr71l => assumption); (case zr71e => exact fdiv2 _); (case zr71b => (rw [fdiv2]; omega)); (case zr71c => (rw [fdiv2]; omega))); intro _ _ _ _ zl1; (try k_lt zl1); (try k_sweep))
  k_with "mine maps" => first | exact List.forall_mem_nil _ | (refine List.forall_mem_cons.mpr ⟨by rfl, ?_⟩; walk_at "mine maps")
  k_steps
  · (rename Fr _ _ _ _ => lF'); (rename News _ _ _ _ => lN')
    refine iter_ritTurns (by rfl) ⟨_, _, rfl⟩ lF' lN' (by k_all) ?_
    refine rest_st (σ := List Value × List Int × Nat) (fun c => [(l, listOf c.1.toArray c.2.2)]) (fun c => [(Str.ofString "x", .ref l)])
      (fun i c => IntsAre c.1 c.2.1 ∧ c.2.1.length = hs.length ∧ hpfN ltA (hs.length / 2 - i) c.2.1 = hpfN ltA (hs.length / 2) hs) (vs, hs, n) rfl (by walk_at "mine maps") ⟨hi, rfl, rfl⟩ (fun c => rfl) (by intro p hp q hq; rw [List.mem_singleton.mp hp, List.mem_singleton.mp hq]; k_ne) (fun c => trivial) ?turn ?done
    case turn =>
      rintro i a ⟨vs1, hs1, n1⟩ u ha ⟨hi1, hl1, hr1⟩ v h tk hv F
      obtain ⟨hin, rfl⟩ := downItems_is ha
      obtain ⟨t, rfl⟩ := hv
      refine AllObj.cons (fun o' hc' => AllObj.nil (fun N' => ?_))
      clear lF' lN'
      (try dsimp only at *); (try simp only [List.cons_append, List.nil_append] at N'); (try k_fold)
      k_steps
      exact lpost_next (_, _, _) (by assumption) (by assumption) (by k_subL) (by k_subL) (by walk_at "mine maps") ⟨by assumption, by rw [suN_length]; assumption, hpf_turn hin hr1⟩
    case done =>
      rintro ⟨vs1, hs1, n1⟩ u h tk ⟨hi1, hl1, hr1⟩ F N'
      have hz : hs.length / 2 - (downItems (((hs.length / 2 : Nat) : Int) - 1) (hs.length / 2)).length = 0 := by simp [downItems]
      rw [hz] at hr1
      clear lF' lN'
      (try dsimp only at *)
      k_steps
      all_goals walk_at "mine end"
      all_goals exact hret _ _ _ _ _ _ (hupd_sub hg (by assumption) (by assumption) (by k_mem)) (by assumption) ⟨hr1, rfl⟩
theorem hpfx_c (w : World) (mean : ExcName → Option Value) (mg mb : Str → Option Value) {hs : List Int} (hlen : hs.length < 2 ^ 20) :
    MutC w mean mg mb 3 70 (fun l => [.ref l]) hs (fun hs' v => hs' = hpfN ltB (hs.length / 2) hs ∧ v = .none) := by
  unfold MutC
  intro dp un gd cn cs a ccd cl outer A₀ base h₀ L m s Q E l vs n B F X N T hk hd hu hi hret
  w_top off
  k_with_none
  k_with "mine enter" => (refine' def_enter ?zr53k1 ?zr53k2 ?zr53k3 ?zr53k4 ?zr53k5 ?zr53kA ?zr53kF ?zr53kK ?zr53k6 ?zr53k7 ?zr53k8 ?zr53k9 ?zr53kB ?_ ?zr53c2 ?zr53c3 ?zr53c4 ?zr53c5; (case zr53kA => exact rfl); (case zr53kF => exact rfl); (case zr53kK => assumption); (case zr53k1 => k_asm); (case zr53k2 => k_asm); (case zr53k3 => k_asm); (case zr53k4 => k_asm); (case zr53k5 => k_asm); (case zr53k6 => k_is); (case zr53k7 => k_is); (case zr53k8 => ktr_room); (case zr53k9 => exact BindsTo.of_eq rfl); (case zr53c5 => decide); (case zr53kB => exact locs rfl); (case zr53c2 => exact rfl); (case zr53c3 => exact rfl); (case zr53c4 => exact rfl); k_whole)
  k_with "binaryOp RShift int int" => (k_here; (with_reducible refine PySem.wpAny_rshift1_int ?zr54kb1 ?_); (case zr54kb1 => omega))
  k_with "mine cj" => (with_reducible (rename @Ne Nat _ _ ∧ _ => zhcj)); have _ := zhcj.1; replace zhcj := zhcj.2
  k_with "mine go" => (repeat (first | walk_at "mine cj" | (k_unfold; (try dsimp only)) | walk_at "mine fold" | walk1 | (dsimp only; walk1)))
  k_with "mine fold" => ((with_reducible show wpAny _ _ (exec _ _) _ _ _); k_fold)
  k_with "mine go2" => (repeat (first | walk_at "mine cj" | (k_unfold; (try dsimp only)) | walk_at "mine fold" | walk_at "mine fold2" | walk1 | (dsimp only; walk1)))
  k_with "mine fold2" => ((fail_if_success (fail_if_success k_fold)); (with_reducible show wpAny _ _ _ (fun _ _ => wpAny _ _ _ _ _ _) _ _); k_fold)
  k_with "mine bnd" => first | with_reducible assumption | omega | ((try simp only [List.length_set, List.length_append, List.length_cons, List.length_nil, List.length_dropLast, sdN_length]); omega)
  k_with "mine ctx" => ((case zctxk1 => k_asm); (case zctxk2 => k_asm); (case zctxk3 => k_asm); (case zctxk4 => k_asm); (case zctxk5 => k_asm); (case zctxkK => first | exact rfl | assumption); (case zctxkU => k_updF); (case zctxkd => ktr_room); (case zctxku => ktr_units); (case zctxki => l_ints))
  k_with "call ref" => (k_here; (with_reducible show wpAny _ _ (call (Value.ref 77) _) _ _ _); k_dflt (refine' mut_use (sd_c _ _ _ _ _ _ ?zctxp1 ?zctxp2 ?zctxp3 ?zctxp4) ?zctxk1 ?zctxk2 ?zctxk3 ?zctxk4 ?zctxk5 ?zctxkK ?zctxkU ?zctxkd ?zctxku ?zctxki ?_; walk_at "mine ctx"; (case zctxp1 => walk_at "mine bnd"); (case zctxp2 => walk_at "mine bnd"); (case zctxp3 => walk_at "mine bnd"); (case zctxp4 => walk_at "mine bnd"); k_whole); intro _ _ _ _ _ _ _ zN' _ zho'; (have ze1 := zho'.1); (have ze2 := zho'.2); clear zho'; subst ze1; subst ze2; (try dsimp only at zN'); (try k_sweep))
  k_with "call ref" => (k_here; (with_reducible show wpAny _ _ (call (Value.ref 91) _) _ _ _); k_dflt (refine' mut_use (sdx_c _ _ _ _ _ _ ?zctxp1 ?zctxp2 ?zctxp3 ?zctxp4) ?zctxk1 ?zctxk2 ?zctxk3 ?zctxk4 ?zctxk5 ?zctxkK ?zctxkU ?zctxkd ?zctxku ?zctxki ?_; walk_at "mine ctx"; (case zctxp1 => walk_at "mine bnd"); (case zctxp2 => walk_at "mine bnd"); (case zctxp3 => walk_at "mine bnd"); (case zctxp4 => walk_at "mine bnd"); k_whole); intro _ _ _ _ _ _ _ zN' _ zho'; (have ze1 := zho'.1); (have ze2 := zho'.2); clear zho'; subst ze1; subst ze2; (try dsimp only at zN'); (try k_sweep))
  k_with "mine bnd" => first | with_reducible assumption | omega | ((try simp only [List.length_set, List.length_append, List.length_cons, List.length_nil, List.length_dropLast, sdN_length, suN_length]); omega)
  k_with "call ref" => (k_here; (with_reducible show wpAny _ _ (call (Value.ref 84) _) _ _ _); k_dflt (refine' mut_use (su_c _ _ _ _ _ ?zctxp1 ?zctxp2 ?zctxp3) ?zctxk1 ?zctxk2 ?zctxk3 ?zctxk4 ?zctxk5 ?zctxkK ?zctxkU ?zctxkd ?zctxku ?zctxki ?_; walk_at "mine ctx"; (case zctxp1 => walk_at "mine bnd"); (case zctxp2 => walk_at "mine bnd"); (case zctxp3 => walk_at "mine bnd"); k_whole); intro _ _ _ _ _ _ _ zN' _ zho'; (have ze1 := zho'.1); (have ze2 := zho'.2); clear zho'; subst ze1; subst ze2; (try dsimp only at zN'); (try k_sweep))
  k_with "call ref" => (k_here; (with_reducible show wpAny _ _ (call (Value.ref 98) _) _ _ _); k_dflt (refine' mut_use (sux_c _ _ _ _ _ ?zctxp1 ?zctxp2 ?zctxp3) ?zctxk1 ?zctxk2 ?zctxk3 ?zctxk4 ?zctxk5 ?zctxkK ?zctxkU ?zctxkd ?zctxku ?zctxki ?_; walk_at "mine ctx"; (case zctxp1 => walk_at "mine bnd"); (case zctxp2 => walk_at "mine bnd"); (case zctxp3 => walk_at "mine bnd"); k_whole); intro _ _ _ _ _ _ _ zN' _ zho'; (have ze1 := zho'.1); (have ze2 := zho'.2); clear zho'; subst ze1; subst ze2; (try dsimp only at zN'); (try k_sweep))
  k_with "call builtin:len" => (k_here; (with_reducible show wpAny _ _ (call (Value.builtin "len") [Value.ref _]) _ _ _); k_dflt (refine' len_ints ?zr67k1 ?zr67k2 ?zr67k3 ?zr67k4 ?_; (case zr67k1 => k_asm); (case zr67k2 => k_mem); (case zr67k3 => l_ints); (case zr67k4 => walk_at "mine bnd"); k_whole))
  k_with "truthy ref" => (k_here; (with_reducible show wpAny _ _ (truthy (Value.ref _)) _ _ _); k_dflt (refine' truthy_ints ?zr68k1 ?zr68k2 ?zr68k3 ?zr68k4 ?_; (case zr68k1 => k_asm); (case zr68k2 => k_mem); (case zr68k3 => l_ints); (case zr68k4 => walk_at "mine bnd")))
  k_with "mine end" => ((try dsimp only); (try (k_unfold; try dsimp only)))
  k_with "exec For Name Call cons nil" => (k_here; (rename Fr _ _ _ _ => zlF'); (with_unfolding_all refine' For_turns zlF' ?_; k_whole))
  k_with "call type:reversed" => (k_here; (with_reducible show wpAny _ _ (call (Value.type _) [Value.ref _]) _ _ _); k_dflt (refine' reversed_range ?zr71F ?zr71N ?zr71l ?zr71b ?zr71c ?zr71e ?_; (case zr71F => k_asm); (case zr71N => k_asm); (case zr71l => assumption); (case zr71e => exact fdiv2 _); (case zr71b => (rw [fdiv2]; omega)); (case zr71c => (rw [fdiv2]; omega))); intro _ _ _ _ zl1; (try k_lt zl1); (try k_sweep))
  k_with "mine maps" => first | exact List.forall_mem_nil _ | (refine List.forall_mem_cons.mpr ⟨by rfl, ?_⟩; walk_at "mine maps")
  refine wpAny_call ?_
  k_dflt (walk_at "mine enter")
  intro g L' h' hg hlt F' N' B' X' T'
  (try dsimp only); (try k_fold)
  clear F N B
  have hvl : vs.length = hs.length := hi.length
  k_with_none
  k_with "mine enter" => (refine' def_enter ?zr53k1 ?zr53k2 ?zr53k3 ?zr53k4 ?zr53k5 ?zr53kA ?zr53kF ?zr53kK ?zr53k6 ?zr53k7 ?zr53k8 ?zr53k9 ?zr53kB ?_ ?zr53c2 ?zr53c3 ?zr53c4 ?zr53c5; (case zr53kA => exact rfl); (case zr53kF => exact rfl); (case zr53kK => assumption); (case zr53k1 => k_asm); (case zr53k2 => k_asm); (case zr53k3 => k_asm); (case zr53k4 => k_asm); (case zr53k5 => k_asm); (case zr53k6 => k_is); (case zr53k7 => k_is); (case zr53k8 => ktr_room); (case zr53k9 => exact BindsTo.of_eq rfl); (case zr53c5 => decide); (case zr53kB => exact locs rfl); (case zr53c2 => exact rfl); (case zr53c3 => exact rfl); (case zr53c4 => exact rfl); k_whole)
  k_with "binaryOp RShift int int" => (k_here; (with_reducible refine PySem.wpAny_rshift1_int ?zr54kb1 ?_); (case zr54kb1 => omega))
  k_with "mine cj" => (with_reducible (rename @Ne Nat _ _ ∧ _ => zhcj)); have _ := zhcj.1; replace zhcj := zhcj.2
  k_with "mine go" => (repeat (first | walk_at "mine cj" | (k_unfold; (try dsimp only)) | walk_at "mine fold" | walk1 | (dsimp only; walk1)))
  k_with "mine fold" => ((with_reducible show wpAny _ _ (exec _ _) _ _ _); k_fold)
  k_with "mine go2" => (repeat (first | walk_at "mine cj" | (k_unfold; (try dsimp only)) | walk_at "mine fold" | walk_at "mine fold2" | walk1 | (dsimp only; walk1)))
  k_with "mine fold2" => ((fail_if_success (fail_if_success k_fold)); (with_reducible show wpAny _ _ _ (fun _ _ => wpAny _ _ _ _ _ _) _ _); k_fold)
  k_with "mine bnd" => first | with_reducible assumption | omega | ((try simp only [List.length_set, List.length_append, List.length_cons, List.length_nil, List.length_dropLast, sdN_length]); omega)
  k_with "mine ctx" => ((case zctxk1 => k_asm); (case zctxk2 => k_asm); (case zctxk3 => k_asm); (case zctxk4 => k_asm); (case zctxk5 => k_asm); (case zctxkK => first | exact rfl | assumption); (case zctxkU => k_updF); (case zctxkd => ktr_room); (case zctxku => ktr_units); (case zctxki => l_ints))
  k_with "call ref" => (k_here; (with_reducible show wpAny _ _ (call (Value.ref 77) _) _ _ _); k_dflt (refine' mut_use (sd_c _ _ _ _ _ _ ?zctxp1 ?zctxp2 ?zctxp3 ?zctxp4) ?zctxk1 ?zctxk2 ?zctxk3 ?zctxk4 ?zctxk5 ?zctxkK ?zctxkU ?zctxkd ?zctxku ?zctxki ?_; walk_at "mine ctx"; (case zctxp1 => walk_at "mine bnd"); (case zctxp2 => walk_at "mine bnd"); (case zctxp3 => walk_at "mine bnd"); (case zctxp4 => walk_at "mine bnd"); k_whole); intro _ _ _ _ _ _ _ zN' _ zho'; (have ze1 := zho'.1); (have ze2 := zho'.2); clear zho'; subst ze1; subst ze2; (try dsimp only at zN'); (try k_sweep))
  k_with "call ref" => (k_here; (with_reducible show wpAny _ _ (call (Value.ref 91) _) _ _ _); k_dflt (refine' mut_use (sdx_c _ _ _ _ _ _ ?zctxp1 ?zctxp2 ?zctxp3 ?zctxp4) ?zctxk1 ?zctxk2 ?zctxk3 ?zctxk4 ?zctxk5 ?zctxkK ?zctxkU ?zctxkd ?zctxku ?zctxki ?_; walk_at "mine ctx"; (case zctxp1 => walk_at "mine bnd"); (case zctxp2 => walk_at "mine bnd"); (case zctxp3 => walk_at "mine bnd"); (case zctxp4 => walk_at "mine bnd"); k_whole); intro _ _ _ _ _ _ _ zN' _ zho'; (have ze1 := zho'.1); (have ze2 := zho'.2); clear zho'; subst ze1; subst ze2; (try dsimp only at zN'); (try k_sweep))
  k_with "mine bnd" => first | with_reducible assumption | omega | ((try simp only [List.length_set, List.length_append, List.length_cons, List.length_nil, List.length_dropLast, sdN_length, suN_length]); omega)
  k_with "call ref" => (k_here; (with_reducible show wpAny _ _ (call (Value.ref 84) _) _ _ _); k_dflt (refine' mut_use (su_c _ _ _ _ _ ?zctxp1 ?zctxp2 ?zctxp3) ?zctxk1 ?zctxk2 ?zctxk3 ?zctxk4 ?zctxk5 ?zctxkK ?zctxkU ?zctxkd ?zctxku ?zctxki ?_; walk_at "mine ctx"; (case zctxp1 => walk_at "mine bnd"); (case zctxp2 => walk_at "mine bnd"); (case zctxp3 => walk_at "mine bnd"); k_whole); intro _ _ _ _ _ _ _ zN' _ zho'; (have ze1 := zho'.1); (have ze2 := zho'.2); clear zho'; subst ze1; subst ze2; (try dsimp only at zN'); (try k_sweep))
  k_with "call ref" => (k_here; (with_reducible show wpAny _ _ (call (Value.ref 98) _) _ _ _); k_dflt (refine' mut_use (sux_c _ _ _ _ _ ?zctxp1 ?zctxp2 ?zctxp3) ?zctxk1 ?zctxk2 ?zctxk3 ?zctxk4 ?zctxk5 ?zctxkK ?zctxkU ?zctxkd ?zctxku ?zctxki ?_; walk_at "mine ctx"; (case zctxp1 => walk_at "mine bnd"); (case zctxp2 => walk_at "mine bnd"); (case zctxp3 => walk_at "mine bnd"); k_whole); intro _ _ _ _ _ _ _ zN' _ zho'; (have ze1 := zho'.1); (have ze2 := zho'.2); clear zho'; subst ze1; subst ze2; (try dsimp only at zN'); (try k_sweep))
  k_with "call builtin:len" => (k_here; (with_reducible show wpAny _ _ (call (Value.builtin "len") [Value.ref _]) _ _ _); k_dflt (refine' len_ints ?zr67k1 ?zr67k2 ?zr67k3 ?zr67k4 ?_; (case zr67k1 => k_asm); (case zr67k2 => k_mem); (case zr67k3 => l_ints); (case zr67k4 => walk_at "mine bnd"); k_whole))
  k_with "truthy ref" => (k_here; (with_reducible show wpAny _ _ (truthy (Value.ref _)) _ _ _); k_dflt (refine' truthy_ints ?zr68k1 ?zr68k2 ?zr68k3 ?zr68k4 ?_; (case zr68k1 => k_asm); (case zr68k2 => k_mem); (case zr68k3 => l_ints); (case zr68k4 => walk_at "mine bnd")))
  k_with "mine end" => ((try dsimp only); (try (k_unfold; try dsimp only)))
  k_with "exec For Name Call cons nil" => (k_here; (rename Fr _ _ _ _ => zlF'); (with_unfolding_all refine' For_turns zlF' ?_; k_whole))
  k_with "call type:reversed" => (k_here; (with_reducible show wpAny _ _ (call (Value.type _) [Value.ref _]) _ _ _); k_dflt (refine' reversed_range ?zr71F ?zr71N ?zr71l ?zr71b ?zr71c ?zr71e ?_; (case zr71F => k_asm); (case zr71N => k_asm); (case zr71l => assumption); (case zr71e => exact fdiv2 _); (case zr71b => (rw [fdiv2]; omega)); (case zr71c => (rw [fdiv2]; omega))); intro _ _ _ _ zl1; (try k_lt zl1); (try k_sweep))
  k_with "mine maps" => first | exact List.forall_mem_nil _ | (refine List.forall_mem_cons.mpr ⟨by rfl, ?_⟩; walk_at "mine maps")
  k_steps
  · (rename Fr _ _ _ _ => lF'); (rename News _ _ _ _ => lN')
    refine iter_ritTurns (by rfl) ⟨_, _, rfl⟩ lF' lN' (by k_all) ?_
    refine rest_st (σ := List Value × List Int × Nat) (fun c => [(l, listOf c.1.toArray c.2.2)]) (fun c => [(Str.ofString "x", .ref l)])
      (fun i c => IntsAre c.1 c.2.1 ∧ c.2.1.length = hs.length ∧ hpfN ltB (hs.length / 2 - i) c.2.1 = hpfN ltB (hs.length / 2) hs) (vs, hs, n) rfl (by walk_at "mine maps") ⟨hi, rfl, rfl⟩ (fun c => rfl) (by intro p hp q hq; rw [List.mem_singleton.mp hp, List.mem_singleton.mp hq]; k_ne) (fun c => trivial) ?turn ?done
    case turn =>
      rintro i a ⟨vs1, hs1, n1⟩ u ha ⟨hi1, hl1, hr1⟩ v h tk hv F
      obtain ⟨hin, rfl⟩ := downItems_is ha
      obtain ⟨t, rfl⟩ := hv
      refine AllObj.cons (fun o' hc' => AllObj.nil (fun N' => ?_))
      clear lF' lN'
      (try dsimp only at *); (try simp only [List.cons_append, List.nil_append] at N'); (try k_fold)
      k_steps
      exact lpost_next (_, _, _) (by assumption) (by assumption) (by k_subL) (by k_subL) (by walk_at "mine maps") ⟨by assumption, by rw [suN_length]; assumption, hpf_turn hin hr1⟩
    case done =>
      rintro ⟨vs1, hs1, n1⟩ u h tk ⟨hi1, hl1, hr1⟩ F N'
      have hz : hs.length / 2 - (downItems (((hs.length / 2 : Nat) : Int) - 1) (hs.length / 2)).length = 0 := by simp [downItems]
      rw [hz] at hr1
      clear lF' lN'
      (try dsimp only at *)
      k_steps
      all_goals walk_at "mine end"
      all_goals exact hret _ _ _ _ _ _ (hupd_sub hg (by assumption) (by assumption) (by k_mem)) (by assumption) ⟨hr1, rfl⟩

theorem ediv_int {prog : Program} {w : World} {A : Around} {E : Value → Shared → Prop} {s : Shared} {a b : Int} {t u : Tok} {Q : Value → Shared → Prop} (hb : 0 < b) (hp : Builtin.divisionGoesByPylong a b = false) (h : Q (.int (a / b) s.toks) { s with toks := s.toks + 1 }) : wpAny (model prog w) A (binaryOp .FloorDiv (.int a t) (.int b u)) Q E s := by
  refine floordiv_int (by omega) ?_ (Or.inl hp)
  rw [Int.fdiv_eq_ediv_of_nonneg _ (by omega)]
  exact h
theorem emod_int {prog : Program} {w : World} {A : Around} {E : Value → Shared → Prop} {s : Shared} {a b : Int} {t u : Tok} {Q : Value → Shared → Prop} (hb : 0 < b) (h : Q (.int (a % b) s.toks) { s with toks := s.toks + 1 }) : wpAny (model prog w) A (binaryOp .Mod (.int a t) (.int b u)) Q E s := by
  refine mod_int' (by omega) ?_
  rw [Int.fmod_eq_emod_of_nonneg _ (by omega)]
  exact h
-- LIFT
def lfDn (hs : List Int) (spot place : Nat) : List Int :=
  if place < spot then lfDn (hs.set spot (hs.getD ((spot - 1) / 2) 0)) ((spot - 1) / 2) place else hs
termination_by spot
decreasing_by omega
@[irreducible] def liftN (hs : List Int) (spot place : Nat) : List Int := (lfDn hs spot place).set place (hs.getD spot 0)
theorem lfDn_length (place : Nat) : ∀ (spot : Nat) (hs : List Int), (lfDn hs spot place).length = hs.length := by
  intro spot
  induction spot using Nat.strongRecOn with
  | ind j ih =>
    intro hs
    rw [lfDn]
    split
    · rw [ih _ (by omega), List.length_set]
    · rfl
theorem liftN_length (hs : List Int) (spot place : Nat) : (liftN hs spot place).length = hs.length := by
  unfold liftN
  rw [List.length_set, lfDn_length]
theorem lf_start {hs : List Int} {j : Int} {p : Nat} (h0 : 0 ≤ j) (h1 : j < hs.length) : 0 ≤ j ∧ j < hs.length ∧ hs.length = hs.length ∧ lfDn hs j.toNat p = lfDn hs j.toNat p := ⟨h0, h1, rfl, rfl⟩
theorem lf_turn {hp hs R : List Int} {place spot : Int} (h0 : 0 ≤ spot) (hp0 : 0 ≤ place) (hlt : place < spot) (h1 : spot < hp.length) (hl : hp.length = hs.length) (hR : lfDn hp spot.toNat place.toNat = R) :
    0 ≤ (spot - 1) / 2 ∧ (spot - 1) / 2 < (hp.set spot.toNat (hp.getD ((spot - 1) / 2).toNat 0)).length ∧ (hp.set spot.toNat (hp.getD ((spot - 1) / 2).toNat 0)).length = hs.length ∧ lfDn (hp.set spot.toNat (hp.getD ((spot - 1) / 2).toNat 0)) ((spot - 1) / 2).toNat place.toNat = R := by
  refine ⟨by omega, by rw [List.length_set]; omega, by rw [List.length_set]; exact hl, ?_⟩
  rw [lfDn] at hR
  have e : ((spot - 1) / 2).toNat = (spot.toNat - 1) / 2 := by omega
  rw [if_pos (by omega), ← e] at hR
  exact hR
theorem lf_stop {hp R : List Int} {place spot : Int} (hlt : ¬ place < spot) (hR : lfDn hp spot.toNat place.toNat = R) : hp = R := by
  rw [lfDn, if_neg (by omega)] at hR
  exact hR
theorem lf_fin {hp hs : List Int} {place spot j : Int} (hlt : ¬ place < spot) (hR : lfDn hp spot.toNat place.toNat = lfDn hs j.toNat place.toNat) : hp.set place.toNat (hs.getD j.toNat 0) = liftN hs j.toNat place.toNat := by
  unfold liftN
  rw [lf_stop hlt hR]
theorem lift_c (w : World) (mean : ExcName → Option Value) (mg mb : Str → Option Value) {hs : List Int} {j p : Int} (t u : Tok) (hj0 : 0 ≤ j) (hj : j < hs.length) (hp0 : 0 ≤ p) (hp : p < hs.length) (hlen : hs.length < 2 ^ 20) :
    MutC w mean mg mb 1 110 (fun l => [.ref l, .int j t, .int p u]) hs (fun hs' v => hs' = liftN hs j.toNat p.toNat ∧ v = .none) := by
  unfold MutC
  intro dp un gd cn cs a ccd cl outer A₀ base h₀ L m s Q E l vs n B F X N T hk hd hu hi hret
  w_top off
  k_with_none
  k_with "mine enter" => (refine' def_enter ?zr73k1 ?zr73k2 ?zr73k3 ?zr73k4 ?zr73k5 ?zr73kA ?zr73kF ?zr73kK ?zr73k6 ?zr73k7 ?zr73k8 ?zr73k9 ?zr73kB ?_ ?zr73c2 ?zr73c3 ?zr73c4 ?zr73c5; (case zr73kA => exact rfl); (case zr73kF => exact rfl); (case zr73kK => assumption); (case zr73k1 => k_asm); (case zr73k2 => k_asm); (case zr73k3 => k_asm); (case zr73k4 => k_asm); (case zr73k5 => k_asm); (case zr73k6 => k_is); (case zr73k7 => k_is); (case zr73k8 => ktr_room); (case zr73k9 => exact BindsTo.of_eq rfl); (case zr73c5 => decide); (case zr73kB => exact locs rfl); (case zr73c2 => exact rfl); (case zr73c3 => exact rfl); (case zr73c4 => exact rfl); k_whole)
  k_with "binaryOp RShift int int" => (k_here; (with_reducible refine PySem.wpAny_rshift1_int ?zr74kb1 ?_); (case zr74kb1 => omega))
  k_with "mine cj" => (with_reducible (rename @Ne Nat _ _ ∧ _ => zhcj)); have _ := zhcj.1; replace zhcj := zhcj.2
  k_with "mine go" => (repeat (first | walk_at "mine cj" | (k_unfold; (try dsimp only)) | walk_at "mine fold" | walk1 | (dsimp only; walk1)))
  k_with "mine fold" => ((with_reducible show wpAny _ _ (exec _ _) _ _ _); k_fold)
  k_with "mine go2" => (repeat (first | walk_at "mine cj" | (k_unfold; (try dsimp only)) | walk_at "mine fold" | walk_at "mine fold2" | walk1 | (dsimp only; walk1)))
  k_with "mine fold2" => ((fail_if_success (fail_if_success k_fold)); (with_reducible show wpAny _ _ _ (fun _ _ => wpAny _ _ _ _ _ _) _ _); k_fold)
  k_with "mine bnd" => first | with_reducible assumption | omega | ((try simp only [List.length_set, List.length_append, List.length_cons, List.length_nil, List.length_dropLast, sdN_length]); omega)
  k_with "mine ctx" => ((case zctxk1 => k_asm); (case zctxk2 => k_asm); (case zctxk3 => k_asm); (case zctxk4 => k_asm); (case zctxk5 => k_asm); (case zctxkK => first | exact rfl | assumption); (case zctxkU => k_updF); (case zctxkd => ktr_room); (case zctxku => ktr_units); (case zctxki => l_ints))
  k_with "call ref" => (k_here; (with_reducible show wpAny _ _ (call (Value.ref 77) _) _ _ _); k_dflt (refine' mut_use (sd_c _ _ _ _ _ _ ?zctxp1 ?zctxp2 ?zctxp3 ?zctxp4) ?zctxk1 ?zctxk2 ?zctxk3 ?zctxk4 ?zctxk5 ?zctxkK ?zctxkU ?zctxkd ?zctxku ?zctxki ?_; walk_at "mine ctx"; (case zctxp1 => walk_at "mine bnd"); (case zctxp2 => walk_at "mine bnd"); (case zctxp3 => walk_at "mine bnd"); (case zctxp4 => walk_at "mine bnd"); k_whole); intro _ _ _ _ _ _ _ zN' _ zho'; (have ze1 := zho'.1); (have ze2 := zho'.2); clear zho'; subst ze1; subst ze2; (try dsimp only at zN'); (try k_sweep))
  k_with "call ref" => (k_here; (with_reducible show wpAny _ _ (call (Value.ref 91) _) _ _ _); k_dflt (refine' mut_use (sdx_c _ _ _ _ _ _ ?zctxp1 ?zctxp2 ?zctxp3 ?zctxp4) ?zctxk1 ?zctxk2 ?zctxk3 ?zctxk4 ?zctxk5 ?zctxkK ?zctxkU ?zctxkd ?zctxku ?zctxki ?_; walk_at "mine ctx"; (case zctxp1 => walk_at "mine bnd"); (case zctxp2 => walk_at "mine bnd"); (case zctxp3 => walk_at "mine bnd"); (case zctxp4 => walk_at "mine bnd"); k_whole); intro _ _ _ _ _ _ _ zN' _ zho'; (have ze1 := zho'.1); (have ze2 := zho'.2); clear zho'; subst ze1; subst ze2; (try dsimp only at zN'); (try k_sweep))
  k_with "mine bnd" => first | with_reducible assumption | omega | ((try simp only [List.length_set, List.length_append, List.length_cons, List.length_nil, List.length_dropLast, sdN_length, suN_length]); omega)
  k_with "call ref" => (k_here; (with_reducible show wpAny _ _ (call (Value.ref 84) _) _ _ _); k_dflt (refine' mut_use (su_c _ _ _ _ _ ?zctxp1 ?zctxp2 ?zctxp3) ?zctxk1 ?zctxk2 ?zctxk3 ?zctxk4 ?zctxk5 ?zctxkK ?zctxkU ?zctxkd ?zctxku ?zctxki ?_; walk_at "mine ctx"; (case zctxp1 => walk_at "mine bnd"); (case zctxp2 => walk_at "mine bnd"); (case zctxp3 => walk_at "mine bnd"); k_whole); intro _ _ _ _ _ _ _ zN' _ zho'; (have ze1 := zho'.1); (have ze2 := zho'.2); clear zho'; subst ze1; subst ze2; (try dsimp only at zN'); (try k_sweep))
  k_with "call ref" => (k_here; (with_reducible show wpAny _ _ (call (Value.ref 98) _) _ _ _); k_dflt (refine' mut_use (sux_c _ _ _ _ _ ?zctxp1 ?zctxp2 ?zctxp3) ?zctxk1 ?zctxk2 ?zctxk3 ?zctxk4 ?zctxk5 ?zctxkK ?zctxkU ?zctxkd ?zctxku ?zctxki ?_; walk_at "mine ctx"; (case zctxp1 => walk_at "mine bnd"); (case zctxp2 => walk_at "mine bnd"); (case zctxp3 => walk_at "mine bnd"); k_whole); intro _ _ _ _ _ _ _ zN' _ zho'; (have ze1 := zho'.1); (have ze2 := zho'.2); clear zho'; subst ze1; subst ze2; (try dsimp only at zN'); (try k_sweep))
  k_with "call builtin:len" => (k_here; (with_reducible show wpAny _ _ (call (Value.builtin "len") [Value.ref _]) _ _ _); k_dflt (refine' len_ints ?zr87k1 ?zr87k2 ?zr87k3 ?zr87k4 ?_; (case zr87k1 => k_asm); (case zr87k2 => k_mem); (case zr87k3 => l_ints); (case zr87k4 => walk_at "mine bnd"); k_whole))
  k_with "truthy ref" => (k_here; (with_reducible show wpAny _ _ (truthy (Value.ref _)) _ _ _); k_dflt (refine' truthy_ints ?zr88k1 ?zr88k2 ?zr88k3 ?zr88k4 ?_; (case zr88k1 => k_asm); (case zr88k2 => k_mem); (case zr88k3 => l_ints); (case zr88k4 => walk_at "mine bnd")))
  k_with "mine end" => ((try dsimp only); (try (k_unfold; try dsimp only)))
  k_with "mine maps" => first | exact List.forall_mem_nil _ | (refine List.forall_mem_cons.mpr ⟨by rfl, ?_⟩; walk_at "mine maps")
  k_with "binaryOp FloorDiv int int" => (k_here; (with_reducible refine ediv_int ?zr91kb ?zr91kp ?_); (case zr91kb => decide); (case zr91kp => first | exact PyProof.noPylong_of_log2 (by decide +kernel) | exact PyProof.noPylong_small (by omega)))
  k_with "binaryOp Mod int int" => (k_here; (with_reducible refine emod_int ?zr92kb ?_); (case zr92kb => first | decide | omega))
  refine wpAny_call ?_
  k_dflt (walk_at "mine enter")
  intro g L' h' hg hlt F' N' B' X' T'
  (try dsimp only); (try k_fold)
  clear F N B
  k_with_none
  k_with "mine enter" => (refine' def_enter ?zr73k1 ?zr73k2 ?zr73k3 ?zr73k4 ?zr73k5 ?zr73kA ?zr73kF ?zr73kK ?zr73k6 ?zr73k7 ?zr73k8 ?zr73k9 ?zr73kB ?_ ?zr73c2 ?zr73c3 ?zr73c4 ?zr73c5; (case zr73kA => exact rfl); (case zr73kF => exact rfl); (case zr73kK => assumption); (case zr73k1 => k_asm); (case zr73k2 => k_asm); (case zr73k3 => k_asm); (case zr73k4 => k_asm); (case zr73k5 => k_asm); (case zr73k6 => k_is); (case zr73k7 => k_is); (case zr73k8 => ktr_room); (case zr73k9 => exact BindsTo.of_eq rfl); (case zr73c5 => decide); (case zr73kB => exact locs rfl); (case zr73c2 => exact rfl); (case zr73c3 => exact rfl); (case zr73c4 => exact rfl); k_whole)
  k_with "binaryOp RShift int int" => (k_here; (with_reducible refine PySem.wpAny_rshift1_int ?zr74kb1 ?_); (case zr74kb1 => omega))
  k_with "mine cj" => (with_reducible (rename @Ne Nat _ _ ∧ _ => zhcj)); have _ := zhcj.1; replace zhcj := zhcj.2
  k_with "mine go" => (repeat (first | walk_at "mine cj" | (k_unfold; (try dsimp only)) | walk_at "mine fold" | walk1 | (dsimp only; walk1)))
  k_with "mine fold" => ((with_reducible show wpAny _ _ (exec _ _) _ _ _); k_fold)
  k_with "mine go2" => (repeat (first | walk_at "mine cj" | (k_unfold; (try dsimp only)) | walk_at "mine fold" | walk_at "mine fold2" | walk1 | (dsimp only; walk1)))
  k_with "mine fold2" => ((fail_if_success (fail_if_success k_fold)); (with_reducible show wpAny _ _ _ (fun _ _ => wpAny _ _ _ _ _ _) _ _); k_fold)
  k_with "mine bnd" => first | with_reducible assumption | omega | ((try simp only [List.length_set, List.length_append, List.length_cons, List.length_nil, List.length_dropLast, sdN_length]); omega)
  k_with "mine ctx" => ((case zctxk1 => k_asm); (case zctxk2 => k_asm); (case zctxk3 => k_asm); (case zctxk4 => k_asm); (case zctxk5 => k_asm); (case zctxkK => first | exact rfl | assumption); (case zctxkU => k_updF); (case zctxkd => ktr_room); (case zctxku => ktr_units); (case zctxki => l_ints))
  k_with "call ref" => (k_here; (with_reducible show wpAny _ _ (call (Value.ref 77) _) _ _ _); k_dflt (refine' mut_use (sd_c _ _ _ _ _ _ ?zctxp1 ?zctxp2 ?zctxp3 ?zctxp4) ?zctxk1 ?zctxk2 ?zctxk3 ?zctxk4 ?zctxk5 ?zctxkK ?zctxkU ?zctxkd ?zctxku ?zctxki ?_; walk_at "mine ctx"; (case zctxp1 => walk_at "mine bnd"); (case zctxp2 => walk_at "mine bnd"); (case zctxp3 => walk_at "mine bnd"); (case zctxp4 => walk_at "mine bnd"); k_whole); intro _ _ _ _ _ _ _ zN' _ zho'; (have ze1 := zho'.1); (have ze2 := zho'.2); clear zho'; subst ze1; subst ze2; (try dsimp only at zN'); (try k_sweep))
  k_with "call ref" => (k_here; (with_reducible show wpAny _ _ (call (Value.ref 91) _) _ _ _); k_dflt (refine' mut_use (sdx_c _ _ _ _ _ _ ?zctxp1 ?zctxp2 ?zctxp3 ?zctxp4) ?zctxk1 ?zctxk2 ?zctxk3 ?zctxk4 ?zctxk5 ?zctxkK ?zctxkU ?zctxkd ?zctxku ?zctxki ?_; walk_at "mine ctx"; (case zctxp1 => walk_at "mine bnd"); (case zctxp2 => walk_at "mine bnd"); (case zctxp3 => walk_at "mine bnd"); (case zctxp4 => walk_at "mine bnd"); k_whole); intro _ _ _ _ _ _ _ zN' _ zho'; (have ze1 := zho'.1); (have ze2 := zho'.2); clear zho'; subst ze1; subst ze2; (try dsimp only at zN'); (try k_sweep))
  k_with "mine bnd" => first | with_reducible assumption | omega | ((try simp only [List.length_set, List.length_append, List.length_cons, List.length_nil, List.length_dropLast, sdN_length, suN_length]); omega)
  k_with "call ref" => (k_here; (with_reducible show wpAny _ _ (call (Value.ref 84) _) _ _ _); k_dflt (refine' mut_use (su_c _ _ _ _ _ ?zctxp1 ?zctxp2 ?zctxp3) ?zctxk1 ?zctxk2 ?zctxk3 ?zctxk4 ?zctxk5 ?zctxkK ?zctxkU ?zctxkd ?zctxku ?zctxki ?_; walk_at "mine ctx"; (case zctxp1 => walk_at "mine bnd"); (case zctxp2 => walk_at "mine bnd"); (case zctxp3 => walk_at "mine bnd"); k_whole); intro _ _ _ _ _ _ _ zN' _ zho'; (have ze1 := zho'.1); (have ze2 := zho'.2); clear zho'; subst ze1; subst ze2; (try dsimp only at zN'); (try k_sweep))
  k_with "call ref" => (k_here; (with_reducible show wpAny _ _ (call (Value.ref 98) _) _ _ _); k_dflt (refine' mut_use (sux_c _ _ _ _ _ ?zctxp1 ?zctxp2 ?zctxp3) ?zctxk1 ?zctxk2 ?zctxk3 ?zctxk4 ?zctxk5 ?zctxkK ?zctxkU ?zctxkd ?zctxku ?zctxki ?_; walk_at "mine ctx"; (case zctxp1 => walk_at "mine bnd"); (case zctxp2 => walk_at "mine bnd"); (case zctxp3 => walk_at "mine bnd"); k_whole); intro _ _ _ _ _ _ _ zN' _ zho'; (have ze1 := zho'.1); (have ze2 := zho'.2); clear zho'; subst ze1; subst ze2; (try dsimp only at zN'); (try k_sweep))
  k_with "call builtin:len" => (k_here; (with_reducible show wpAny _ _ (call (Value.builtin "len") [Value.ref _]) _ _ _); k_dflt (refine' len_ints ?zr87k1 ?zr87k2 ?zr87k3 ?zr87k4 ?_; (case zr87k1 => k_asm); (case zr87k2 => k_mem); (case zr87k3 => l_ints); (case zr87k4 => walk_at "mine bnd"); k_whole))
  k_with "truthy ref" => (k_here; (with_reducible show wpAny _ _ (truthy (Value.ref _)) _ _ _); k_dflt (refine' truthy_ints ?zr88k1 ?zr88k2 ?zr88k3 ?zr88k4 ?_; (case zr88k1 => k_asm); (case zr88k2 => k_mem); (case zr88k3 => l_ints); (case zr88k4 => walk_at "mine bnd")))
  k_with "mine end" => ((try dsimp only); (try (k_unfold; try dsimp only)))
  k_with "mine maps" => first | exact List.forall_mem_nil _ | (refine List.forall_mem_cons.mpr ⟨by rfl, ?_⟩; walk_at "mine maps")
  k_with "binaryOp FloorDiv int int" => (k_here; (with_reducible refine ediv_int ?zr91kb ?zr91kp ?_); (case zr91kb => decide); (case zr91kp => first | exact PyProof.noPylong_of_log2 (by decide +kernel) | exact PyProof.noPylong_small (by omega)))
  k_with "binaryOp Mod int int" => (k_here; (with_reducible refine emod_int ?zr92kb ?_); (case zr92kb => first | decide | omega))
  k_with "exec While Compare cons nil" => k_while (fun script spot row => 0 ≤ spot ∧ spot < row.length ∧ row.length = hs.length ∧ lfDn row spot.toNat p.toNat = lfDn hs j.toNat p.toNat) (fun script spot row => spot.toNat) "spot" "row"
  k_with "state" => first | exact lf_start hj0 hj | exact lf_turn (by assumption) hp0 (by assumption) (by assumption) (by assumption) (by assumption)
  k_steps
  all_goals exact hret _ _ _ _ _ _ (hupd_sub hg (by assumption) (by assumption) (by k_mem)) (by assumption) ⟨lf_fin (by assumption) (by assumption), rfl⟩

def OV : Option Int → Value → Prop
  | none, v => v = .none
  | some x, v => ∃ t, v = .int x t
def callN (neg : Bool) (kind : Int) (hs : List Int) (x : Int) : List Int × Option Int :=
  if neg = true then (if kind = 1 then (popN ltB hs, some (popV hs)) else (replN ltB hs x, some (hs.getD 0 0)))
  else if kind = 0 then (pushN ltA hs x, none) else if kind = 1 then (popN ltA hs, some (popV hs)) else if kind = 2 then (replN ltA hs x, some (hs.getD 0 0)) else (pushpopN ltA hs x, some (pushpopV hs x))
theorem callN_x1 {sg kind : Int} {hs : List Int} {x : Int} (h : sg < 0) (h1 : kind = 1) : callN (decide (sg < 0)) kind hs x = (popN ltB hs, some (popV hs)) := by unfold callN; rw [if_pos (decide_eq_true h), if_pos h1]
theorem callN_x2 {sg kind : Int} {hs : List Int} {x : Int} (h : sg < 0) (h1 : ¬ kind = 1) : callN (decide (sg < 0)) kind hs x = (replN ltB hs x, some (hs.getD 0 0)) := by unfold callN; rw [if_pos (decide_eq_true h), if_neg h1]
theorem callN_0 {sg kind : Int} {hs : List Int} {x : Int} (h : ¬ sg < 0) (h1 : kind = 0) : callN (decide (sg < 0)) kind hs x = (pushN ltA hs x, none) := by unfold callN; rw [if_neg (by simpa using h), if_pos h1]
theorem callN_1 {sg kind : Int} {hs : List Int} {x : Int} (h : ¬ sg < 0) (h0 : ¬ kind = 0) (h1 : kind = 1) : callN (decide (sg < 0)) kind hs x = (popN ltA hs, some (popV hs)) := by unfold callN; rw [if_neg (by simpa using h), if_neg h0, if_pos h1]
theorem callN_2 {sg kind : Int} {hs : List Int} {x : Int} (h : ¬ sg < 0) (h0 : ¬ kind = 0) (h1 : ¬ kind = 1) (h2 : kind = 2) : callN (decide (sg < 0)) kind hs x = (replN ltA hs x, some (hs.getD 0 0)) := by unfold callN; rw [if_neg (by simpa using h), if_neg h0, if_neg h1, if_pos h2]
theorem callN_3 {sg kind : Int} {hs : List Int} {x : Int} (h : ¬ sg < 0) (h0 : ¬ kind = 0) (h1 : ¬ kind = 1) (h2 : ¬ kind = 2) : callN (decide (sg < 0)) kind hs x = (pushpopN ltA hs x, some (pushpopV hs x)) := by unfold callN; rw [if_neg (by simpa using h), if_neg h0, if_neg h1, if_neg h2]
theorem call_out {neg : Bool} {kind : Int} {hs : List Int} {x : Int} {r : List Int × Option Int} (e : callN neg kind hs x = r) {v : Value} (h : OV r.2 v) : r.1 = (callN neg kind hs x).1 ∧ OV (callN neg kind hs x).2 v := by rw [e]; exact ⟨rfl, h⟩
theorem lcall_c (w : World) (mean : ExcName → Option Value) (mg mb : Str → Option Value) {hs : List Int} {kind x sg : Int} (t u r : Tok) (hlen : hs.length < 2 ^ 20) (h1 : 1 ≤ hs.length) :
    MutC w mean mg mb 4 124 (fun l => [.ref l, .int kind t, .int x u, .int sg r]) hs (fun hs' v => hs' = (callN (decide (sg < 0)) kind hs x).1 ∧ OV (callN (decide (sg < 0)) kind hs x).2 v) := by
  unfold MutC
  intro dp un gd cn cs a ccd cl outer A₀ base h₀ L m s Q E l vs n B F X N T hk hd hu hi hret
  w_top off
  k_with_none
  k_with "mine enter" => (refine' def_enter ?zr93k1 ?zr93k2 ?zr93k3 ?zr93k4 ?zr93k5 ?zr93kA ?zr93kF ?zr93kK ?zr93k6 ?zr93k7 ?zr93k8 ?zr93k9 ?zr93kB ?_ ?zr93c2 ?zr93c3 ?zr93c4 ?zr93c5; (case zr93kA => exact rfl); (case zr93kF => exact rfl); (case zr93kK => assumption); (case zr93k1 => k_asm); (case zr93k2 => k_asm); (case zr93k3 => k_asm); (case zr93k4 => k_asm); (case zr93k5 => k_asm); (case zr93k6 => k_is); (case zr93k7 => k_is); (case zr93k8 => ktr_room); (case zr93k9 => exact BindsTo.of_eq rfl); (case zr93c5 => decide); (case zr93kB => exact locs rfl); (case zr93c2 => exact rfl); (case zr93c3 => exact rfl); (case zr93c4 => exact rfl); k_whole)
  k_with "binaryOp RShift int int" => (k_here; (with_reducible refine PySem.wpAny_rshift1_int ?zr94kb1 ?_); (case zr94kb1 => omega))
  k_with "mine cj" => (with_reducible (rename @Ne Nat _ _ ∧ _ => zhcj)); have _ := zhcj.1; replace zhcj := zhcj.2
  k_with "mine go" => (repeat (first | walk_at "mine cj" | (k_unfold; (try dsimp only)) | walk_at "mine fold" | walk1 | (dsimp only; walk1)))
  k_with "mine fold" => ((with_reducible show wpAny _ _ (exec _ _) _ _ _); k_fold)
  k_with "mine go2" => (repeat (first | walk_at "mine cj" | (k_unfold; (try dsimp only)) | walk_at "mine fold" | walk_at "mine fold2" | walk1 | (dsimp only; walk1)))
  k_with "mine fold2" => ((fail_if_success (fail_if_success k_fold)); (with_reducible show wpAny _ _ _ (fun _ _ => wpAny _ _ _ _ _ _) _ _); k_fold)
  k_with "mine bnd" => first | with_reducible assumption | omega | ((try simp only [List.length_set, List.length_append, List.length_cons, List.length_nil, List.length_dropLast, sdN_length]); omega)
  k_with "mine ctx" => ((case zctxk1 => k_asm); (case zctxk2 => k_asm); (case zctxk3 => k_asm); (case zctxk4 => k_asm); (case zctxk5 => k_asm); (case zctxkK => first | exact rfl | assumption); (case zctxkU => k_updF); (case zctxkd => ktr_room); (case zctxku => ktr_units); (case zctxki => l_ints))
  k_with "call ref" => (k_here; (with_reducible show wpAny _ _ (call (Value.ref 77) _) _ _ _); k_dflt (refine' mut_use (sd_c _ _ _ _ _ _ ?zctxp1 ?zctxp2 ?zctxp3 ?zctxp4) ?zctxk1 ?zctxk2 ?zctxk3 ?zctxk4 ?zctxk5 ?zctxkK ?zctxkU ?zctxkd ?zctxku ?zctxki ?_; walk_at "mine ctx"; (case zctxp1 => walk_at "mine bnd"); (case zctxp2 => walk_at "mine bnd"); (case zctxp3 => walk_at "mine bnd"); (case zctxp4 => walk_at "mine bnd"); k_whole); intro _ _ _ _ _ _ _ zN' _ zho'; (have ze1 := zho'.1); (have ze2 := zho'.2); clear zho'; subst ze1; subst ze2; (try dsimp only at zN'); (try k_sweep))
  k_with "call ref" => (k_here; (with_reducible show wpAny _ _ (call (Value.ref 91) _) _ _ _); k_dflt (refine' mut_use (sdx_c _ _ _ _ _ _ ?zctxp1 ?zctxp2 ?zctxp3 ?zctxp4) ?zctxk1 ?zctxk2 ?zctxk3 ?zctxk4 ?zctxk5 ?zctxkK ?zctxkU ?zctxkd ?zctxku ?zctxki ?_; walk_at "mine ctx"; (case zctxp1 => walk_at "mine bnd"); (case zctxp2 => walk_at "mine bnd"); (case zctxp3 => walk_at "mine bnd"); (case zctxp4 => walk_at "mine bnd"); k_whole); intro _ _ _ _ _ _ _ zN' _ zho'; (have ze1 := zho'.1); (have ze2 := zho'.2); clear zho'; subst ze1; subst ze2; (try dsimp only at zN'); (try k_sweep))
  k_with "mine bnd" => first | with_reducible assumption | omega | ((try simp only [List.length_set, List.length_append, List.length_cons, List.length_nil, List.length_dropLast, sdN_length, suN_length]); omega)
  k_with "call ref" => (k_here; (with_reducible show wpAny _ _ (call (Value.ref 84) _) _ _ _); k_dflt (refine' mut_use (su_c _ _ _ _ _ ?zctxp1 ?zctxp2 ?zctxp3) ?zctxk1 ?zctxk2 ?zctxk3 ?zctxk4 ?zctxk5 ?zctxkK ?zctxkU ?zctxkd ?zctxku ?zctxki ?_; walk_at "mine ctx"; (case zctxp1 => walk_at "mine bnd"); (case zctxp2 => walk_at "mine bnd"); (case zctxp3 => walk_at "mine bnd"); k_whole); intro _ _ _ _ _ _ _ zN' _ zho'; (have ze1 := zho'.1); (have ze2 := zho'.2); clear zho'; subst ze1; subst ze2; (try dsimp only at zN'); (try k_sweep))
  k_with "call ref" => (k_here; (with_reducible show wpAny _ _ (call (Value.ref 98) _) _ _ _); k_dflt (refine' mut_use (sux_c _ _ _ _ _ ?zctxp1 ?zctxp2 ?zctxp3) ?zctxk1 ?zctxk2 ?zctxk3 ?zctxk4 ?zctxk5 ?zctxkK ?zctxkU ?zctxkd ?zctxku ?zctxki ?_; walk_at "mine ctx"; (case zctxp1 => walk_at "mine bnd"); (case zctxp2 => walk_at "mine bnd"); (case zctxp3 => walk_at "mine bnd"); k_whole); intro _ _ _ _ _ _ _ zN' _ zho'; (have ze1 := zho'.1); (have ze2 := zho'.2); clear zho'; subst ze1; subst ze2; (try dsimp only at zN'); (try k_sweep))
  k_with "mine bnd" => first | with_reducible assumption | omega | ((try simp only [List.length_set, List.length_append, List.length_cons, List.length_nil, List.length_dropLast, sdN_length, suN_length, liftN_length]); omega)
  k_with "setItem ref int" => (k_here; (with_reducible show wpAny _ _ (setItem (Value.ref _) (Value.int _ _) (Value.int _ _)) _ _ _); k_dflt (refine' ksa_set ?zr108k1 ?zr108k2 ?zr108k3 ?zr108k4 ?zr108k5 ?zr108k6 ?zr108k7 ?_; (case zr108k1 => k_asm); (case zr108k2 => k_asm); (case zr108k3 => k_upd); (case zr108k4 => l_ints); (case zr108k5 => walk_at "mine bnd"); (case zr108k6 => walk_at "mine bnd"); (case zr108k7 => walk_at "mine bnd"); k_whole); intro _ _ _ _ _ _; (try k_sweep))
  k_with "call ref" => (k_here; (with_reducible show wpAny _ _ (call (Value.ref 21) _) _ _ _); k_dflt (refine' mut_use (push_c _ _ _ _ _ ?zctxp1) ?zctxk1 ?zctxk2 ?zctxk3 ?zctxk4 ?zctxk5 ?zctxkK ?zctxkU ?zctxkd ?zctxku ?zctxki ?_; walk_at "mine ctx"; (case zctxp1 => walk_at "mine bnd"); k_whole); intro _ _ _ _ _ _ _ zN' _ zho'; (have ze1 := zho'.1); (have ze2 := zho'.2); clear zho'; subst ze1; subst ze2; (try dsimp only at zN'); (try k_sweep))
  k_with "call ref" => (k_here; (with_reducible show wpAny _ _ (call (Value.ref 28) _) _ _ _); k_dflt (refine' mut_use (pop_c _ _ _ _ ?zctxp1 ?zctxp2) ?zctxk1 ?zctxk2 ?zctxk3 ?zctxk4 ?zctxk5 ?zctxkK ?zctxkU ?zctxkd ?zctxku ?zctxki ?_; walk_at "mine ctx"; (case zctxp1 => walk_at "mine bnd"); (case zctxp2 => walk_at "mine bnd"); k_whole); intro _ _ _ _ _ _ _ zN' _ zho'; (obtain ⟨ze1, _, ze2⟩ := zho'); subst ze1; subst ze2; (try dsimp only at zN'); (try k_sweep))
  k_with "call ref" => (k_here; (with_reducible show wpAny _ _ (call (Value.ref 56) _) _ _ _); k_dflt (refine' mut_use (popx_c _ _ _ _ ?zctxp1 ?zctxp2) ?zctxk1 ?zctxk2 ?zctxk3 ?zctxk4 ?zctxk5 ?zctxkK ?zctxkU ?zctxkd ?zctxku ?zctxki ?_; walk_at "mine ctx"; (case zctxp1 => walk_at "mine bnd"); (case zctxp2 => walk_at "mine bnd"); k_whole); intro _ _ _ _ _ _ _ zN' _ zho'; (obtain ⟨ze1, _, ze2⟩ := zho'); subst ze1; subst ze2; (try dsimp only at zN'); (try k_sweep))
  k_with "call ref" => (k_here; (with_reducible show wpAny _ _ (call (Value.ref 35) _) _ _ _); k_dflt (refine' mut_use (repl_c _ _ _ _ _ ?zctxp1 ?zctxp2) ?zctxk1 ?zctxk2 ?zctxk3 ?zctxk4 ?zctxk5 ?zctxkK ?zctxkU ?zctxkd ?zctxku ?zctxki ?_; walk_at "mine ctx"; (case zctxp1 => walk_at "mine bnd"); (case zctxp2 => walk_at "mine bnd"); k_whole); intro _ _ _ _ _ _ _ zN' _ zho'; (obtain ⟨ze1, _, ze2⟩ := zho'); subst ze1; subst ze2; (try dsimp only at zN'); (try k_sweep))
  k_with "call ref" => (k_here; (with_reducible show wpAny _ _ (call (Value.ref 63) _) _ _ _); k_dflt (refine' mut_use (replx_c _ _ _ _ _ ?zctxp1 ?zctxp2) ?zctxk1 ?zctxk2 ?zctxk3 ?zctxk4 ?zctxk5 ?zctxkK ?zctxkU ?zctxkd ?zctxku ?zctxki ?_; walk_at "mine ctx"; (case zctxp1 => walk_at "mine bnd"); (case zctxp2 => walk_at "mine bnd"); k_whole); intro _ _ _ _ _ _ _ zN' _ zho'; (obtain ⟨ze1, _, ze2⟩ := zho'); subst ze1; subst ze2; (try dsimp only at zN'); (try k_sweep))
  k_with "call ref" => (k_here; (with_reducible show wpAny _ _ (call (Value.ref 42) _) _ _ _); k_dflt (refine' mut_use (pushpop_c _ _ _ _ _ ?zctxp1 ?zctxp2) ?zctxk1 ?zctxk2 ?zctxk3 ?zctxk4 ?zctxk5 ?zctxkK ?zctxkU ?zctxkd ?zctxku ?zctxki ?_; walk_at "mine ctx"; (case zctxp1 => walk_at "mine bnd"); (case zctxp2 => walk_at "mine bnd"); k_whole); intro _ _ _ _ _ _ _ zN' _ zho'; (obtain ⟨ze1, _, ze2⟩ := zho'); subst ze1; subst ze2; (try dsimp only at zN'); (try k_sweep))
  k_with "call ref" => (k_here; (with_reducible show wpAny _ _ (call (Value.ref 110) _) _ _ _); k_dflt (refine' mut_use (lift_c _ _ _ _ _ _ ?zctxp1 ?zctxp2 ?zctxp3 ?zctxp4 ?zctxp5) ?zctxk1 ?zctxk2 ?zctxk3 ?zctxk4 ?zctxk5 ?zctxkK ?zctxkU ?zctxkd ?zctxku ?zctxki ?_; walk_at "mine ctx"; (case zctxp1 => walk_at "mine bnd"); (case zctxp2 => walk_at "mine bnd"); (case zctxp3 => walk_at "mine bnd"); (case zctxp4 => walk_at "mine bnd"); (case zctxp5 => walk_at "mine bnd"); k_whole); intro _ _ _ _ _ _ _ zN' _ zho'; (have ze1 := zho'.1); (have ze2 := zho'.2); clear zho'; subst ze1; subst ze2; (try dsimp only at zN'); (try k_sweep))
  k_with "call ref" => (k_here; (with_reducible show wpAny _ _ (call (Value.ref 49) _) _ _ _); k_dflt (refine' mut_use (hpf_c _ _ _ _ ?zctxp1) ?zctxk1 ?zctxk2 ?zctxk3 ?zctxk4 ?zctxk5 ?zctxkK ?zctxkU ?zctxkd ?zctxku ?zctxki ?_; walk_at "mine ctx"; (case zctxp1 => walk_at "mine bnd"); k_whole); intro _ _ _ _ _ _ _ zN' _ zho'; (have ze1 := zho'.1); (have ze2 := zho'.2); clear zho'; subst ze1; subst ze2; (try dsimp only at zN'); (try k_sweep))
  k_with "call ref" => (k_here; (with_reducible show wpAny _ _ (call (Value.ref 70) _) _ _ _); k_dflt (refine' mut_use (hpfx_c _ _ _ _ ?zctxp1) ?zctxk1 ?zctxk2 ?zctxk3 ?zctxk4 ?zctxk5 ?zctxkK ?zctxkU ?zctxkd ?zctxku ?zctxki ?_; walk_at "mine ctx"; (case zctxp1 => walk_at "mine bnd"); k_whole); intro _ _ _ _ _ _ _ zN' _ zho'; (have ze1 := zho'.1); (have ze2 := zho'.2); clear zho'; subst ze1; subst ze2; (try dsimp only at zN'); (try k_sweep))
  k_with "call builtin:len" => (k_here; (with_reducible show wpAny _ _ (call (Value.builtin "len") [Value.ref _]) _ _ _); k_dflt (refine' len_ints ?zr118k1 ?zr118k2 ?zr118k3 ?zr118k4 ?_; (case zr118k1 => k_asm); (case zr118k2 => k_mem); (case zr118k3 => l_ints); (case zr118k4 => walk_at "mine bnd"); k_whole))
  k_with "truthy ref" => (k_here; (with_reducible show wpAny _ _ (truthy (Value.ref _)) _ _ _); k_dflt (refine' truthy_ints ?zr119k1 ?zr119k2 ?zr119k3 ?zr119k4 ?_; (case zr119k1 => k_asm); (case zr119k2 => k_mem); (case zr119k3 => l_ints); (case zr119k4 => walk_at "mine bnd")))
  k_with "mine end" => ((try dsimp only); (try (k_unfold; try dsimp only)))
  k_with "mine maps" => first | exact List.forall_mem_nil _ | (refine List.forall_mem_cons.mpr ⟨by rfl, ?_⟩; walk_at "mine maps")
  k_with "binaryOp FloorDiv int int" => (k_here; (with_reducible refine ediv_int ?zr122kb ?zr122kp ?_); (case zr122kb => decide); (case zr122kp => first | exact PyProof.noPylong_of_log2 (by decide +kernel) | exact PyProof.noPylong_small (by omega)))
  k_with "binaryOp Mod int int" => (k_here; (with_reducible refine emod_int ?zr123kb ?_); (case zr123kb => first | decide | omega))
  refine wpAny_call ?_
  k_dflt (walk_at "mine enter")
  intro g L' h' hg hlt F' N' B' X' T'
  (try dsimp only); (try k_fold)
  clear F N B
  k_with_none
  k_with "mine enter" => (refine' def_enter ?zr93k1 ?zr93k2 ?zr93k3 ?zr93k4 ?zr93k5 ?zr93kA ?zr93kF ?zr93kK ?zr93k6 ?zr93k7 ?zr93k8 ?zr93k9 ?zr93kB ?_ ?zr93c2 ?zr93c3 ?zr93c4 ?zr93c5; (case zr93kA => exact rfl); (case zr93kF => exact rfl); (case zr93kK => assumption); (case zr93k1 => k_asm); (case zr93k2 => k_asm); (case zr93k3 => k_asm); (case zr93k4 => k_asm); (case zr93k5 => k_asm); (case zr93k6 => k_is); (case zr93k7 => k_is); (case zr93k8 => ktr_room); (case zr93k9 => exact BindsTo.of_eq rfl); (case zr93c5 => decide); (case zr93kB => exact locs rfl); (case zr93c2 => exact rfl); (case zr93c3 => exact rfl); (case zr93c4 => exact rfl); k_whole)
  k_with "binaryOp RShift int int" => (k_here; (with_reducible refine PySem.wpAny_rshift1_int ?zr94kb1 ?_); (case zr94kb1 => omega))
  k_with "mine cj" => (with_reducible (rename @Ne Nat _ _ ∧ _ => zhcj)); have _ := zhcj.1; replace zhcj := zhcj.2
  k_with "mine go" => (repeat (first | walk_at "mine cj" | (k_unfold; (try dsimp only)) | walk_at "mine fold" | walk1 | (dsimp only; walk1)))
  k_with "mine fold" => ((with_reducible show wpAny _ _ (exec _ _) _ _ _); k_fold)
  k_with "mine go2" => (repeat (first | walk_at "mine cj" | (k_unfold; (try dsimp only)) | walk_at "mine fold" | walk_at "mine fold2" | walk1 | (dsimp only; walk1)))
  k_with "mine fold2" => ((fail_if_success (fail_if_success k_fold)); (with_reducible show wpAny _ _ _ (fun _ _ => wpAny _ _ _ _ _ _) _ _); k_fold)
  k_with "mine bnd" => first | with_reducible assumption | omega | ((try simp only [List.length_set, List.length_append, List.length_cons, List.length_nil, List.length_dropLast, sdN_length]); omega)
  k_with "mine ctx" => ((case zctxk1 => k_asm); (case zctxk2 => k_asm); (case zctxk3 => k_asm); (case zctxk4 => k_asm); (case zctxk5 => k_asm); (case zctxkK => first | exact rfl | assumption); (case zctxkU => k_updF); (case zctxkd => ktr_room); (case zctxku => ktr_units); (case zctxki => l_ints))
  k_with "call ref" => (k_here; (with_reducible show wpAny _ _ (call (Value.ref 77) _) _ _ _); k_dflt (refine' mut_use (sd_c _ _ _ _ _ _ ?zctxp1 ?zctxp2 ?zctxp3 ?zctxp4) ?zctxk1 ?zctxk2 ?zctxk3 ?zctxk4 ?zctxk5 ?zctxkK ?zctxkU ?zctxkd ?zctxku ?zctxki ?_; walk_at "mine ctx"; (case zctxp1 => walk_at "mine bnd"); (case zctxp2 => walk_at "mine bnd"); (case zctxp3 => walk_at "mine bnd"); (case zctxp4 => walk_at "mine bnd"); k_whole); intro _ _ _ _ _ _ _ zN' _ zho'; (have ze1 := zho'.1); (have ze2 := zho'.2); clear zho'; subst ze1; subst ze2; (try dsimp only at zN'); (try k_sweep))
  k_with "call ref" => (k_here; (with_reducible show wpAny _ _ (call (Value.ref 91) _) _ _ _); k_dflt (refine' mut_use (sdx_c _ _ _ _ _ _ ?zctxp1 ?zctxp2 ?zctxp3 ?zctxp4) ?zctxk1 ?zctxk2 ?zctxk3 ?zctxk4 ?zctxk5 ?zctxkK ?zctxkU ?zctxkd ?zctxku ?zctxki ?_; walk_at "mine ctx"; (case zctxp1 => walk_at "mine bnd"); (case zctxp2 => walk_at "mine bnd"); (case zctxp3 => walk_at "mine bnd"); (case zctxp4 => walk_at "mine bnd"); k_whole); intro _ _ _ _ _ _ _ zN' _ zho'; (have ze1 := zho'.1); (have ze2 := zho'.2); clear zho'; subst ze1; subst ze2; (try dsimp only at zN'); (try k_sweep))
  k_with "mine bnd" => first | with_reducible assumption | omega | ((try simp only [List.length_set, List.length_append, List.length_cons, List.length_nil, List.length_dropLast, sdN_length, suN_length]); omega)
  k_with "call ref" => (k_here; (with_reducible show wpAny _ _ (call (Value.ref 84) _) _ _ _); k_dflt (refine' mut_use (su_c _ _ _ _ _ ?zctxp1 ?zctxp2 ?zctxp3) ?zctxk1 ?zctxk2 ?zctxk3 ?zctxk4 ?zctxk5 ?zctxkK ?zctxkU ?zctxkd ?zctxku ?zctxki ?_; walk_at "mine ctx"; (case zctxp1 => walk_at "mine bnd"); (case zctxp2 => walk_at "mine bnd"); (case zctxp3 => walk_at "mine bnd"); k_whole); intro _ _ _ _ _ _ _ zN' _ zho'; (have ze1 := zho'.1); (have ze2 := zho'.2); clear zho'; subst ze1; subst ze2; (try dsimp only at zN'); (try k_sweep))
  k_with "call ref" => (k_here; (with_reducible show wpAny _ _ (call (Value.ref 98) _) _ _ _); k_dflt (refine' mut_use (sux_c _ _ _ _ _ ?zctxp1 ?zctxp2 ?zctxp3) ?zctxk1 ?zctxk2 ?zctxk3 ?zctxk4 ?zctxk5 ?zctxkK ?zctxkU ?zctxkd ?zctxku ?zctxki ?_; walk_at "mine ctx"; (case zctxp1 => walk_at "mine bnd"); (case zctxp2 => walk_at "mine bnd"); (case zctxp3 => walk_at "mine bnd"); k_whole); intro _ _ _ _ _ _ _ zN' _ zho'; (have ze1 := zho'.1); (have ze2 := zho'.2); clear zho'; subst ze1; subst ze2; (try dsimp only at zN'); (try k_sweep))
  k_with "mine bnd" => first | with_reducible assumption | omega | ((try simp only [List.length_set, List.length_append, List.length_cons, List.length_nil, List.length_dropLast, sdN_length, suN_length, liftN_length]); omega)
  k_with "setItem ref int" => (k_here; (with_reducible show wpAny _ _ (setItem (Value.ref _) (Value.int _ _) (Value.int _ _)) _ _ _); k_dflt (refine' ksa_set ?zr108k1 ?zr108k2 ?zr108k3 ?zr108k4 ?zr108k5 ?zr108k6 ?zr108k7 ?_; (case zr108k1 => k_asm); (case zr108k2 => k_asm); (case zr108k3 => k_upd); (case zr108k4 => l_ints); (case zr108k5 => walk_at "mine bnd"); (case zr108k6 => walk_at "mine bnd"); (case zr108k7 => walk_at "mine bnd"); k_whole); intro _ _ _ _ _ _; (try k_sweep))
  k_with "call ref" => (k_here; (with_reducible show wpAny _ _ (call (Value.ref 21) _) _ _ _); k_dflt (refine' mut_use (push_c _ _ _ _ _ ?zctxp1) ?zctxk1 ?zctxk2 ?zctxk3 ?zctxk4 ?zctxk5 ?zctxkK ?zctxkU ?zctxkd ?zctxku ?zctxki ?_; walk_at "mine ctx"; (case zctxp1 => walk_at "mine bnd"); k_whole); intro _ _ _ _ _ _ _ zN' _ zho'; (have ze1 := zho'.1); (have ze2 := zho'.2); clear zho'; subst ze1; subst ze2; (try dsimp only at zN'); (try k_sweep))
  k_with "call ref" => (k_here; (with_reducible show wpAny _ _ (call (Value.ref 28) _) _ _ _); k_dflt (refine' mut_use (pop_c _ _ _ _ ?zctxp1 ?zctxp2) ?zctxk1 ?zctxk2 ?zctxk3 ?zctxk4 ?zctxk5 ?zctxkK ?zctxkU ?zctxkd ?zctxku ?zctxki ?_; walk_at "mine ctx"; (case zctxp1 => walk_at "mine bnd"); (case zctxp2 => walk_at "mine bnd"); k_whole); intro _ _ _ _ _ _ _ zN' _ zho'; (obtain ⟨ze1, _, ze2⟩ := zho'); subst ze1; subst ze2; (try dsimp only at zN'); (try k_sweep))
  k_with "call ref" => (k_here; (with_reducible show wpAny _ _ (call (Value.ref 56) _) _ _ _); k_dflt (refine' mut_use (popx_c _ _ _ _ ?zctxp1 ?zctxp2) ?zctxk1 ?zctxk2 ?zctxk3 ?zctxk4 ?zctxk5 ?zctxkK ?zctxkU ?zctxkd ?zctxku ?zctxki ?_; walk_at "mine ctx"; (case zctxp1 => walk_at "mine bnd"); (case zctxp2 => walk_at "mine bnd"); k_whole); intro _ _ _ _ _ _ _ zN' _ zho'; (obtain ⟨ze1, _, ze2⟩ := zho'); subst ze1; subst ze2; (try dsimp only at zN'); (try k_sweep))
  k_with "call ref" => (k_here; (with_reducible show wpAny _ _ (call (Value.ref 35) _) _ _ _); k_dflt (refine' mut_use (repl_c _ _ _ _ _ ?zctxp1 ?zctxp2) ?zctxk1 ?zctxk2 ?zctxk3 ?zctxk4 ?zctxk5 ?zctxkK ?zctxkU ?zctxkd ?zctxku ?zctxki ?_; walk_at "mine ctx"; (case zctxp1 => walk_at "mine bnd"); (case zctxp2 => walk_at "mine bnd"); k_whole); intro _ _ _ _ _ _ _ zN' _ zho'; (obtain ⟨ze1, _, ze2⟩ := zho'); subst ze1; subst ze2; (try dsimp only at zN'); (try k_sweep))
  k_with "call ref" => (k_here; (with_reducible show wpAny _ _ (call (Value.ref 63) _) _ _ _); k_dflt (refine' mut_use (replx_c _ _ _ _ _ ?zctxp1 ?zctxp2) ?zctxk1 ?zctxk2 ?zctxk3 ?zctxk4 ?zctxk5 ?zctxkK ?zctxkU ?zctxkd ?zctxku ?zctxki ?_; walk_at "mine ctx"; (case zctxp1 => walk_at "mine bnd"); (case zctxp2 => walk_at "mine bnd"); k_whole); intro _ _ _ _ _ _ _ zN' _ zho'; (obtain ⟨ze1, _, ze2⟩ := zho'); subst ze1; subst ze2; (try dsimp only at zN'); (try k_sweep))
  k_with "call ref" => (k_here; (with_reducible show wpAny _ _ (call (Value.ref 42) _) _ _ _); k_dflt (refine' mut_use (pushpop_c _ _ _ _ _ ?zctxp1 ?zctxp2) ?zctxk1 ?zctxk2 ?zctxk3 ?zctxk4 ?zctxk5 ?zctxkK ?zctxkU ?zctxkd ?zctxku ?zctxki ?_; walk_at "mine ctx"; (case zctxp1 => walk_at "mine bnd"); (case zctxp2 => walk_at "mine bnd"); k_whole); intro _ _ _ _ _ _ _ zN' _ zho'; (obtain ⟨ze1, _, ze2⟩ := zho'); subst ze1; subst ze2; (try dsimp only at zN'); (try k_sweep))
  k_with "call ref" => (k_here; (with_reducible show wpAny _ _ (call (Value.ref 110) _) _ _ _); k_dflt (refine' mut_use (lift_c _ _ _ _ _ _ ?zctxp1 ?zctxp2 ?zctxp3 ?zctxp4 ?zctxp5) ?zctxk1 ?zctxk2 ?zctxk3 ?zctxk4 ?zctxk5 ?zctxkK ?zctxkU ?zctxkd ?zctxku ?zctxki ?_; walk_at "mine ctx"; (case zctxp1 => walk_at "mine bnd"); (case zctxp2 => walk_at "mine bnd"); (case zctxp3 => walk_at "mine bnd"); (case zctxp4 => walk_at "mine bnd"); (case zctxp5 => walk_at "mine bnd"); k_whole); intro _ _ _ _ _ _ _ zN' _ zho'; (have ze1 := zho'.1); (have ze2 := zho'.2); clear zho'; subst ze1; subst ze2; (try dsimp only at zN'); (try k_sweep))
  k_with "call ref" => (k_here; (with_reducible show wpAny _ _ (call (Value.ref 49) _) _ _ _); k_dflt (refine' mut_use (hpf_c _ _ _ _ ?zctxp1) ?zctxk1 ?zctxk2 ?zctxk3 ?zctxk4 ?zctxk5 ?zctxkK ?zctxkU ?zctxkd ?zctxku ?zctxki ?_; walk_at "mine ctx"; (case zctxp1 => walk_at "mine bnd"); k_whole); intro _ _ _ _ _ _ _ zN' _ zho'; (have ze1 := zho'.1); (have ze2 := zho'.2); clear zho'; subst ze1; subst ze2; (try dsimp only at zN'); (try k_sweep))
  k_with "call ref" => (k_here; (with_reducible show wpAny _ _ (call (Value.ref 70) _) _ _ _); k_dflt (refine' mut_use (hpfx_c _ _ _ _ ?zctxp1) ?zctxk1 ?zctxk2 ?zctxk3 ?zctxk4 ?zctxk5 ?zctxkK ?zctxkU ?zctxkd ?zctxku ?zctxki ?_; walk_at "mine ctx"; (case zctxp1 => walk_at "mine bnd"); k_whole); intro _ _ _ _ _ _ _ zN' _ zho'; (have ze1 := zho'.1); (have ze2 := zho'.2); clear zho'; subst ze1; subst ze2; (try dsimp only at zN'); (try k_sweep))
  k_with "call builtin:len" => (k_here; (with_reducible show wpAny _ _ (call (Value.builtin "len") [Value.ref _]) _ _ _); k_dflt (refine' len_ints ?zr118k1 ?zr118k2 ?zr118k3 ?zr118k4 ?_; (case zr118k1 => k_asm); (case zr118k2 => k_mem); (case zr118k3 => l_ints); (case zr118k4 => walk_at "mine bnd"); k_whole))
  k_with "truthy ref" => (k_here; (with_reducible show wpAny _ _ (truthy (Value.ref _)) _ _ _); k_dflt (refine' truthy_ints ?zr119k1 ?zr119k2 ?zr119k3 ?zr119k4 ?_; (case zr119k1 => k_asm); (case zr119k2 => k_mem); (case zr119k3 => l_ints); (case zr119k4 => walk_at "mine bnd")))
  k_with "mine end" => ((try dsimp only); (try (k_unfold; try dsimp only)))
  k_with "mine maps" => first | exact List.forall_mem_nil _ | (refine List.forall_mem_cons.mpr ⟨by rfl, ?_⟩; walk_at "mine maps")
  k_with "binaryOp FloorDiv int int" => (k_here; (with_reducible refine ediv_int ?zr122kb ?zr122kp ?_); (case zr122kb => decide); (case zr122kp => first | exact PyProof.noPylong_of_log2 (by decide +kernel) | exact PyProof.noPylong_small (by omega)))
  k_with "binaryOp Mod int int" => (k_here; (with_reducible refine emod_int ?zr123kb ?_); (case zr123kb => first | decide | omega))
  k_steps
  all_goals walk_at "mine end"
  all_goals first
    | exact hret _ _ _ _ _ _ (hupd_sub hg (by assumption) (by assumption) (by k_mem)) (by assumption) (call_out (callN_x1 (by assumption) (by assumption)) ⟨_, rfl⟩)
    | exact hret _ _ _ _ _ _ (hupd_sub hg (by assumption) (by assumption) (by k_mem)) (by assumption) (call_out (callN_x2 (by assumption) (by assumption)) ⟨_, rfl⟩)
    | exact hret _ _ _ _ _ _ (hupd_sub hg (by assumption) (by assumption) (by k_mem)) (by assumption) (call_out (callN_0 (by assumption) (by assumption)) rfl)
    | exact hret _ _ _ _ _ _ (hupd_sub hg (by assumption) (by assumption) (by k_mem)) (by assumption) (call_out (callN_1 (by assumption) (by assumption) (by assumption)) ⟨_, rfl⟩)
    | exact hret _ _ _ _ _ _ (hupd_sub hg (by assumption) (by assumption) (by k_mem)) (by assumption) (call_out (callN_2 (by assumption) (by assumption) (by assumption) (by assumption)) ⟨_, rfl⟩)
    | exact hret _ _ _ _ _ _ (hupd_sub hg (by assumption) (by assumption) (by k_mem)) (by assumption) (call_out (callN_3 (by assumption) (by assumption) (by assumption) (by assumption)) ⟨_, rfl⟩)

def HKeep (h h' : Heap) : Prop := ∀ b x, h.get? b = some x → h'.get? b = some x
def New2C (w : World) (mean : ExcName → Option Value) (mg mb : Str → Option Value) (k : Nat) (f : Addr) (xs ys : List Int) (Out : List Int) : Prop :=
  ∀ (dp un : Nat) (gd : Option (List Code)) (cn : Str) (cs : Scope) (a : Addr) (ccd : Value) (cl : List (Str × Addr)) (outer : List Env) (A₀ : Around) (base h₀ : Heap) (L : Addr) (m : Str → Option Value) (s : Shared) (Q E : Value → Shared → Prop)
    (l1 l2 : Addr) (vs1 vs2 : List Value) (n1 n2 : Nat),
    Below A₀ base outer h₀ → Fr h₀ L s.heap m → (hd.heap_39 w.params).In h₀ → News h₀ L s.heap [(l1, listOf vs1.toArray n1), (l2, listOf vs2.toArray n2)] → (l1 : Nat) ≠ l2 → TopM mean mg mb h₀ → cs.kind = .function →
    dp + k < recursionLimit → un + 8 * k < cLine → IntsAre vs1 xs → IntsAre vs2 ys →
    (∀ h' tk' r vs' n', HKeep s.heap h' → s.heap.get? r = none → h'.get? r = some (listOf vs'.toArray n') → IntsAre vs' Out → Q (.ref r) { s with heap := h', toks := tk' }) →
    wpAny (model PR w) (ktrTop dp un gd cn cs L a ccd cl outer) (call (.ref f) [.ref l1, .ref l2]) Q E s
theorem hkeep_two {s : Shared} {l1 l2 : Addr} {g h₀ h' : Heap} {L L' : Addr} {m : Str → Option Value} {o1 o2 : Obj} {news : List (Addr × Obj)} (hg : ∀ b x, ¬ b ∈ List.map (fun x => x.fst) [(l1, o1), (l2, o2)] → s.heap.get? b = some x → g.get? b = some x)
    (N₀ : News h₀ L s.heap [(l1, o1), (l2, o2)]) (F : Fr g L' h' m) (N : News g L' h' news) (m1 : (l1, o1) ∈ news) (m2 : (l2, o2) ∈ news) : HKeep s.heap h' := by
  intro b x e
  by_cases e1 : b = l1
  · subst e1
    rw [(N₀ _ (.head _)).1] at e
    rw [(N _ m1).1]; exact e
  · by_cases e2 : b = l2
    · subst e2
      rw [(N₀ _ (.tail _ (.head _))).1] at e
      rw [(N _ m2).1]; exact e
    · exact F.keep b x (hg b x (by simp [e1, e2]) e)
theorem fresh_two {s : Shared} {l1 l2 r : Addr} {g h' : Heap} {L' : Addr} {o1 o2 o : Obj} {news : List (Addr × Obj)} (hg : ∀ b x, ¬ b ∈ List.map (fun x => x.fst) [(l1, o1), (l2, o2)] → s.heap.get? b = some x → g.get? b = some x)
    (N : News g L' h' news) (m : (r, o) ∈ news) (h1 : (r : Nat) ≠ l1) (h2 : (r : Nat) ≠ l2) : s.heap.get? r = none := by
  cases e : s.heap.get? r with
  | none => rfl
  | some x =>
    have h3 := (N _ m).2.2
    have h4 := hg r x (by simp only [List.map_cons, List.map_nil, List.mem_cons, List.not_mem_nil, or_false, not_or]; exact ⟨h1, h2⟩) e
    have h3' : g.get? r = none := h3
    rw [h4] at h3'
    cases h3'
def walkN (n spot turns : Nat) : Nat :=
  if 0 < turns ∧ 2 * spot + 1 + (turns - 1) % 2 < n then walkN n (2 * spot + 1 + (turns - 1) % 2) ((turns - 1) / 2) else spot
termination_by turns
decreasing_by omega
def apartN : Nat → List Int → List Int → List Int
  | _, [], hs => hs
  | i, p :: ps, hs => apartN (i + 1) ps (liftN hs (walkN hs.length i (p % 15).toNat) i)
theorem enumItems_is {vs : List Value} {ys : List Int} (hi : IntsAre vs ys) {i : Nat} {a : Itm} (h : (enumItems 0 vs)[i]? = some a) : i < ys.length ∧ ∃ t', a = Itm.pair (fun t => .int (i : Int) t) (.int (ys.getD i 0) t') := by
  have hl : i < (enumItems 0 vs).length := by
    rcases Nat.lt_or_ge i (enumItems 0 vs).length with q | q
    · exact q
    · rw [List.getElem?_eq_none q] at h; cases h
  have hn : i < ys.length := by rw [enumItems_length, hi.length] at hl; exact hl
  obtain ⟨t, hx⟩ := hi.get i ys[i] (by simp [hn])
  have e := enumItems_get vs 0 i hx
  rw [e] at h
  have e2 : ys.getD i 0 = ys[i] := by simp [List.getD_eq_getElem?_getD, hn]
  refine ⟨hn, t, ?_⟩
  rw [e2, ← Option.some.inj h, Nat.zero_add]
theorem drop_get {ys : List Int} {i : Nat} (h : i < ys.length) : ys.drop i = ys.getD i 0 :: ys.drop (i + 1) := by
  rw [List.drop_eq_getElem_cons h]
  simp [List.getD_eq_getElem?_getD, h]
/-- a mark: here the walk is to stop -/
def Stop (P : Prop) : Prop := P
theorem stop_of {P : Prop} (h : Stop P) : P := h
theorem slice_all {prog : Program} {w : World} {A : Around} {E : Value → Shared → Prop} {s : Shared} {h₀ : Heap} {L l : Addr} {m : Str → Option Value} {news : List (Addr × Obj)} {value slice : PySem.Expr} {vs : List Value} {n : Nat} {Q : Value → Shared → Prop} (F : Fr h₀ L s.heap m) (N : News h₀ L s.heap news) (hm : (l, listOf vs.toArray n) ∈ news) (hz : vs.length < 2 ^ 20)
    (h : ∀ D h', Fr h₀ L h' m → News h₀ L h' ((D, listOf vs.toArray 0) :: news) → (∀ p ∈ news, p.1 < D) → Q (.ref D) { s with heap := h' })
    (hs : subscripted slice false (.ref l) (.ref s.heap.objs.size) = operate [.ref s.heap.objs.size, .ref l] (getItem (.ref l) (.ref s.heap.objs.size))) (ht : ∀ r, letTemporaryGo value (.ref l) r = pure ()) :
    wpAny (model prog w) A (subscriptTail value slice (.ref l) (.ref s.heap.objs.size)) Q E { s with heap := s.heap.push { cls := .type "slice", data := .fields #[.none, .none, .none] } } := by
  refine kmk_slice_lit F N (PySem.IsL.isList (n := n) (N _ hm).1) IsPart.none IsPart.none ?_ h hs ht ?_
  · rw [slicePick_all]
  · rw [List.size_toArray, sizeLine_eq]
    omega
theorem wk_start {n : Nat} {j T : Int} (h0 : 0 ≤ j) (h1 : j < n) (ht : 0 ≤ T) : 0 ≤ j ∧ j < n ∧ 0 ≤ T ∧ walkN n j.toNat T.toNat = walkN n j.toNat T.toNat := ⟨h0, h1, ht, rfl⟩
theorem wk_turn {n R : Nat} {j T : Int} (h0 : 0 ≤ j) (ht : 0 < T) (hc : 2 * j + 1 + (T - 1) % 2 < n) (hR : walkN n j.toNat T.toNat = R) :
    0 ≤ 2 * j + 1 + (T - 1) % 2 ∧ 2 * j + 1 + (T - 1) % 2 < n ∧ 0 ≤ (T - 1) / 2 ∧ walkN n (2 * j + 1 + (T - 1) % 2).toNat ((T - 1) / 2).toNat = R := by
  refine ⟨by omega, hc, by omega, ?_⟩
  rw [walkN, if_pos ⟨by omega, by omega⟩] at hR
  have e1 : (2 * j + 1 + (T - 1) % 2).toNat = 2 * j.toNat + 1 + (T.toNat - 1) % 2 := by omega
  have e2 : ((T - 1) / 2).toNat = (T.toNat - 1) / 2 := by omega
  rw [e1, e2]
  exact hR
theorem wk_stop {n R : Nat} {j T : Int} (h0 : 0 ≤ j) (ht : 0 ≤ T) (hc : ¬ (0 < T ∧ 2 * j + 1 + (T - 1) % 2 < n)) (hR : walkN n j.toNat T.toNat = R) : j.toNat = R := by
  rw [walkN, if_neg (by rintro ⟨q1, q2⟩; exact hc ⟨by omega, by omega⟩)] at hR
  exact hR
theorem ap_turn {ys hs R : List Int} {i n : Nat} {j T : Int} (hi : i < ys.length) (hn : n = hs.length) (h0 : 0 ≤ j) (ht : 0 ≤ T) (hc : ¬ 0 < T ∨ ¬ 2 * j + 1 + (T - 1) % 2 < n) (hw : walkN n j.toNat T.toNat = walkN n (i : Int).toNat (ys.getD i 0 % 15).toNat) (h : apartN i (ys.drop i) hs = R) :
    apartN (i + 1) (ys.drop (i + 1)) (liftN hs j.toNat (i : Int).toNat) = R := by
  subst hn
  rw [drop_get hi, apartN] at h
  have e := wk_stop h0 ht (by rintro ⟨q1, q2⟩; rcases hc with q | q <;> contradiction) hw
  rw [e]
  exact h
theorem apart_c (w : World) (mean : ExcName → Option Value) (mg mb : Str → Option Value) {xs ys : List Int} (hlen : xs.length < 2 ^ 20) (hle : ys.length ≤ xs.length) :
    New2C w mean mg mb 2 117 xs ys (apartN 0 ys xs) := by
  unfold New2C
  intro dp un gd cn cs a ccd cl outer A₀ base h₀ L m s Q E l1 l2 vs1 vs2 n1 n2 B F X N hne T hk hd hu hi1 hi2 hret
  w_top off
  k_with_none
  k_with "mine enter" => (refine' def_enter ?zr124k1 ?zr124k2 ?zr124k3 ?zr124k4 ?zr124k5 ?zr124kA ?zr124kF ?zr124kK ?zr124k6 ?zr124k7 ?zr124k8 ?zr124k9 ?zr124kB ?_ ?zr124c2 ?zr124c3 ?zr124c4 ?zr124c5; (case zr124kA => exact rfl); (case zr124kF => exact rfl); (case zr124kK => assumption); (case zr124k1 => k_asm); (case zr124k2 => k_asm); (case zr124k3 => k_asm); (case zr124k4 => k_asm); (case zr124k5 => k_asm); (case zr124k6 => k_is); (case zr124k7 => k_is); (case zr124k8 => ktr_room); (case zr124k9 => exact BindsTo.of_eq rfl); (case zr124c5 => decide); (case zr124kB => exact locs rfl); (case zr124c2 => exact rfl); (case zr124c3 => exact rfl); (case zr124c4 => exact rfl); k_whole)
  k_with "binaryOp RShift int int" => (k_here; (with_reducible refine PySem.wpAny_rshift1_int ?zr125kb1 ?_); (case zr125kb1 => omega))
  k_with "mine cj" => (with_reducible (rename @Ne Nat _ _ ∧ _ => zhcj)); have _ := zhcj.1; replace zhcj := zhcj.2
  k_with "mine go" => (repeat (first | walk_at "mine cj" | (k_unfold; (try dsimp only)) | walk_at "mine fold" | walk1 | (dsimp only; walk1)))
  k_with "mine fold" => ((with_reducible show wpAny _ _ (exec _ _) _ _ _); k_fold)
  k_with "mine go2" => (repeat (first | walk_at "mine cj" | (k_unfold; (try dsimp only)) | walk_at "mine fold" | walk_at "mine fold2" | walk1 | (dsimp only; walk1)))
  k_with "mine fold2" => ((fail_if_success (fail_if_success k_fold)); (with_reducible show wpAny _ _ _ (fun _ _ => wpAny _ _ _ _ _ _) _ _); k_fold)
  k_with "mine bnd" => first | with_reducible assumption | omega | ((try simp only [List.length_set, List.length_append, List.length_cons, List.length_nil, List.length_dropLast, sdN_length]); omega)
  k_with "mine ctx" => ((case zctxk1 => k_asm); (case zctxk2 => k_asm); (case zctxk3 => k_asm); (case zctxk4 => k_asm); (case zctxk5 => k_asm); (case zctxkK => first | exact rfl | assumption); (case zctxkU => k_updF); (case zctxkd => ktr_room); (case zctxku => ktr_units); (case zctxki => l_ints))
  k_with "call ref" => (k_here; (with_reducible show wpAny _ _ (call (Value.ref 77) _) _ _ _); k_dflt (refine' mut_use (sd_c _ _ _ _ _ _ ?zctxp1 ?zctxp2 ?zctxp3 ?zctxp4) ?zctxk1 ?zctxk2 ?zctxk3 ?zctxk4 ?zctxk5 ?zctxkK ?zctxkU ?zctxkd ?zctxku ?zctxki ?_; walk_at "mine ctx"; (case zctxp1 => walk_at "mine bnd"); (case zctxp2 => walk_at "mine bnd"); (case zctxp3 => walk_at "mine bnd"); (case zctxp4 => walk_at "mine bnd"); k_whole); intro _ _ _ _ _ _ _ zN' _ zho'; (have ze1 := zho'.1); (have ze2 := zho'.2); clear zho'; subst ze1; subst ze2; (try dsimp only at zN'); (try k_sweep))
  k_with "call ref" => (k_here; (with_reducible show wpAny _ _ (call (Value.ref 91) _) _ _ _); k_dflt (refine' mut_use (sdx_c _ _ _ _ _ _ ?zctxp1 ?zctxp2 ?zctxp3 ?zctxp4) ?zctxk1 ?zctxk2 ?zctxk3 ?zctxk4 ?zctxk5 ?zctxkK ?zctxkU ?zctxkd ?zctxku ?zctxki ?_; walk_at "mine ctx"; (case zctxp1 => walk_at "mine bnd"); (case zctxp2 => walk_at "mine bnd"); (case zctxp3 => walk_at "mine bnd"); (case zctxp4 => walk_at "mine bnd"); k_whole); intro _ _ _ _ _ _ _ zN' _ zho'; (have ze1 := zho'.1); (have ze2 := zho'.2); clear zho'; subst ze1; subst ze2; (try dsimp only at zN'); (try k_sweep))
  k_with "mine bnd" => first | with_reducible assumption | omega | ((try simp only [List.length_set, List.length_append, List.length_cons, List.length_nil, List.length_dropLast, sdN_length, suN_length]); omega)
  k_with "call ref" => (k_here; (with_reducible show wpAny _ _ (call (Value.ref 84) _) _ _ _); k_dflt (refine' mut_use (su_c _ _ _ _ _ ?zctxp1 ?zctxp2 ?zctxp3) ?zctxk1 ?zctxk2 ?zctxk3 ?zctxk4 ?zctxk5 ?zctxkK ?zctxkU ?zctxkd ?zctxku ?zctxki ?_; walk_at "mine ctx"; (case zctxp1 => walk_at "mine bnd"); (case zctxp2 => walk_at "mine bnd"); (case zctxp3 => walk_at "mine bnd"); k_whole); intro _ _ _ _ _ _ _ zN' _ zho'; (have ze1 := zho'.1); (have ze2 := zho'.2); clear zho'; subst ze1; subst ze2; (try dsimp only at zN'); (try k_sweep))
  k_with "call ref" => (k_here; (with_reducible show wpAny _ _ (call (Value.ref 98) _) _ _ _); k_dflt (refine' mut_use (sux_c _ _ _ _ _ ?zctxp1 ?zctxp2 ?zctxp3) ?zctxk1 ?zctxk2 ?zctxk3 ?zctxk4 ?zctxk5 ?zctxkK ?zctxkU ?zctxkd ?zctxku ?zctxki ?_; walk_at "mine ctx"; (case zctxp1 => walk_at "mine bnd"); (case zctxp2 => walk_at "mine bnd"); (case zctxp3 => walk_at "mine bnd"); k_whole); intro _ _ _ _ _ _ _ zN' _ zho'; (have ze1 := zho'.1); (have ze2 := zho'.2); clear zho'; subst ze1; subst ze2; (try dsimp only at zN'); (try k_sweep))
  k_with "mine bnd" => first | with_reducible assumption | omega | ((try simp only [List.length_set, List.length_append, List.length_cons, List.length_nil, List.length_dropLast, sdN_length, suN_length, liftN_length]); omega)
  k_with "setItem ref int" => (k_here; (with_reducible show wpAny _ _ (setItem (Value.ref _) (Value.int _ _) (Value.int _ _)) _ _ _); k_dflt (refine' ksa_set ?zr139k1 ?zr139k2 ?zr139k3 ?zr139k4 ?zr139k5 ?zr139k6 ?zr139k7 ?_; (case zr139k1 => k_asm); (case zr139k2 => k_asm); (case zr139k3 => k_upd); (case zr139k4 => l_ints); (case zr139k5 => walk_at "mine bnd"); (case zr139k6 => walk_at "mine bnd"); (case zr139k7 => walk_at "mine bnd"); k_whole); intro _ _ _ _ _ _; (try k_sweep))
  k_with "call ref" => (k_here; (with_reducible show wpAny _ _ (call (Value.ref 21) _) _ _ _); k_dflt (refine' mut_use (push_c _ _ _ _ _ ?zctxp1) ?zctxk1 ?zctxk2 ?zctxk3 ?zctxk4 ?zctxk5 ?zctxkK ?zctxkU ?zctxkd ?zctxku ?zctxki ?_; walk_at "mine ctx"; (case zctxp1 => walk_at "mine bnd"); k_whole); intro _ _ _ _ _ _ _ zN' _ zho'; (have ze1 := zho'.1); (have ze2 := zho'.2); clear zho'; subst ze1; subst ze2; (try dsimp only at zN'); (try k_sweep))
  k_with "call ref" => (k_here; (with_reducible show wpAny _ _ (call (Value.ref 28) _) _ _ _); k_dflt (refine' mut_use (pop_c _ _ _ _ ?zctxp1 ?zctxp2) ?zctxk1 ?zctxk2 ?zctxk3 ?zctxk4 ?zctxk5 ?zctxkK ?zctxkU ?zctxkd ?zctxku ?zctxki ?_; walk_at "mine ctx"; (case zctxp1 => walk_at "mine bnd"); (case zctxp2 => walk_at "mine bnd"); k_whole); intro _ _ _ _ _ _ _ zN' _ zho'; (obtain ⟨ze1, _, ze2⟩ := zho'); subst ze1; subst ze2; (try dsimp only at zN'); (try k_sweep))
  k_with "call ref" => (k_here; (with_reducible show wpAny _ _ (call (Value.ref 56) _) _ _ _); k_dflt (refine' mut_use (popx_c _ _ _ _ ?zctxp1 ?zctxp2) ?zctxk1 ?zctxk2 ?zctxk3 ?zctxk4 ?zctxk5 ?zctxkK ?zctxkU ?zctxkd ?zctxku ?zctxki ?_; walk_at "mine ctx"; (case zctxp1 => walk_at "mine bnd"); (case zctxp2 => walk_at "mine bnd"); k_whole); intro _ _ _ _ _ _ _ zN' _ zho'; (obtain ⟨ze1, _, ze2⟩ := zho'); subst ze1; subst ze2; (try dsimp only at zN'); (try k_sweep))
  k_with "call ref" => (k_here; (with_reducible show wpAny _ _ (call (Value.ref 35) _) _ _ _); k_dflt (refine' mut_use (repl_c _ _ _ _ _ ?zctxp1 ?zctxp2) ?zctxk1 ?zctxk2 ?zctxk3 ?zctxk4 ?zctxk5 ?zctxkK ?zctxkU ?zctxkd ?zctxku ?zctxki ?_; walk_at "mine ctx"; (case zctxp1 => walk_at "mine bnd"); (case zctxp2 => walk_at "mine bnd"); k_whole); intro _ _ _ _ _ _ _ zN' _ zho'; (obtain ⟨ze1, _, ze2⟩ := zho'); subst ze1; subst ze2; (try dsimp only at zN'); (try k_sweep))
  k_with "call ref" => (k_here; (with_reducible show wpAny _ _ (call (Value.ref 63) _) _ _ _); k_dflt (refine' mut_use (replx_c _ _ _ _ _ ?zctxp1 ?zctxp2) ?zctxk1 ?zctxk2 ?zctxk3 ?zctxk4 ?zctxk5 ?zctxkK ?zctxkU ?zctxkd ?zctxku ?zctxki ?_; walk_at "mine ctx"; (case zctxp1 => walk_at "mine bnd"); (case zctxp2 => walk_at "mine bnd"); k_whole); intro _ _ _ _ _ _ _ zN' _ zho'; (obtain ⟨ze1, _, ze2⟩ := zho'); subst ze1; subst ze2; (try dsimp only at zN'); (try k_sweep))
  k_with "call ref" => (k_here; (with_reducible show wpAny _ _ (call (Value.ref 42) _) _ _ _); k_dflt (refine' mut_use (pushpop_c _ _ _ _ _ ?zctxp1 ?zctxp2) ?zctxk1 ?zctxk2 ?zctxk3 ?zctxk4 ?zctxk5 ?zctxkK ?zctxkU ?zctxkd ?zctxku ?zctxki ?_; walk_at "mine ctx"; (case zctxp1 => walk_at "mine bnd"); (case zctxp2 => walk_at "mine bnd"); k_whole); intro _ _ _ _ _ _ _ zN' _ zho'; (obtain ⟨ze1, _, ze2⟩ := zho'); subst ze1; subst ze2; (try dsimp only at zN'); (try k_sweep))
  k_with "call ref" => (k_here; (with_reducible show wpAny _ _ (call (Value.ref 110) _) _ _ _); k_dflt (refine' mut_use (lift_c _ _ _ _ _ _ ?zctxp1 ?zctxp2 ?zctxp3 ?zctxp4 ?zctxp5) ?zctxk1 ?zctxk2 ?zctxk3 ?zctxk4 ?zctxk5 ?zctxkK ?zctxkU ?zctxkd ?zctxku ?zctxki ?_; walk_at "mine ctx"; (case zctxp1 => walk_at "mine bnd"); (case zctxp2 => walk_at "mine bnd"); (case zctxp3 => walk_at "mine bnd"); (case zctxp4 => walk_at "mine bnd"); (case zctxp5 => walk_at "mine bnd"); k_whole); intro _ _ _ _ _ _ _ zN' _ zho'; (have ze1 := zho'.1); (have ze2 := zho'.2); clear zho'; subst ze1; subst ze2; (try dsimp only at zN'); (try k_sweep))
  k_with "call ref" => (k_here; (with_reducible show wpAny _ _ (call (Value.ref 49) _) _ _ _); k_dflt (refine' mut_use (hpf_c _ _ _ _ ?zctxp1) ?zctxk1 ?zctxk2 ?zctxk3 ?zctxk4 ?zctxk5 ?zctxkK ?zctxkU ?zctxkd ?zctxku ?zctxki ?_; walk_at "mine ctx"; (case zctxp1 => walk_at "mine bnd"); k_whole); intro _ _ _ _ _ _ _ zN' _ zho'; (have ze1 := zho'.1); (have ze2 := zho'.2); clear zho'; subst ze1; subst ze2; (try dsimp only at zN'); (try k_sweep))
  k_with "call ref" => (k_here; (with_reducible show wpAny _ _ (call (Value.ref 70) _) _ _ _); k_dflt (refine' mut_use (hpfx_c _ _ _ _ ?zctxp1) ?zctxk1 ?zctxk2 ?zctxk3 ?zctxk4 ?zctxk5 ?zctxkK ?zctxkU ?zctxkd ?zctxku ?zctxki ?_; walk_at "mine ctx"; (case zctxp1 => walk_at "mine bnd"); k_whole); intro _ _ _ _ _ _ _ zN' _ zho'; (have ze1 := zho'.1); (have ze2 := zho'.2); clear zho'; subst ze1; subst ze2; (try dsimp only at zN'); (try k_sweep))
  k_with "call ref" => (k_here; (with_reducible show wpAny _ _ (call (Value.ref 124) _) _ _ _); k_dflt (refine' mut_use (lcall_c _ _ _ _ _ _ _ ?zctxp1 ?zctxp2) ?zctxk1 ?zctxk2 ?zctxk3 ?zctxk4 ?zctxk5 ?zctxkK ?zctxkU ?zctxkd ?zctxku ?zctxki ?_; walk_at "mine ctx"; (case zctxp1 => walk_at "mine bnd"); (case zctxp2 => walk_at "mine bnd"); k_whole); intro _ _ _ _ _ _ _ zN' _ zho'; (have ze1 := zho'.1); (have _ := zho'.2); clear zho'; subst ze1; (try dsimp only at zN'); (try k_sweep))
  k_with "call builtin:len" => (k_here; (with_reducible show wpAny _ _ (call (Value.builtin "len") [Value.ref _]) _ _ _); k_dflt (refine' len_ints ?zr150k1 ?zr150k2 ?zr150k3 ?zr150k4 ?_; (case zr150k1 => k_asm); (case zr150k2 => k_mem); (case zr150k3 => l_ints); (case zr150k4 => walk_at "mine bnd"); k_whole))
  k_with "truthy ref" => (k_here; (with_reducible show wpAny _ _ (truthy (Value.ref _)) _ _ _); k_dflt (refine' truthy_ints ?zr151k1 ?zr151k2 ?zr151k3 ?zr151k4 ?_; (case zr151k1 => k_asm); (case zr151k2 => k_mem); (case zr151k3 => l_ints); (case zr151k4 => walk_at "mine bnd")))
  k_with "mine end" => ((try dsimp only); (try (k_unfold; try dsimp only)))
  k_with "mine maps" => first | exact List.forall_mem_nil _ | (refine List.forall_mem_cons.mpr ⟨by rfl, ?_⟩; walk_at "mine maps")
  k_with "binaryOp FloorDiv int int" => (k_here; (with_reducible refine ediv_int ?zr154kb ?zr154kp ?_); (case zr154kb => decide); (case zr154kp => first | exact PyProof.noPylong_of_log2 (by decide +kernel) | exact PyProof.noPylong_small (by omega)))
  k_with "binaryOp Mod int int" => (k_here; (with_reducible refine emod_int ?zr155kb ?_); (case zr155kb => first | decide | omega))
  k_with "exec For Tuple Call cons nil" => (k_here; (rename Fr _ _ _ _ => zlF'); (with_unfolding_all refine' For_turns zlF' ?_; k_whole))
  k_with "call type:enumerate" => ((with_reducible show wpAny _ _ (call (Value.type _) [Value.ref _]) (fun xv s₁ => wpAny _ _ (pyIter xv) (fun it s₂ => TurnsAt _ _ _ _ _ _ _ _ _ it s₂) _ s₁) _ _); refine stop_of ?_)
  k_with "subscriptTail Name Slice ref ref" => (k_here; (with_reducible show wpAny _ _ (subscriptTail _ (PySem.Expr.Slice none none none _) (Value.ref _) (Value.ref _)) _ _ _); k_dflt (refine' slice_all ?zr158F ?zr158N ?zr158l ?zr158z ?_ ?zr158s ?zr158t; (case zr158F => k_asm); (case zr158N => k_asm); (case zr158l => k_mem); (case zr158z => omega); (case zr158s => with_unfolding_all rfl); (case zr158t => (intro _; with_unfolding_all rfl))); intro _ _ _ _ zl1; (try k_lt zl1); (try k_sweep))
  k_with "mine off" => ((simp only [List.forall_mem_cons, List.not_mem_nil, false_implies, implies_true, and_true]); (repeat' apply And.intro) <;> k_ne)
  refine wpAny_call ?_
  k_dflt (walk_at "mine enter")
  intro g L' h' hg hlt F' N' B' X' T'
  (try dsimp only); (try k_fold)
  have N₀ := N
  clear F N B
  have hvl1 : vs1.length = xs.length := hi1.length
  have hvl2 : vs2.length = ys.length := hi2.length
  k_with_none
  k_with "mine enter" => (refine' def_enter ?zr124k1 ?zr124k2 ?zr124k3 ?zr124k4 ?zr124k5 ?zr124kA ?zr124kF ?zr124kK ?zr124k6 ?zr124k7 ?zr124k8 ?zr124k9 ?zr124kB ?_ ?zr124c2 ?zr124c3 ?zr124c4 ?zr124c5; (case zr124kA => exact rfl); (case zr124kF => exact rfl); (case zr124kK => assumption); (case zr124k1 => k_asm); (case zr124k2 => k_asm); (case zr124k3 => k_asm); (case zr124k4 => k_asm); (case zr124k5 => k_asm); (case zr124k6 => k_is); (case zr124k7 => k_is); (case zr124k8 => ktr_room); (case zr124k9 => exact BindsTo.of_eq rfl); (case zr124c5 => decide); (case zr124kB => exact locs rfl); (case zr124c2 => exact rfl); (case zr124c3 => exact rfl); (case zr124c4 => exact rfl); k_whole)
  k_with "binaryOp RShift int int" => (k_here; (with_reducible refine PySem.wpAny_rshift1_int ?zr125kb1 ?_); (case zr125kb1 => omega))
  k_with "mine cj" => (with_reducible (rename @Ne Nat _ _ ∧ _ => zhcj)); have _ := zhcj.1; replace zhcj := zhcj.2
  k_with "mine go" => (repeat (first | walk_at "mine cj" | (k_unfold; (try dsimp only)) | walk_at "mine fold" | walk1 | (dsimp only; walk1)))
  k_with "mine fold" => ((with_reducible show wpAny _ _ (exec _ _) _ _ _); k_fold)
  k_with "mine go2" => (repeat (first | walk_at "mine cj" | (k_unfold; (try dsimp only)) | walk_at "mine fold" | walk_at "mine fold2" | walk1 | (dsimp only; walk1)))
  k_with "mine fold2" => ((fail_if_success (fail_if_success k_fold)); (with_reducible show wpAny _ _ _ (fun _ _ => wpAny _ _ _ _ _ _) _ _); k_fold)
  k_with "mine bnd" => first | with_reducible assumption | omega | ((try simp only [List.length_set, List.length_append, List.length_cons, List.length_nil, List.length_dropLast, sdN_length]); omega)
  k_with "mine ctx" => ((case zctxk1 => k_asm); (case zctxk2 => k_asm); (case zctxk3 => k_asm); (case zctxk4 => k_asm); (case zctxk5 => k_asm); (case zctxkK => first | exact rfl | assumption); (case zctxkU => k_updF); (case zctxkd => ktr_room); (case zctxku => ktr_units); (case zctxki => l_ints))
  k_with "call ref" => (k_here; (with_reducible show wpAny _ _ (call (Value.ref 77) _) _ _ _); k_dflt (refine' mut_use (sd_c _ _ _ _ _ _ ?zctxp1 ?zctxp2 ?zctxp3 ?zctxp4) ?zctxk1 ?zctxk2 ?zctxk3 ?zctxk4 ?zctxk5 ?zctxkK ?zctxkU ?zctxkd ?zctxku ?zctxki ?_; walk_at "mine ctx"; (case zctxp1 => walk_at "mine bnd"); (case zctxp2 => walk_at "mine bnd"); (case zctxp3 => walk_at "mine bnd"); (case zctxp4 => walk_at "mine bnd"); k_whole); intro _ _ _ _ _ _ _ zN' _ zho'; (have ze1 := zho'.1); (have ze2 := zho'.2); clear zho'; subst ze1; subst ze2; (try dsimp only at zN'); (try k_sweep))
  k_with "call ref" => (k_here; (with_reducible show wpAny _ _ (call (Value.ref 91) _) _ _ _); k_dflt (refine' mut_use (sdx_c _ _ _ _ _ _ ?zctxp1 ?zctxp2 ?zctxp3 ?zctxp4) ?zctxk1 ?zctxk2 ?zctxk3 ?zctxk4 ?zctxk5 ?zctxkK ?zctxkU ?zctxkd ?zctxku ?zctxki ?_; walk_at "mine ctx"; (case zctxp1 => walk_at "mine bnd"); (case zctxp2 => walk_at "mine bnd"); (case zctxp3 => walk_at "mine bnd"); (case zctxp4 => walk_at "mine bnd"); k_whole); intro _ _ _ _ _ _ _ zN' _ zho'; (have ze1 := zho'.1); (have ze2 := zho'.2); clear zho'; subst ze1; subst ze2; (try dsimp only at zN'); (try k_sweep))
  k_with "mine bnd" => first | with_reducible assumption | omega | ((try simp only [List.length_set, List.length_append, List.length_cons, List.length_nil, List.length_dropLast, sdN_length, suN_length]); omega)
  k_with "call ref" => (k_here; (with_reducible show wpAny _ _ (call (Value.ref 84) _) _ _ _); k_dflt (refine' mut_use (su_c _ _ _ _ _ ?zctxp1 ?zctxp2 ?zctxp3) ?zctxk1 ?zctxk2 ?zctxk3 ?zctxk4 ?zctxk5 ?zctxkK ?zctxkU ?zctxkd ?zctxku ?zctxki ?_; walk_at "mine ctx"; (case zctxp1 => walk_at "mine bnd"); (case zctxp2 => walk_at "mine bnd"); (case zctxp3 => walk_at "mine bnd"); k_whole); intro _ _ _ _ _ _ _ zN' _ zho'; (have ze1 := zho'.1); (have ze2 := zho'.2); clear zho'; subst ze1; subst ze2; (try dsimp only at zN'); (try k_sweep))
  k_with "call ref" => (k_here; (with_reducible show wpAny _ _ (call (Value.ref 98) _) _ _ _); k_dflt (refine' mut_use (sux_c _ _ _ _ _ ?zctxp1 ?zctxp2 ?zctxp3) ?zctxk1 ?zctxk2 ?zctxk3 ?zctxk4 ?zctxk5 ?zctxkK ?zctxkU ?zctxkd ?zctxku ?zctxki ?_; walk_at "mine ctx"; (case zctxp1 => walk_at "mine bnd"); (case zctxp2 => walk_at "mine bnd"); (case zctxp3 => walk_at "mine bnd"); k_whole); intro _ _ _ _ _ _ _ zN' _ zho'; (have ze1 := zho'.1); (have ze2 := zho'.2); clear zho'; subst ze1; subst ze2; (try dsimp only at zN'); (try k_sweep))
  k_with "mine bnd" => first | with_reducible assumption | omega | ((try simp only [List.length_set, List.length_append, List.length_cons, List.length_nil, List.length_dropLast, sdN_length, suN_length, liftN_length]); omega)
  k_with "setItem ref int" => (k_here; (with_reducible show wpAny _ _ (setItem (Value.ref _) (Value.int _ _) (Value.int _ _)) _ _ _); k_dflt (refine' ksa_set ?zr139k1 ?zr139k2 ?zr139k3 ?zr139k4 ?zr139k5 ?zr139k6 ?zr139k7 ?_; (case zr139k1 => k_asm); (case zr139k2 => k_asm); (case zr139k3 => k_upd); (case zr139k4 => l_ints); (case zr139k5 => walk_at "mine bnd"); (case zr139k6 => walk_at "mine bnd"); (case zr139k7 => walk_at "mine bnd"); k_whole); intro _ _ _ _ _ _; (try k_sweep))
  k_with "call ref" => (k_here; (with_reducible show wpAny _ _ (call (Value.ref 21) _) _ _ _); k_dflt (refine' mut_use (push_c _ _ _ _ _ ?zctxp1) ?zctxk1 ?zctxk2 ?zctxk3 ?zctxk4 ?zctxk5 ?zctxkK ?zctxkU ?zctxkd ?zctxku ?zctxki ?_; walk_at "mine ctx"; (case zctxp1 => walk_at "mine bnd"); k_whole); intro _ _ _ _ _ _ _ zN' _ zho'; (have ze1 := zho'.1); (have ze2 := zho'.2); clear zho'; subst ze1; subst ze2; (try dsimp only at zN'); (try k_sweep))
  k_with "call ref" => (k_here; (with_reducible show wpAny _ _ (call (Value.ref 28) _) _ _ _); k_dflt (refine' mut_use (pop_c _ _ _ _ ?zctxp1 ?zctxp2) ?zctxk1 ?zctxk2 ?zctxk3 ?zctxk4 ?zctxk5 ?zctxkK ?zctxkU ?zctxkd ?zctxku ?zctxki ?_; walk_at "mine ctx"; (case zctxp1 => walk_at "mine bnd"); (case zctxp2 => walk_at "mine bnd"); k_whole); intro _ _ _ _ _ _ _ zN' _ zho'; (obtain ⟨ze1, _, ze2⟩ := zho'); subst ze1; subst ze2; (try dsimp only at zN'); (try k_sweep))
  k_with "call ref" => (k_here; (with_reducible show wpAny _ _ (call (Value.ref 56) _) _ _ _); k_dflt (refine' mut_use (popx_c _ _ _ _ ?zctxp1 ?zctxp2) ?zctxk1 ?zctxk2 ?zctxk3 ?zctxk4 ?zctxk5 ?zctxkK ?zctxkU ?zctxkd ?zctxku ?zctxki ?_; walk_at "mine ctx"; (case zctxp1 => walk_at "mine bnd"); (case zctxp2 => walk_at "mine bnd"); k_whole); intro _ _ _ _ _ _ _ zN' _ zho'; (obtain ⟨ze1, _, ze2⟩ := zho'); subst ze1; subst ze2; (try dsimp only at zN'); (try k_sweep))
  k_with "call ref" => (k_here; (with_reducible show wpAny _ _ (call (Value.ref 35) _) _ _ _); k_dflt (refine' mut_use (repl_c _ _ _ _ _ ?zctxp1 ?zctxp2) ?zctxk1 ?zctxk2 ?zctxk3 ?zctxk4 ?zctxk5 ?zctxkK ?zctxkU ?zctxkd ?zctxku ?zctxki ?_; walk_at "mine ctx"; (case zctxp1 => walk_at "mine bnd"); (case zctxp2 => walk_at "mine bnd"); k_whole); intro _ _ _ _ _ _ _ zN' _ zho'; (obtain ⟨ze1, _, ze2⟩ := zho'); subst ze1; subst ze2; (try dsimp only at zN'); (try k_sweep))
  k_with "call ref" => (k_here; (with_reducible show wpAny _ _ (call (Value.ref 63) _) _ _ _); k_dflt (refine' mut_use (replx_c _ _ _ _ _ ?zctxp1 ?zctxp2) ?zctxk1 ?zctxk2 ?zctxk3 ?zctxk4 ?zctxk5 ?zctxkK ?zctxkU ?zctxkd ?zctxku ?zctxki ?_; walk_at "mine ctx"; (case zctxp1 => walk_at "mine bnd"); (case zctxp2 => walk_at "mine bnd"); k_whole); intro _ _ _ _ _ _ _ zN' _ zho'; (obtain ⟨ze1, _, ze2⟩ := zho'); subst ze1; subst ze2; (try dsimp only at zN'); (try k_sweep))
  k_with "call ref" => (k_here; (with_reducible show wpAny _ _ (call (Value.ref 42) _) _ _ _); k_dflt (refine' mut_use (pushpop_c _ _ _ _ _ ?zctxp1 ?zctxp2) ?zctxk1 ?zctxk2 ?zctxk3 ?zctxk4 ?zctxk5 ?zctxkK ?zctxkU ?zctxkd ?zctxku ?zctxki ?_; walk_at "mine ctx"; (case zctxp1 => walk_at "mine bnd"); (case zctxp2 => walk_at "mine bnd"); k_whole); intro _ _ _ _ _ _ _ zN' _ zho'; (obtain ⟨ze1, _, ze2⟩ := zho'); subst ze1; subst ze2; (try dsimp only at zN'); (try k_sweep))
  k_with "call ref" => (k_here; (with_reducible show wpAny _ _ (call (Value.ref 110) _) _ _ _); k_dflt (refine' mut_use (lift_c _ _ _ _ _ _ ?zctxp1 ?zctxp2 ?zctxp3 ?zctxp4 ?zctxp5) ?zctxk1 ?zctxk2 ?zctxk3 ?zctxk4 ?zctxk5 ?zctxkK ?zctxkU ?zctxkd ?zctxku ?zctxki ?_; walk_at "mine ctx"; (case zctxp1 => walk_at "mine bnd"); (case zctxp2 => walk_at "mine bnd"); (case zctxp3 => walk_at "mine bnd"); (case zctxp4 => walk_at "mine bnd"); (case zctxp5 => walk_at "mine bnd"); k_whole); intro _ _ _ _ _ _ _ zN' _ zho'; (have ze1 := zho'.1); (have ze2 := zho'.2); clear zho'; subst ze1; subst ze2; (try dsimp only at zN'); (try k_sweep))
  k_with "call ref" => (k_here; (with_reducible show wpAny _ _ (call (Value.ref 49) _) _ _ _); k_dflt (refine' mut_use (hpf_c _ _ _ _ ?zctxp1) ?zctxk1 ?zctxk2 ?zctxk3 ?zctxk4 ?zctxk5 ?zctxkK ?zctxkU ?zctxkd ?zctxku ?zctxki ?_; walk_at "mine ctx"; (case zctxp1 => walk_at "mine bnd"); k_whole); intro _ _ _ _ _ _ _ zN' _ zho'; (have ze1 := zho'.1); (have ze2 := zho'.2); clear zho'; subst ze1; subst ze2; (try dsimp only at zN'); (try k_sweep))
  k_with "call ref" => (k_here; (with_reducible show wpAny _ _ (call (Value.ref 70) _) _ _ _); k_dflt (refine' mut_use (hpfx_c _ _ _ _ ?zctxp1) ?zctxk1 ?zctxk2 ?zctxk3 ?zctxk4 ?zctxk5 ?zctxkK ?zctxkU ?zctxkd ?zctxku ?zctxki ?_; walk_at "mine ctx"; (case zctxp1 => walk_at "mine bnd"); k_whole); intro _ _ _ _ _ _ _ zN' _ zho'; (have ze1 := zho'.1); (have ze2 := zho'.2); clear zho'; subst ze1; subst ze2; (try dsimp only at zN'); (try k_sweep))
  k_with "call ref" => (k_here; (with_reducible show wpAny _ _ (call (Value.ref 124) _) _ _ _); k_dflt (refine' mut_use (lcall_c _ _ _ _ _ _ _ ?zctxp1 ?zctxp2) ?zctxk1 ?zctxk2 ?zctxk3 ?zctxk4 ?zctxk5 ?zctxkK ?zctxkU ?zctxkd ?zctxku ?zctxki ?_; walk_at "mine ctx"; (case zctxp1 => walk_at "mine bnd"); (case zctxp2 => walk_at "mine bnd"); k_whole); intro _ _ _ _ _ _ _ zN' _ zho'; (have ze1 := zho'.1); (have _ := zho'.2); clear zho'; subst ze1; (try dsimp only at zN'); (try k_sweep))
  k_with "call builtin:len" => (k_here; (with_reducible show wpAny _ _ (call (Value.builtin "len") [Value.ref _]) _ _ _); k_dflt (refine' len_ints ?zr150k1 ?zr150k2 ?zr150k3 ?zr150k4 ?_; (case zr150k1 => k_asm); (case zr150k2 => k_mem); (case zr150k3 => l_ints); (case zr150k4 => walk_at "mine bnd"); k_whole))
  k_with "truthy ref" => (k_here; (with_reducible show wpAny _ _ (truthy (Value.ref _)) _ _ _); k_dflt (refine' truthy_ints ?zr151k1 ?zr151k2 ?zr151k3 ?zr151k4 ?_; (case zr151k1 => k_asm); (case zr151k2 => k_mem); (case zr151k3 => l_ints); (case zr151k4 => walk_at "mine bnd")))
  k_with "mine end" => ((try dsimp only); (try (k_unfold; try dsimp only)))
  k_with "mine maps" => first | exact List.forall_mem_nil _ | (refine List.forall_mem_cons.mpr ⟨by rfl, ?_⟩; walk_at "mine maps")
  k_with "binaryOp FloorDiv int int" => (k_here; (with_reducible refine ediv_int ?zr154kb ?zr154kp ?_); (case zr154kb => decide); (case zr154kp => first | exact PyProof.noPylong_of_log2 (by decide +kernel) | exact PyProof.noPylong_small (by omega)))
  k_with "binaryOp Mod int int" => (k_here; (with_reducible refine emod_int ?zr155kb ?_); (case zr155kb => first | decide | omega))
  k_with "exec For Tuple Call cons nil" => (k_here; (rename Fr _ _ _ _ => zlF'); (with_unfolding_all refine' For_turns zlF' ?_; k_whole))
  k_with "call type:enumerate" => ((with_reducible show wpAny _ _ (call (Value.type _) [Value.ref _]) (fun xv s₁ => wpAny _ _ (pyIter xv) (fun it s₂ => TurnsAt _ _ _ _ _ _ _ _ _ it s₂) _ s₁) _ _); refine stop_of ?_)
  k_with "subscriptTail Name Slice ref ref" => (k_here; (with_reducible show wpAny _ _ (subscriptTail _ (PySem.Expr.Slice none none none _) (Value.ref _) (Value.ref _)) _ _ _); k_dflt (refine' slice_all ?zr158F ?zr158N ?zr158l ?zr158z ?_ ?zr158s ?zr158t; (case zr158F => k_asm); (case zr158N => k_asm); (case zr158l => k_mem); (case zr158z => omega); (case zr158s => with_unfolding_all rfl); (case zr158t => (intro _; with_unfolding_all rfl))); intro _ _ _ _ zl1; (try k_lt zl1); (try k_sweep))
  k_with "mine off" => ((simp only [List.forall_mem_cons, List.not_mem_nil, false_implies, implies_true, and_true]); (repeat' apply And.intro) <;> k_ne)
  k_steps
  · unfold Stop
    (rename Fr _ _ _ _ => lF'); (rename News _ _ _ _ => lN');     rename Addr => D
    with_unfolding_all refine ktu_enum (by rfl) lF' lN' (by k_mem) (by rfl) (by rfl) rfl ?_
    intro I lI
    (try k_lt lI)
    refine rest_st (σ := List Value × List Int × Nat) (fun c => [(D, listOf c.1.toArray c.2.2), (l1, listOf vs1.toArray n1), (l2, listOf vs2.toArray n2)]) (fun c => [(Str.ofString "row", .ref D)])
      (fun i c => IntsAre c.1 c.2.1 ∧ c.2.1.length = xs.length ∧ apartN i (ys.drop i) c.2.1 = apartN 0 ys xs) (_, xs, 0) rfl (by walk_at "mine maps") ⟨hi1, rfl, rfl⟩ (fun c => rfl) ?off (fun c => ⟨by k_mem, trivial⟩) ?turn ?done
    case off => walk_at "mine off"
    case turn =>
      rintro i a ⟨vs, hs, n⟩ u ha ⟨hi, hl, hr⟩ v h tk hv F
      obtain ⟨hin, t', rfl⟩ := enumItems_is hi2 ha
      obtain ⟨T1, t, rfl, hT⟩ := hv
      refine AllObj.cons (fun o1 hc1 => AllObj.cons (fun o2 hc2 => AllObj.nil (fun N' => ?_)))
      clear lF' lN'
      dsimp only [kstB] at F
      (try dsimp only at *); (try simp only [List.cons_append, List.nil_append] at N'); (try k_fold)
      k_with "exec While BoolOp cons nil" => k_while (fun script spot turns => 0 ≤ spot ∧ spot < hs.length ∧ 0 ≤ turns ∧ walkN hs.length spot.toNat turns.toNat = walkN hs.length (i : Int).toNat (ys.getD i 0 % 15).toNat) (fun script spot turns => turns.toNat) "spot" "turns"
      have hin' : (i : Int) < hs.length := by omega
      k_with "state" => first | exact wk_start (Int.natCast_nonneg _) hin' (by omega) | exact wk_turn (by assumption) (by assumption) (by assumption) (by assumption)
      k_steps
      all_goals exact lpost_next (_, _, _) (by assumption) (by assumption) (by k_subL) (by k_subL) (by walk_at "mine maps") ⟨by assumption, by rw [liftN_length]; assumption, ap_turn hin rfl (by assumption) (by assumption) (by first | exact Or.inl (by assumption) | exact Or.inr (by assumption)) (by assumption) hr⟩
    case done =>
      rintro ⟨vs, hs, n⟩ u h tk ⟨hi, hl, hr⟩ F N'
      clear lF' lN'
      dsimp only [kstB] at F
      have hz : ys.drop (enumItems 0 vs2).length = [] := by rw [enumItems_length, hvl2]; exact List.drop_length
      rw [hz] at hr
      (try dsimp only at *)
      k_steps
      all_goals walk_at "mine end"
      all_goals exact hret _ _ _ _ _ (hkeep_two hg N₀ (by assumption) (by assumption) (by k_mem) (by k_mem)) (fresh_two hg (by assumption) (by k_mem) (by k_ne) (by k_ne)) (N' _ (by k_mem)).1 (ints_to hi hr)

/-- entering a def of the text whose names are cells in part -/
theorem def_enterC {w : World} {A A₀ : Around} {s : Shared} {K : Frag} {L : Addr} {h₀ base : Heap} {m mg mb : Str → Option Value} {news : List (Addr × Obj)} {p : Program} {loose : List Str} {mean : ExcName → Option Value}
    {env : Env} {outer : List Env} {R : Result → Shared → Prop} {name qual : Str} {params : Arguments} {body : List Stmt} {scope : Scope} {dV kV doc pm cdv ct oc : Value} {an od : Option Addr} {osl : Array (Option Value)} {f : Addr} {args : Args} {binds : List (Str × Value)} {prog : Program}
    (B : Below A₀ base outer h₀) (F : Fr h₀ L s.heap m) (X₀ : K.In h₀) (N : News h₀ L s.heap news) (T : Top p loose mean mg mb h₀) (hA : A.frames = some (env :: outer)) (hf : env.frame = some L) (hke : env.scope.kind = .function)
    (ho : K.lookup f = some ⟨oc, od, .func (fnOf name qual params body scope dV kV doc pm an cdv ct), osl⟩) (hcd : codeIn K cdv qual = true) (hroom : A.depth < recursionLimit)
    (hbind : BindsTo s (fnOf name qual params body scope dV kV doc pm an cdv ct) args binds) (hkind : (binds.all fun y => scope.names.lookup y.1 == some .local || scope.names.lookup y.1 == some .cell) = true)
    (hnd : ((cellsFrom 0 scope.names []).map (·.1)).Nodup)
    (h : ∀ g L' h₁ tk cells, (∀ b o, b ∉ news.map (·.1) → s.heap.get? b = some o → g.get? b = some o) → (∀ p ∈ news, p.1 < L') → Fr g L' h₁ (bindL (envOfC qual scope L' f cdv).kindOf binds fun _ => none) → News g L' h₁ (cells ++ news) →
      CellsAre (bindC (envOfC qual scope L' f cdv).kindOf binds fun _ => none) (cellsFrom (L' + 1) scope.names []) cells → Below A base (env :: outer) g → K.In g → Top p loose mean mg mb g →
      wpAny (model prog w) (A.deeper (envOfC qual scope L' f cdv)) (execs body (envOfC qual scope L' f cdv))
        (fun fl s' => R (.ok (.ret (match fl with | .ret v => v | _ => .none))) s')
        (fun e s' => wpAny (model prog w) (A.deeper (envOfC qual scope L' f cdv)) (leaving (envOfC qual scope L' f cdv) e) (fun _ s'' => R (.error e) s'') (fun e' s'' => R (.error e') s'') s')
        { s with heap := h₁, toks := tk })
    (hco : scope.isCoroutine = false) (hgen : scope.isGenerator = false) (hk : scope.kind = .function) : codeAny (model prog w) A (.call (.ref f) args) R s := by
  have nm : ∀ b o, h₀.get? b = some o → b ∉ news.map (·.1) := fun b o e q => by
    obtain ⟨p, hp, rfl⟩ := List.mem_map.mp q
    rw [(N p hp).2.2] at e; cases e
  have st : h₀.StaysIn (hideAll s.heap (news.map (·.1))) := fun b o e => hideAll_get _ (F.keep b o e) (nm b o e)
  obtain ⟨oL, es, ep, hL, hLd, hLk, hLf⟩ := F.ns
  have nL : L ∉ news.map (·.1) := fun q => by
    obtain ⟨p, hp, e⟩ := List.mem_map.mp q
    exact (N p hp).2.1 e
  have B₁ := pushX B F hf hke
  have BG : Below A base (env :: outer) (hideAll s.heap (news.map (·.1))) := ⟨hA, fun b o e => st b o (B.stays b o e), funFrames_hideAll B₁.frames fun env' he b hb hf' => by
    cases he with
    | head => exact nL ((Option.some.inj (hf.symm.trans hf') : L = b) ▸ hb)
    | tail _ he =>
      obtain ⟨L₁, o₁, hf₁, ho₁⟩ := funFrames_in B.frames env' he
      rw [hf₁] at hf'
      exact nm L₁ o₁ ho₁ ((Option.some.inj hf' : L₁ = b) ▸ hb)⟩
  refine codeAny_call_function hroom ((X₀.keeps F.keep) _ _ ho) rfl hco hgen rfl (codeRec_of (X₀.keeps F.keep) hcd) (hbind _ _ _ _ ?_)
  refine wpAny_newFunctionEnv_cells hk (kindsX hkind _) fun env' he s' x => ?_
  subst he
  refine ⟨((T.nolimit).keeps F.keep).keeps x.toInCall.keep, codeAny_func ?_⟩
  obtain ⟨h₁, tk, rfl, _⟩ := x.done
  have hk₁ := x.toInCall.keep
  obtain ⟨cells, NC, Y⟩ := Cl.news (h₀ := s.heap) (Nat.le_refl _) fun n c hm => ⟨x.cell n c (lookup_of_mem_nodup (cellsFrom_names scope.names 0 (s.heap.objs.size + 1) [] [] rfl ▸ hnd) hm), x.above n c hm⟩
  refine h _ s.heap.objs.size h₁ tk cells (fun b o hb e => hideAll_get _ e hb) (fun p hp => Heap.lt_size (N p hp).1) ⟨x.toInCall.ns, fun b o e => hk₁ b o (of_hideAll _ e), Nat.le_of_eq (hideAll_size _ _)⟩ (fun p hp => ?_) Y BG (X₀.keeps st) (T.keeps st)
  rcases List.mem_append.mp hp with hp | hp
  · refine ⟨(NC p hp).1, (NC p hp).2.1, ?_⟩
    cases q : (hideAll s.heap (news.map (·.1))).get? p.1 with
    | none => rfl
    | some o => have := of_hideAll _ q; rw [(NC p hp).2.2] at this; cases this
  · exact ⟨hk₁ _ _ (N p hp).1, Nat.ne_of_lt (Heap.lt_size (N p hp).1), hideAll_none _ (List.mem_map_of_mem hp)⟩
section
open PyProof.Rows.LCg PyProof.Rows.LCt
variable {prog : Program} {w : World} {A : Around} {E : Value → Shared → Prop} {s : Shared} {h₀ : Heap} {L : Addr} {m : Str → Option Value} {env : Env}
abbrev tupOf (its : Array Value) (k : Nat) : Obj := { cls := .type "tuple", data := .seq its k }
def TupSrcT (prog : Program) (w : World) (A : Around) (h₀ : Heap) (L : Addr) (m : Str → Option Value) (env : Env) (ct elt : Expr) (x : Str) (scope : Scope) (cl : List (Str × Addr)) (Fin : Shared → List Value → List (Addr × Obj) → Prop) (xv : Value) (s₁ : Shared) : Prop :=
  ∃ ax its k news, xv = .ref ax ∧ A.handled = none ∧ Fr h₀ L s₁.heap m ∧ News h₀ L s₁.heap news ∧ (ax, tupOf its k) ∈ news ∧ its.size ≤ sizeLine ∧
    ∀ s₂ : Shared, (∃ h, s₂ = { s₁ with heap := h }) → CompRestT prog w A h₀ L m env ct elt x scope cl s₂ (fun nw => (ax, tupOf its k) ∈ nw) (fun i v => its[i]? = some v) (Fin s₂) its.size 0 [] news
theorem TupSrcT.intro {ct elt : Expr} {x : Str} {scope : Scope} {cl : List (Str × Addr)} {Fin : Shared → List Value → List (Addr × Obj) → Prop} {ax : Addr} {its : Array Value} {k : Nat} {news : List (Addr × Obj)} {s₁ : Shared}
    (hh : A.handled = none) (F : Fr h₀ L s₁.heap m) (N : News h₀ L s₁.heap news) (hm : (ax, tupOf its k) ∈ news) (hsz : its.size ≤ sizeLine)
    (h : ∀ g, CompRestT prog w A h₀ L m env ct elt x scope cl { s₁ with heap := g } (fun nw => (ax, tupOf its k) ∈ nw) (fun i v => its[i]? = some v) (Fin { s₁ with heap := g }) its.size 0 [] news) :
    TupSrcT prog w A h₀ L m env ct elt x scope cl Fin (.ref ax) s₁ := ⟨ax, its, k, news, rfl, hh, F, N, hm, hsz, fun _ ⟨g, e⟩ => e ▸ h g⟩
def CtYes (news : List (Addr × Obj)) (c : Prop) (r : Int) (y : Value) (news' : List (Addr × Obj)) : Prop := news' = news ∧ c ∧ ∃ t : Tok, y = .int r t
def CtNo (news : List (Addr × Obj)) (c : Prop) (_ : Value) (news' : List (Addr × Obj)) : Prop := news' = news ∧ c
theorem compT_ints {ct elt : Expr} {x : Str} {scope : Scope} {cl : List (Str × Addr)} {S : List (Addr × Obj) → Prop} {P : Nat → Value → Prop} {Fin : List Value → List (Addr × Obj) → Prop} {news : List (Addr × Obj)} {n : Nat} {ks : List Int} (p : Int → Bool) (g : Int → Int)
    (hks : ks.length = n) (hP : ∀ i v, i < n → P i v → ∃ k t, ks[i]? = some k ∧ v = .int k t)
    (turn : ∀ k t I oI C oC D m₂ ys h tk (E' : Value → Shared → Prop), k ∈ ks → NsObj oC m₂ → m₂ x = some (.int k t) → Fr h₀ L h m → News h₀ L h ((I, oI) :: (C, oC) :: (D, lst ys) :: news) → Off3 I C D news → ((@Ne Nat I C) ∧ (@Ne Nat I D) ∧ (@Ne Nat C D)) →
      wpAny (model prog w) A (isTrue ct (compEnvC scope cl C env) (eval ct (compEnvC scope cl C env))) (fun ok s' => if ok = true then
        wpAny (model prog w) A (eval elt (compEnvC scope cl C env)) (CompEnd h₀ L m { s with heap := h, toks := tk } I oI C oC D (lst ys) S (CtYes news (p k = true) (g k))) E' s'
        else CompEnd h₀ L m { s with heap := h, toks := tk } I oI C oC D (lst ys) S (CtNo news (p k = false)) Value.none s') E' { s with heap := h, toks := tk })
    (fin : ∀ ys, IntsAre ys ((ks.filter p).map g) → Fin ys news) : CompRestT prog w A h₀ L m env ct elt x scope cl s S P Fin n 0 [] news := by
  have key : ∀ (j i : Nat) (ys : List Value), i + j = n → IntsAre ys (((ks.take i).filter p).map g) → CompRestT prog w A h₀ L m env ct elt x scope cl s S P Fin j i ys news := by
    intro j
    induction j with
    | zero =>
      intro i ys hi hy
      have e : i = ks.length := by omega
      subst e
      rw [List.take_length] at hy
      exact CompRestT.zero (fin ys hy)
    | succ j ih =>
      intro i ys hi hy
      refine CompRestT.succ ?_
      intro v I oI C oC D m₂ h tk E' hv hC hx F N off ne
      obtain ⟨k, t, hk, hv'⟩ := hP i v (by omega) hv
      rw [hv'] at hx
      have ht : ks.take (i + 1) = ks.take i ++ [k] := by rw [List.take_add_one, hk]; rfl
      refine wpAny_mono (turn k t I oI C oC D m₂ ys h tk E' (List.mem_of_getElem? hk) hC hx F N off ne) (fun ok s₂ hq => ?_) fun _ _ e => e
      cases ok with
      | true =>
        simp only [if_true] at hq ⊢
        refine wpAny_mono hq (fun y s₃ hy3 => ?_) fun _ _ e => e
        obtain ⟨h', tk', nw, e, F', N', off', hS, hn, hp, t', hy'⟩ := hy3
        rw [hn] at N' off' hS
        refine ⟨h', tk', news, e, F', N', off', hS, ?_⟩
        rw [hy']
        refine ih (i + 1) _ (by omega) ?_
        rw [ht, List.filter_append, List.map_append]
        have e1 : [k].filter p = [k] := by simp [hp]
        rw [e1]
        exact IntsAre.append hy (.cons (g k) t' .nil)
      | false =>
        simp only [Bool.false_eq_true, if_false] at hq ⊢
        obtain ⟨h', tk', nw, e, F', N', off', hS, hn, hp⟩ := hq
        rw [hn] at N' off' hS
        refine ⟨h', tk', news, e, F', N', off', hS, ih (i + 1) _ (by omega) ?_⟩
        rw [ht, List.filter_append, List.map_append]
        have e1 : [k].filter p = [] := by simp [hp]
        rw [e1]
        simpa using hy
  exact key n 0 [] (by omega) (by simp only [List.take_zero, List.filter_nil, List.map_nil]; exact .nil)
theorem ct_split {c : Prop} [Decidable c] {P Q : Prop} (h1 : c → P) (h2 : ¬ c → Q) : if decide c = true then P else Q := by
  by_cases h : c
  · rw [if_pos (decide_eq_true h)]; exact h1 h
  · rw [if_neg (by simpa using h)]; exact h2 h
theorem items_ints {its : Array Value} {ks : List Int} (hi : IntsAre its.toList ks) : ks.length = its.size ∧ ∀ i v, i < its.size → its[i]? = some v → ∃ k t, ks[i]? = some k ∧ v = .int k t := by
  refine ⟨by have := hi.length; simpa using this.symm, fun i v _ hv => ?_⟩
  obtain ⟨k, t, e, hk⟩ := IntsAre.at hi i v (by simpa using hv)
  exact ⟨k, t, hk, e⟩
theorem ListComp_tup {ct elt iter : Expr} {x : Str} {px : Pos} {scope : Scope} {cl : List (Str × Addr)} {pos : Pos} {Q : Value → Shared → Prop} (_F₀ : Fr h₀ L s.heap m)
    (hclos : closureFor scope env = pure cl) (hcell : ∀ y ∈ scope.names, y.2 ≠ .cell) (hkind : scope.kind = .function)
    (hnames : ∀ y ∈ scope.names, y.2 = .local → scope.names.lookup y.1 = some .local) (hx : scope.names.lookup x = some .local)
    (h : wpAny (model prog w) A (eval iter env) (TupSrcT prog w A h₀ L m env ct elt x scope cl (fun s₂ => FinE h₀ L m s₂ Q)) E s)
    (hs : ∀ x, foldedSetIterable iter env x = pure x := by intro _; rfl) :
    wpAny (model prog w) A (eval (.ListComp elt [⟨.Name x px, iter, [ct], 0⟩] scope pos) env) Q E s := by
  rw [eval_ListComp]
  refine wpAny_comprehension_free (use := none) rfl hs hclos hkind hnames (wpAny_mono h (fun xv s₁ h₁ => ?_) fun _ _ e => e)
  obtain ⟨ax, its, k, news, rfl, hh, F, N, S, hsz, R⟩ := h₁
  have hax := N _ S
  have hl : s₁.heap.IsTuple ax its := ⟨_, hax.1, rfl, k, rfl⟩
  have hlt : ax < s₁.heap.objs.size := Heap.lt_size hax.1
  refine wpAny_pyIter_tuple hl ?_
  have up : ∀ b o, s₁.heap.get? b = some o → (s₁.heap.push { cls := .type "tuple_iterator", data := .fields #[.ref ax, .int 0 0] }).get? b = some o := fun b o e => Heap.get?_push_of_some _ e
  refine block_T (Walks.tuple hh s₁.heap.objs.size ax (Nat.ne_of_lt hlt) its) hsz (fun i h st => by obtain ⟨o, e, _⟩ := st.1; exact ⟨o, e⟩) (fun i h h' o nw st e e' k' N' S' => ?_) hcell hkind hx ⟨⟨_, Heap.get?_push_size _ rfl, rfl, rfl⟩, hl.at fun o e => up _ o e⟩ (fun b hb => ?_)
    (F.keeps up) (N.grown up) (Nat.ne_of_lt F.ns.lt) (next_is_new F) (fun p hp => Nat.ne_of_lt (Heap.lt_size (N p hp).1)) S (R _ ⟨_, rfl⟩) ?_
  · refine ⟨?_, _, (N' _ S').1, rfl, k, rfl⟩
    obtain ⟨o', q, r⟩ := st.1
    rw [e] at q
    cases q
    exact ⟨o, e', r⟩
  · show b < (s₁.heap.push _).objs.size
    rw [Heap.size_push]
    rcases List.mem_cons.mp hb with rfl | hb
    · exact Nat.lt_succ_self _
    · rw [List.mem_singleton.mp hb]; exact Nat.lt_succ_of_lt hlt
  · intro D C h tk m' ys news' F' N' o1 hn hC₀ hD₀ hCL hDL hCD offC fin
    refine ⟨m', hn, fun h'' hs'' => fin D h'' tk (F'.change hs'' hCL hC₀) (fun p hp => ?_) o1⟩
    refine ⟨hs''.extBut _ _ ?_ (N' p hp).1, (N' p hp).2⟩
    rcases List.mem_cons.mp hp with rfl | hp
    · exact Ne.symm hCD
    · exact offC p hp
end
/-- what holds of _law_heap's row and free places behind i turns: said below -/
structure LhInv (ns : List Int) (i : Nat) (row free : List Int) : Prop where
  rowLen : row.length = ns.length
  freeLen : free.length ≤ i + 1
  some : i < ns.length → 0 < free.length
  bnd : ∀ k, k < free.length → 0 ≤ free.getD k 0 ∧ free.getD k 0 < ns.length
def kids (n : Nat) (p : Int) : List Int := [2 * p + 1, 2 * p + 2].filter fun b => decide (b < (n : Int))
def LhStep (ns : List Int) (J : Nat → List Int → List Int → Prop) : Prop :=
  (∀ i row free, J i row free → LhInv ns i row free) ∧ J 0 ns [0] ∧ ∀ i row free k, J i row free → i < ns.length → k < free.length → J (i + 1) (row.set (free.getD k 0).toNat (ns.getD i 0)) (free.eraseIdx k ++ kids ns.length (free.getD k 0))
def New2R (w : World) (mean : ExcName → Option Value) (mg mb : Str → Option Value) (k : Nat) (f : Addr) (xs ys : List Int) (Out : List Int → Prop) : Prop :=
  ∀ (dp un : Nat) (gd : Option (List Code)) (cn : Str) (cs : Scope) (a : Addr) (ccd : Value) (cl : List (Str × Addr)) (outer : List Env) (A₀ : Around) (base h₀ : Heap) (L : Addr) (m : Str → Option Value) (s : Shared) (Q E : Value → Shared → Prop)
    (l1 l2 : Addr) (vs1 vs2 : List Value) (n1 n2 : Nat),
    Below A₀ base outer h₀ → Fr h₀ L s.heap m → (hd.heap_39 w.params).In h₀ → News h₀ L s.heap [(l1, listOf vs1.toArray n1), (l2, listOf vs2.toArray n2)] → (l1 : Nat) ≠ l2 → TopM mean mg mb h₀ → cs.kind = .function →
    dp + k < recursionLimit → un + 8 * k < cLine → IntsAre vs1 xs → IntsAre vs2 ys →
    (∀ h' tk' r vs' n' hs', HKeep s.heap h' → s.heap.get? r = none → h'.get? r = some (listOf vs'.toArray n') → IntsAre vs' hs' → Out hs' → Q (.ref r) { s with heap := h', toks := tk' }) →
    wpAny (model PR w) (ktrTop dp un gd cn cs L a ccd cl outer) (call (.ref f) [.ref l1, .ref l2]) Q E s
theorem cut_at : ∀ (l : List Value) (k : Nat) (h : k < l.length), kl_cut l k = some (l.take k, l[k], l.drop (k + 1))
  | [], _, h => absurd h (Nat.not_lt_zero _)
  | x :: r, 0, _ => rfl
  | x :: r, k + 1, h => by
    have q := cut_at r k (Nat.lt_of_succ_lt_succ h)
    unfold kl_cut
    rw [q]
    rfl
theorem ints_erase : ∀ {vs : List Value} {ns : List Int}, IntsAre vs ns → ∀ j : Nat, IntsAre (vs.eraseIdx j) (ns.eraseIdx j)
  | _, _, .nil, _ => by simpa using IntsAre.nil
  | _, _, .cons _ _ h, 0 => by simpa using h
  | _, _, .cons i t h, j + 1 => by simpa using IntsAre.cons i t (ints_erase h j)
theorem pop_at {prog : Program} {w : World} {A : Around} {E : Value → Shared → Prop} {s : Shared} {h₀ : Heap} {L D : Addr} {m : Str → Option Value} {news : List (Addr × Obj)} {G : Obj → List (Addr × Obj)} {us : List Value} {l : List Int} {n : Nat} {k : Int} {u : Tok} {Q : Value → Shared → Prop}
    (F : Fr h₀ L s.heap m) (N : News h₀ L s.heap news) (U : UpdF D (listOf us.toArray n) news G) (hi : IntsAre us l) (h0 : 0 ≤ k) (h1 : k < l.length) (hz : l.length < 2 ^ 20)
    (h : ∀ h' t, Fr h₀ L h' m → News h₀ L h' (G (listOf (us.eraseIdx k.toNat).toArray (n + 1))) → IntsAre (us.eraseIdx k.toNat) (l.eraseIdx k.toNat) → Q (.int (l.getD k.toNat 0) t) { s with heap := h' }) :
    wpAny (model prog w) A (call (.builtin "list.pop") [.ref D, .int k u]) Q E s := by
  have hl := hi.length
  have hk : k.toNat < us.length := by omega
  obtain ⟨pre, post, rfl, hG, a, b⟩ := U.split
  obtain ⟨t, hx⟩ := hi.get k.toNat (l.getD k.toNat 0) (by
    rw [List.getD_eq_getElem?_getD, List.getElem?_eq_getElem (by omega)]; rfl)
  have hy : us[k.toNat] = .int (l.getD k.toNat 0) t := by
    rw [List.getElem?_eq_getElem hk] at hx
    exact Option.some.inj hx
  have e := cut_at us k.toNat hk
  rw [hy] at e
  have e2 : us.take k.toNat ++ us.drop (k.toNat + 1) = us.eraseIdx k.toNat := (List.eraseIdx_eq_take_drop_succ us k.toNat).symm
  have z1 : Upd D (listOf us.toArray n) (listOf (us.take k.toNat ++ us.drop (k.toNat + 1)).toArray (n + 1)) (pre ++ (D, listOf us.toArray n) :: post) (pre ++ (D, listOf (us.take k.toNat ++ us.drop (k.toNat + 1)).toArray (n + 1)) :: post) := by
    clear h hG U N
    induction pre with
    | nil => exact .head b
    | cons p r ih => exact .tail (a p (.head _)) (ih fun q hq => a q (.tail _ hq))
  refine kl_popAt F N (k := k.toNat) ?_ ?_ e z1 ?_ fun h' F' N' => h h' t F' ?_ (ints_erase hi _)
  · unfold Builtin.List.listFitsIndex
    simp only [Bool.and_eq_true, decide_eq_true_eq]
    omega
  · unfold seqIndex?
    have q1 : (if k < 0 then k + (us.toArray.size : Int) else k) = k := if_neg (by omega)
    have q2 : (decide (0 ≤ k) && decide (k < (us.toArray.size : Int))) = true := by
      rw [List.size_toArray, decide_eq_true h0, decide_eq_true (by omega : k < (us.length : Int))]
      rfl
    dsimp only
    rw [q1, q2]
    rfl
  · rw [sizeLine_eq]
    have q : us.toArray.toList.length = l.length := hl
    rw [q]
    omega
  · rw [hG, ← e2]
    exact N'
theorem iadd_lists {prog : Program} {w : World} {A : Around} {E : Value → Shared → Prop} {s : Shared} {h₀ : Heap} {L D b : Addr} {m : Str → Option Value} {news : List (Addr × Obj)} {G : Obj → List (Addr × Obj)} {us ys : List Value} {n n2 : Nat} {Q : Value → Shared → Prop}
    (F : Fr h₀ L s.heap m) (N : News h₀ L s.heap news) (U : UpdF D (listOf us.toArray n) news G) (hb : (b, listOf ys.toArray n2) ∈ news) (hz : us.length + ys.length < 2 ^ 20)
    (h : ∀ h' n', Fr h₀ L h' m → News h₀ L h' (G (listOf (us ++ ys).toArray n')) → Q (.ref D) { s with heap := h' }) :
    wpAny (model prog w) A (inplaceOp .Add (.ref D) (.ref b)) Q E s := by
  obtain ⟨pre, post, rfl, hG, a, c⟩ := U.split
  have z := N (D, listOf us.toArray n) (List.mem_append.mpr (.inr (.head _)))
  have z2 := N _ hb
  have ha : s.TypeIs (.ref D) "list" := ⟨_, z.1, rfl⟩
  have hbT : s.TypeIs (.ref b) "list" := ⟨_, z2.1, rfl⟩
  unfold inplaceOp
  refine wpAny_holding ?_
  have hlk : typeLookup (.type "list") (dunderI "add") = pure (some (.builtin "list.__iadd__")) := PySem.F.slot_list_iadd.lookup
  have hfi : fillsInplaceSlot (.type "list") "add" (Operator.Add == .Add) = pure false := by
    unfold fillsInplaceSlot
    show (typeLookup (.type "list") (dunderI "add") >>= fun fi => pure (fi.isSome && !isSeqSlot fi)) = pure false
    rw [hlk]
    rfl
  have hsi : seqSlot? (.type "list") (dunderI "add") = pure (some (.builtin "list.__iadd__")) := PySem.seqSlot_of hlk (by decide +kernel)
  refine wpAny_bind (wpAny_typeOf ha (wpAny_bind (wpAny_of_eq hfi ?_)))
  show wpAny _ _ (if false = true then _ else _) Q E s
  rw [if_neg Bool.false_ne_true]
  refine wpAny_bind (binaryOp1_none (nm := "add") ha hbT noFill_list_add ?_)
  refine wpAny_bind (wpAny_of_eq hsi ?_)
  refine wpAny_bind (wpAny_rule ?_)
  have hd : ¬(!us.toArray.isEmpty && Builtin.List.listTooLong (us.toArray.size + ys.toArray.size)) = true := by
    unfold Builtin.List.listTooLong
    rw [sizeLine_eq, List.size_toArray, List.size_toArray, decide_eq_false (by omega)]
    simp
  refine call_meets PySem.F.slot_list_iadd ha PySem.F.entry_list_iadd (PySem.F.args_list_iadd_2 _ _) (PySem.AutoSeq1.list___iadd___list_list_0 D us.toArray n b ys.toArray n2 hd (by rw [List.size_toArray, sizeLine_eq]; omega) (by rw [List.size_toArray, List.size_toArray, sizeLine_eq]; omega)) ⟨z.1, z2.1, ?_⟩
  have q := PySem.IsL.update z.1 (fun x => x ++ ys.toArray)
  have e : us.toArray ++ ys.toArray = (us ++ ys).toArray := by simp
  rw [e] at q
  have N2 := news_set N a c (Heap.SameBut.update ..) q
  rw [← hG] at N2
  exact h _ _ (F.change (Heap.SameBut.update ..) z.2.1 z.2.2) N2
theorem zipItems_is {vs1 vs2 : List Value} {xs ys : List Int} (h1 : IntsAre vs1 xs) (h2 : IntsAre vs2 ys) {i : Nat} {a : Itm} (h : (zipItems vs1 vs2)[i]? = some a) : i < xs.length ∧ i < ys.length ∧ ∃ t t', a = Itm.pair (fun _ => .int (xs.getD i 0) t) (.int (ys.getD i 0) t') := by
  have hl : i < (zipItems vs1 vs2).length := by
    rcases Nat.lt_or_ge i (zipItems vs1 vs2).length with q | q
    · exact q
    · rw [List.getElem?_eq_none q] at h; cases h
  rw [zipItems_length, h1.length, h2.length] at hl
  have l1 : i < xs.length := by omega
  have l2 : i < ys.length := by omega
  obtain ⟨t, hx⟩ := h1.get i xs[i] (by simp [l1])
  obtain ⟨t', hy⟩ := h2.get i ys[i] (by simp [l2])
  have e := zipItems_get vs1 vs2 i hx hy
  rw [e] at h
  have e1 : xs.getD i 0 = xs[i] := by simp [List.getD_eq_getElem?_getD, l1]
  have e2 : ys.getD i 0 = ys[i] := by simp [List.getD_eq_getElem?_getD, l2]
  exact ⟨l1, l2, t, t', by rw [e1, e2]; exact (Option.some.inj h).symm⟩
theorem lheap_c (w : World) (mean : ExcName → Option Value) (mg mb : Str → Option Value) {xs ys : List Int} (hlen : xs.length < 2 ^ 19) (hle : ys.length = xs.length) (J : Nat → List Int → List Int → Prop) (hJ : LhStep xs J) :
    New2R w mean mg mb 2 103 xs ys (fun row => ∃ free, J xs.length row free) := by
  unfold New2R
  intro dp un gd cn cs a ccd cl outer A₀ base h₀ L m s Q E l1 l2 vs1 vs2 n1 n2 B F X N hne T hk hd hu hi1 hi2 hret
  w_top off
  k_with_none
  k_with "mine enter" => (refine' def_enter ?zr160k1 ?zr160k2 ?zr160k3 ?zr160k4 ?zr160k5 ?zr160kA ?zr160kF ?zr160kK ?zr160k6 ?zr160k7 ?zr160k8 ?zr160k9 ?zr160kB ?_ ?zr160c2 ?zr160c3 ?zr160c4 ?zr160c5; (case zr160kA => exact rfl); (case zr160kF => exact rfl); (case zr160kK => assumption); (case zr160k1 => k_asm); (case zr160k2 => k_asm); (case zr160k3 => k_asm); (case zr160k4 => k_asm); (case zr160k5 => k_asm); (case zr160k6 => k_is); (case zr160k7 => k_is); (case zr160k8 => ktr_room); (case zr160k9 => exact BindsTo.of_eq rfl); (case zr160c5 => decide); (case zr160kB => exact locs rfl); (case zr160c2 => exact rfl); (case zr160c3 => exact rfl); (case zr160c4 => exact rfl); k_whole)
  k_with "binaryOp RShift int int" => (k_here; (with_reducible refine PySem.wpAny_rshift1_int ?zr161kb1 ?_); (case zr161kb1 => omega))
  k_with "mine cj" => (with_reducible (rename @Ne Nat _ _ ∧ _ => zhcj)); have _ := zhcj.1; replace zhcj := zhcj.2
  k_with "mine go" => (repeat (first | walk_at "mine cj" | (k_unfold; (try dsimp only)) | walk_at "mine fold" | walk1 | (dsimp only; walk1)))
  k_with "mine fold" => ((with_reducible show wpAny _ _ (exec _ _) _ _ _); k_fold)
  k_with "mine go2" => (repeat (first | walk_at "mine cj" | (k_unfold; (try dsimp only)) | walk_at "mine fold" | walk_at "mine fold2" | walk1 | (dsimp only; walk1)))
  k_with "mine fold2" => ((fail_if_success (fail_if_success k_fold)); (with_reducible show wpAny _ _ _ (fun _ _ => wpAny _ _ _ _ _ _) _ _); k_fold)
  k_with "mine bnd" => first | with_reducible assumption | omega | ((try simp only [List.length_set, List.length_append, List.length_cons, List.length_nil, List.length_dropLast, sdN_length]); omega)
  k_with "mine ctx" => ((case zctxk1 => k_asm); (case zctxk2 => k_asm); (case zctxk3 => k_asm); (case zctxk4 => k_asm); (case zctxk5 => k_asm); (case zctxkK => first | exact rfl | assumption); (case zctxkU => k_updF); (case zctxkd => ktr_room); (case zctxku => ktr_units); (case zctxki => l_ints))
  k_with "call ref" => (k_here; (with_reducible show wpAny _ _ (call (Value.ref 77) _) _ _ _); k_dflt (refine' mut_use (sd_c _ _ _ _ _ _ ?zctxp1 ?zctxp2 ?zctxp3 ?zctxp4) ?zctxk1 ?zctxk2 ?zctxk3 ?zctxk4 ?zctxk5 ?zctxkK ?zctxkU ?zctxkd ?zctxku ?zctxki ?_; walk_at "mine ctx"; (case zctxp1 => walk_at "mine bnd"); (case zctxp2 => walk_at "mine bnd"); (case zctxp3 => walk_at "mine bnd"); (case zctxp4 => walk_at "mine bnd"); k_whole); intro _ _ _ _ _ _ _ zN' _ zho'; (have ze1 := zho'.1); (have ze2 := zho'.2); clear zho'; subst ze1; subst ze2; (try dsimp only at zN'); (try k_sweep))
  k_with "call ref" => (k_here; (with_reducible show wpAny _ _ (call (Value.ref 91) _) _ _ _); k_dflt (refine' mut_use (sdx_c _ _ _ _ _ _ ?zctxp1 ?zctxp2 ?zctxp3 ?zctxp4) ?zctxk1 ?zctxk2 ?zctxk3 ?zctxk4 ?zctxk5 ?zctxkK ?zctxkU ?zctxkd ?zctxku ?zctxki ?_; walk_at "mine ctx"; (case zctxp1 => walk_at "mine bnd"); (case zctxp2 => walk_at "mine bnd"); (case zctxp3 => walk_at "mine bnd"); (case zctxp4 => walk_at "mine bnd"); k_whole); intro _ _ _ _ _ _ _ zN' _ zho'; (have ze1 := zho'.1); (have ze2 := zho'.2); clear zho'; subst ze1; subst ze2; (try dsimp only at zN'); (try k_sweep))
  k_with "mine bnd" => first | with_reducible assumption | omega | ((try simp only [List.length_set, List.length_append, List.length_cons, List.length_nil, List.length_dropLast, sdN_length, suN_length]); omega)
  k_with "call ref" => (k_here; (with_reducible show wpAny _ _ (call (Value.ref 84) _) _ _ _); k_dflt (refine' mut_use (su_c _ _ _ _ _ ?zctxp1 ?zctxp2 ?zctxp3) ?zctxk1 ?zctxk2 ?zctxk3 ?zctxk4 ?zctxk5 ?zctxkK ?zctxkU ?zctxkd ?zctxku ?zctxki ?_; walk_at "mine ctx"; (case zctxp1 => walk_at "mine bnd"); (case zctxp2 => walk_at "mine bnd"); (case zctxp3 => walk_at "mine bnd"); k_whole); intro _ _ _ _ _ _ _ zN' _ zho'; (have ze1 := zho'.1); (have ze2 := zho'.2); clear zho'; subst ze1; subst ze2; (try dsimp only at zN'); (try k_sweep))
  k_with "call ref" => (k_here; (with_reducible show wpAny _ _ (call (Value.ref 98) _) _ _ _); k_dflt (refine' mut_use (sux_c _ _ _ _ _ ?zctxp1 ?zctxp2 ?zctxp3) ?zctxk1 ?zctxk2 ?zctxk3 ?zctxk4 ?zctxk5 ?zctxkK ?zctxkU ?zctxkd ?zctxku ?zctxki ?_; walk_at "mine ctx"; (case zctxp1 => walk_at "mine bnd"); (case zctxp2 => walk_at "mine bnd"); (case zctxp3 => walk_at "mine bnd"); k_whole); intro _ _ _ _ _ _ _ zN' _ zho'; (have ze1 := zho'.1); (have ze2 := zho'.2); clear zho'; subst ze1; subst ze2; (try dsimp only at zN'); (try k_sweep))
  k_with "mine bnd" => first | with_reducible assumption | omega | ((try simp only [List.length_set, List.length_append, List.length_cons, List.length_nil, List.length_dropLast, sdN_length, suN_length, liftN_length]); omega)
  k_with "setItem ref int" => (k_here; (with_reducible show wpAny _ _ (setItem (Value.ref _) (Value.int _ _) (Value.int _ _)) _ _ _); k_dflt (refine' ksa_set ?zr175k1 ?zr175k2 ?zr175k3 ?zr175k4 ?zr175k5 ?zr175k6 ?zr175k7 ?_; (case zr175k1 => k_asm); (case zr175k2 => k_asm); (case zr175k3 => k_upd); (case zr175k4 => l_ints); (case zr175k5 => walk_at "mine bnd"); (case zr175k6 => walk_at "mine bnd"); (case zr175k7 => walk_at "mine bnd"); k_whole); intro _ _ _ _ _ _; (try k_sweep))
  k_with "call ref" => (k_here; (with_reducible show wpAny _ _ (call (Value.ref 21) _) _ _ _); k_dflt (refine' mut_use (push_c _ _ _ _ _ ?zctxp1) ?zctxk1 ?zctxk2 ?zctxk3 ?zctxk4 ?zctxk5 ?zctxkK ?zctxkU ?zctxkd ?zctxku ?zctxki ?_; walk_at "mine ctx"; (case zctxp1 => walk_at "mine bnd"); k_whole); intro _ _ _ _ _ _ _ zN' _ zho'; (have ze1 := zho'.1); (have ze2 := zho'.2); clear zho'; subst ze1; subst ze2; (try dsimp only at zN'); (try k_sweep))
  k_with "call ref" => (k_here; (with_reducible show wpAny _ _ (call (Value.ref 28) _) _ _ _); k_dflt (refine' mut_use (pop_c _ _ _ _ ?zctxp1 ?zctxp2) ?zctxk1 ?zctxk2 ?zctxk3 ?zctxk4 ?zctxk5 ?zctxkK ?zctxkU ?zctxkd ?zctxku ?zctxki ?_; walk_at "mine ctx"; (case zctxp1 => walk_at "mine bnd"); (case zctxp2 => walk_at "mine bnd"); k_whole); intro _ _ _ _ _ _ _ zN' _ zho'; (obtain ⟨ze1, _, ze2⟩ := zho'); subst ze1; subst ze2; (try dsimp only at zN'); (try k_sweep))
  k_with "call ref" => (k_here; (with_reducible show wpAny _ _ (call (Value.ref 56) _) _ _ _); k_dflt (refine' mut_use (popx_c _ _ _ _ ?zctxp1 ?zctxp2) ?zctxk1 ?zctxk2 ?zctxk3 ?zctxk4 ?zctxk5 ?zctxkK ?zctxkU ?zctxkd ?zctxku ?zctxki ?_; walk_at "mine ctx"; (case zctxp1 => walk_at "mine bnd"); (case zctxp2 => walk_at "mine bnd"); k_whole); intro _ _ _ _ _ _ _ zN' _ zho'; (obtain ⟨ze1, _, ze2⟩ := zho'); subst ze1; subst ze2; (try dsimp only at zN'); (try k_sweep))
  k_with "call ref" => (k_here; (with_reducible show wpAny _ _ (call (Value.ref 35) _) _ _ _); k_dflt (refine' mut_use (repl_c _ _ _ _ _ ?zctxp1 ?zctxp2) ?zctxk1 ?zctxk2 ?zctxk3 ?zctxk4 ?zctxk5 ?zctxkK ?zctxkU ?zctxkd ?zctxku ?zctxki ?_; walk_at "mine ctx"; (case zctxp1 => walk_at "mine bnd"); (case zctxp2 => walk_at "mine bnd"); k_whole); intro _ _ _ _ _ _ _ zN' _ zho'; (obtain ⟨ze1, _, ze2⟩ := zho'); subst ze1; subst ze2; (try dsimp only at zN'); (try k_sweep))
  k_with "call ref" => (k_here; (with_reducible show wpAny _ _ (call (Value.ref 63) _) _ _ _); k_dflt (refine' mut_use (replx_c _ _ _ _ _ ?zctxp1 ?zctxp2) ?zctxk1 ?zctxk2 ?zctxk3 ?zctxk4 ?zctxk5 ?zctxkK ?zctxkU ?zctxkd ?zctxku ?zctxki ?_; walk_at "mine ctx"; (case zctxp1 => walk_at "mine bnd"); (case zctxp2 => walk_at "mine bnd"); k_whole); intro _ _ _ _ _ _ _ zN' _ zho'; (obtain ⟨ze1, _, ze2⟩ := zho'); subst ze1; subst ze2; (try dsimp only at zN'); (try k_sweep))
  k_with "call ref" => (k_here; (with_reducible show wpAny _ _ (call (Value.ref 42) _) _ _ _); k_dflt (refine' mut_use (pushpop_c _ _ _ _ _ ?zctxp1 ?zctxp2) ?zctxk1 ?zctxk2 ?zctxk3 ?zctxk4 ?zctxk5 ?zctxkK ?zctxkU ?zctxkd ?zctxku ?zctxki ?_; walk_at "mine ctx"; (case zctxp1 => walk_at "mine bnd"); (case zctxp2 => walk_at "mine bnd"); k_whole); intro _ _ _ _ _ _ _ zN' _ zho'; (obtain ⟨ze1, _, ze2⟩ := zho'); subst ze1; subst ze2; (try dsimp only at zN'); (try k_sweep))
  k_with "call ref" => (k_here; (with_reducible show wpAny _ _ (call (Value.ref 110) _) _ _ _); k_dflt (refine' mut_use (lift_c _ _ _ _ _ _ ?zctxp1 ?zctxp2 ?zctxp3 ?zctxp4 ?zctxp5) ?zctxk1 ?zctxk2 ?zctxk3 ?zctxk4 ?zctxk5 ?zctxkK ?zctxkU ?zctxkd ?zctxku ?zctxki ?_; walk_at "mine ctx"; (case zctxp1 => walk_at "mine bnd"); (case zctxp2 => walk_at "mine bnd"); (case zctxp3 => walk_at "mine bnd"); (case zctxp4 => walk_at "mine bnd"); (case zctxp5 => walk_at "mine bnd"); k_whole); intro _ _ _ _ _ _ _ zN' _ zho'; (have ze1 := zho'.1); (have ze2 := zho'.2); clear zho'; subst ze1; subst ze2; (try dsimp only at zN'); (try k_sweep))
  k_with "call ref" => (k_here; (with_reducible show wpAny _ _ (call (Value.ref 49) _) _ _ _); k_dflt (refine' mut_use (hpf_c _ _ _ _ ?zctxp1) ?zctxk1 ?zctxk2 ?zctxk3 ?zctxk4 ?zctxk5 ?zctxkK ?zctxkU ?zctxkd ?zctxku ?zctxki ?_; walk_at "mine ctx"; (case zctxp1 => walk_at "mine bnd"); k_whole); intro _ _ _ _ _ _ _ zN' _ zho'; (have ze1 := zho'.1); (have ze2 := zho'.2); clear zho'; subst ze1; subst ze2; (try dsimp only at zN'); (try k_sweep))
  k_with "call ref" => (k_here; (with_reducible show wpAny _ _ (call (Value.ref 70) _) _ _ _); k_dflt (refine' mut_use (hpfx_c _ _ _ _ ?zctxp1) ?zctxk1 ?zctxk2 ?zctxk3 ?zctxk4 ?zctxk5 ?zctxkK ?zctxkU ?zctxkd ?zctxku ?zctxki ?_; walk_at "mine ctx"; (case zctxp1 => walk_at "mine bnd"); k_whole); intro _ _ _ _ _ _ _ zN' _ zho'; (have ze1 := zho'.1); (have ze2 := zho'.2); clear zho'; subst ze1; subst ze2; (try dsimp only at zN'); (try k_sweep))
  k_with "call ref" => (k_here; (with_reducible show wpAny _ _ (call (Value.ref 124) _) _ _ _); k_dflt (refine' mut_use (lcall_c _ _ _ _ _ _ _ ?zctxp1 ?zctxp2) ?zctxk1 ?zctxk2 ?zctxk3 ?zctxk4 ?zctxk5 ?zctxkK ?zctxkU ?zctxkd ?zctxku ?zctxki ?_; walk_at "mine ctx"; (case zctxp1 => walk_at "mine bnd"); (case zctxp2 => walk_at "mine bnd"); k_whole); intro _ _ _ _ _ _ _ zN' _ zho'; (have ze1 := zho'.1); (have _ := zho'.2); clear zho'; subst ze1; (try dsimp only at zN'); (try k_sweep))
  k_with "call builtin:len" => (k_here; (with_reducible show wpAny _ _ (call (Value.builtin "len") [Value.ref _]) _ _ _); k_dflt (refine' len_ints ?zr186k1 ?zr186k2 ?zr186k3 ?zr186k4 ?_; (case zr186k1 => k_asm); (case zr186k2 => k_mem); (case zr186k3 => l_ints); (case zr186k4 => walk_at "mine bnd"); k_whole))
  k_with "truthy ref" => (k_here; (with_reducible show wpAny _ _ (truthy (Value.ref _)) _ _ _); k_dflt (refine' truthy_ints ?zr187k1 ?zr187k2 ?zr187k3 ?zr187k4 ?_; (case zr187k1 => k_asm); (case zr187k2 => k_mem); (case zr187k3 => l_ints); (case zr187k4 => walk_at "mine bnd")))
  k_with "mine end" => ((try dsimp only); (try (k_unfold; try dsimp only)))
  k_with "mine maps" => first | exact List.forall_mem_nil _ | (refine List.forall_mem_cons.mpr ⟨by rfl, ?_⟩; walk_at "mine maps")
  k_with "binaryOp FloorDiv int int" => (k_here; (with_reducible refine ediv_int ?zr190kb ?zr190kp ?_); (case zr190kb => decide); (case zr190kp => first | exact PyProof.noPylong_of_log2 (by decide +kernel) | exact PyProof.noPylong_small (by omega)))
  k_with "binaryOp Mod int int" => (k_here; (with_reducible refine emod_int ?zr191kb ?_); (case zr191kb => first | decide | omega))
  k_with "subscriptTail Name Slice ref ref" => (k_here; (with_reducible show wpAny _ _ (subscriptTail _ (PySem.Expr.Slice none none none _) (Value.ref _) (Value.ref _)) _ _ _); k_dflt (refine' slice_all ?zr192F ?zr192N ?zr192l ?zr192z ?_ ?zr192s ?zr192t; (case zr192F => k_asm); (case zr192N => k_asm); (case zr192l => k_mem); (case zr192z => omega); (case zr192s => with_unfolding_all rfl); (case zr192t => (intro _; with_unfolding_all rfl))); intro _ _ _ _ zl1; (try k_lt zl1); (try k_sweep))
  k_with "mine off" => ((simp only [List.forall_mem_cons, List.not_mem_nil, false_implies, implies_true, and_true]); (repeat' apply And.intro) <;> k_ne)
  k_with "mine enterC" => (refine' def_enterC ?zr194k1 ?zr194k2 ?zr194k3 ?zr194k4 ?zr194k5 ?zr194kA ?zr194kF ?zr194kK ?zr194k6 ?zr194k7 ?zr194k8 ?zr194k9 ?zr194kB ?zr194kD ?_ ?zr194c2 ?zr194c3 ?zr194c4; (case zr194kA => exact rfl); (case zr194kF => exact rfl); (case zr194kK => assumption); (case zr194k1 => k_asm); (case zr194k2 => k_asm); (case zr194k3 => k_asm); (case zr194k4 => k_asm); (case zr194k5 => k_asm); (case zr194k6 => k_is); (case zr194k7 => k_is); (case zr194k8 => ktr_room); (case zr194k9 => exact BindsTo.of_eq rfl); (case zr194kB => exact rfl); (case zr194kD => decide +kernel); (case zr194c2 => exact rfl); (case zr194c3 => exact rfl); (case zr194c4 => exact rfl); k_whole)
  k_with "eval ListComp" => (k_here; k_dflt (refine ListComp_tup (_F₀ := by k_asm) (by with_unfolding_all rfl) (by decide) (by rfl) (by decide) (by rfl) ?_))
  k_with "call builtin:list.pop" => (k_here; (with_reducible show wpAny _ _ (call (Value.builtin _) [Value.ref _, Value.int _ _]) _ _ _); k_dflt (refine' pop_at ?zr196F ?zr196N ?zr196U ?zr196i ?zr196a ?zr196b ?zr196c ?_; (case zr196F => k_asm); (case zr196N => k_asm); (case zr196U => k_updF); (case zr196i => l_ints); (case zr196a => walk_at "mine bnd"); (case zr196b => walk_at "mine bnd"); (case zr196c => walk_at "mine bnd")); intro _ _ _ zN' _; (try dsimp only at zN'); (try k_sweep))
  k_with "inplaceOp Add ref" => (k_here; (with_reducible show wpAny _ _ (inplaceOp Operator.Add (Value.ref _) (Value.ref _)) _ _ _); k_dflt (refine' iadd_lists ?zr197F ?zr197N ?zr197U ?zr197b ?zr197z ?_; (case zr197F => k_asm); (case zr197N => k_asm); (case zr197U => k_updF); (case zr197b => k_mem); (case zr197z => first | assumption | omega)); intro _ _ _ zN'; (try dsimp only at zN'); (try k_sweep))
  k_with "exec For Tuple Call cons nil" => (k_here; (rename Fr _ _ _ _ => zlF'); (with_unfolding_all refine' For_turns zlF' ?_; k_whole))
  k_with "call type:zip" => ((with_reducible show wpAny _ _ (call (Value.type _) [Value.ref _, Value.ref _]) (fun xv s₁ => wpAny _ _ (pyIter xv) (fun it s₂ => TurnsAt _ _ _ _ _ _ _ _ _ it s₂) _ s₁) _ _); refine stop_of ?_)
  refine wpAny_call ?_
  k_dflt (walk_at "mine enterC")
  intro g L' h' tk cells hg hlt F' N' Y' B' X' T'
  k_lt hlt
  k_cells Y'
  (try simp only [List.cons_append, List.nil_append] at N')
  (try dsimp only); (try k_fold)
  have N₀ := N
  clear F N B
  have hvl1 : vs1.length = xs.length := hi1.length
  have hvl2 : vs2.length = ys.length := hi2.length
  k_with_none
  k_with "mine enter" => (refine' def_enter ?zr160k1 ?zr160k2 ?zr160k3 ?zr160k4 ?zr160k5 ?zr160kA ?zr160kF ?zr160kK ?zr160k6 ?zr160k7 ?zr160k8 ?zr160k9 ?zr160kB ?_ ?zr160c2 ?zr160c3 ?zr160c4 ?zr160c5; (case zr160kA => exact rfl); (case zr160kF => exact rfl); (case zr160kK => assumption); (case zr160k1 => k_asm); (case zr160k2 => k_asm); (case zr160k3 => k_asm); (case zr160k4 => k_asm); (case zr160k5 => k_asm); (case zr160k6 => k_is); (case zr160k7 => k_is); (case zr160k8 => ktr_room); (case zr160k9 => exact BindsTo.of_eq rfl); (case zr160c5 => decide); (case zr160kB => exact locs rfl); (case zr160c2 => exact rfl); (case zr160c3 => exact rfl); (case zr160c4 => exact rfl); k_whole)
  k_with "binaryOp RShift int int" => (k_here; (with_reducible refine PySem.wpAny_rshift1_int ?zr161kb1 ?_); (case zr161kb1 => omega))
  k_with "mine cj" => (with_reducible (rename @Ne Nat _ _ ∧ _ => zhcj)); have _ := zhcj.1; replace zhcj := zhcj.2
  k_with "mine go" => (repeat (first | walk_at "mine cj" | (k_unfold; (try dsimp only)) | walk_at "mine fold" | walk1 | (dsimp only; walk1)))
  k_with "mine fold" => ((with_reducible show wpAny _ _ (exec _ _) _ _ _); k_fold)
  k_with "mine go2" => (repeat (first | walk_at "mine cj" | (k_unfold; (try dsimp only)) | walk_at "mine fold" | walk_at "mine fold2" | walk1 | (dsimp only; walk1)))
  k_with "mine fold2" => ((fail_if_success (fail_if_success k_fold)); (with_reducible show wpAny _ _ _ (fun _ _ => wpAny _ _ _ _ _ _) _ _); k_fold)
  k_with "mine bnd" => first | with_reducible assumption | omega | ((try simp only [List.length_set, List.length_append, List.length_cons, List.length_nil, List.length_dropLast, sdN_length]); omega)
  k_with "mine ctx" => ((case zctxk1 => k_asm); (case zctxk2 => k_asm); (case zctxk3 => k_asm); (case zctxk4 => k_asm); (case zctxk5 => k_asm); (case zctxkK => first | exact rfl | assumption); (case zctxkU => k_updF); (case zctxkd => ktr_room); (case zctxku => ktr_units); (case zctxki => l_ints))
  k_with "call ref" => (k_here; (with_reducible show wpAny _ _ (call (Value.ref 77) _) _ _ _); k_dflt (refine' mut_use (sd_c _ _ _ _ _ _ ?zctxp1 ?zctxp2 ?zctxp3 ?zctxp4) ?zctxk1 ?zctxk2 ?zctxk3 ?zctxk4 ?zctxk5 ?zctxkK ?zctxkU ?zctxkd ?zctxku ?zctxki ?_; walk_at "mine ctx"; (case zctxp1 => walk_at "mine bnd"); (case zctxp2 => walk_at "mine bnd"); (case zctxp3 => walk_at "mine bnd"); (case zctxp4 => walk_at "mine bnd"); k_whole); intro _ _ _ _ _ _ _ zN' _ zho'; (have ze1 := zho'.1); (have ze2 := zho'.2); clear zho'; subst ze1; subst ze2; (try dsimp only at zN'); (try k_sweep))
  k_with "call ref" => (k_here; (with_reducible show wpAny _ _ (call (Value.ref 91) _) _ _ _); k_dflt (refine' mut_use (sdx_c _ _ _ _ _ _ ?zctxp1 ?zctxp2 ?zctxp3 ?zctxp4) ?zctxk1 ?zctxk2 ?zctxk3 ?zctxk4 ?zctxk5 ?zctxkK ?zctxkU ?zctxkd ?zctxku ?zctxki ?_; walk_at "mine ctx"; (case zctxp1 => walk_at "mine bnd"); (case zctxp2 => walk_at "mine bnd"); (case zctxp3 => walk_at "mine bnd"); (case zctxp4 => walk_at "mine bnd"); k_whole); intro _ _ _ _ _ _ _ zN' _ zho'; (have ze1 := zho'.1); (have ze2 := zho'.2); clear zho'; subst ze1; subst ze2; (try dsimp only at zN'); (try k_sweep))
  k_with "mine bnd" => first | with_reducible assumption | omega | ((try simp only [List.length_set, List.length_append, List.length_cons, List.length_nil, List.length_dropLast, sdN_length, suN_length]); omega)
  k_with "call ref" => (k_here; (with_reducible show wpAny _ _ (call (Value.ref 84) _) _ _ _); k_dflt (refine' mut_use (su_c _ _ _ _ _ ?zctxp1 ?zctxp2 ?zctxp3) ?zctxk1 ?zctxk2 ?zctxk3 ?zctxk4 ?zctxk5 ?zctxkK ?zctxkU ?zctxkd ?zctxku ?zctxki ?_; walk_at "mine ctx"; (case zctxp1 => walk_at "mine bnd"); (case zctxp2 => walk_at "mine bnd"); (case zctxp3 => walk_at "mine bnd"); k_whole); intro _ _ _ _ _ _ _ zN' _ zho'; (have ze1 := zho'.1); (have ze2 := zho'.2); clear zho'; subst ze1; subst ze2; (try dsimp only at zN'); (try k_sweep))
  k_with "call ref" => (k_here; (with_reducible show wpAny _ _ (call (Value.ref 98) _) _ _ _); k_dflt (refine' mut_use (sux_c _ _ _ _ _ ?zctxp1 ?zctxp2 ?zctxp3) ?zctxk1 ?zctxk2 ?zctxk3 ?zctxk4 ?zctxk5 ?zctxkK ?zctxkU ?zctxkd ?zctxku ?zctxki ?_; walk_at "mine ctx"; (case zctxp1 => walk_at "mine bnd"); (case zctxp2 => walk_at "mine bnd"); (case zctxp3 => walk_at "mine bnd"); k_whole); intro _ _ _ _ _ _ _ zN' _ zho'; (have ze1 := zho'.1); (have ze2 := zho'.2); clear zho'; subst ze1; subst ze2; (try dsimp only at zN'); (try k_sweep))
  k_with "mine bnd" => first | with_reducible assumption | omega | ((try simp only [List.length_set, List.length_append, List.length_cons, List.length_nil, List.length_dropLast, sdN_length, suN_length, liftN_length]); omega)
  k_with "setItem ref int" => (k_here; (with_reducible show wpAny _ _ (setItem (Value.ref _) (Value.int _ _) (Value.int _ _)) _ _ _); k_dflt (refine' ksa_set ?zr175k1 ?zr175k2 ?zr175k3 ?zr175k4 ?zr175k5 ?zr175k6 ?zr175k7 ?_; (case zr175k1 => k_asm); (case zr175k2 => k_asm); (case zr175k3 => k_upd); (case zr175k4 => l_ints); (case zr175k5 => walk_at "mine bnd"); (case zr175k6 => walk_at "mine bnd"); (case zr175k7 => walk_at "mine bnd"); k_whole); intro _ _ _ _ _ _; (try k_sweep))
  k_with "call ref" => (k_here; (with_reducible show wpAny _ _ (call (Value.ref 21) _) _ _ _); k_dflt (refine' mut_use (push_c _ _ _ _ _ ?zctxp1) ?zctxk1 ?zctxk2 ?zctxk3 ?zctxk4 ?zctxk5 ?zctxkK ?zctxkU ?zctxkd ?zctxku ?zctxki ?_; walk_at "mine ctx"; (case zctxp1 => walk_at "mine bnd"); k_whole); intro _ _ _ _ _ _ _ zN' _ zho'; (have ze1 := zho'.1); (have ze2 := zho'.2); clear zho'; subst ze1; subst ze2; (try dsimp only at zN'); (try k_sweep))
  k_with "call ref" => (k_here; (with_reducible show wpAny _ _ (call (Value.ref 28) _) _ _ _); k_dflt (refine' mut_use (pop_c _ _ _ _ ?zctxp1 ?zctxp2) ?zctxk1 ?zctxk2 ?zctxk3 ?zctxk4 ?zctxk5 ?zctxkK ?zctxkU ?zctxkd ?zctxku ?zctxki ?_; walk_at "mine ctx"; (case zctxp1 => walk_at "mine bnd"); (case zctxp2 => walk_at "mine bnd"); k_whole); intro _ _ _ _ _ _ _ zN' _ zho'; (obtain ⟨ze1, _, ze2⟩ := zho'); subst ze1; subst ze2; (try dsimp only at zN'); (try k_sweep))
  k_with "call ref" => (k_here; (with_reducible show wpAny _ _ (call (Value.ref 56) _) _ _ _); k_dflt (refine' mut_use (popx_c _ _ _ _ ?zctxp1 ?zctxp2) ?zctxk1 ?zctxk2 ?zctxk3 ?zctxk4 ?zctxk5 ?zctxkK ?zctxkU ?zctxkd ?zctxku ?zctxki ?_; walk_at "mine ctx"; (case zctxp1 => walk_at "mine bnd"); (case zctxp2 => walk_at "mine bnd"); k_whole); intro _ _ _ _ _ _ _ zN' _ zho'; (obtain ⟨ze1, _, ze2⟩ := zho'); subst ze1; subst ze2; (try dsimp only at zN'); (try k_sweep))
  k_with "call ref" => (k_here; (with_reducible show wpAny _ _ (call (Value.ref 35) _) _ _ _); k_dflt (refine' mut_use (repl_c _ _ _ _ _ ?zctxp1 ?zctxp2) ?zctxk1 ?zctxk2 ?zctxk3 ?zctxk4 ?zctxk5 ?zctxkK ?zctxkU ?zctxkd ?zctxku ?zctxki ?_; walk_at "mine ctx"; (case zctxp1 => walk_at "mine bnd"); (case zctxp2 => walk_at "mine bnd"); k_whole); intro _ _ _ _ _ _ _ zN' _ zho'; (obtain ⟨ze1, _, ze2⟩ := zho'); subst ze1; subst ze2; (try dsimp only at zN'); (try k_sweep))
  k_with "call ref" => (k_here; (with_reducible show wpAny _ _ (call (Value.ref 63) _) _ _ _); k_dflt (refine' mut_use (replx_c _ _ _ _ _ ?zctxp1 ?zctxp2) ?zctxk1 ?zctxk2 ?zctxk3 ?zctxk4 ?zctxk5 ?zctxkK ?zctxkU ?zctxkd ?zctxku ?zctxki ?_; walk_at "mine ctx"; (case zctxp1 => walk_at "mine bnd"); (case zctxp2 => walk_at "mine bnd"); k_whole); intro _ _ _ _ _ _ _ zN' _ zho'; (obtain ⟨ze1, _, ze2⟩ := zho'); subst ze1; subst ze2; (try dsimp only at zN'); (try k_sweep))
  k_with "call ref" => (k_here; (with_reducible show wpAny _ _ (call (Value.ref 42) _) _ _ _); k_dflt (refine' mut_use (pushpop_c _ _ _ _ _ ?zctxp1 ?zctxp2) ?zctxk1 ?zctxk2 ?zctxk3 ?zctxk4 ?zctxk5 ?zctxkK ?zctxkU ?zctxkd ?zctxku ?zctxki ?_; walk_at "mine ctx"; (case zctxp1 => walk_at "mine bnd"); (case zctxp2 => walk_at "mine bnd"); k_whole); intro _ _ _ _ _ _ _ zN' _ zho'; (obtain ⟨ze1, _, ze2⟩ := zho'); subst ze1; subst ze2; (try dsimp only at zN'); (try k_sweep))
  k_with "call ref" => (k_here; (with_reducible show wpAny _ _ (call (Value.ref 110) _) _ _ _); k_dflt (refine' mut_use (lift_c _ _ _ _ _ _ ?zctxp1 ?zctxp2 ?zctxp3 ?zctxp4 ?zctxp5) ?zctxk1 ?zctxk2 ?zctxk3 ?zctxk4 ?zctxk5 ?zctxkK ?zctxkU ?zctxkd ?zctxku ?zctxki ?_; walk_at "mine ctx"; (case zctxp1 => walk_at "mine bnd"); (case zctxp2 => walk_at "mine bnd"); (case zctxp3 => walk_at "mine bnd"); (case zctxp4 => walk_at "mine bnd"); (case zctxp5 => walk_at "mine bnd"); k_whole); intro _ _ _ _ _ _ _ zN' _ zho'; (have ze1 := zho'.1); (have ze2 := zho'.2); clear zho'; subst ze1; subst ze2; (try dsimp only at zN'); (try k_sweep))
  k_with "call ref" => (k_here; (with_reducible show wpAny _ _ (call (Value.ref 49) _) _ _ _); k_dflt (refine' mut_use (hpf_c _ _ _ _ ?zctxp1) ?zctxk1 ?zctxk2 ?zctxk3 ?zctxk4 ?zctxk5 ?zctxkK ?zctxkU ?zctxkd ?zctxku ?zctxki ?_; walk_at "mine ctx"; (case zctxp1 => walk_at "mine bnd"); k_whole); intro _ _ _ _ _ _ _ zN' _ zho'; (have ze1 := zho'.1); (have ze2 := zho'.2); clear zho'; subst ze1; subst ze2; (try dsimp only at zN'); (try k_sweep))
  k_with "call ref" => (k_here; (with_reducible show wpAny _ _ (call (Value.ref 70) _) _ _ _); k_dflt (refine' mut_use (hpfx_c _ _ _ _ ?zctxp1) ?zctxk1 ?zctxk2 ?zctxk3 ?zctxk4 ?zctxk5 ?zctxkK ?zctxkU ?zctxkd ?zctxku ?zctxki ?_; walk_at "mine ctx"; (case zctxp1 => walk_at "mine bnd"); k_whole); intro _ _ _ _ _ _ _ zN' _ zho'; (have ze1 := zho'.1); (have ze2 := zho'.2); clear zho'; subst ze1; subst ze2; (try dsimp only at zN'); (try k_sweep))
  k_with "call ref" => (k_here; (with_reducible show wpAny _ _ (call (Value.ref 124) _) _ _ _); k_dflt (refine' mut_use (lcall_c _ _ _ _ _ _ _ ?zctxp1 ?zctxp2) ?zctxk1 ?zctxk2 ?zctxk3 ?zctxk4 ?zctxk5 ?zctxkK ?zctxkU ?zctxkd ?zctxku ?zctxki ?_; walk_at "mine ctx"; (case zctxp1 => walk_at "mine bnd"); (case zctxp2 => walk_at "mine bnd"); k_whole); intro _ _ _ _ _ _ _ zN' _ zho'; (have ze1 := zho'.1); (have _ := zho'.2); clear zho'; subst ze1; (try dsimp only at zN'); (try k_sweep))
  k_with "call builtin:len" => (k_here; (with_reducible show wpAny _ _ (call (Value.builtin "len") [Value.ref _]) _ _ _); k_dflt (refine' len_ints ?zr186k1 ?zr186k2 ?zr186k3 ?zr186k4 ?_; (case zr186k1 => k_asm); (case zr186k2 => k_mem); (case zr186k3 => l_ints); (case zr186k4 => walk_at "mine bnd"); k_whole))
  k_with "truthy ref" => (k_here; (with_reducible show wpAny _ _ (truthy (Value.ref _)) _ _ _); k_dflt (refine' truthy_ints ?zr187k1 ?zr187k2 ?zr187k3 ?zr187k4 ?_; (case zr187k1 => k_asm); (case zr187k2 => k_mem); (case zr187k3 => l_ints); (case zr187k4 => walk_at "mine bnd")))
  k_with "mine end" => ((try dsimp only); (try (k_unfold; try dsimp only)))
  k_with "mine maps" => first | exact List.forall_mem_nil _ | (refine List.forall_mem_cons.mpr ⟨by rfl, ?_⟩; walk_at "mine maps")
  k_with "binaryOp FloorDiv int int" => (k_here; (with_reducible refine ediv_int ?zr190kb ?zr190kp ?_); (case zr190kb => decide); (case zr190kp => first | exact PyProof.noPylong_of_log2 (by decide +kernel) | exact PyProof.noPylong_small (by omega)))
  k_with "binaryOp Mod int int" => (k_here; (with_reducible refine emod_int ?zr191kb ?_); (case zr191kb => first | decide | omega))
  k_with "subscriptTail Name Slice ref ref" => (k_here; (with_reducible show wpAny _ _ (subscriptTail _ (PySem.Expr.Slice none none none _) (Value.ref _) (Value.ref _)) _ _ _); k_dflt (refine' slice_all ?zr192F ?zr192N ?zr192l ?zr192z ?_ ?zr192s ?zr192t; (case zr192F => k_asm); (case zr192N => k_asm); (case zr192l => k_mem); (case zr192z => omega); (case zr192s => with_unfolding_all rfl); (case zr192t => (intro _; with_unfolding_all rfl))); intro _ _ _ _ zl1; (try k_lt zl1); (try k_sweep))
  k_with "mine off" => ((simp only [List.forall_mem_cons, List.not_mem_nil, false_implies, implies_true, and_true]); (repeat' apply And.intro) <;> k_ne)
  k_with "mine enterC" => (refine' def_enterC ?zr194k1 ?zr194k2 ?zr194k3 ?zr194k4 ?zr194k5 ?zr194kA ?zr194kF ?zr194kK ?zr194k6 ?zr194k7 ?zr194k8 ?zr194k9 ?zr194kB ?zr194kD ?_ ?zr194c2 ?zr194c3 ?zr194c4; (case zr194kA => exact rfl); (case zr194kF => exact rfl); (case zr194kK => assumption); (case zr194k1 => k_asm); (case zr194k2 => k_asm); (case zr194k3 => k_asm); (case zr194k4 => k_asm); (case zr194k5 => k_asm); (case zr194k6 => k_is); (case zr194k7 => k_is); (case zr194k8 => ktr_room); (case zr194k9 => exact BindsTo.of_eq rfl); (case zr194kB => exact rfl); (case zr194kD => decide +kernel); (case zr194c2 => exact rfl); (case zr194c3 => exact rfl); (case zr194c4 => exact rfl); k_whole)
  k_with "eval ListComp" => (k_here; k_dflt (refine ListComp_tup (_F₀ := by k_asm) (by with_unfolding_all rfl) (by decide) (by rfl) (by decide) (by rfl) ?_))
  k_with "call builtin:list.pop" => (k_here; (with_reducible show wpAny _ _ (call (Value.builtin _) [Value.ref _, Value.int _ _]) _ _ _); k_dflt (refine' pop_at ?zr196F ?zr196N ?zr196U ?zr196i ?zr196a ?zr196b ?zr196c ?_; (case zr196F => k_asm); (case zr196N => k_asm); (case zr196U => k_updF); (case zr196i => l_ints); (case zr196a => walk_at "mine bnd"); (case zr196b => walk_at "mine bnd"); (case zr196c => walk_at "mine bnd")); intro _ _ _ zN' _; (try dsimp only at zN'); (try k_sweep))
  k_with "inplaceOp Add ref" => (k_here; (with_reducible show wpAny _ _ (inplaceOp Operator.Add (Value.ref _) (Value.ref _)) _ _ _); k_dflt (refine' iadd_lists ?zr197F ?zr197N ?zr197U ?zr197b ?zr197z ?_; (case zr197F => k_asm); (case zr197N => k_asm); (case zr197U => k_updF); (case zr197b => k_mem); (case zr197z => first | assumption | omega)); intro _ _ _ zN'; (try dsimp only at zN'); (try k_sweep))
  k_with "exec For Tuple Call cons nil" => (k_here; (rename Fr _ _ _ _ => zlF'); (with_unfolding_all refine' For_turns zlF' ?_; k_whole))
  k_with "call type:zip" => ((with_reducible show wpAny _ _ (call (Value.type _) [Value.ref _, Value.ref _]) (fun xv s₁ => wpAny _ _ (pyIter xv) (fun it s₂ => TurnsAt _ _ _ _ _ _ _ _ _ it s₂) _ s₁) _ _); refine stop_of ?_)
  k_steps
  · rename_i oC dC D hA lA1 lA2 lA3 hB fr hC lB1 lB2 lB3 lB4 lB hD lN'
    (rename Fr _ _ _ _ => lF')
    unfold Stop
    with_unfolding_all refine ktu_zip (by rfl) lF' lN' (by k_mem) (by rfl) (by rfl) (by k_mem) (by rfl) (by rfl) ?_
    intro I lI
    (try k_lt lI)
    refine rest_st (σ := (List Value × List Int × Nat) × List Value × List Int × Nat) (fun c => [(fr, listOf c.2.1.toArray c.2.2.2), (D, listOf c.1.1.toArray c.1.2.2), (L' + 1, oC), (l1, listOf vs1.toArray n1), (l2, listOf vs2.toArray n2)]) (fun c => [(Str.ofString "row", .ref D), (Str.ofString "free", .ref fr)])
      (fun i c => IntsAre c.1.1 c.1.2.1 ∧ IntsAre c.2.1 c.2.2.1 ∧ J i c.1.2.1 c.2.2.1) ((vs1, xs, 0), [.int 0 _], [0], 0) rfl (by walk_at "mine maps") ⟨hi1, .cons _ _ .nil, hJ.2.1⟩ (fun c => rfl) ?off (fun c => ⟨by k_mem, by k_mem, trivial⟩) ?turn ?done
    case off => walk_at "mine off"
    case turn =>
      rintro i a ⟨⟨vs, row, n⟩, vf, free, nf⟩ u ha ⟨hi, hf, hj⟩ v h tk hv F
      obtain ⟨hin, hin2, t1, t2, rfl⟩ := zipItems_is hi1 hi2 ha
      obtain ⟨T1, t, rfl, hT⟩ := hv
      refine AllObj.cons (fun o1 hc1 => AllObj.cons (fun o2 hc2 => AllObj.cons (fun o3 hc3 => AllObj.cons (fun o4 hc4 => AllObj.cons (fun o5 hc5 => AllObj.nil (fun N' => ?_))))))
      clear lF' lN'
      dsimp only [kstB] at F
      (try dsimp only at *); (try simp only [List.cons_append, List.nil_append] at N'); (try k_fold)
      have inv := hJ.1 _ _ _ hj
      have iv1 := inv.rowLen
      have iv2 := inv.freeLen
      have iv3 := inv.some hin
      have hm0 : 0 ≤ ys.getD i 0 % (free.length : Int) := Int.emod_nonneg _ (by omega)
      have hm1 : ys.getD i 0 % (free.length : Int) < free.length := Int.emod_lt_of_pos _ (by omega)
      obtain ⟨iv4, iv5⟩ := inv.bnd (ys.getD i 0 % (free.length : Int)).toNat (by omega)
      k_steps
      with_unfolding_all refine TupSrcT.intro (by rfl) (by assumption) (by assumption) (by k_mem) (by exact Nat.le_of_ble_eq_true rfl) ?_
      intro g'
      refine compT_ints (ks := [2 * free.getD (ys.getD i 0 % ↑free.length).toNat 0 + 1, 2 * free.getD (ys.getD i 0 % ↑free.length).toNat 0 + 2]) (fun b => decide (b < (xs.length : Int))) (fun b => b) ?h1 ?h2 ?turn2 ?fin2
      case h1 => rfl
      case h2 => exact (items_ints (.cons _ _ (.cons _ _ .nil))).2
      case turn2 =>
        intro k t I1 oI C oC1 D1 m₂ ys1 h1 tk1 E' hk hC hx F1 N1 off ne
        (try (simp only [LCg.Off3, and_true] at off))
        k_fold
        iterate 11 (first | (k_unfold; (try dsimp only)) | walk1)
        k_unfold
        dsimp only
        refine ct_split (fun hp => ?_) (fun hp => ?_)
        · walk1
          exact LCg.CompEnd.intro (by assumption) (by assumption) _ (fun p hp => hp) (by simp only [LCg.Off3, and_true]; assumption) (by k_mem) ⟨rfl, decide_eq_true hp, _, rfl⟩
        · exact LCg.CompEnd.intro (by assumption) (by assumption) _ (fun p hp => hp) (by simp only [LCg.Off3, and_true]; assumption) (by k_mem) ⟨rfl, decide_eq_false hp⟩
      case fin2 =>
        intro ys9 hy9 D9 h9 tk9 F9 N9 off9
        simp only [LCg.Off1, and_true] at off9
        have hl9 : ys9.length ≤ 2 := by
          rw [hy9.length, List.length_map]
          exact List.length_filter_le _ _
        have hv9 : (vf.eraseIdx (ys.getD i 0 % ↑free.length).toNat).length + ys9.length < 2 ^ 20 := by
          have q1 : (vf.eraseIdx (ys.getD i 0 % ↑free.length).toNat).length ≤ vf.length := List.length_eraseIdx_le _ _
          have q2 := hf.length
          omega
        k_steps
        all_goals exact lpost_next ((_, _, _), _, _, _) (by assumption) (by assumption) (by k_subL) (by k_subL) (by walk_at "mine maps") ⟨by assumption, IntsAre.append (by assumption) hy9, by rw [List.map_id']; exact hJ.2.2 _ _ _ _ hj hin (by omega)⟩
    case done =>
      rintro ⟨⟨vs, row, n⟩, vf, free, nf⟩ u h tk ⟨hi, hf, hj⟩ F N'
      clear lF' lN'
      dsimp only [kstB] at F
      have hz : (zipItems vs1 vs2).length = xs.length := by rw [zipItems_length, hvl1, hvl2]; omega
      rw [hz] at hj
      (try dsimp only at *)
      k_steps
      all_goals walk_at "mine end"
      all_goals exact hret _ _ _ _ _ _ (hkeep_two hg N₀ (by assumption) (by assumption) (by k_mem) (by k_mem)) (fresh_two hg (by assumption) (by k_mem) (by k_ne) (by k_ne)) (N' (D, _) (by k_mem)).1 hi ⟨_, hj⟩

abbrev Ent := Int × Int × Option Int
def wayL (row : List Int) (item : Int) (w : Nat) : List Int :=
  if row.getD w 0 ≠ item ∧ 0 < w then (w : Int) :: wayL row item ((w - 1) / 2) else [(w : Int)]
termination_by w
decreasing_by omega
def shL (way : List Int) : Nat → List Int → List Int
  | 0, row => row
  | k + 1, row => shL way k (row.set (way.getD (k + 1) 0).toNat (row.getD (way.getD k 0).toNat 0))
def unpushN (row : List Int) (item : Int) : List Int := (shL (wayL row item (row.length - 1)) ((wayL row item (row.length - 1)).length - 1) row).dropLast
def backStep (row : List Int) (e : Ent) : List Int :=
  if e.1 = 0 then unpushN row e.2.1
  else if e.1 = 1 then (if e.1 = 2 ∨ e.2.2.getD 0 ≠ e.2.1 then (liftN row (row.idxOf e.2.1) 0).set 0 (e.2.2.getD 0) else row) ++ [e.2.1]
  else (if e.1 = 2 ∨ e.2.2.getD 0 ≠ e.2.1 then (liftN row (row.idxOf e.2.1) 0).set 0 (e.2.2.getD 0) else row)
structure BackOk (row : List Int) (e : Ent) : Prop where
  len : row.length < 2 ^ 19
  push : e.1 = 0 → 0 < row.length ∧ row.getD ((wayL row e.2.1 (row.length - 1)).getLastD 0).toNat 0 = e.2.1
  pop : e.1 ≠ 0 → ∃ o, e.2.2 = some o ∧ ((e.1 = 2 ∨ o ≠ e.2.1) → e.2.1 ∈ row)
def backN : List Ent → List Int → List Int
  | [], row => row
  | e :: r, row => backN r (backStep row e)
def BacksOk : List Ent → List Int → Prop
  | [], _ => True
  | e :: r, row => BackOk row e ∧ BacksOk r (backStep row e)
def TupIs (h : Heap) (a : Addr) (e : Ent) : Prop := ∃ t1 t2 ov, OV e.2.2 ov ∧ IsTup h a #[.int e.1 t1, .int e.2.1 t2, ov]
def ToldPre (tl : Addr) (tv : List Value) (nt : Nat) (es : List Ent) (h : Heap) (l : Addr) : Prop :=
  h.get? tl = some (listOf tv.toArray nt) ∧ (tl : Nat) ≠ l ∧ tv.length = es.length ∧ ∀ (i : Nat) (e : Ent), es[i]? = some e → ∃ a : Addr, tv[i]? = some (Value.ref a) ∧ (a : Nat) ≠ l ∧ TupIs h a e
/-- as MutC, with a word of the heap and the list's address -/
def MutP (w : World) (mean : ExcName → Option Value) (mg mb : Str → Option Value) (k : Nat) (f : Addr) (args : Addr → List Value) (hs : List Int) (Pre : Heap → Addr → Prop) (Out : Addr → List Int → Value → Prop) : Prop :=
  ∀ (dp un : Nat) (gd : Option (List Code)) (cn : Str) (cs : Scope) (a : Addr) (ccd : Value) (cl : List (Str × Addr)) (outer : List Env) (A₀ : Around) (base h₀ : Heap) (L : Addr) (m : Str → Option Value) (s : Shared) (Q E : Value → Shared → Prop)
    (l : Addr) (vs : List Value) (n : Nat),
    Below A₀ base outer h₀ → Fr h₀ L s.heap m → (hd.heap_39 w.params).In h₀ → News h₀ L s.heap [(l, listOf vs.toArray n)] → TopM mean mg mb h₀ → cs.kind = .function →
    dp + k < recursionLimit → un + 8 * k < cLine → IntsAre vs hs → Pre s.heap l →
    (∀ h' tk' vs' hs' n' v, HUpd s.heap h' l (listOf vs'.toArray n') → IntsAre vs' hs' → Out l hs' v → Q v { s with heap := h', toks := tk' }) →
    wpAny (model PR w) (ktrTop dp un gd cn cs L a ccd cl outer) (call (.ref f) (args l)) Q E s
theorem tupIs_keeps {h h' : Heap} {a : Addr} {e : Ent} (x : TupIs h a e) (hk : ∀ o, h.get? a = some o → h'.get? a = some o) : TupIs h' a e := by
  obtain ⟨t1, t2, ov, ho, o, hq, r⟩ := x
  exact ⟨t1, t2, ov, ho, o, hk o hq, r⟩
theorem told_g {tl : Addr} {tv : List Value} {nt : Nat} {es : List Ent} {h g : Heap} {l : Addr} (x : ToldPre tl tv nt es h l) (hg : ∀ b o, b ≠ l → h.get? b = some o → g.get? b = some o) : ToldPre tl tv nt es g l := by
  obtain ⟨h1, h2, h3, h4⟩ := x
  refine ⟨hg _ _ h2 h1, h2, h3, fun i e he => ?_⟩
  obtain ⟨a, q1, q2, q3⟩ := h4 i e he
  exact ⟨a, q1, q2, tupIs_keeps q3 fun o => hg a o q2⟩
theorem slice_revs {prog : Program} {w : World} {A : Around} {E : Value → Shared → Prop} {s : Shared} {h₀ : Heap} {L l : Addr} {m : Str → Option Value} {news : List (Addr × Obj)} {value slice : PySem.Expr} {vs : List Value} {t : Tok} {ops : List Value} {Q : Value → Shared → Prop} (F : Fr h₀ L s.heap m) (N : News h₀ L s.heap news) (hl : h₀.IsList l vs.toArray) (hz : vs.length < 2 ^ 20)
    (h : ∀ D h', Fr h₀ L h' m → News h₀ L h' ((D, listOf vs.reverse.toArray 0) :: news) → (∀ p ∈ news, p.1 < D) → Q (.ref D) { s with heap := h' })
    (hs : subscripted slice false (.ref l) (.ref s.heap.objs.size) = operate ops (getItem (.ref l) (.ref s.heap.objs.size))) (ht : ∀ r, letTemporaryGo value (.ref l) r = pure ()) :
    wpAny (model prog w) A (subscriptTail value slice (.ref l) (.ref s.heap.objs.size)) Q E { s with heap := s.heap.push { cls := .type "slice", data := .fields #[.none, .none, .int (-1) t] } } := by
  refine krv_lit F N (Fr.lst F hl) (IsPart.int _ _) rfl h hs ht ?_
  rw [List.size_toArray, sizeLine_eq]
  omega
theorem notin_has {prog : Program} {w : World} {A : Around} {E : Value → Shared → Prop} {s : Shared} {h₀ : Heap} {L l : Addr} {news : List (Addr × Obj)} {vs : List Value} {ns : List Int} {n : Nat} {k : Int} {t : Tok} {Q : Value → Shared → Prop} (N : News h₀ L s.heap news) (hm : (l, listOf vs.toArray n) ∈ news) (hi : IntsAre vs ns) (hk : k ∈ ns) (h : Q (.bool false) s) :
    wpAny (model prog w) A (compareOp .NotIn (.int k t) (.ref l)) Q E s := by
  refine notin_list_ints (PySem.IsL.isList (n := n) (N _ hm).1) hi ?_
  have e : ns.any (· == k) = true := List.any_eq_true.mpr ⟨k, hk, by simp⟩
  rw [e]
  exact h
theorem index_has {prog : Program} {w : World} {A : Around} {E : Value → Shared → Prop} {s : Shared} {h₀ : Heap} {L l : Addr} {news : List (Addr × Obj)} {vs : List Value} {ns : List Int} {n : Nat} {k : Int} {t : Tok} {Q : Value → Shared → Prop} (N : News h₀ L s.heap news) (hm : (l, listOf vs.toArray n) ∈ news) (hi : IntsAre vs ns) (hk : k ∈ ns) (hz : ns.length < 2 ^ 20)
    (h : Q (.int (ns.idxOf k : Nat) s.toks) { s with toks := s.toks + 1 }) : wpAny (model prog w) A (call (.builtin "list.index") [.ref l, .int k t]) Q E s := by
  have hlen := hi.length
  have hj : ns.idxOf k < ns.length := List.idxOf_lt_length_iff.mpr hk
  have ho := (N _ hm).1
  refine call_meets PySem.F.slot_list_index ⟨_, ho, rfl⟩ PySem.F.entry_list_index (PySem.F.args_list_index_2 _ _)
    (SeqAt.list_indexAt l vs.toArray n none #[] (.int k t) (PyProof.Rows.isInt k) (ns.idxOf k) (by simpa [hlen] using hj) (by omega) ?_ ?_) ⟨ho, fun y hy => (PyProof.Rows.eq_isInt k t hi y (by simpa using hy)).at _ _, h⟩
  · show PyProof.Rows.isInt k vs[ns.idxOf k] = true
    rw [isInt_at k hi _ (by omega) hj]
    simpa using List.getElem_idxOf hj
  · intro j hjs hlt
    show PyProof.Rows.isInt k vs[j] = false
    rw [isInt_at k hi j (by simpa using hjs) (by omega)]
    exact ne_of_lt_idxOf hlt _
theorem ct_yes {c : Prop} [Decidable c] {P Q : Prop} (h : c) (p : P) : if decide c = true then P else Q := by rw [if_pos (decide_eq_true h)]; exact p
theorem ct_no {c : Prop} [Decidable c] {P Q : Prop} (h : ¬ c) (q : Q) : if decide c = true then P else Q := by rw [if_neg (by simpa using h)]; exact q
theorem cb_yes {a b : Int} {P Q : Prop} (h : a = b) (p : P) : if (a == b) = true then P else Q := by rw [if_pos (by simpa using h)]; exact p
theorem cb_no {a b : Int} {P Q : Prop} (h : ¬ a = b) (q : Q) : if (a == b) = true then P else Q := by rw [if_neg (by simpa using h)]; exact q
theorem cn_yes {a b : Int} {P Q : Prop} (h : ¬ a = b) (p : P) : if (a != b) = true then P else Q := by rw [if_pos (by simpa using h)]; exact p
theorem cn_no {a b : Int} {P Q : Prop} (h : a = b) (q : Q) : if (a != b) = true then P else Q := by rw [if_neg (by simpa using h)]; exact q
theorem c_ff {P Q : Prop} (q : Q) : if (false : Bool) = true then P else Q := q
theorem c_tt {P Q : Prop} (p : P) : if (true : Bool) = true then P else Q := p
abbrev lastI (way : List Int) : Int := way.getD ((-1 : Int) + (way.length : Nat)).toNat 0
theorem lastI_app (way : List Int) (x : Int) : lastI (way ++ [x]) = x := getD_last way x 0
theorem dropLast_last {way : List Int} (h : 0 < way.length) : way.dropLast ++ [lastI way] = way := by
  have hne : way ≠ [] := List.ne_nil_of_length_pos h
  have e : lastI way = way.getLast hne := by
    have q := List.dropLast_concat_getLast hne
    conv => lhs; rw [← q]
    exact lastI_app _ _
  rw [e]
  exact List.dropLast_concat_getLast hne
theorem wayL_last (row : List Int) (item : Int) : ∀ w : Nat, (wayL row item w).getLastD 0 = 0 ∨ row.getD ((wayL row item w).getLastD 0).toNat 0 = item := by
  intro w
  induction w using Nat.strongRecOn with
  | ind w ih =>
    rw [wayL]
    split
    · rename_i h
      have hne : wayL row item ((w - 1) / 2) ≠ [] := by
        rw [wayL]; split <;> simp
      rw [List.getLastD_cons]
      have e : ∀ a : Int, (wayL row item ((w - 1) / 2)).getLastD a = (wayL row item ((w - 1) / 2)).getLastD 0 := by
        intro a
        rw [List.getLastD_eq_getLast?, List.getLastD_eq_getLast?, List.getLast?_eq_some_getLast hne]
        rfl
      rw [e]
      exact ih _ (by omega)
    · rename_i h
      by_cases h2 : row.getD w 0 = item
      · right; simpa using h2
      · left
        have : w = 0 := by
          by_cases q : 0 < w
          · exact absurd ⟨h2, q⟩ h
          · omega
        subst this
        rfl
theorem wy_start {row : List Int} {item : Int} (h1 : 0 < row.length) (h2 : row.getD ((wayL row item (row.length - 1)).getLastD 0).toNat 0 = item) :
    0 < [((row.length : Nat) : Int) - 1].length ∧ 0 ≤ lastI [((row.length : Nat) : Int) - 1] ∧ ([((row.length : Nat) : Int) - 1].length : Int) + lastI [((row.length : Nat) : Int) - 1] ≤ row.length ∧ (row.getD (lastI [((row.length : Nat) : Int) - 1]).toNat 0 ≠ item → 0 < lastI [((row.length : Nat) : Int) - 1]) ∧ (∀ k : Nat, 0 ≤ [((row.length : Nat) : Int) - 1].getD k 0 ∧ [((row.length : Nat) : Int) - 1].getD k 0 < row.length) ∧ [((row.length : Nat) : Int) - 1].dropLast ++ wayL row item (lastI [((row.length : Nat) : Int) - 1]).toNat = wayL row item (row.length - 1) := by
  have e : lastI [((row.length : Nat) : Int) - 1] = ((row.length : Nat) : Int) - 1 := lastI_app [] _
  have e2 : (((row.length : Nat) : Int) - 1).toNat = row.length - 1 := by omega
  rw [e, e2]
  refine ⟨by simp, by omega, by simp; omega, ?_, ?_, rfl⟩
  · intro hne
    by_cases q : row.length = 1
    · rw [q] at h2 hne
      rw [wayL] at h2
      rw [if_neg (by rintro ⟨_, z⟩; omega)] at h2
      exact absurd h2 hne
    · omega
  · intro k
    cases k with
    | zero => simp; omega
    | succ k => simp; omega
theorem wy_lo {way : List Int} {N : Nat} (h : ∀ k : Nat, 0 ≤ way.getD k 0 ∧ way.getD k 0 < N) (k : Nat) : 0 ≤ way.getD k 0 := (h k).1
theorem wy_hi {way : List Int} {N : Nat} (h : ∀ k : Nat, 0 ≤ way.getD k 0 ∧ way.getD k 0 < N) (k : Nat) : way.getD k 0 < N := (h k).2
theorem wy_hi2 {way : List Int} {N M : Nat} (h : ∀ k : Nat, 0 ≤ way.getD k 0 ∧ way.getD k 0 < N) (e : M = N) (k : Nat) : way.getD k 0 < M := by rw [e]; exact (h k).2
theorem wy_fit {way : List Int} {N : Nat} (h : ∀ k : Nat, 0 ≤ way.getD k 0 ∧ way.getD k 0 < N) (hN : N < 2 ^ 19) (k : Nat) : way.getD k 0 < 2 ^ 63 := by
  have q := (h k).2
  omega
theorem wy_abs {row way : List Int} {item : Int} (h1 : row.getD (lastI way).toNat 0 ≠ item → 0 < lastI way) (h2 : row.getD (lastI way).toNat 0 ≠ item) (h3 : ¬ 0 < lastI way) : False := h3 (h1 h2)
theorem wy_turn {row way : List Int} {item : Int} (h2 : row.getD ((wayL row item (row.length - 1)).getLastD 0).toNat 0 = item) (a1 : row.getD (lastI way).toNat 0 ≠ item) (a2 : 0 < lastI way) (p1 : 0 < way.length) (p3 : (way.length : Int) + lastI way ≤ row.length)
    (p5 : ∀ k : Nat, 0 ≤ way.getD k 0 ∧ way.getD k 0 < row.length) (p6 : way.dropLast ++ wayL row item (lastI way).toNat = wayL row item (row.length - 1)) :
    0 < (way ++ [(lastI way - 1) / 2]).length ∧ 0 ≤ lastI (way ++ [(lastI way - 1) / 2]) ∧ ((way ++ [(lastI way - 1) / 2]).length : Int) + lastI (way ++ [(lastI way - 1) / 2]) ≤ row.length ∧ (row.getD (lastI (way ++ [(lastI way - 1) / 2])).toNat 0 ≠ item → 0 < lastI (way ++ [(lastI way - 1) / 2])) ∧ (∀ k : Nat, 0 ≤ (way ++ [(lastI way - 1) / 2]).getD k 0 ∧ (way ++ [(lastI way - 1) / 2]).getD k 0 < row.length) ∧ (way ++ [(lastI way - 1) / 2]).dropLast ++ wayL row item (lastI (way ++ [(lastI way - 1) / 2])).toNat = wayL row item (row.length - 1) := by
  have e : lastI (way ++ [(lastI way - 1) / 2]) = (lastI way - 1) / 2 := lastI_app _ _
  have e3 : ((lastI way - 1) / 2).toNat = ((lastI way).toNat - 1) / 2 := by omega
  have e4 : wayL row item (lastI way).toNat = lastI way :: wayL row item (((lastI way).toNat - 1) / 2) := by
    rw [wayL, if_pos ⟨a1, by omega⟩]
    congr 1
    omega
  have e5 : way ++ wayL row item (((lastI way).toNat - 1) / 2) = wayL row item (row.length - 1) := by
    rw [← p6, e4]
    have q := dropLast_last p1
    have q2 : way ++ wayL row item (((lastI way).toNat - 1) / 2) = (way.dropLast ++ [lastI way]) ++ wayL row item (((lastI way).toNat - 1) / 2) := by rw [q]
    rw [q2, List.append_assoc]
    rfl
  clear e4 p6
  rw [e, e3]
  clear e
  generalize lastI way = x at *
  refine ⟨by simp, by omega, by rw [List.length_append]; simp only [List.length_cons, List.length_nil]; omega, ?_, ?_, by rw [List.dropLast_concat]; exact e5⟩
  · intro hne
    by_cases q : (x.toNat - 1) / 2 = 0
    · rw [q] at hne e5
      rw [← e5] at h2
      have e6 : wayL row item 0 = [((0 : Nat) : Int)] := by rw [wayL, if_neg (by rintro ⟨_, z⟩; omega)]
      rw [e6] at h2
      simp at h2
      exact absurd (by simpa using h2) hne
    · omega
  · intro k
    rw [List.getD_eq_getElem?_getD, List.getElem?_append]
    split
    · have := p5 k
      rw [List.getD_eq_getElem?_getD] at this
      exact this
    · rename_i hk
      by_cases q : k - way.length = 0
      · rw [q]
        simp
        omega
      · obtain ⟨j, hj⟩ : ∃ j, k - way.length = j + 1 := ⟨k - way.length - 1, by omega⟩
        rw [hj]
        simp
        omega
theorem wy_meas {way : List Int} (a2 : 0 < lastI way) : (lastI (way ++ [(lastI way - 1) / 2])).toNat < (lastI way).toNat := by
  have e : lastI (way ++ [(lastI way - 1) / 2]) = (lastI way - 1) / 2 := lastI_app _ _
  rw [e]
  omega
theorem wy_done {row way : List Int} {item : Int} (p1 : 0 < way.length) (a1 : row.getD (lastI way).toNat 0 = item) (p2 : 0 ≤ lastI way) (p6 : way.dropLast ++ wayL row item (lastI way).toNat = wayL row item (row.length - 1)) : way = wayL row item (row.length - 1) := by
  have e : wayL row item (lastI way).toNat = [lastI way] := by
    rw [wayL, if_neg (by rintro ⟨z, _⟩; exact z a1)]
    congr 1
    omega
  rw [e, dropLast_last p1] at p6
  exact p6
theorem downKs_len (a : Int) (n : Nat) : (downKs a n).length = n := by simp [downKs]
theorem wy_shift {way r row X pre : List Int} {kN : Int} (e : kN = (way.length : Int) - 1 - (pre.length : Nat)) (lt : pre.length < ((way.length : Int) - 1 - 0).toNat) (h1 : r.length = row.length) (h2 : shL way (way.length - 1 - pre.length) r = X) :
    (r.set (way.getD kN.toNat 0).toNat (r.getD (way.getD (kN - 1).toNat 0).toNat 0)).length = row.length ∧ shL way (way.length - 1 - (pre ++ [kN]).length) (r.set (way.getD kN.toNat 0).toNat (r.getD (way.getD (kN - 1).toNat 0).toNat 0)) = X := by
  refine ⟨by rw [List.length_set]; exact h1, ?_⟩
  obtain ⟨k, hk⟩ : ∃ k : Nat, way.length - 1 - pre.length = k + 1 := ⟨way.length - 1 - pre.length - 1, by omega⟩
  have e1 : kN.toNat = k + 1 := by omega
  have e2 : (kN - 1).toNat = k := by omega
  have e3 : way.length - 1 - (pre ++ [kN]).length = k := by rw [List.length_append]; simp only [List.length_cons, List.length_nil]; omega
  rw [hk, shL] at h2
  rw [e1, e2, e3]
  exact h2
theorem bs_p {way r row : List Int} {kind item : Int} {out : Option Int} (hk : kind = 0) (p1 : 0 < way.length) (a1 : row.getD (lastI way).toNat 0 = item) (p2 : 0 ≤ lastI way) (p6 : way.dropLast ++ wayL row item (lastI way).toNat = wayL row item (row.length - 1))
    (h : shL way (way.length - 1 - (downKs ((way.length : Int) - 1) ((way.length : Int) - 1 - 0).toNat).length) r = shL way (way.length - 1) row) : backStep row (kind, item, out) = r.dropLast := by
  have q := wy_done p1 a1 p2 p6
  have e : way.length - 1 - (downKs ((way.length : Int) - 1) ((way.length : Int) - 1 - 0).toNat).length = 0 := by rw [downKs_len]; omega
  rw [e, shL] at h
  unfold backStep unpushN
  dsimp only
  rw [if_pos hk, ← q, ← h]
theorem told_item {tl : Addr} {tv : List Value} {nt : Nat} {es : List Ent} {g : Heap} {l : Addr} (x : ToldPre tl tv nt es g l) {i : Nat} {a : Itm} (h : (tv.reverse.map Itm.val)[i]? = some a) :
    i < es.reverse.length ∧ ∃ (b : Addr) (e : Ent), a = .val (.ref b) ∧ es.reverse.drop i = e :: es.reverse.drop (i + 1) ∧ TupIs g b e := by
  obtain ⟨_, _, h3, h4⟩ := x
  rw [List.getElem?_map] at h
  have hl : i < tv.reverse.length := by
    rcases Nat.lt_or_ge i tv.reverse.length with q | q
    · exact q
    · rw [List.getElem?_eq_none q] at h; cases h
  rw [List.length_reverse] at hl
  have hl2 : i < es.reverse.length := by rw [List.length_reverse]; omega
  obtain ⟨b, q1, _, q3⟩ := h4 (es.length - 1 - i) (es.reverse[i]) (by
    rw [List.getElem_reverse]
    exact List.getElem?_eq_getElem _)
  rw [List.getElem?_reverse hl, h3, q1] at h
  refine ⟨hl2, b, es.reverse[i], (Option.some.inj h).symm, ?_, q3⟩
  rw [List.drop_eq_getElem_cons hl2]
theorem bs_a {kind item o : Int} {row : List Int} (h0 : ¬ kind = 0) (h1 : ¬ kind = 1) (h : kind = 2 ∨ o ≠ item) : backStep row (kind, item, some o) = (liftN row ((row.idxOf item : Nat) : Int).toNat (Int.toNat 0)).set (Int.toNat 0) o := by
  unfold backStep
  dsimp only [Option.getD]
  rw [if_neg h0, if_neg h1, if_pos h]
  rfl
theorem bs_b {kind item o : Int} {row : List Int} (h1 : kind = 1) (h : kind = 2 ∨ o ≠ item) : backStep row (kind, item, some o) = (liftN row ((row.idxOf item : Nat) : Int).toNat (Int.toNat 0)).set (Int.toNat 0) o ++ [item] := by
  unfold backStep
  dsimp only [Option.getD]
  rw [if_neg (by omega), if_pos h1, if_pos h]
  rfl
theorem bs_c {kind item o : Int} {row : List Int} (h1 : kind = 1) (h2 : ¬ kind = 2) (h3 : o = item) : backStep row (kind, item, some o) = row ++ [item] := by
  unfold backStep
  dsimp only [Option.getD]
  rw [if_neg (by omega), if_pos h1, if_neg (by rintro (h | h) <;> contradiction)]
theorem bs_d {kind item o : Int} {row : List Int} (h0 : ¬ kind = 0) (h1 : ¬ kind = 1) (h2 : ¬ kind = 2) (h3 : o = item) : backStep row (kind, item, some o) = row := by
  unfold backStep
  dsimp only [Option.getD]
  rw [if_neg h0, if_neg h1, if_neg (by rintro (h | h) <;> contradiction)]
theorem bk_to {r : List Ent} {e : Ent} {row row' R : List Int} (h : backN (e :: r) row = R) (q : backStep row e = row') : backN r row' = R := q ▸ h
theorem bo_to {r : List Ent} {e : Ent} {row row' : List Int} (h : BacksOk r (backStep row e)) (q : backStep row e = row') : BacksOk r row' := q ▸ h
theorem append_any {prog : Program} {w : World} {A : Around} {E : Value → Shared → Prop} {s : Shared} {h₀ : Heap} {L D : Addr} {m : Str → Option Value} {news : List (Addr × Obj)} {G : Obj → List (Addr × Obj)} {us : List Value} {n : Nat} {v : Value} {Q : Value → Shared → Prop}
    (F : Fr h₀ L s.heap m) (N : News h₀ L s.heap news) (U : UpdF D (listOf us.toArray n) news G) (hz : us.length < 2 ^ 20) (h : ∀ h', Fr h₀ L h' m → News h₀ L h' (G (listOf (us ++ [v]).toArray (n + 1))) → Q .none { s with heap := h' }) :
    wpAny (model prog w) A (call (.builtin "list.append") [.ref D, v]) Q E s := by
  obtain ⟨pre, post, rfl, hG, a, c⟩ := U.split
  have z1 : Upd D (listOf us.toArray n) (listOf (us.toArray.push v) (n + 1)) (pre ++ (D, listOf us.toArray n) :: post) (pre ++ (D, listOf (us.toArray.push v) (n + 1)) :: post) := by
    clear h hG U N
    induction pre with
    | nil => exact .head c
    | cons p r ih => exact .tail (a p (.head _)) (ih fun q hq => a q (.tail _ hq))
  refine append_K F N z1 (fun h' F' N' => h h' F' ?_) (by rw [List.size_toArray, sizeLine_eq]; omega)
  rw [hG]
  rw [List.push_toArray] at N'
  exact N'
theorem append_ints {prog : Program} {w : World} {A : Around} {E : Value → Shared → Prop} {s : Shared} {h₀ : Heap} {L D : Addr} {m : Str → Option Value} {news : List (Addr × Obj)} {G : Obj → List (Addr × Obj)} {us : List Value} {ns : List Int} {n : Nat} {x : Int} {t : Tok} {Q : Value → Shared → Prop}
    (F : Fr h₀ L s.heap m) (N : News h₀ L s.heap news) (U : UpdF D (listOf us.toArray n) news G) (hi : IntsAre us ns) (hz : ns.length < 2 ^ 20) (h : ∀ h', Fr h₀ L h' m → News h₀ L h' (G (listOf (us ++ [Value.int x t]).toArray (n + 1))) → IntsAre (us ++ [Value.int x t]) (ns ++ [x]) → Q .none { s with heap := h' }) :
    wpAny (model prog w) A (call (.builtin "list.append") [.ref D, .int x t]) Q E s :=
  append_any F N U (by rw [hi.length]; exact hz) fun h' F' N' => h h' F' N' (hi.append (.cons _ _ .nil))
theorem lback_c (w : World) (mean : ExcName → Option Value) (mg mb : Str → Option Value) {hs : List Int} {tl : Addr} {tv : List Value} {nt : Nat} {es : List Ent} (hes : es.length < 2 ^ 19) (hok : BacksOk es.reverse hs) :
    MutP w mean mg mb 2 131 (fun l => [.ref l, .ref tl]) hs (ToldPre tl tv nt es) (fun l hs' v => hs' = backN es.reverse hs ∧ v = .ref l) := by
  unfold MutP
  intro dp un gd cn cs a ccd cl outer A₀ base h₀ L m s Q E l vs n B F X N T hk hd hu hi htold hret
  w_top off
  k_with_none
  k_with "mine enter" => (refine' def_enter ?zr200k1 ?zr200k2 ?zr200k3 ?zr200k4 ?zr200k5 ?zr200kA ?zr200kF ?zr200kK ?zr200k6 ?zr200k7 ?zr200k8 ?zr200k9 ?zr200kB ?_ ?zr200c2 ?zr200c3 ?zr200c4 ?zr200c5; (case zr200kA => exact rfl); (case zr200kF => exact rfl); (case zr200kK => assumption); (case zr200k1 => k_asm); (case zr200k2 => k_asm); (case zr200k3 => k_asm); (case zr200k4 => k_asm); (case zr200k5 => k_asm); (case zr200k6 => k_is); (case zr200k7 => k_is); (case zr200k8 => ktr_room); (case zr200k9 => exact BindsTo.of_eq rfl); (case zr200c5 => decide); (case zr200kB => exact locs rfl); (case zr200c2 => exact rfl); (case zr200c3 => exact rfl); (case zr200c4 => exact rfl); k_whole)
  k_with "binaryOp RShift int int" => (k_here; (with_reducible refine PySem.wpAny_rshift1_int ?zr201kb1 ?_); (case zr201kb1 => omega))
  k_with "mine cj" => (with_reducible (rename @Ne Nat _ _ ∧ _ => zhcj)); have _ := zhcj.1; replace zhcj := zhcj.2
  k_with "mine go" => (repeat (first | walk_at "mine cj" | (k_unfold; (try dsimp only)) | walk_at "mine fold" | walk1 | (dsimp only; walk1)))
  k_with "mine fold" => ((with_reducible show wpAny _ _ (exec _ _) _ _ _); k_fold)
  k_with "mine go2" => (repeat (first | walk_at "mine cj" | (k_unfold; (try dsimp only)) | walk_at "mine fold" | walk_at "mine fold2" | walk1 | (dsimp only; walk1)))
  k_with "mine fold2" => ((fail_if_success (fail_if_success k_fold)); (with_reducible show wpAny _ _ _ (fun _ _ => wpAny _ _ _ _ _ _) _ _); k_fold)
  k_with "mine bnd" => first | with_reducible assumption | omega | ((try simp only [List.length_set, List.length_append, List.length_cons, List.length_nil, List.length_dropLast, sdN_length]); omega)
  k_with "mine ctx" => ((case zctxk1 => k_asm); (case zctxk2 => k_asm); (case zctxk3 => k_asm); (case zctxk4 => k_asm); (case zctxk5 => k_asm); (case zctxkK => first | exact rfl | assumption); (case zctxkU => k_updF); (case zctxkd => ktr_room); (case zctxku => ktr_units); (case zctxki => l_ints))
  k_with "call ref" => (k_here; (with_reducible show wpAny _ _ (call (Value.ref 77) _) _ _ _); k_dflt (refine' mut_use (sd_c _ _ _ _ _ _ ?zctxp1 ?zctxp2 ?zctxp3 ?zctxp4) ?zctxk1 ?zctxk2 ?zctxk3 ?zctxk4 ?zctxk5 ?zctxkK ?zctxkU ?zctxkd ?zctxku ?zctxki ?_; walk_at "mine ctx"; (case zctxp1 => walk_at "mine bnd"); (case zctxp2 => walk_at "mine bnd"); (case zctxp3 => walk_at "mine bnd"); (case zctxp4 => walk_at "mine bnd"); k_whole); intro _ _ _ _ _ _ _ zN' _ zho'; (have ze1 := zho'.1); (have ze2 := zho'.2); clear zho'; subst ze1; subst ze2; (try dsimp only at zN'); (try k_sweep))
  k_with "call ref" => (k_here; (with_reducible show wpAny _ _ (call (Value.ref 91) _) _ _ _); k_dflt (refine' mut_use (sdx_c _ _ _ _ _ _ ?zctxp1 ?zctxp2 ?zctxp3 ?zctxp4) ?zctxk1 ?zctxk2 ?zctxk3 ?zctxk4 ?zctxk5 ?zctxkK ?zctxkU ?zctxkd ?zctxku ?zctxki ?_; walk_at "mine ctx"; (case zctxp1 => walk_at "mine bnd"); (case zctxp2 => walk_at "mine bnd"); (case zctxp3 => walk_at "mine bnd"); (case zctxp4 => walk_at "mine bnd"); k_whole); intro _ _ _ _ _ _ _ zN' _ zho'; (have ze1 := zho'.1); (have ze2 := zho'.2); clear zho'; subst ze1; subst ze2; (try dsimp only at zN'); (try k_sweep))
  k_with "mine bnd" => first | with_reducible assumption | omega | ((try simp only [List.length_set, List.length_append, List.length_cons, List.length_nil, List.length_dropLast, sdN_length, suN_length]); omega)
  k_with "call ref" => (k_here; (with_reducible show wpAny _ _ (call (Value.ref 84) _) _ _ _); k_dflt (refine' mut_use (su_c _ _ _ _ _ ?zctxp1 ?zctxp2 ?zctxp3) ?zctxk1 ?zctxk2 ?zctxk3 ?zctxk4 ?zctxk5 ?zctxkK ?zctxkU ?zctxkd ?zctxku ?zctxki ?_; walk_at "mine ctx"; (case zctxp1 => walk_at "mine bnd"); (case zctxp2 => walk_at "mine bnd"); (case zctxp3 => walk_at "mine bnd"); k_whole); intro _ _ _ _ _ _ _ zN' _ zho'; (have ze1 := zho'.1); (have ze2 := zho'.2); clear zho'; subst ze1; subst ze2; (try dsimp only at zN'); (try k_sweep))
  k_with "call ref" => (k_here; (with_reducible show wpAny _ _ (call (Value.ref 98) _) _ _ _); k_dflt (refine' mut_use (sux_c _ _ _ _ _ ?zctxp1 ?zctxp2 ?zctxp3) ?zctxk1 ?zctxk2 ?zctxk3 ?zctxk4 ?zctxk5 ?zctxkK ?zctxkU ?zctxkd ?zctxku ?zctxki ?_; walk_at "mine ctx"; (case zctxp1 => walk_at "mine bnd"); (case zctxp2 => walk_at "mine bnd"); (case zctxp3 => walk_at "mine bnd"); k_whole); intro _ _ _ _ _ _ _ zN' _ zho'; (have ze1 := zho'.1); (have ze2 := zho'.2); clear zho'; subst ze1; subst ze2; (try dsimp only at zN'); (try k_sweep))
  k_with "mine bnd" => first | with_reducible assumption | omega | ((try simp only [List.length_set, List.length_append, List.length_cons, List.length_nil, List.length_dropLast, sdN_length, suN_length, liftN_length]); omega)
  k_with "setItem ref int" => (k_here; (with_reducible show wpAny _ _ (setItem (Value.ref _) (Value.int _ _) (Value.int _ _)) _ _ _); k_dflt (refine' ksa_set ?zr215k1 ?zr215k2 ?zr215k3 ?zr215k4 ?zr215k5 ?zr215k6 ?zr215k7 ?_; (case zr215k1 => k_asm); (case zr215k2 => k_asm); (case zr215k3 => k_upd); (case zr215k4 => l_ints); (case zr215k5 => walk_at "mine bnd"); (case zr215k6 => walk_at "mine bnd"); (case zr215k7 => walk_at "mine bnd"); k_whole); intro _ _ _ _ _ _; (try k_sweep))
  k_with "call ref" => (k_here; (with_reducible show wpAny _ _ (call (Value.ref 21) _) _ _ _); k_dflt (refine' mut_use (push_c _ _ _ _ _ ?zctxp1) ?zctxk1 ?zctxk2 ?zctxk3 ?zctxk4 ?zctxk5 ?zctxkK ?zctxkU ?zctxkd ?zctxku ?zctxki ?_; walk_at "mine ctx"; (case zctxp1 => walk_at "mine bnd"); k_whole); intro _ _ _ _ _ _ _ zN' _ zho'; (have ze1 := zho'.1); (have ze2 := zho'.2); clear zho'; subst ze1; subst ze2; (try dsimp only at zN'); (try k_sweep))
  k_with "call ref" => (k_here; (with_reducible show wpAny _ _ (call (Value.ref 28) _) _ _ _); k_dflt (refine' mut_use (pop_c _ _ _ _ ?zctxp1 ?zctxp2) ?zctxk1 ?zctxk2 ?zctxk3 ?zctxk4 ?zctxk5 ?zctxkK ?zctxkU ?zctxkd ?zctxku ?zctxki ?_; walk_at "mine ctx"; (case zctxp1 => walk_at "mine bnd"); (case zctxp2 => walk_at "mine bnd"); k_whole); intro _ _ _ _ _ _ _ zN' _ zho'; (obtain ⟨ze1, _, ze2⟩ := zho'); subst ze1; subst ze2; (try dsimp only at zN'); (try k_sweep))
  k_with "call ref" => (k_here; (with_reducible show wpAny _ _ (call (Value.ref 56) _) _ _ _); k_dflt (refine' mut_use (popx_c _ _ _ _ ?zctxp1 ?zctxp2) ?zctxk1 ?zctxk2 ?zctxk3 ?zctxk4 ?zctxk5 ?zctxkK ?zctxkU ?zctxkd ?zctxku ?zctxki ?_; walk_at "mine ctx"; (case zctxp1 => walk_at "mine bnd"); (case zctxp2 => walk_at "mine bnd"); k_whole); intro _ _ _ _ _ _ _ zN' _ zho'; (obtain ⟨ze1, _, ze2⟩ := zho'); subst ze1; subst ze2; (try dsimp only at zN'); (try k_sweep))
  k_with "call ref" => (k_here; (with_reducible show wpAny _ _ (call (Value.ref 35) _) _ _ _); k_dflt (refine' mut_use (repl_c _ _ _ _ _ ?zctxp1 ?zctxp2) ?zctxk1 ?zctxk2 ?zctxk3 ?zctxk4 ?zctxk5 ?zctxkK ?zctxkU ?zctxkd ?zctxku ?zctxki ?_; walk_at "mine ctx"; (case zctxp1 => walk_at "mine bnd"); (case zctxp2 => walk_at "mine bnd"); k_whole); intro _ _ _ _ _ _ _ zN' _ zho'; (obtain ⟨ze1, _, ze2⟩ := zho'); subst ze1; subst ze2; (try dsimp only at zN'); (try k_sweep))
  k_with "call ref" => (k_here; (with_reducible show wpAny _ _ (call (Value.ref 63) _) _ _ _); k_dflt (refine' mut_use (replx_c _ _ _ _ _ ?zctxp1 ?zctxp2) ?zctxk1 ?zctxk2 ?zctxk3 ?zctxk4 ?zctxk5 ?zctxkK ?zctxkU ?zctxkd ?zctxku ?zctxki ?_; walk_at "mine ctx"; (case zctxp1 => walk_at "mine bnd"); (case zctxp2 => walk_at "mine bnd"); k_whole); intro _ _ _ _ _ _ _ zN' _ zho'; (obtain ⟨ze1, _, ze2⟩ := zho'); subst ze1; subst ze2; (try dsimp only at zN'); (try k_sweep))
  k_with "call ref" => (k_here; (with_reducible show wpAny _ _ (call (Value.ref 42) _) _ _ _); k_dflt (refine' mut_use (pushpop_c _ _ _ _ _ ?zctxp1 ?zctxp2) ?zctxk1 ?zctxk2 ?zctxk3 ?zctxk4 ?zctxk5 ?zctxkK ?zctxkU ?zctxkd ?zctxku ?zctxki ?_; walk_at "mine ctx"; (case zctxp1 => walk_at "mine bnd"); (case zctxp2 => walk_at "mine bnd"); k_whole); intro _ _ _ _ _ _ _ zN' _ zho'; (obtain ⟨ze1, _, ze2⟩ := zho'); subst ze1; subst ze2; (try dsimp only at zN'); (try k_sweep))
  k_with "call ref" => (k_here; (with_reducible show wpAny _ _ (call (Value.ref 110) _) _ _ _); k_dflt (refine' mut_use (lift_c _ _ _ _ _ _ ?zctxp1 ?zctxp2 ?zctxp3 ?zctxp4 ?zctxp5) ?zctxk1 ?zctxk2 ?zctxk3 ?zctxk4 ?zctxk5 ?zctxkK ?zctxkU ?zctxkd ?zctxku ?zctxki ?_; walk_at "mine ctx"; (case zctxp1 => walk_at "mine bnd"); (case zctxp2 => walk_at "mine bnd"); (case zctxp3 => walk_at "mine bnd"); (case zctxp4 => walk_at "mine bnd"); (case zctxp5 => walk_at "mine bnd"); k_whole); intro _ _ _ _ _ _ _ zN' _ zho'; (have ze1 := zho'.1); (have ze2 := zho'.2); clear zho'; subst ze1; subst ze2; (try dsimp only at zN'); (try k_sweep))
  k_with "call ref" => (k_here; (with_reducible show wpAny _ _ (call (Value.ref 49) _) _ _ _); k_dflt (refine' mut_use (hpf_c _ _ _ _ ?zctxp1) ?zctxk1 ?zctxk2 ?zctxk3 ?zctxk4 ?zctxk5 ?zctxkK ?zctxkU ?zctxkd ?zctxku ?zctxki ?_; walk_at "mine ctx"; (case zctxp1 => walk_at "mine bnd"); k_whole); intro _ _ _ _ _ _ _ zN' _ zho'; (have ze1 := zho'.1); (have ze2 := zho'.2); clear zho'; subst ze1; subst ze2; (try dsimp only at zN'); (try k_sweep))
  k_with "call ref" => (k_here; (with_reducible show wpAny _ _ (call (Value.ref 70) _) _ _ _); k_dflt (refine' mut_use (hpfx_c _ _ _ _ ?zctxp1) ?zctxk1 ?zctxk2 ?zctxk3 ?zctxk4 ?zctxk5 ?zctxkK ?zctxkU ?zctxkd ?zctxku ?zctxki ?_; walk_at "mine ctx"; (case zctxp1 => walk_at "mine bnd"); k_whole); intro _ _ _ _ _ _ _ zN' _ zho'; (have ze1 := zho'.1); (have ze2 := zho'.2); clear zho'; subst ze1; subst ze2; (try dsimp only at zN'); (try k_sweep))
  k_with "call ref" => (k_here; (with_reducible show wpAny _ _ (call (Value.ref 124) _) _ _ _); k_dflt (refine' mut_use (lcall_c _ _ _ _ _ _ _ ?zctxp1 ?zctxp2) ?zctxk1 ?zctxk2 ?zctxk3 ?zctxk4 ?zctxk5 ?zctxkK ?zctxkU ?zctxkd ?zctxku ?zctxki ?_; walk_at "mine ctx"; (case zctxp1 => walk_at "mine bnd"); (case zctxp2 => walk_at "mine bnd"); k_whole); intro _ _ _ _ _ _ _ zN' _ zho'; (have ze1 := zho'.1); (have _ := zho'.2); clear zho'; subst ze1; (try dsimp only at zN'); (try k_sweep))
  k_with "call builtin:len" => (k_here; (with_reducible show wpAny _ _ (call (Value.builtin "len") [Value.ref _]) _ _ _); k_dflt (refine' len_ints ?zr226k1 ?zr226k2 ?zr226k3 ?zr226k4 ?_; (case zr226k1 => k_asm); (case zr226k2 => k_mem); (case zr226k3 => l_ints); (case zr226k4 => walk_at "mine bnd"); k_whole))
  k_with "truthy ref" => (k_here; (with_reducible show wpAny _ _ (truthy (Value.ref _)) _ _ _); k_dflt (refine' truthy_ints ?zr227k1 ?zr227k2 ?zr227k3 ?zr227k4 ?_; (case zr227k1 => k_asm); (case zr227k2 => k_mem); (case zr227k3 => l_ints); (case zr227k4 => walk_at "mine bnd")))
  k_with "mine end" => ((try dsimp only); (try (k_unfold; try dsimp only)))
  k_with "mine maps" => first | exact List.forall_mem_nil _ | (refine List.forall_mem_cons.mpr ⟨by rfl, ?_⟩; walk_at "mine maps")
  k_with "binaryOp FloorDiv int int" => (k_here; (with_reducible refine ediv_int ?zr230kb ?zr230kp ?_); (case zr230kb => decide); (case zr230kp => first | exact PyProof.noPylong_of_log2 (by decide +kernel) | exact PyProof.noPylong_small (by omega)))
  k_with "binaryOp Mod int int" => (k_here; (with_reducible refine emod_int ?zr231kb ?_); (case zr231kb => first | decide | omega))
  k_with "subscriptTail Name Slice ref ref" => (k_here; (with_reducible show wpAny _ _ (subscriptTail _ (PySem.Expr.Slice none none none _) (Value.ref _) (Value.ref _)) _ _ _); k_dflt (refine' slice_all ?zr232F ?zr232N ?zr232l ?zr232z ?_ ?zr232s ?zr232t; (case zr232F => k_asm); (case zr232N => k_asm); (case zr232l => k_mem); (case zr232z => omega); (case zr232s => with_unfolding_all rfl); (case zr232t => (intro _; with_unfolding_all rfl))); intro _ _ _ _ zl1; (try k_lt zl1); (try k_sweep))
  k_with "mine off" => ((simp only [List.forall_mem_cons, List.not_mem_nil, false_implies, implies_true, and_true]); (repeat' apply And.intro) <;> k_ne)
  k_with "call builtin:list.pop" => (k_here; (with_reducible show wpAny _ _ (call (Value.builtin _) [Value.ref _, Value.int _ _]) _ _ _); k_dflt (refine' pop_at ?zr234F ?zr234N ?zr234U ?zr234i ?zr234a ?zr234b ?zr234c ?_; (case zr234F => k_asm); (case zr234N => k_asm); (case zr234U => k_updF); (case zr234i => l_ints); (case zr234a => walk_at "mine bnd"); (case zr234b => walk_at "mine bnd"); (case zr234c => walk_at "mine bnd")); intro _ _ _ zN' _; (try dsimp only at zN'); (try k_sweep))
  k_with "inplaceOp Add ref" => (k_here; (with_reducible show wpAny _ _ (inplaceOp Operator.Add (Value.ref _) (Value.ref _)) _ _ _); k_dflt (refine' iadd_lists ?zr235F ?zr235N ?zr235U ?zr235b ?zr235z ?_; (case zr235F => k_asm); (case zr235N => k_asm); (case zr235U => k_updF); (case zr235b => k_mem); (case zr235z => first | assumption | omega)); intro _ _ _ zN'; (try dsimp only at zN'); (try k_sweep))
  k_with "mine enterC" => (refine' def_enterC ?zr236k1 ?zr236k2 ?zr236k3 ?zr236k4 ?zr236k5 ?zr236kA ?zr236kF ?zr236kK ?zr236k6 ?zr236k7 ?zr236k8 ?zr236k9 ?zr236kB ?zr236kD ?_ ?zr236c2 ?zr236c3 ?zr236c4; (case zr236kA => exact rfl); (case zr236kF => exact rfl); (case zr236kK => assumption); (case zr236k1 => k_asm); (case zr236k2 => k_asm); (case zr236k3 => k_asm); (case zr236k4 => k_asm); (case zr236k5 => k_asm); (case zr236k6 => k_is); (case zr236k7 => k_is); (case zr236k8 => ktr_room); (case zr236k9 => exact BindsTo.of_eq rfl); (case zr236kB => exact rfl); (case zr236kD => decide +kernel); (case zr236c2 => exact rfl); (case zr236c3 => exact rfl); (case zr236c4 => exact rfl); k_whole)
  k_with "subscriptTail Name Slice ref ref" => (k_here; (with_reducible show wpAny _ _ (subscriptTail _ (PySem.Expr.Slice none none (some _) _) (Value.ref _) (Value.ref _)) _ _ _); k_dflt (refine' slice_revs ?zr237F ?zr237N ?zr237l ?zr237z ?_ ?zr237s ?zr237t; (case zr237F => k_asm); (case zr237N => k_asm); (case zr237l => assumption); (case zr237z => omega); (case zr237s => with_unfolding_all rfl); (case zr237t => (intro _; with_unfolding_all rfl))); intro _ _ _ _ zl1; (try k_lt zl1); (try k_sweep))
  k_with "compareOp NotIn int ref" => (k_here; k_dflt (refine' notin_has ?zr238N ?zr238m ?zr238i ?zr238k ?_; (case zr238N => k_asm); (case zr238m => k_mem); (case zr238i => l_ints); (case zr238k => first | assumption | walk_at "mine has")))
  k_with "call builtin:list.index" => (k_here; (with_reducible show wpAny _ _ (call (Value.builtin _) [Value.ref _, Value.int _ _]) _ _ _); k_dflt (refine' index_has ?zr239N ?zr239m ?zr239i ?zr239k ?zr239z ?_; (case zr239N => k_asm); (case zr239m => k_mem); (case zr239i => l_ints); (case zr239k => first | assumption | walk_at "mine has"); (case zr239z => walk_at "mine bnd")))
  k_with "exec For Tuple Subscript cons nil" => (k_here; (rename Fr _ _ _ _ => zlF'); (with_unfolding_all refine' For_turns zlF' ?_; k_whole))
  k_with "pyIter ref" => ((with_reducible show wpAny _ _ (pyIter (Value.ref _)) (fun it s₂ => TurnsAt _ _ _ _ _ _ _ _ _ it s₂) _ _); refine stop_of ?_)
  k_with "ite" => first | (with_reducible refine c_ff ?_) | (with_reducible refine c_tt ?_) | (with_reducible refine ct_yes (by assumption) ?_) | (with_reducible refine ct_no (by assumption) ?_) | (with_reducible refine cb_yes (by assumption) ?_) | (with_reducible refine cb_no (by assumption) ?_) | (with_reducible refine cn_yes (by assumption) ?_) | (with_reducible refine cn_no (by assumption) ?_)
  k_with "subscriptTail Name Subscript ref int" => (k_here; (with_reducible show wpAny _ _ (subscriptTail _ _ (Value.ref _) (Value.int _ _)) _ _ _); k_dflt (refine' ksa_sub ?zr243k1 ?zr243k2 ?zr243k3 ?zr243k4 ?zr243k5 ?zr243k6 ?_ ?zr243k7; (case zr243k1 => k_asm); (case zr243k2 => k_mem); (case zr243k3 => l_ints); (case zr243k4 => walk_at "mine bnd"); (case zr243k5 => walk_at "mine bnd"); (case zr243k6 => walk_at "mine bnd"); (case zr243k7 => with_unfolding_all rfl); k_whole); intro _)
  k_with "call builtin:list.append" => (k_here; (with_reducible show wpAny _ _ (call (Value.builtin _) [Value.ref _, Value.int _ _]) _ _ _); k_dflt (refine' append_ints ?zr244k1 ?zr244k2 ?zr244k3 ?zr244i ?zr244z ?_; (case zr244k1 => k_asm); (case zr244k2 => k_asm); (case zr244k3 => k_updF); (case zr244i => l_ints); (case zr244z => walk_at "mine bnd")); intro _ _ zN' _; (try dsimp only at zN'); (try k_sweep))
  refine wpAny_call ?_
  k_dflt (walk_at "mine enter")
  intro g L' h' hg hlt F' N' B' X' T'
  (try dsimp only); (try k_fold)
  clear F N B
  have hg' : ∀ b o, b ≠ l → s.heap.get? b = some o → g.get? b = some o := fun b o hb e => hg b o (by simpa using hb) e
  have htg := told_g htold hg'
  have htl : g.IsList tl tv.toArray := ⟨listOf tv.toArray nt, htg.1, rfl, nt, rfl⟩
  have hvl : vs.length = hs.length := hi.length
  have htv := htg.2.2.1
  k_with_none
  k_with "mine enter" => (refine' def_enter ?zr200k1 ?zr200k2 ?zr200k3 ?zr200k4 ?zr200k5 ?zr200kA ?zr200kF ?zr200kK ?zr200k6 ?zr200k7 ?zr200k8 ?zr200k9 ?zr200kB ?_ ?zr200c2 ?zr200c3 ?zr200c4 ?zr200c5; (case zr200kA => exact rfl); (case zr200kF => exact rfl); (case zr200kK => assumption); (case zr200k1 => k_asm); (case zr200k2 => k_asm); (case zr200k3 => k_asm); (case zr200k4 => k_asm); (case zr200k5 => k_asm); (case zr200k6 => k_is); (case zr200k7 => k_is); (case zr200k8 => ktr_room); (case zr200k9 => exact BindsTo.of_eq rfl); (case zr200c5 => decide); (case zr200kB => exact locs rfl); (case zr200c2 => exact rfl); (case zr200c3 => exact rfl); (case zr200c4 => exact rfl); k_whole)
  k_with "binaryOp RShift int int" => (k_here; (with_reducible refine PySem.wpAny_rshift1_int ?zr201kb1 ?_); (case zr201kb1 => omega))
  k_with "mine cj" => (with_reducible (rename @Ne Nat _ _ ∧ _ => zhcj)); have _ := zhcj.1; replace zhcj := zhcj.2
  k_with "mine go" => (repeat (first | walk_at "mine cj" | (k_unfold; (try dsimp only)) | walk_at "mine fold" | walk1 | (dsimp only; walk1)))
  k_with "mine fold" => ((with_reducible show wpAny _ _ (exec _ _) _ _ _); k_fold)
  k_with "mine go2" => (repeat (first | walk_at "mine cj" | (k_unfold; (try dsimp only)) | walk_at "mine fold" | walk_at "mine fold2" | walk1 | (dsimp only; walk1)))
  k_with "mine fold2" => ((fail_if_success (fail_if_success k_fold)); (with_reducible show wpAny _ _ _ (fun _ _ => wpAny _ _ _ _ _ _) _ _); k_fold)
  k_with "mine bnd" => first | with_reducible assumption | omega | ((try simp only [List.length_set, List.length_append, List.length_cons, List.length_nil, List.length_dropLast, sdN_length]); omega)
  k_with "mine ctx" => ((case zctxk1 => k_asm); (case zctxk2 => k_asm); (case zctxk3 => k_asm); (case zctxk4 => k_asm); (case zctxk5 => k_asm); (case zctxkK => first | exact rfl | assumption); (case zctxkU => k_updF); (case zctxkd => ktr_room); (case zctxku => ktr_units); (case zctxki => l_ints))
  k_with "call ref" => (k_here; (with_reducible show wpAny _ _ (call (Value.ref 77) _) _ _ _); k_dflt (refine' mut_use (sd_c _ _ _ _ _ _ ?zctxp1 ?zctxp2 ?zctxp3 ?zctxp4) ?zctxk1 ?zctxk2 ?zctxk3 ?zctxk4 ?zctxk5 ?zctxkK ?zctxkU ?zctxkd ?zctxku ?zctxki ?_; walk_at "mine ctx"; (case zctxp1 => walk_at "mine bnd"); (case zctxp2 => walk_at "mine bnd"); (case zctxp3 => walk_at "mine bnd"); (case zctxp4 => walk_at "mine bnd"); k_whole); intro _ _ _ _ _ _ _ zN' _ zho'; (have ze1 := zho'.1); (have ze2 := zho'.2); clear zho'; subst ze1; subst ze2; (try dsimp only at zN'); (try k_sweep))
  k_with "call ref" => (k_here; (with_reducible show wpAny _ _ (call (Value.ref 91) _) _ _ _); k_dflt (refine' mut_use (sdx_c _ _ _ _ _ _ ?zctxp1 ?zctxp2 ?zctxp3 ?zctxp4) ?zctxk1 ?zctxk2 ?zctxk3 ?zctxk4 ?zctxk5 ?zctxkK ?zctxkU ?zctxkd ?zctxku ?zctxki ?_; walk_at "mine ctx"; (case zctxp1 => walk_at "mine bnd"); (case zctxp2 => walk_at "mine bnd"); (case zctxp3 => walk_at "mine bnd"); (case zctxp4 => walk_at "mine bnd"); k_whole); intro _ _ _ _ _ _ _ zN' _ zho'; (have ze1 := zho'.1); (have ze2 := zho'.2); clear zho'; subst ze1; subst ze2; (try dsimp only at zN'); (try k_sweep))
  k_with "mine bnd" => first | with_reducible assumption | omega | ((try simp only [List.length_set, List.length_append, List.length_cons, List.length_nil, List.length_dropLast, sdN_length, suN_length]); omega)
  k_with "call ref" => (k_here; (with_reducible show wpAny _ _ (call (Value.ref 84) _) _ _ _); k_dflt (refine' mut_use (su_c _ _ _ _ _ ?zctxp1 ?zctxp2 ?zctxp3) ?zctxk1 ?zctxk2 ?zctxk3 ?zctxk4 ?zctxk5 ?zctxkK ?zctxkU ?zctxkd ?zctxku ?zctxki ?_; walk_at "mine ctx"; (case zctxp1 => walk_at "mine bnd"); (case zctxp2 => walk_at "mine bnd"); (case zctxp3 => walk_at "mine bnd"); k_whole); intro _ _ _ _ _ _ _ zN' _ zho'; (have ze1 := zho'.1); (have ze2 := zho'.2); clear zho'; subst ze1; subst ze2; (try dsimp only at zN'); (try k_sweep))
  k_with "call ref" => (k_here; (with_reducible show wpAny _ _ (call (Value.ref 98) _) _ _ _); k_dflt (refine' mut_use (sux_c _ _ _ _ _ ?zctxp1 ?zctxp2 ?zctxp3) ?zctxk1 ?zctxk2 ?zctxk3 ?zctxk4 ?zctxk5 ?zctxkK ?zctxkU ?zctxkd ?zctxku ?zctxki ?_; walk_at "mine ctx"; (case zctxp1 => walk_at "mine bnd"); (case zctxp2 => walk_at "mine bnd"); (case zctxp3 => walk_at "mine bnd"); k_whole); intro _ _ _ _ _ _ _ zN' _ zho'; (have ze1 := zho'.1); (have ze2 := zho'.2); clear zho'; subst ze1; subst ze2; (try dsimp only at zN'); (try k_sweep))
  k_with "mine bnd" => first | with_reducible assumption | omega | ((try simp only [List.length_set, List.length_append, List.length_cons, List.length_nil, List.length_dropLast, sdN_length, suN_length, liftN_length]); omega)
  k_with "setItem ref int" => (k_here; (with_reducible show wpAny _ _ (setItem (Value.ref _) (Value.int _ _) (Value.int _ _)) _ _ _); k_dflt (refine' ksa_set ?zr215k1 ?zr215k2 ?zr215k3 ?zr215k4 ?zr215k5 ?zr215k6 ?zr215k7 ?_; (case zr215k1 => k_asm); (case zr215k2 => k_asm); (case zr215k3 => k_upd); (case zr215k4 => l_ints); (case zr215k5 => walk_at "mine bnd"); (case zr215k6 => walk_at "mine bnd"); (case zr215k7 => walk_at "mine bnd"); k_whole); intro _ _ _ _ _ _; (try k_sweep))
  k_with "call ref" => (k_here; (with_reducible show wpAny _ _ (call (Value.ref 21) _) _ _ _); k_dflt (refine' mut_use (push_c _ _ _ _ _ ?zctxp1) ?zctxk1 ?zctxk2 ?zctxk3 ?zctxk4 ?zctxk5 ?zctxkK ?zctxkU ?zctxkd ?zctxku ?zctxki ?_; walk_at "mine ctx"; (case zctxp1 => walk_at "mine bnd"); k_whole); intro _ _ _ _ _ _ _ zN' _ zho'; (have ze1 := zho'.1); (have ze2 := zho'.2); clear zho'; subst ze1; subst ze2; (try dsimp only at zN'); (try k_sweep))
  k_with "call ref" => (k_here; (with_reducible show wpAny _ _ (call (Value.ref 28) _) _ _ _); k_dflt (refine' mut_use (pop_c _ _ _ _ ?zctxp1 ?zctxp2) ?zctxk1 ?zctxk2 ?zctxk3 ?zctxk4 ?zctxk5 ?zctxkK ?zctxkU ?zctxkd ?zctxku ?zctxki ?_; walk_at "mine ctx"; (case zctxp1 => walk_at "mine bnd"); (case zctxp2 => walk_at "mine bnd"); k_whole); intro _ _ _ _ _ _ _ zN' _ zho'; (obtain ⟨ze1, _, ze2⟩ := zho'); subst ze1; subst ze2; (try dsimp only at zN'); (try k_sweep))
  k_with "call ref" => (k_here; (with_reducible show wpAny _ _ (call (Value.ref 56) _) _ _ _); k_dflt (refine' mut_use (popx_c _ _ _ _ ?zctxp1 ?zctxp2) ?zctxk1 ?zctxk2 ?zctxk3 ?zctxk4 ?zctxk5 ?zctxkK ?zctxkU ?zctxkd ?zctxku ?zctxki ?_; walk_at "mine ctx"; (case zctxp1 => walk_at "mine bnd"); (case zctxp2 => walk_at "mine bnd"); k_whole); intro _ _ _ _ _ _ _ zN' _ zho'; (obtain ⟨ze1, _, ze2⟩ := zho'); subst ze1; subst ze2; (try dsimp only at zN'); (try k_sweep))
  k_with "call ref" => (k_here; (with_reducible show wpAny _ _ (call (Value.ref 35) _) _ _ _); k_dflt (refine' mut_use (repl_c _ _ _ _ _ ?zctxp1 ?zctxp2) ?zctxk1 ?zctxk2 ?zctxk3 ?zctxk4 ?zctxk5 ?zctxkK ?zctxkU ?zctxkd ?zctxku ?zctxki ?_; walk_at "mine ctx"; (case zctxp1 => walk_at "mine bnd"); (case zctxp2 => walk_at "mine bnd"); k_whole); intro _ _ _ _ _ _ _ zN' _ zho'; (obtain ⟨ze1, _, ze2⟩ := zho'); subst ze1; subst ze2; (try dsimp only at zN'); (try k_sweep))
  k_with "call ref" => (k_here; (with_reducible show wpAny _ _ (call (Value.ref 63) _) _ _ _); k_dflt (refine' mut_use (replx_c _ _ _ _ _ ?zctxp1 ?zctxp2) ?zctxk1 ?zctxk2 ?zctxk3 ?zctxk4 ?zctxk5 ?zctxkK ?zctxkU ?zctxkd ?zctxku ?zctxki ?_; walk_at "mine ctx"; (case zctxp1 => walk_at "mine bnd"); (case zctxp2 => walk_at "mine bnd"); k_whole); intro _ _ _ _ _ _ _ zN' _ zho'; (obtain ⟨ze1, _, ze2⟩ := zho'); subst ze1; subst ze2; (try dsimp only at zN'); (try k_sweep))
  k_with "call ref" => (k_here; (with_reducible show wpAny _ _ (call (Value.ref 42) _) _ _ _); k_dflt (refine' mut_use (pushpop_c _ _ _ _ _ ?zctxp1 ?zctxp2) ?zctxk1 ?zctxk2 ?zctxk3 ?zctxk4 ?zctxk5 ?zctxkK ?zctxkU ?zctxkd ?zctxku ?zctxki ?_; walk_at "mine ctx"; (case zctxp1 => walk_at "mine bnd"); (case zctxp2 => walk_at "mine bnd"); k_whole); intro _ _ _ _ _ _ _ zN' _ zho'; (obtain ⟨ze1, _, ze2⟩ := zho'); subst ze1; subst ze2; (try dsimp only at zN'); (try k_sweep))
  k_with "call ref" => (k_here; (with_reducible show wpAny _ _ (call (Value.ref 110) _) _ _ _); k_dflt (refine' mut_use (lift_c _ _ _ _ _ _ ?zctxp1 ?zctxp2 ?zctxp3 ?zctxp4 ?zctxp5) ?zctxk1 ?zctxk2 ?zctxk3 ?zctxk4 ?zctxk5 ?zctxkK ?zctxkU ?zctxkd ?zctxku ?zctxki ?_; walk_at "mine ctx"; (case zctxp1 => walk_at "mine bnd"); (case zctxp2 => walk_at "mine bnd"); (case zctxp3 => walk_at "mine bnd"); (case zctxp4 => walk_at "mine bnd"); (case zctxp5 => walk_at "mine bnd"); k_whole); intro _ _ _ _ _ _ _ zN' _ zho'; (have ze1 := zho'.1); (have ze2 := zho'.2); clear zho'; subst ze1; subst ze2; (try dsimp only at zN'); (try k_sweep))
  k_with "call ref" => (k_here; (with_reducible show wpAny _ _ (call (Value.ref 49) _) _ _ _); k_dflt (refine' mut_use (hpf_c _ _ _ _ ?zctxp1) ?zctxk1 ?zctxk2 ?zctxk3 ?zctxk4 ?zctxk5 ?zctxkK ?zctxkU ?zctxkd ?zctxku ?zctxki ?_; walk_at "mine ctx"; (case zctxp1 => walk_at "mine bnd"); k_whole); intro _ _ _ _ _ _ _ zN' _ zho'; (have ze1 := zho'.1); (have ze2 := zho'.2); clear zho'; subst ze1; subst ze2; (try dsimp only at zN'); (try k_sweep))
  k_with "call ref" => (k_here; (with_reducible show wpAny _ _ (call (Value.ref 70) _) _ _ _); k_dflt (refine' mut_use (hpfx_c _ _ _ _ ?zctxp1) ?zctxk1 ?zctxk2 ?zctxk3 ?zctxk4 ?zctxk5 ?zctxkK ?zctxkU ?zctxkd ?zctxku ?zctxki ?_; walk_at "mine ctx"; (case zctxp1 => walk_at "mine bnd"); k_whole); intro _ _ _ _ _ _ _ zN' _ zho'; (have ze1 := zho'.1); (have ze2 := zho'.2); clear zho'; subst ze1; subst ze2; (try dsimp only at zN'); (try k_sweep))
  k_with "call ref" => (k_here; (with_reducible show wpAny _ _ (call (Value.ref 124) _) _ _ _); k_dflt (refine' mut_use (lcall_c _ _ _ _ _ _ _ ?zctxp1 ?zctxp2) ?zctxk1 ?zctxk2 ?zctxk3 ?zctxk4 ?zctxk5 ?zctxkK ?zctxkU ?zctxkd ?zctxku ?zctxki ?_; walk_at "mine ctx"; (case zctxp1 => walk_at "mine bnd"); (case zctxp2 => walk_at "mine bnd"); k_whole); intro _ _ _ _ _ _ _ zN' _ zho'; (have ze1 := zho'.1); (have _ := zho'.2); clear zho'; subst ze1; (try dsimp only at zN'); (try k_sweep))
  k_with "call builtin:len" => (k_here; (with_reducible show wpAny _ _ (call (Value.builtin "len") [Value.ref _]) _ _ _); k_dflt (refine' len_ints ?zr226k1 ?zr226k2 ?zr226k3 ?zr226k4 ?_; (case zr226k1 => k_asm); (case zr226k2 => k_mem); (case zr226k3 => l_ints); (case zr226k4 => walk_at "mine bnd"); k_whole))
  k_with "truthy ref" => (k_here; (with_reducible show wpAny _ _ (truthy (Value.ref _)) _ _ _); k_dflt (refine' truthy_ints ?zr227k1 ?zr227k2 ?zr227k3 ?zr227k4 ?_; (case zr227k1 => k_asm); (case zr227k2 => k_mem); (case zr227k3 => l_ints); (case zr227k4 => walk_at "mine bnd")))
  k_with "mine end" => ((try dsimp only); (try (k_unfold; try dsimp only)))
  k_with "mine maps" => first | exact List.forall_mem_nil _ | (refine List.forall_mem_cons.mpr ⟨by rfl, ?_⟩; walk_at "mine maps")
  k_with "binaryOp FloorDiv int int" => (k_here; (with_reducible refine ediv_int ?zr230kb ?zr230kp ?_); (case zr230kb => decide); (case zr230kp => first | exact PyProof.noPylong_of_log2 (by decide +kernel) | exact PyProof.noPylong_small (by omega)))
  k_with "binaryOp Mod int int" => (k_here; (with_reducible refine emod_int ?zr231kb ?_); (case zr231kb => first | decide | omega))
  k_with "subscriptTail Name Slice ref ref" => (k_here; (with_reducible show wpAny _ _ (subscriptTail _ (PySem.Expr.Slice none none none _) (Value.ref _) (Value.ref _)) _ _ _); k_dflt (refine' slice_all ?zr232F ?zr232N ?zr232l ?zr232z ?_ ?zr232s ?zr232t; (case zr232F => k_asm); (case zr232N => k_asm); (case zr232l => k_mem); (case zr232z => omega); (case zr232s => with_unfolding_all rfl); (case zr232t => (intro _; with_unfolding_all rfl))); intro _ _ _ _ zl1; (try k_lt zl1); (try k_sweep))
  k_with "mine off" => ((simp only [List.forall_mem_cons, List.not_mem_nil, false_implies, implies_true, and_true]); (repeat' apply And.intro) <;> k_ne)
  k_with "call builtin:list.pop" => (k_here; (with_reducible show wpAny _ _ (call (Value.builtin _) [Value.ref _, Value.int _ _]) _ _ _); k_dflt (refine' pop_at ?zr234F ?zr234N ?zr234U ?zr234i ?zr234a ?zr234b ?zr234c ?_; (case zr234F => k_asm); (case zr234N => k_asm); (case zr234U => k_updF); (case zr234i => l_ints); (case zr234a => walk_at "mine bnd"); (case zr234b => walk_at "mine bnd"); (case zr234c => walk_at "mine bnd")); intro _ _ _ zN' _; (try dsimp only at zN'); (try k_sweep))
  k_with "inplaceOp Add ref" => (k_here; (with_reducible show wpAny _ _ (inplaceOp Operator.Add (Value.ref _) (Value.ref _)) _ _ _); k_dflt (refine' iadd_lists ?zr235F ?zr235N ?zr235U ?zr235b ?zr235z ?_; (case zr235F => k_asm); (case zr235N => k_asm); (case zr235U => k_updF); (case zr235b => k_mem); (case zr235z => first | assumption | omega)); intro _ _ _ zN'; (try dsimp only at zN'); (try k_sweep))
  k_with "mine enterC" => (refine' def_enterC ?zr236k1 ?zr236k2 ?zr236k3 ?zr236k4 ?zr236k5 ?zr236kA ?zr236kF ?zr236kK ?zr236k6 ?zr236k7 ?zr236k8 ?zr236k9 ?zr236kB ?zr236kD ?_ ?zr236c2 ?zr236c3 ?zr236c4; (case zr236kA => exact rfl); (case zr236kF => exact rfl); (case zr236kK => assumption); (case zr236k1 => k_asm); (case zr236k2 => k_asm); (case zr236k3 => k_asm); (case zr236k4 => k_asm); (case zr236k5 => k_asm); (case zr236k6 => k_is); (case zr236k7 => k_is); (case zr236k8 => ktr_room); (case zr236k9 => exact BindsTo.of_eq rfl); (case zr236kB => exact rfl); (case zr236kD => decide +kernel); (case zr236c2 => exact rfl); (case zr236c3 => exact rfl); (case zr236c4 => exact rfl); k_whole)
  k_with "subscriptTail Name Slice ref ref" => (k_here; (with_reducible show wpAny _ _ (subscriptTail _ (PySem.Expr.Slice none none (some _) _) (Value.ref _) (Value.ref _)) _ _ _); k_dflt (refine' slice_revs ?zr237F ?zr237N ?zr237l ?zr237z ?_ ?zr237s ?zr237t; (case zr237F => k_asm); (case zr237N => k_asm); (case zr237l => assumption); (case zr237z => omega); (case zr237s => with_unfolding_all rfl); (case zr237t => (intro _; with_unfolding_all rfl))); intro _ _ _ _ zl1; (try k_lt zl1); (try k_sweep))
  k_with "compareOp NotIn int ref" => (k_here; k_dflt (refine' notin_has ?zr238N ?zr238m ?zr238i ?zr238k ?_; (case zr238N => k_asm); (case zr238m => k_mem); (case zr238i => l_ints); (case zr238k => first | assumption | walk_at "mine has")))
  k_with "call builtin:list.index" => (k_here; (with_reducible show wpAny _ _ (call (Value.builtin _) [Value.ref _, Value.int _ _]) _ _ _); k_dflt (refine' index_has ?zr239N ?zr239m ?zr239i ?zr239k ?zr239z ?_; (case zr239N => k_asm); (case zr239m => k_mem); (case zr239i => l_ints); (case zr239k => first | assumption | walk_at "mine has"); (case zr239z => walk_at "mine bnd")))
  k_with "exec For Tuple Subscript cons nil" => (k_here; (rename Fr _ _ _ _ => zlF'); (with_unfolding_all refine' For_turns zlF' ?_; k_whole))
  k_with "pyIter ref" => ((with_reducible show wpAny _ _ (pyIter (Value.ref _)) (fun it s₂ => TurnsAt _ _ _ _ _ _ _ _ _ it s₂) _ _); refine stop_of ?_)
  k_with "ite" => first | (with_reducible refine c_ff ?_) | (with_reducible refine c_tt ?_) | (with_reducible refine ct_yes (by assumption) ?_) | (with_reducible refine ct_no (by assumption) ?_) | (with_reducible refine cb_yes (by assumption) ?_) | (with_reducible refine cb_no (by assumption) ?_) | (with_reducible refine cn_yes (by assumption) ?_) | (with_reducible refine cn_no (by assumption) ?_)
  k_with "subscriptTail Name Subscript ref int" => (k_here; (with_reducible show wpAny _ _ (subscriptTail _ _ (Value.ref _) (Value.int _ _)) _ _ _); k_dflt (refine' ksa_sub ?zr243k1 ?zr243k2 ?zr243k3 ?zr243k4 ?zr243k5 ?zr243k6 ?_ ?zr243k7; (case zr243k1 => k_asm); (case zr243k2 => k_mem); (case zr243k3 => l_ints); (case zr243k4 => walk_at "mine bnd"); (case zr243k5 => walk_at "mine bnd"); (case zr243k6 => walk_at "mine bnd"); (case zr243k7 => with_unfolding_all rfl); k_whole); intro _)
  k_with "call builtin:list.append" => (k_here; (with_reducible show wpAny _ _ (call (Value.builtin _) [Value.ref _, Value.int _ _]) _ _ _); k_dflt (refine' append_ints ?zr244k1 ?zr244k2 ?zr244k3 ?zr244i ?zr244z ?_; (case zr244k1 => k_asm); (case zr244k2 => k_asm); (case zr244k3 => k_updF); (case zr244i => l_ints); (case zr244z => walk_at "mine bnd")); intro _ _ zN' _; (try dsimp only at zN'); (try k_sweep))
  k_steps
  · unfold Stop
    rename_i D hA lF' lN' lD1
    with_unfolding_all refine iter_listTurns (by rfl) lF' lN' (List.Mem.head _) (by rfl) (by rfl) ?_
    intro I lI
    (try k_lt lI)
    refine rest_st (σ := List Value × List Int × Nat) (fun c => [(D, listOf tv.reverse.toArray 0), (l, listOf c.1.toArray c.2.2)]) (fun c => [(Str.ofString "row", .ref l)])
      (fun i c => IntsAre c.1 c.2.1 ∧ backN (es.reverse.drop i) c.2.1 = backN es.reverse hs ∧ BacksOk (es.reverse.drop i) c.2.1) (vs, hs, n) rfl (by walk_at "mine maps") ⟨hi, rfl, hok⟩ (fun c => rfl) ?off (fun c => ⟨by k_mem, trivial⟩) ?turn ?done
    case off => walk_at "mine off"
    case turn =>
      rintro i a ⟨vr, row, nr⟩ u ha ⟨hir, hbk, hbo⟩ v h tk hv F
      obtain ⟨hin, b, ⟨kind, item, out⟩, rfl, hdr, t1, t2, ov, hov, hTg⟩ := told_item htg ha
      have hv' : v = .ref b := hv
      subst hv'
      refine AllObj.cons (fun o1 hc1 => AllObj.nil (fun N' => ?_))
      have hT : IsTup h b #[.int kind t1, .int item t2, ov] := hTg.keeps F.keep
      rw [hdr] at hbk hbo
      obtain ⟨bok, hbo⟩ := hbo
      clear lF' lN'
      dsimp only [kstB] at F
      (try dsimp only at *); (try simp only [List.cons_append, List.nil_append] at N'); (try k_fold)
      have hvr : vr.length = row.length := hir.length
      by_cases hk0 : kind = 0
      · obtain ⟨hp1, hp2⟩ := bok.push hk0
        have hbl := bok.len
        clear hov
        dsimp only at hp1 hp2
        k_with "mine bnd" => first | exact wy_lo (by assumption) _ | exact wy_hi (by assumption) _ | exact wy_fit (by assumption) hbl _ | exact wy_hi2 (by assumption) (by assumption) _
        k_with "pyIter ref" => k_state_given ["way"] (fun way pre r => r.length = row.length ∧ shL way (way.length - 1 - pre.length) r = shL way (way.length - 1) row) "row"
        k_with "measure" => exact wy_meas (by assumption)
        k_with "state" => first | exact wy_start hp1 hp2 | exact wy_turn hp2 (by assumption) (by assumption) (by assumption) (by assumption) (by assumption) (by assumption) | exact wy_shift (by assumption) (by assumption) (by assumption) (by assumption)
        iterate 39 (try first | (k_unfold; (try dsimp only)) | walk1 | (dsimp only; walk1))
        walk1
        k_while (fun script way => 0 < way.length ∧ 0 ≤ lastI way ∧ (way.length : Int) + lastI way ≤ row.length ∧ (row.getD (lastI way).toNat 0 ≠ item → 0 < lastI way) ∧ (∀ k : Nat, 0 ≤ way.getD k 0 ∧ way.getD k 0 < row.length) ∧ way.dropLast ++ wayL row item (lastI way).toNat = wayL row item (row.length - 1)) (fun script way => (lastI way).toNat) "way"
        iterate 30 (try first | (k_unfold; (try dsimp only)) | walk1 | (dsimp only; walk1))
        all_goals try exact (wy_abs (by assumption) (by assumption) (by assumption)).elim
        iterate 85 (try first | (k_unfold; (try dsimp only)) | walk1 | (dsimp only; walk1))
        rotate_left
        iterate 18 (first | (k_unfold; (try dsimp only)) | walk1 | (dsimp only; walk1))
        dsimp only [InvPostN]
        kst_close
        have hbs := bs_p (out := out) hk0 (by assumption) (by assumption) (by assumption) (by assumption) (by assumption)
        exact lpost_next (_, _, _) (by assumption) (by assumption) (by k_subL) (by k_subL) (by walk_at "mine maps") ⟨by assumption, bk_to hbk hbs, bo_to hbo hbs⟩
      · k_with_none
        k_with "mine enter" => (refine' def_enter ?zr200k1 ?zr200k2 ?zr200k3 ?zr200k4 ?zr200k5 ?zr200kA ?zr200kF ?zr200kK ?zr200k6 ?zr200k7 ?zr200k8 ?zr200k9 ?zr200kB ?_ ?zr200c2 ?zr200c3 ?zr200c4 ?zr200c5; (case zr200kA => exact rfl); (case zr200kF => exact rfl); (case zr200kK => assumption); (case zr200k1 => k_asm); (case zr200k2 => k_asm); (case zr200k3 => k_asm); (case zr200k4 => k_asm); (case zr200k5 => k_asm); (case zr200k6 => k_is); (case zr200k7 => k_is); (case zr200k8 => ktr_room); (case zr200k9 => exact BindsTo.of_eq rfl); (case zr200c5 => decide); (case zr200kB => exact locs rfl); (case zr200c2 => exact rfl); (case zr200c3 => exact rfl); (case zr200c4 => exact rfl); k_whole)
        k_with "binaryOp RShift int int" => (k_here; (with_reducible refine PySem.wpAny_rshift1_int ?zr201kb1 ?_); (case zr201kb1 => omega))
        k_with "mine cj" => (with_reducible (rename @Ne Nat _ _ ∧ _ => zhcj)); have _ := zhcj.1; replace zhcj := zhcj.2
        k_with "mine go" => (repeat (first | walk_at "mine cj" | (k_unfold; (try dsimp only)) | walk_at "mine fold" | walk1 | (dsimp only; walk1)))
        k_with "mine fold" => ((with_reducible show wpAny _ _ (exec _ _) _ _ _); k_fold)
        k_with "mine go2" => (repeat (first | walk_at "mine cj" | (k_unfold; (try dsimp only)) | walk_at "mine fold" | walk_at "mine fold2" | walk1 | (dsimp only; walk1)))
        k_with "mine fold2" => ((fail_if_success (fail_if_success k_fold)); (with_reducible show wpAny _ _ _ (fun _ _ => wpAny _ _ _ _ _ _) _ _); k_fold)
        k_with "mine bnd" => first | with_reducible assumption | omega | ((try simp only [List.length_set, List.length_append, List.length_cons, List.length_nil, List.length_dropLast, sdN_length]); omega)
        k_with "mine ctx" => ((case zctxk1 => k_asm); (case zctxk2 => k_asm); (case zctxk3 => k_asm); (case zctxk4 => k_asm); (case zctxk5 => k_asm); (case zctxkK => first | exact rfl | assumption); (case zctxkU => k_updF); (case zctxkd => ktr_room); (case zctxku => ktr_units); (case zctxki => l_ints))
        k_with "call ref" => (k_here; (with_reducible show wpAny _ _ (call (Value.ref 77) _) _ _ _); k_dflt (refine' mut_use (sd_c _ _ _ _ _ _ ?zctxp1 ?zctxp2 ?zctxp3 ?zctxp4) ?zctxk1 ?zctxk2 ?zctxk3 ?zctxk4 ?zctxk5 ?zctxkK ?zctxkU ?zctxkd ?zctxku ?zctxki ?_; walk_at "mine ctx"; (case zctxp1 => walk_at "mine bnd"); (case zctxp2 => walk_at "mine bnd"); (case zctxp3 => walk_at "mine bnd"); (case zctxp4 => walk_at "mine bnd"); k_whole); intro _ _ _ _ _ _ _ zN' _ zho'; (have ze1 := zho'.1); (have ze2 := zho'.2); clear zho'; subst ze1; subst ze2; (try dsimp only at zN'); (try k_sweep))
        k_with "call ref" => (k_here; (with_reducible show wpAny _ _ (call (Value.ref 91) _) _ _ _); k_dflt (refine' mut_use (sdx_c _ _ _ _ _ _ ?zctxp1 ?zctxp2 ?zctxp3 ?zctxp4) ?zctxk1 ?zctxk2 ?zctxk3 ?zctxk4 ?zctxk5 ?zctxkK ?zctxkU ?zctxkd ?zctxku ?zctxki ?_; walk_at "mine ctx"; (case zctxp1 => walk_at "mine bnd"); (case zctxp2 => walk_at "mine bnd"); (case zctxp3 => walk_at "mine bnd"); (case zctxp4 => walk_at "mine bnd"); k_whole); intro _ _ _ _ _ _ _ zN' _ zho'; (have ze1 := zho'.1); (have ze2 := zho'.2); clear zho'; subst ze1; subst ze2; (try dsimp only at zN'); (try k_sweep))
        k_with "mine bnd" => first | with_reducible assumption | omega | ((try simp only [List.length_set, List.length_append, List.length_cons, List.length_nil, List.length_dropLast, sdN_length, suN_length]); omega)
        k_with "call ref" => (k_here; (with_reducible show wpAny _ _ (call (Value.ref 84) _) _ _ _); k_dflt (refine' mut_use (su_c _ _ _ _ _ ?zctxp1 ?zctxp2 ?zctxp3) ?zctxk1 ?zctxk2 ?zctxk3 ?zctxk4 ?zctxk5 ?zctxkK ?zctxkU ?zctxkd ?zctxku ?zctxki ?_; walk_at "mine ctx"; (case zctxp1 => walk_at "mine bnd"); (case zctxp2 => walk_at "mine bnd"); (case zctxp3 => walk_at "mine bnd"); k_whole); intro _ _ _ _ _ _ _ zN' _ zho'; (have ze1 := zho'.1); (have ze2 := zho'.2); clear zho'; subst ze1; subst ze2; (try dsimp only at zN'); (try k_sweep))
        k_with "call ref" => (k_here; (with_reducible show wpAny _ _ (call (Value.ref 98) _) _ _ _); k_dflt (refine' mut_use (sux_c _ _ _ _ _ ?zctxp1 ?zctxp2 ?zctxp3) ?zctxk1 ?zctxk2 ?zctxk3 ?zctxk4 ?zctxk5 ?zctxkK ?zctxkU ?zctxkd ?zctxku ?zctxki ?_; walk_at "mine ctx"; (case zctxp1 => walk_at "mine bnd"); (case zctxp2 => walk_at "mine bnd"); (case zctxp3 => walk_at "mine bnd"); k_whole); intro _ _ _ _ _ _ _ zN' _ zho'; (have ze1 := zho'.1); (have ze2 := zho'.2); clear zho'; subst ze1; subst ze2; (try dsimp only at zN'); (try k_sweep))
        k_with "mine bnd" => first | with_reducible assumption | omega | ((try simp only [List.length_set, List.length_append, List.length_cons, List.length_nil, List.length_dropLast, sdN_length, suN_length, liftN_length]); omega)
        k_with "setItem ref int" => (k_here; (with_reducible show wpAny _ _ (setItem (Value.ref _) (Value.int _ _) (Value.int _ _)) _ _ _); k_dflt (refine' ksa_set ?zr215k1 ?zr215k2 ?zr215k3 ?zr215k4 ?zr215k5 ?zr215k6 ?zr215k7 ?_; (case zr215k1 => k_asm); (case zr215k2 => k_asm); (case zr215k3 => k_upd); (case zr215k4 => l_ints); (case zr215k5 => walk_at "mine bnd"); (case zr215k6 => walk_at "mine bnd"); (case zr215k7 => walk_at "mine bnd"); k_whole); intro _ _ _ _ _ _; (try k_sweep))
        k_with "call ref" => (k_here; (with_reducible show wpAny _ _ (call (Value.ref 21) _) _ _ _); k_dflt (refine' mut_use (push_c _ _ _ _ _ ?zctxp1) ?zctxk1 ?zctxk2 ?zctxk3 ?zctxk4 ?zctxk5 ?zctxkK ?zctxkU ?zctxkd ?zctxku ?zctxki ?_; walk_at "mine ctx"; (case zctxp1 => walk_at "mine bnd"); k_whole); intro _ _ _ _ _ _ _ zN' _ zho'; (have ze1 := zho'.1); (have ze2 := zho'.2); clear zho'; subst ze1; subst ze2; (try dsimp only at zN'); (try k_sweep))
        k_with "call ref" => (k_here; (with_reducible show wpAny _ _ (call (Value.ref 28) _) _ _ _); k_dflt (refine' mut_use (pop_c _ _ _ _ ?zctxp1 ?zctxp2) ?zctxk1 ?zctxk2 ?zctxk3 ?zctxk4 ?zctxk5 ?zctxkK ?zctxkU ?zctxkd ?zctxku ?zctxki ?_; walk_at "mine ctx"; (case zctxp1 => walk_at "mine bnd"); (case zctxp2 => walk_at "mine bnd"); k_whole); intro _ _ _ _ _ _ _ zN' _ zho'; (obtain ⟨ze1, _, ze2⟩ := zho'); subst ze1; subst ze2; (try dsimp only at zN'); (try k_sweep))
        k_with "call ref" => (k_here; (with_reducible show wpAny _ _ (call (Value.ref 56) _) _ _ _); k_dflt (refine' mut_use (popx_c _ _ _ _ ?zctxp1 ?zctxp2) ?zctxk1 ?zctxk2 ?zctxk3 ?zctxk4 ?zctxk5 ?zctxkK ?zctxkU ?zctxkd ?zctxku ?zctxki ?_; walk_at "mine ctx"; (case zctxp1 => walk_at "mine bnd"); (case zctxp2 => walk_at "mine bnd"); k_whole); intro _ _ _ _ _ _ _ zN' _ zho'; (obtain ⟨ze1, _, ze2⟩ := zho'); subst ze1; subst ze2; (try dsimp only at zN'); (try k_sweep))
        k_with "call ref" => (k_here; (with_reducible show wpAny _ _ (call (Value.ref 35) _) _ _ _); k_dflt (refine' mut_use (repl_c _ _ _ _ _ ?zctxp1 ?zctxp2) ?zctxk1 ?zctxk2 ?zctxk3 ?zctxk4 ?zctxk5 ?zctxkK ?zctxkU ?zctxkd ?zctxku ?zctxki ?_; walk_at "mine ctx"; (case zctxp1 => walk_at "mine bnd"); (case zctxp2 => walk_at "mine bnd"); k_whole); intro _ _ _ _ _ _ _ zN' _ zho'; (obtain ⟨ze1, _, ze2⟩ := zho'); subst ze1; subst ze2; (try dsimp only at zN'); (try k_sweep))
        k_with "call ref" => (k_here; (with_reducible show wpAny _ _ (call (Value.ref 63) _) _ _ _); k_dflt (refine' mut_use (replx_c _ _ _ _ _ ?zctxp1 ?zctxp2) ?zctxk1 ?zctxk2 ?zctxk3 ?zctxk4 ?zctxk5 ?zctxkK ?zctxkU ?zctxkd ?zctxku ?zctxki ?_; walk_at "mine ctx"; (case zctxp1 => walk_at "mine bnd"); (case zctxp2 => walk_at "mine bnd"); k_whole); intro _ _ _ _ _ _ _ zN' _ zho'; (obtain ⟨ze1, _, ze2⟩ := zho'); subst ze1; subst ze2; (try dsimp only at zN'); (try k_sweep))
        k_with "call ref" => (k_here; (with_reducible show wpAny _ _ (call (Value.ref 42) _) _ _ _); k_dflt (refine' mut_use (pushpop_c _ _ _ _ _ ?zctxp1 ?zctxp2) ?zctxk1 ?zctxk2 ?zctxk3 ?zctxk4 ?zctxk5 ?zctxkK ?zctxkU ?zctxkd ?zctxku ?zctxki ?_; walk_at "mine ctx"; (case zctxp1 => walk_at "mine bnd"); (case zctxp2 => walk_at "mine bnd"); k_whole); intro _ _ _ _ _ _ _ zN' _ zho'; (obtain ⟨ze1, _, ze2⟩ := zho'); subst ze1; subst ze2; (try dsimp only at zN'); (try k_sweep))
        k_with "call ref" => (k_here; (with_reducible show wpAny _ _ (call (Value.ref 110) _) _ _ _); k_dflt (refine' mut_use (lift_c _ _ _ _ _ _ ?zctxp1 ?zctxp2 ?zctxp3 ?zctxp4 ?zctxp5) ?zctxk1 ?zctxk2 ?zctxk3 ?zctxk4 ?zctxk5 ?zctxkK ?zctxkU ?zctxkd ?zctxku ?zctxki ?_; walk_at "mine ctx"; (case zctxp1 => walk_at "mine bnd"); (case zctxp2 => walk_at "mine bnd"); (case zctxp3 => walk_at "mine bnd"); (case zctxp4 => walk_at "mine bnd"); (case zctxp5 => walk_at "mine bnd"); k_whole); intro _ _ _ _ _ _ _ zN' _ zho'; (have ze1 := zho'.1); (have ze2 := zho'.2); clear zho'; subst ze1; subst ze2; (try dsimp only at zN'); (try k_sweep))
        k_with "call ref" => (k_here; (with_reducible show wpAny _ _ (call (Value.ref 49) _) _ _ _); k_dflt (refine' mut_use (hpf_c _ _ _ _ ?zctxp1) ?zctxk1 ?zctxk2 ?zctxk3 ?zctxk4 ?zctxk5 ?zctxkK ?zctxkU ?zctxkd ?zctxku ?zctxki ?_; walk_at "mine ctx"; (case zctxp1 => walk_at "mine bnd"); k_whole); intro _ _ _ _ _ _ _ zN' _ zho'; (have ze1 := zho'.1); (have ze2 := zho'.2); clear zho'; subst ze1; subst ze2; (try dsimp only at zN'); (try k_sweep))
        k_with "call ref" => (k_here; (with_reducible show wpAny _ _ (call (Value.ref 70) _) _ _ _); k_dflt (refine' mut_use (hpfx_c _ _ _ _ ?zctxp1) ?zctxk1 ?zctxk2 ?zctxk3 ?zctxk4 ?zctxk5 ?zctxkK ?zctxkU ?zctxkd ?zctxku ?zctxki ?_; walk_at "mine ctx"; (case zctxp1 => walk_at "mine bnd"); k_whole); intro _ _ _ _ _ _ _ zN' _ zho'; (have ze1 := zho'.1); (have ze2 := zho'.2); clear zho'; subst ze1; subst ze2; (try dsimp only at zN'); (try k_sweep))
        k_with "call ref" => (k_here; (with_reducible show wpAny _ _ (call (Value.ref 124) _) _ _ _); k_dflt (refine' mut_use (lcall_c _ _ _ _ _ _ _ ?zctxp1 ?zctxp2) ?zctxk1 ?zctxk2 ?zctxk3 ?zctxk4 ?zctxk5 ?zctxkK ?zctxkU ?zctxkd ?zctxku ?zctxki ?_; walk_at "mine ctx"; (case zctxp1 => walk_at "mine bnd"); (case zctxp2 => walk_at "mine bnd"); k_whole); intro _ _ _ _ _ _ _ zN' _ zho'; (have ze1 := zho'.1); (have _ := zho'.2); clear zho'; subst ze1; (try dsimp only at zN'); (try k_sweep))
        k_with "call builtin:len" => (k_here; (with_reducible show wpAny _ _ (call (Value.builtin "len") [Value.ref _]) _ _ _); k_dflt (refine' len_ints ?zr226k1 ?zr226k2 ?zr226k3 ?zr226k4 ?_; (case zr226k1 => k_asm); (case zr226k2 => k_mem); (case zr226k3 => l_ints); (case zr226k4 => walk_at "mine bnd"); k_whole))
        k_with "truthy ref" => (k_here; (with_reducible show wpAny _ _ (truthy (Value.ref _)) _ _ _); k_dflt (refine' truthy_ints ?zr227k1 ?zr227k2 ?zr227k3 ?zr227k4 ?_; (case zr227k1 => k_asm); (case zr227k2 => k_mem); (case zr227k3 => l_ints); (case zr227k4 => walk_at "mine bnd")))
        k_with "mine end" => ((try dsimp only); (try (k_unfold; try dsimp only)))
        k_with "mine maps" => first | exact List.forall_mem_nil _ | (refine List.forall_mem_cons.mpr ⟨by rfl, ?_⟩; walk_at "mine maps")
        k_with "binaryOp FloorDiv int int" => (k_here; (with_reducible refine ediv_int ?zr230kb ?zr230kp ?_); (case zr230kb => decide); (case zr230kp => first | exact PyProof.noPylong_of_log2 (by decide +kernel) | exact PyProof.noPylong_small (by omega)))
        k_with "binaryOp Mod int int" => (k_here; (with_reducible refine emod_int ?zr231kb ?_); (case zr231kb => first | decide | omega))
        k_with "subscriptTail Name Slice ref ref" => (k_here; (with_reducible show wpAny _ _ (subscriptTail _ (PySem.Expr.Slice none none none _) (Value.ref _) (Value.ref _)) _ _ _); k_dflt (refine' slice_all ?zr232F ?zr232N ?zr232l ?zr232z ?_ ?zr232s ?zr232t; (case zr232F => k_asm); (case zr232N => k_asm); (case zr232l => k_mem); (case zr232z => omega); (case zr232s => with_unfolding_all rfl); (case zr232t => (intro _; with_unfolding_all rfl))); intro _ _ _ _ zl1; (try k_lt zl1); (try k_sweep))
        k_with "mine off" => ((simp only [List.forall_mem_cons, List.not_mem_nil, false_implies, implies_true, and_true]); (repeat' apply And.intro) <;> k_ne)
        k_with "call builtin:list.pop" => (k_here; (with_reducible show wpAny _ _ (call (Value.builtin _) [Value.ref _, Value.int _ _]) _ _ _); k_dflt (refine' pop_at ?zr234F ?zr234N ?zr234U ?zr234i ?zr234a ?zr234b ?zr234c ?_; (case zr234F => k_asm); (case zr234N => k_asm); (case zr234U => k_updF); (case zr234i => l_ints); (case zr234a => walk_at "mine bnd"); (case zr234b => walk_at "mine bnd"); (case zr234c => walk_at "mine bnd")); intro _ _ _ zN' _; (try dsimp only at zN'); (try k_sweep))
        k_with "inplaceOp Add ref" => (k_here; (with_reducible show wpAny _ _ (inplaceOp Operator.Add (Value.ref _) (Value.ref _)) _ _ _); k_dflt (refine' iadd_lists ?zr235F ?zr235N ?zr235U ?zr235b ?zr235z ?_; (case zr235F => k_asm); (case zr235N => k_asm); (case zr235U => k_updF); (case zr235b => k_mem); (case zr235z => first | assumption | omega)); intro _ _ _ zN'; (try dsimp only at zN'); (try k_sweep))
        k_with "mine enterC" => (refine' def_enterC ?zr236k1 ?zr236k2 ?zr236k3 ?zr236k4 ?zr236k5 ?zr236kA ?zr236kF ?zr236kK ?zr236k6 ?zr236k7 ?zr236k8 ?zr236k9 ?zr236kB ?zr236kD ?_ ?zr236c2 ?zr236c3 ?zr236c4; (case zr236kA => exact rfl); (case zr236kF => exact rfl); (case zr236kK => assumption); (case zr236k1 => k_asm); (case zr236k2 => k_asm); (case zr236k3 => k_asm); (case zr236k4 => k_asm); (case zr236k5 => k_asm); (case zr236k6 => k_is); (case zr236k7 => k_is); (case zr236k8 => ktr_room); (case zr236k9 => exact BindsTo.of_eq rfl); (case zr236kB => exact rfl); (case zr236kD => decide +kernel); (case zr236c2 => exact rfl); (case zr236c3 => exact rfl); (case zr236c4 => exact rfl); k_whole)
        k_with "subscriptTail Name Slice ref ref" => (k_here; (with_reducible show wpAny _ _ (subscriptTail _ (PySem.Expr.Slice none none (some _) _) (Value.ref _) (Value.ref _)) _ _ _); k_dflt (refine' slice_revs ?zr237F ?zr237N ?zr237l ?zr237z ?_ ?zr237s ?zr237t; (case zr237F => k_asm); (case zr237N => k_asm); (case zr237l => assumption); (case zr237z => omega); (case zr237s => with_unfolding_all rfl); (case zr237t => (intro _; with_unfolding_all rfl))); intro _ _ _ _ zl1; (try k_lt zl1); (try k_sweep))
        k_with "compareOp NotIn int ref" => (k_here; k_dflt (refine' notin_has ?zr238N ?zr238m ?zr238i ?zr238k ?_; (case zr238N => k_asm); (case zr238m => k_mem); (case zr238i => l_ints); (case zr238k => first | assumption | walk_at "mine has")))
        k_with "call builtin:list.index" => (k_here; (with_reducible show wpAny _ _ (call (Value.builtin _) [Value.ref _, Value.int _ _]) _ _ _); k_dflt (refine' index_has ?zr239N ?zr239m ?zr239i ?zr239k ?zr239z ?_; (case zr239N => k_asm); (case zr239m => k_mem); (case zr239i => l_ints); (case zr239k => first | assumption | walk_at "mine has"); (case zr239z => walk_at "mine bnd")))
        k_with "exec For Tuple Subscript cons nil" => (k_here; (rename Fr _ _ _ _ => zlF'); (with_unfolding_all refine' For_turns zlF' ?_; k_whole))
        k_with "pyIter ref" => ((with_reducible show wpAny _ _ (pyIter (Value.ref _)) (fun it s₂ => TurnsAt _ _ _ _ _ _ _ _ _ it s₂) _ _); refine stop_of ?_)
        k_with "ite" => first | (with_reducible refine c_ff ?_) | (with_reducible refine c_tt ?_) | (with_reducible refine ct_yes (by assumption) ?_) | (with_reducible refine ct_no (by assumption) ?_) | (with_reducible refine cb_yes (by assumption) ?_) | (with_reducible refine cb_no (by assumption) ?_) | (with_reducible refine cn_yes (by assumption) ?_) | (with_reducible refine cn_no (by assumption) ?_)
        k_with "subscriptTail Name Subscript ref int" => (k_here; (with_reducible show wpAny _ _ (subscriptTail _ _ (Value.ref _) (Value.int _ _)) _ _ _); k_dflt (refine' ksa_sub ?zr243k1 ?zr243k2 ?zr243k3 ?zr243k4 ?zr243k5 ?zr243k6 ?_ ?zr243k7; (case zr243k1 => k_asm); (case zr243k2 => k_mem); (case zr243k3 => l_ints); (case zr243k4 => walk_at "mine bnd"); (case zr243k5 => walk_at "mine bnd"); (case zr243k6 => walk_at "mine bnd"); (case zr243k7 => with_unfolding_all rfl); k_whole); intro _)
        k_with "call builtin:list.append" => (k_here; (with_reducible show wpAny _ _ (call (Value.builtin _) [Value.ref _, Value.int _ _]) _ _ _); k_dflt (refine' append_ints ?zr244k1 ?zr244k2 ?zr244k3 ?zr244i ?zr244z ?_; (case zr244k1 => k_asm); (case zr244k2 => k_asm); (case zr244k3 => k_updF); (case zr244i => l_ints); (case zr244z => walk_at "mine bnd")); intro _ _ zN' _; (try dsimp only at zN'); (try k_sweep))
        obtain ⟨o, hso, hin2⟩ := bok.pop hk0
        have hbl := bok.len
        dsimp only at hso hin2
        subst hso
        obtain ⟨t3, hov⟩ := hov
        subst hov
        by_cases hc2 : kind = 2
        · have hm := hin2 (Or.inl hc2)
          have hrl : 0 < row.length := List.length_pos_of_mem hm
          have hx := List.idxOf_lt_length_iff.mpr hm
          have hk1 : ¬ kind = 1 := by omega
          k_steps
          all_goals exact lpost_next (_, _, _) (by assumption) (by assumption) (by k_subL) (by k_subL) (by walk_at "mine maps") ⟨by assumption, bk_to hbk (bs_a hk0 hk1 (Or.inl hc2)), bo_to hbo (bs_a hk0 hk1 (Or.inl hc2))⟩
        · by_cases hc3 : o = item
          · by_cases hk1 : kind = 1
            · k_steps
              all_goals exact lpost_next (_, _, _) (by assumption) (by assumption) (by k_subL) (by k_subL) (by walk_at "mine maps") ⟨by assumption, bk_to hbk (bs_c hk1 hc2 hc3), bo_to hbo (bs_c hk1 hc2 hc3)⟩
            · k_steps
              all_goals exact lpost_next (_, _, _) (by assumption) (by assumption) (by k_subL) (by k_subL) (by walk_at "mine maps") ⟨by assumption, bk_to hbk (bs_d hk0 hk1 hc2 hc3), bo_to hbo (bs_d hk0 hk1 hc2 hc3)⟩
          · have hm := hin2 (Or.inr hc3)
            have hrl : 0 < row.length := List.length_pos_of_mem hm
            have hx := List.idxOf_lt_length_iff.mpr hm
            by_cases hk1 : kind = 1
            · k_steps
              all_goals exact lpost_next (_, _, _) (by assumption) (by assumption) (by k_subL) (by k_subL) (by walk_at "mine maps") ⟨by assumption, bk_to hbk (bs_b hk1 (Or.inr hc3)), bo_to hbo (bs_b hk1 (Or.inr hc3))⟩
            · k_steps
              all_goals exact lpost_next (_, _, _) (by assumption) (by assumption) (by k_subL) (by k_subL) (by walk_at "mine maps") ⟨by assumption, bk_to hbk (bs_a hk0 hk1 (Or.inr hc3)), bo_to hbo (bs_a hk0 hk1 (Or.inr hc3))⟩
    case done =>
      rintro ⟨vr, row, nr⟩ u h tk ⟨hir, hbk, hbo⟩ F N'
      have hz : es.reverse.drop (tv.reverse.map Itm.val).length = [] := by
        rw [List.length_map, List.length_reverse, htv, ← List.length_reverse]
        exact List.drop_length
      rw [hz] at hbk
      clear lF' lN'
      dsimp only [kstB] at F
      (try dsimp only at *)
      k_steps
      all_goals walk_at "mine end"
      all_goals exact hret _ _ _ _ _ _ (hupd_sub hg (by assumption) (by assumption) (by k_mem)) (by assumption) ⟨hbk, rfl⟩

def StepsPre (sl : Addr) (sv : List Value) (es : List (Int × Int)) (h : Heap) : Prop :=
  sv.length = es.length ∧ ∀ (i : Nat) (e : Int × Int), es[i]? = some e → ∃ (a : Addr) (t1 t2 : Tok), sv[i]? = some (Value.ref a) ∧ (a : Nat) ≠ sl ∧ IsTup h a #[.int e.1 t1, .int e.2 t2]
theorem steps_g {sl : Addr} {sv : List Value} {es : List (Int × Int)} {h g : Heap} (x : StepsPre sl sv es h) (hg : ∀ b o, b ≠ sl → h.get? b = some o → g.get? b = some o) : StepsPre sl sv es g := by
  obtain ⟨h2, h3⟩ := x
  refine ⟨h2, fun i e he => ?_⟩
  obtain ⟨a, t1, t2, q1, q4, o, q2, q3⟩ := h3 i e he
  exact ⟨a, t1, t2, q1, q4, o, hg _ _ q4 q2, q3⟩
theorem steps_item {sl : Addr} {sv : List Value} {es : List (Int × Int)} {g : Heap} (x : StepsPre sl sv es g) {i : Nat} {a : Itm} (h : (sv.map Itm.val)[i]? = some a) :
    i < es.length ∧ ∃ (b : Addr) (k num : Int) (t1 t2 : Tok), a = .val (.ref b) ∧ es[i]? = some (k, num) ∧ IsTup g b #[.int k t1, .int num t2] := by
  obtain ⟨h3, h4⟩ := x
  rw [List.getElem?_map] at h
  have hl : i < sv.length := by
    rcases Nat.lt_or_ge i sv.length with q | q
    · exact q
    · rw [List.getElem?_eq_none q] at h; cases h
  have hl2 : i < es.length := by omega
  obtain ⟨b, t1, t2, q1, _, q3⟩ := h4 i es[i] (List.getElem?_eq_getElem hl2)
  rw [q1] at h
  exact ⟨hl2, b, es[i].1, es[i].2, t1, t2, (Option.some.inj h).symm, List.getElem?_eq_getElem hl2, q3⟩
theorem hkeep_one {s : Shared} {l1 : Addr} {g h₀ h' : Heap} {L L' : Addr} {m : Str → Option Value} {o1 : Obj} {news : List (Addr × Obj)} (hg : ∀ b x, ¬ b ∈ List.map (fun x => x.fst) [(l1, o1)] → s.heap.get? b = some x → g.get? b = some x)
    (N₀ : News h₀ L s.heap [(l1, o1)]) (F : Fr g L' h' m) (N : News g L' h' news) (m1 : (l1, o1) ∈ news) : HKeep s.heap h' := by
  intro b x e
  by_cases e1 : b = l1
  · subst e1
    rw [(N₀ _ (.head _)).1] at e
    rw [(N _ m1).1]; exact e
  · exact F.keep b x (hg b x (by simp [e1]) e)
theorem rest_v {prog : Program} {w : World} {A : Around} {E : Value → Shared → Prop} {s : Shared} {env : Env} {h₀ : Heap} {target : PySem.Expr} {body : List Stmt} {Q : Flow → Shared → Prop} {σ : Type} {xs : List Itm} {ws : List (Addr × String)} {keep : List (Addr × Obj)} {m₀ : Str → Option Value} {news₀ : List (Addr × Obj)} (Led : σ → List (Addr × Obj)) (Ps : σ → List (Str × Value)) (P : Nat → σ → Prop) (c₀ : σ)
    (hled : news₀ = Led c₀) (hps : ∀ p ∈ Ps c₀, m₀ p.1 = some p.2) (h0 : P 0 c₀) (hoff : ∀ i c, P i c → ∀ p ∈ Led c, ∀ q ∈ ws, p.1 ≠ q.1) (hkeep : ∀ c, SubL keep (Led c))
    (turn : ∀ i a c (u : Str → Option Value), xs[i]? = some a → P i c → ∀ v h tk, a.Is v h → Fr h₀ env.locals h (kstB u (Ps c)) → AllObj ws (fun its => News h₀ env.locals h (its ++ Led c) →
      wpAny (model prog w) A (assign target env v) (fun _ s₂ => wpAny (model prog w) A (execs body env) (LPost h₀ env.locals { s with heap := h, toks := tk } its Led Ps P (i + 1) Q) E s₂) E { s with heap := h, toks := tk }))
    (done : ∀ c (u : Str → Option Value) h tk, P xs.length c → Fr h₀ env.locals h (kstB u (Ps c)) → News h₀ env.locals h (Led c) → Q .next { s with heap := h, toks := tk }) :
    ItemsRest prog w A E h₀ env target body Q s ws keep xs m₀ news₀ := by
  have fold : ∀ {h : Heap} {m : Str → Option Value} {c : σ}, (∀ p ∈ Ps c, m p.1 = some p.2) → Fr h₀ env.locals h m → Fr h₀ env.locals h (kstB m (Ps c)) := by
    intro h m c hp F
    have e : kstB m (Ps c) = m := by
      funext z
      exact kstB_eq hp fun _ => rfl
    rw [e]
    exact F
  refine rest_at (xs := xs) (fun i m news => ∃ c, news = Led c ∧ (∀ p ∈ Ps c, m p.1 = some p.2) ∧ P i c) ?_ ?_ _ 0 m₀ news₀ rfl (Nat.zero_le _) ⟨c₀, hled, hps, h0⟩
  · rintro i a m news ha ⟨c, rfl, hp, hP⟩ v h tk hv F
    refine AllObj.mono (fun its hits H N => ?_) (turn i a c m ha hP v h tk hv (fold hp F))
    refine wpAny_mono (H N) (fun _ s₂ h₂ => wpAny_mono h₂ (fun f s₃ p => ?_) fun _ _ e => e) fun _ _ e => e
    have up : (∃ (c : σ) (h' : Heap) (tk' : Nat) (m' : Str → Option Value) (all : List (Addr × Obj)), s₃ = { s with heap := h', toks := tk' } ∧ Fr h₀ env.locals h' m' ∧ News h₀ env.locals h' all ∧ SubL its all ∧ SubL (Led c) all ∧ (∀ p ∈ Ps c, m' p.1 = some p.2) ∧ P (i + 1) c) →
        UnrEndW h₀ env.locals { s with heap := h, toks := tk } its (fun m' n' => SubL keep n' ∧ ∃ c, n' = Led c ∧ (∀ p ∈ Ps c, m' p.1 = some p.2) ∧ P (i + 1) c) s₃ := by
      rintro ⟨c', h', tk', m', all, e, F', N', hi, hl, hp', hP'⟩
      refine ⟨h', tk', m', Led c', e, F', fun p hp => ?_, fun p hp q hq => ?_, hkeep c', c', rfl, hp', hP'⟩
      · rcases List.mem_append.mp hp with hp | hp
        · exact N' p (hi.mem p hp)
        · exact N' p (hl.mem p hp)
      · have h2 : q.1 ∈ ws.map (·.1) := by rw [← hits]; exact List.mem_map_of_mem hq
        obtain ⟨q', hq', e2⟩ := List.mem_map.mp h2
        rw [← e2]
        exact hoff (i + 1) c' hP' p hp q' hq'
    cases f with
    | ret v => exact p
    | brk => exact p
    | next => exact up p
    | cont => exact up p
  · rintro m news ⟨c, rfl, hp, hP⟩ h tk F N
    exact done c m h tk hP (fold hp F) N
structure TabJ (sg : Int) (heap start : List Int) (es : List (Int × Int)) (J : Nat → List Int → List Ent → Prop) : Prop where
  hl : heap.length < 2 ^ 19
  sl : start.length < 2 ^ 19
  el : es.length < 2 ^ 19
  heapify : hpfN (if sg < 0 then ltB else ltA) (start.length / 2) (start.map (sg * ·)) = heap.map (sg * ·)
  init : J 0 (heap.map (sg * ·)) []
  len : ∀ i row told, J i row told → told.length = i ∧ row.length < 2 ^ 19 ∧ (i < es.length → 1 ≤ row.length)
  step : ∀ i row told k num, J i row told → es[i]? = some (k, num) → ∀ kd item : Int, kd = (if sg < 0 then 1 + k % 2 else k) → item = (if kd = 1 then lastI row else sg * num) →
    J (i + 1) (callN (decide (sg < 0)) kd row item).1 (told ++ [(kd, item, (callN (decide (sg < 0)) kd row item).2)])
  ok : ∀ i row told e, J i row (told ++ [e]) → (∀ at' : Nat, 1 ≤ at' → at' < row.length → sg * row.getD ((at' - 1) / 2) 0 < sg * row.getD at' 0) ∧ (e.1 = 0 → e.2.2 = none) ∧ (e.1 ≠ 0 → ∃ o, e.2.2 = some o ∧ (e.1 ≠ 2 → ∀ x ∈ row, sg * o < sg * x))
  back : ∀ row told, J es.length row told → BacksOk told.reverse row ∧ backN told.reverse row = heap.map (sg * ·)
def TabC (w : World) (mean : ExcName → Option Value) (mg mb : Str → Option Value) (k : Nat) (f : Addr) (sg : Int) (heap start : List Int) (es : List (Int × Int)) : Prop :=
  ∀ (dp un : Nat) (gd : Option (List Code)) (cn : Str) (cs : Scope) (a : Addr) (ccd : Value) (cl : List (Str × Addr)) (outer : List Env) (A₀ : Around) (base h₀ : Heap) (L : Addr) (m : Str → Option Value) (s : Shared) (Q E : Value → Shared → Prop)
    (l1 l2 sl : Addr) (vs1 vs2 sv : List Value) (n1 n2 nt : Nat) (t : Tok),
    Below A₀ base outer h₀ → Fr h₀ L s.heap m → (hd.heap_39 w.params).In h₀ → TopM mean mg mb h₀ → cs.kind = .function →
    dp + k < recursionLimit → un + 8 * k < cLine → News h₀ L s.heap [(sl, listOf sv.toArray nt)] → (l1 : Nat) ≠ sl → (l2 : Nat) ≠ sl → IntsAre vs1 heap → IntsAre vs2 start → s.heap.get? l1 = some (listOf vs1.toArray n1) → s.heap.get? l2 = some (listOf vs2.toArray n2) → StepsPre sl sv es s.heap →
    (∀ h' tk', HKeep s.heap h' → Q (.bool true) { s with heap := h', toks := tk' }) →
    wpAny (model PR w) (ktrTop dp un gd cn cs L a ccd cl outer) (call (.ref f) [.ref l1, .ref l2, .ref sl, .int sg t]) Q E s
theorem eq_own {prog : Program} {w : World} {A : Around} {E : Value → Shared → Prop} {s : Shared} {h₀ : Heap} {L a b : Addr} {news : List (Addr × Obj)} {vs us : List Value} {n1 n2 : Nat} {ns ms : List Int} {Q : Value → Shared → Prop} (N : News h₀ L s.heap news) (ha : (a, listOf vs.toArray n1) ∈ news) (hb : (b, listOf us.toArray n2) ∈ news) (hi : IntsAre vs ns) (hj : IntsAre us ms) (hu : A.units + 64 < cLine) (e : ns = ms)
    (h : Q (.bool true) s) : wpAny (model prog w) A (compareOp .Eq (.ref a) (.ref b)) Q E s :=
  eq_intsK (PySem.IsL.isList (n := n1) (N _ ha).1) hi (PySem.IsL.isList (n := n2) (N _ hb).1) hj hu (by rw [decide_eq_true e]; exact h)
def ToldIs (tv : List Value) (told : List Ent) (T : List (Addr × Obj)) : Prop :=
  tv.length = told.length ∧ ∀ (i : Nat) (e : Ent), told[i]? = some e → ∃ (a : Addr) (ob : Obj) (t1 t2 : Tok) (ov : Value) (k : Nat), tv[i]? = some (Value.ref a) ∧ (a, ob) ∈ T ∧ ob = ({ cls := .type "tuple", data := .seq #[.int e.1 t1, .int e.2.1 t2, ov] k } : Obj) ∧ OV e.2.2 ov
theorem toldIs_nil : ToldIs [] [] [] := ⟨rfl, fun i e h => by simp at h⟩
theorem toldIs_snoc {tv : List Value} {told : List Ent} {T : List (Addr × Obj)} (x : ToldIs tv told T) (a : Addr) (k item : Int) (out : Option Int) (t1 t2 : Tok) (ov : Value) (n : Nat) (h : OV out ov) :
    ToldIs (tv ++ [.ref a]) (told ++ [(k, item, out)]) ((a, ({ cls := .type "tuple", data := .seq #[.int k t1, .int item t2, ov] n } : Obj)) :: T) := by
  obtain ⟨h1, h2⟩ := x
  refine ⟨by rw [List.length_append, List.length_append, h1]; rfl, fun i e he => ?_⟩
  rcases Nat.lt_or_ge i told.length with q | q
  · rw [List.getElem?_append_left q] at he
    obtain ⟨b, ob, u1, u2, v, n', r1, r2, r3⟩ := h2 i e he
    exact ⟨b, ob, u1, u2, v, n', by rw [List.getElem?_append_left (by omega)]; exact r1, .tail _ r2, r3⟩
  · have e2 : i = told.length := by
      rcases Nat.lt_or_ge told.length i with z | z
      · rw [List.getElem?_eq_none (by rw [List.length_append]; simp; omega)] at he; cases he
      · omega
    subst e2
    rw [List.getElem?_append_right (Nat.le_refl _), Nat.sub_self] at he
    have he' : (k, item, out) = e := Option.some.inj he
    subst he'
    refine ⟨a, _, t1, t2, ov, n, ?_, .head _, rfl, h⟩
    rw [List.getElem?_append_right (by omega), h1, Nat.sub_self]
    rfl
theorem bools_snoc : ∀ {ys : List Value} {bs : List Bool}, LSm.BoolsAre ys bs → LSm.BoolsAre (ys ++ [.bool true]) (bs ++ [true])
  | _, _, .nil => .cons true .nil
  | _, _, .cons b r => .cons b (bools_snoc r)
theorem offs_nil (l : List Addr) : OwnOff [] l := fun p hp => by cases hp
theorem ints_at {vs : List Value} {ns : List Int} {i : Nat} {v : Value} (hi : IntsAre vs ns) (h : vs.toArray[i]? = some v) : ∃ k t, k ∈ ns ∧ v = .int k t := by
  obtain ⟨k, t, e, hk⟩ := IntsAre.at hi i v (by simpa using h)
  exact ⟨k, t, List.mem_of_getElem? hk, e⟩
theorem bool_lt {a b : Int} (h : a < b) : Value.bool (decide (a < b)) = Value.bool true := by rw [decide_eq_true h]
theorem comp_trues {prog : Program} {w : World} {A : Around} {s : Shared} {h₀ : Heap} {L : Addr} {m : Str → Option Value} {env : Env} {elt : PySem.Expr} {x : Str} {scope : Scope} {cl : List (Str × Addr)} {S : List (Addr × Obj) → Prop} {P : Nat → Value → Prop} {Fin : List Value → List (Addr × Obj) → Prop} {news : List (Addr × Obj)} {n : Nat}
    (turn : ∀ i v I oI C oC D m₂ ys h tk (E' : Value → Shared → Prop), i < n → P i v → LCg.NsObj oC m₂ → m₂ x = some v → Fr h₀ L h m → News h₀ L h ((I, oI) :: (C, oC) :: (D, LCg.lst ys) :: news) → LCg.Off3 I C D news → ((@Ne Nat I C) ∧ (@Ne Nat I D) ∧ (@Ne Nat C D)) →
      wpAny (model prog w) A (eval elt (compEnvC scope cl C env)) (LCg.CompEnd h₀ L m { s with heap := h, toks := tk } I oI C oC D (LCg.lst ys) S (fun y news' => news' = news ∧ y = .bool true)) E' { s with heap := h, toks := tk })
    (fin : ∀ ys, LSm.BoolsAre ys (List.replicate n true) → Fin ys news) : LCg.CompRest prog w A h₀ L m env elt x scope cl s S P Fin n 0 [] news := by
  have key : ∀ (j i : Nat) (ys : List Value), i + j = n → LSm.BoolsAre ys (List.replicate i true) → LCg.CompRest prog w A h₀ L m env elt x scope cl s S P Fin j i ys news := by
    intro j
    induction j with
    | zero =>
      intro i ys hi hy
      have e : i = n := by omega
      subst e
      exact LCg.CompRest.zero (fin ys hy)
    | succ j ih =>
      intro i ys hi hy
      refine LCg.CompRest.succ ?_
      intro v I oI C oC D m₂ h tk E' hv hC hx F N off ne
      refine wpAny_mono (turn i v I oI C oC D m₂ ys h tk E' (by omega) hv hC hx F N off ne) (fun y s₂ hq => ?_) fun _ _ e => e
      obtain ⟨h', tk', nw, e, F', N', off', hS, hn, hy'⟩ := hq
      rw [hn] at N' off' hS
      refine ⟨h', tk', news, e, F', N', off', hS, ?_⟩
      rw [hy']
      refine ih (i + 1) _ (by omega) ?_
      rw [List.replicate_succ']
      exact bools_snoc hy
  exact key n 0 [] (by omega) .nil
theorem comp_truesL {prog : Program} {w : World} {A : Around} {s : Shared} {h₀ : Heap} {L : Addr} {m : Str → Option Value} {env : Env} {elt : PySem.Expr} {x : Str} {scope : Scope} {cl : List (Str × Addr)} {S : List (Addr × Obj) → Prop} {Fin : List Value → List (Addr × Obj) → Prop} {news : List (Addr × Obj)} {vs : List Value} {ns : List Int} (hi : IntsAre vs ns)
    (turn : ∀ k t I oI C oC D m₂ ys h tk (E' : Value → Shared → Prop), k ∈ ns → LCg.NsObj oC m₂ → m₂ x = some (.int k t) → Fr h₀ L h m → News h₀ L h ((I, oI) :: (C, oC) :: (D, LCg.lst ys) :: news) → LCg.Off3 I C D news → ((@Ne Nat I C) ∧ (@Ne Nat I D) ∧ (@Ne Nat C D)) →
      wpAny (model prog w) A (eval elt (compEnvC scope cl C env)) (LCg.CompEnd h₀ L m { s with heap := h, toks := tk } I oI C oC D (LCg.lst ys) S (fun y news' => news' = news ∧ y = .bool true)) E' { s with heap := h, toks := tk })
    (fin : ∀ ys, LSm.BoolsAre ys (List.replicate vs.toArray.size true) → Fin ys news) : LCg.CompRest prog w A h₀ L m env elt x scope cl s S (fun i v => vs.toArray[i]? = some v) Fin vs.toArray.size 0 [] news :=
  comp_trues (fun i v I oI C oC D m₂ ys h tk E' _ hv hC hx F N off ne => by
    obtain ⟨k, t, hk, e⟩ := ints_at hi hv
    subst e
    exact turn k t I oI C oC D m₂ ys h tk E' hk hC hx F N off ne) fin
theorem comp_truesR {prog : Program} {w : World} {A : Around} {s : Shared} {h₀ : Heap} {L : Addr} {m : Str → Option Value} {env : Env} {elt : PySem.Expr} {x : Str} {scope : Scope} {cl : List (Str × Addr)} {S : List (Addr × Obj) → Prop} {Fin : List Value → List (Addr × Obj) → Prop} {news : List (Addr × Obj)} {a : Int} {n : Nat}
    (turn : ∀ i t I oI C oC D m₂ ys h tk (E' : Value → Shared → Prop), i < n → LCg.NsObj oC m₂ → m₂ x = some (.int (a + (i : Int)) t) → Fr h₀ L h m → News h₀ L h ((I, oI) :: (C, oC) :: (D, LCg.lst ys) :: news) → LCg.Off3 I C D news → ((@Ne Nat I C) ∧ (@Ne Nat I D) ∧ (@Ne Nat C D)) →
      wpAny (model prog w) A (eval elt (compEnvC scope cl C env)) (LCg.CompEnd h₀ L m { s with heap := h, toks := tk } I oI C oC D (LCg.lst ys) S (fun y news' => news' = news ∧ y = .bool true)) E' { s with heap := h, toks := tk })
    (fin : ∀ ys, LSm.BoolsAre ys (List.replicate n true) → Fin ys news) : LCg.CompRest prog w A h₀ L m env elt x scope cl s S (fun i v => ∃ t, v = .int (a + (i : Int)) t) Fin n 0 [] news :=
  comp_trues (fun i v I oI C oC D m₂ ys h tk E' hin hv hC hx F N off ne => by
    obtain ⟨t, e⟩ := hv
    subst e
    exact turn i t I oI C oC D m₂ ys h tk E' hin hC hx F N off ne) fin
theorem all_trues {prog : Program} {w : World} {A : Around} {E : Value → Shared → Prop} {s : Shared} {h₀ : Heap} {L l : Addr} {m : Str → Option Value} {news : List (Addr × Obj)} {vs : List Value} {n k : Nat} {Q : Value → Shared → Prop} (F : Fr h₀ L s.heap m) (N : News h₀ L s.heap news) (hh : A.handled = none) (hm : (l, listOf vs.toArray k) ∈ news) (hb : LSm.BoolsAre vs (List.replicate n true))
    (h : ∀ h' tk, Fr h₀ L h' m → News h₀ L h' news → Q (.bool true) { s with heap := h', toks := tk }) : wpAny (model prog w) A (call (.builtin "all") [.ref l]) Q E s := by
  refine LSm.all_bools F N hh (PySem.IsL.isList (n := k) (N _ hm).1) hb fun h' tk F' N' => ?_
  have e : (List.replicate n true).all id = true := by
    rw [List.all_eq_true]
    intro b hb
    rw [List.eq_of_mem_replicate hb]
    rfl
  rw [e]
  exact h h' tk F' N'
theorem lt_at {sg : Int} {row : List Int} {i n : Nat} (h : ∀ at' : Nat, 1 ≤ at' → at' < row.length → sg * row.getD ((at' - 1) / 2) 0 < sg * row.getD at' 0) (hi : i < n) (hn : n = ((row.length : Int) - 1).toNat) : sg * row.getD ((1 + (i : Int) - 1) / 2).toNat 0 < sg * row.getD (1 + (i : Int)).toNat 0 := by
  have q := h (i + 1) (by omega) (by omega)
  have e1 : ((1 + (i : Int) - 1) / 2).toNat = (i + 1 - 1) / 2 := by omega
  have e2 : (1 + (i : Int)).toNat = i + 1 := by omega
  rw [e1, e2]
  exact q
theorem tab_turn {sg : Int} {heap start : List Int} {es : List (Int × Int)} {J : Nat → List Int → List Ent → Prop} (hJ : TabJ sg heap start es J) {i : Nat} {row : List Int} {told : List Ent} {k num kd item : Int} {v : Value} (hj : J i row told) (hek : es[i]? = some (k, num))
    (h1 : kd = (if sg < 0 then 1 + k % 2 else k)) (h2 : item = (if kd = 1 then lastI row else sg * num)) (e : OV (callN (decide (sg < 0)) kd row item).2 v) :
    J (i + 1) (callN (decide (sg < 0)) kd row item).1 (told ++ [(kd, item, (callN (decide (sg < 0)) kd row item).2)]) ∧ (callN (decide (sg < 0)) kd row item).1.length < 2 ^ 19 ∧
    (∀ at' : Nat, 1 ≤ at' → at' < (callN (decide (sg < 0)) kd row item).1.length → sg * (callN (decide (sg < 0)) kd row item).1.getD ((at' - 1) / 2) 0 < sg * (callN (decide (sg < 0)) kd row item).1.getD at' 0) ∧
    (¬ kd = 0 → ∃ o t, OV (callN (decide (sg < 0)) kd row item).2 (.int o t) ∧ v = .int o t ∧ (¬ kd = 2 → ∀ x ∈ (callN (decide (sg < 0)) kd row item).1, sg * o < sg * x)) ∧ (kd = 0 → v = .none) := by
  have a := hJ.step i row told k num hj hek kd item h1 h2
  have b := hJ.ok _ _ _ _ a
  dsimp only at b
  refine ⟨a, (hJ.len _ _ _ a).2.1, b.1, fun h => ?_, fun h => ?_⟩
  · obtain ⟨o, q1, q2⟩ := b.2.2 h
    have e' := e
    rw [q1] at e
    obtain ⟨t, e⟩ := e
    subst e
    exact ⟨o, t, e', rfl, q2⟩
  · rw [b.2.1 h] at e
    exact e
theorem ov_is {r o : Option Int} {v : Value} (e : OV r v) (h : r = o) : OV o v := h ▸ e
abbrev TabS := (List Value × List Int × Nat) × (List Value × List Ent × Nat × List (Addr × Obj)) × Obj
theorem lpost_tab {g h' : Heap} {L' I tl DR D0 c3 c2 c1 sl Dt : Addr} {m' : Str → Option Value} {s₁ : Shared} {o1 oO' oR oS : Obj} {ys0 sv tv vs' : List Value} {n1 n2 nt nk tk i : Nat} {row' : List Int} {told : List Ent} {T : List (Addr × Obj)} {J : Nat → List Int → List Ent → Prop} {Q : Flow → Shared → Prop} {k item : Int} {out : Option Int} {t1 t2 : Tok} {ov : Value} {x : Option Value}
    (F : Fr g L' h' m') (N : News g L' h' ((Dt, ({ cls := .type "tuple", data := .seq #[.int k t1, .int item t2, ov] nk } : Obj)) :: (I, o1) :: (tl, listOf (tv ++ [Value.ref Dt]).toArray n1) :: (DR, listOf vs'.toArray n2) :: (D0, LCg.lst ys0) :: (c3, oO') :: (c2, oR) :: (c1, oS) :: (sl, listOf sv.toArray nt) :: T))
    (hm1 : m' (Str.ofString "drawn") = some (Value.ref D0)) (hm2 : m' (Str.ofString "fair") = some (Value.bool true)) (hm3 : m' (Str.ofString "told") = some (Value.ref tl))
    (hi : IntsAre vs' row') (hj : J (i + 1) row' (told ++ [(k, item, out)])) (hto : ToldIs tv told T) (ho : OwnOff T [I, tl, DR, D0, c3, c2, c1, sl]) (hov : OV out ov) (hx : oO'.data = .cell x)
    (a1 : I < Dt) (a2 : tl < Dt) (a3 : DR < Dt) (a4 : D0 < Dt) (a5 : c3 < Dt) (a6 : c2 < Dt) (a7 : c1 < Dt) (a8 : sl < Dt) :
    LPost (σ := TabS) g L' s₁ [(I, o1)] (fun c => (tl, listOf c.2.1.1.toArray c.2.1.2.2.1) :: (DR, listOf c.1.1.toArray c.1.2.2) :: (D0, LCg.lst ys0) :: (c3, c.2.2) :: (c2, oR) :: (c1, oS) :: (sl, listOf sv.toArray nt) :: c.2.1.2.2.2)
      (fun c => [(Str.ofString "drawn", Value.ref D0), (Str.ofString "fair", Value.bool true), (Str.ofString "told", Value.ref tl)])
      (fun i c => IntsAre c.1.1 c.1.2.1 ∧ J i c.1.2.1 c.2.1.2.1 ∧ ToldIs c.2.1.1 c.2.1.2.1 c.2.1.2.2.2 ∧ OwnOff c.2.1.2.2.2 [I, tl, DR, D0, c3, c2, c1, sl] ∧ ∃ x, c.2.2.data = .cell x) (i + 1) Q .next { s₁ with heap := h', toks := tk } := by
  refine lpost_next ((vs', row', n2), (tv ++ [Value.ref Dt], told ++ [(k, item, out)], n1, (Dt, ({ cls := .type "tuple", data := .seq #[.int k t1, .int item t2, ov] nk } : Obj)) :: T), oO') F N ⟨by k_mem, trivial⟩ ?_ ?_ ⟨hi, hj, toldIs_snoc hto Dt k item out t1 t2 ov nk hov, ?_, ⟨_, hx⟩⟩
  · refine ⟨by k_mem, by k_mem, by k_mem, by k_mem, by k_mem, by k_mem, by k_mem, by k_mem, subL_of fun p hp => ?_⟩
    exact .tail _ (.tail _ (.tail _ (.tail _ (.tail _ (.tail _ (.tail _ (.tail _ (.tail _ hp))))))))
  · exact List.forall_mem_cons.mpr ⟨hm1, List.forall_mem_cons.mpr ⟨hm2, List.forall_mem_cons.mpr ⟨hm3, List.forall_mem_nil _⟩⟩⟩
  · intro p hp b hb
    rcases List.mem_cons.mp hp with rfl | hp
    · simp only [List.mem_cons, List.not_mem_nil, or_false] at hb
      refine Ne.symm (Nat.ne_of_lt (?_ : b < Dt))
      rcases hb with rfl | rfl | rfl | rfl | rfl | rfl | rfl | rfl <;> assumption
    · exact ho p hp b hb
theorem news_tail {g h : Heap} {L : Addr} {p : Addr × Obj} {r : List (Addr × Obj)} (N : News g L h (p :: r)) : News g L h r := fun q hq => N q (.tail _ hq)
theorem mutp_use {w : World} {mean : ExcName → Option Value} {mg mb : Str → Option Value} {k : Nat} {f : Addr} {args : Addr → List Value} {hs : List Int} {Pre : Heap → Addr → Prop} {Out : Addr → List Int → Value → Prop}
    {dp un : Nat} {gd : Option (List Code)} {cn : Str} {cs : Scope} {a : Addr} {ccd : Value} {cl : List (Str × Addr)} {outer : List Env} {A₀ : Around} {base h₀ : Heap} {L : Addr} {m : Str → Option Value} {s : Shared} {Q E : Value → Shared → Prop}
    {l : Addr} {vs : List Value} {n : Nat} {news : List (Addr × Obj)} {G : Obj → List (Addr × Obj)} (C : MutP w mean mg mb k f args hs Pre Out)
    (B : Below A₀ base outer h₀) (F : Fr h₀ L s.heap m) (X : (hd.heap_39 w.params).In h₀) (N : News h₀ L s.heap news) (T : TopM mean mg mb h₀) (hk : cs.kind = .function) (U : UpdF l (listOf vs.toArray n) news G)
    (hd : dp + k < recursionLimit) (hu : un + 8 * k < cLine) (hi : IntsAre vs hs) (hp : Pre s.heap l)
    (ret : ∀ h' tk' vs' hs' n' v, Fr h₀ L h' m → News h₀ L h' (G (listOf vs'.toArray n')) → IntsAre vs' hs' → Out l hs' v → Q v { s with heap := h', toks := tk' }) :
    wpAny (model PR w) (ktrTop dp un gd cn cs L a ccd cl outer) (call (.ref f) (args l)) Q E s := by
  have z : News h₀ L s.heap [(l, listOf vs.toArray n)] := by
    obtain ⟨pre, post, rfl, hG, a, b⟩ := U.split
    intro p hp
    rw [List.mem_singleton.mp hp]
    exact N _ (List.mem_append.mpr (.inr (.head _)))
  have zz := z _ (.head _)
  exact C _ _ _ _ _ _ _ _ _ _ _ _ _ _ _ _ _ _ _ _ B F X z T hk hd hu hi hp fun h' tk' vs' hs' n' v H hi' ho => ret h' tk' vs' hs' n' v (hupd_fr F zz.2.1 zz.2.2 H) (hupd_news N U H) hi' ho
theorem told_pre {g h : Heap} {L tl DR : Addr} {tv : List Value} {nt : Nat} {told : List Ent} {T all : List (Addr × Obj)} {adr : List Addr} (N : News g L h all) (hm : (tl, listOf tv.toArray nt) ∈ all) (hT : ∀ p ∈ T, p ∈ all) (hto : ToldIs tv told T) (ho : OwnOff T adr) (hd : DR ∈ adr) (hne : (tl : Nat) ≠ DR) : ToldPre tl tv nt told h DR := by
  refine ⟨(N _ hm).1, hne, hto.1, fun i e he => ?_⟩
  obtain ⟨a, ob, t1, t2, ov, k, q1, q2, q3, q4⟩ := hto.2 i e he
  subst q3
  exact ⟨a, q1, ho _ q2 _ hd, t1, t2, ov, q4, _, (N _ (hT _ q2)).1, rfl, k, rfl⟩
/-- a mark: at the next test by == the walk is to stop -/
def JMark (_ : Nat) : Prop := True
theorem jmark (n : Nat) : JMark n := trivial
inductive JInt (x : Int) (s : Shared) : Value → Shared → Prop where
  | mk (u : Tok) (tk : Nat) : JInt x s (.int x u) { s with toks := tk }
theorem JInt.of {x y : Int} (e : x = y) (s : Shared) (u : Tok) (tk : Nat) : JInt x s (.int y u) { s with toks := tk } := e ▸ .mk u tk
theorem join_int {prog : Program} {w : World} {A : Around} {tr : Sem Value} {E : Value → Shared → Prop} {s : Shared} {Q : Value → Shared → Prop} (x : Int) (h1 : wpAny (model prog w) A tr (JInt x s) E s) (h2 : ∀ u tk, Q (.int x u) { s with toks := tk }) : wpAny (model prog w) A tr Q E s :=
  wpAny_mono h1 (fun v s' h => by cases h with | mk u tk => exact h2 u tk) fun _ _ e => e
theorem ltab_c (w : World) (mean : ExcName → Option Value) (mg mb : Str → Option Value) {sg : Int} {heap start : List Int} {es : List (Int × Int)} {J : Nat → List Int → List Ent → Prop} (hsg : sg = 1) (hJ : TabJ sg heap start es J) :
    TabC w mean mg mb 20 136 sg heap start es := by
  unfold TabC
  intro dp un gd cn cs a ccd cl outer A₀ base h₀ L m s Q E l1 l2 sl vs1 vs2 sv n1 n2 nt t B F X T hk hd hu N hn1 hn2 hi1 hi2 hl1 hl2 hst hret
  w_top off
  k_with_none
  k_with "mine enter" => (refine' def_enter ?zr245k1 ?zr245k2 ?zr245k3 ?zr245k4 ?zr245k5 ?zr245kA ?zr245kF ?zr245kK ?zr245k6 ?zr245k7 ?zr245k8 ?zr245k9 ?zr245kB ?_ ?zr245c2 ?zr245c3 ?zr245c4 ?zr245c5; (case zr245kA => exact rfl); (case zr245kF => exact rfl); (case zr245kK => assumption); (case zr245k1 => k_asm); (case zr245k2 => k_asm); (case zr245k3 => k_asm); (case zr245k4 => k_asm); (case zr245k5 => k_asm); (case zr245k6 => k_is); (case zr245k7 => k_is); (case zr245k8 => ktr_room); (case zr245k9 => exact BindsTo.of_eq rfl); (case zr245c5 => decide); (case zr245kB => exact locs rfl); (case zr245c2 => exact rfl); (case zr245c3 => exact rfl); (case zr245c4 => exact rfl); k_whole)
  k_with "binaryOp RShift int int" => (k_here; (with_reducible refine PySem.wpAny_rshift1_int ?zr246kb1 ?_); (case zr246kb1 => omega))
  k_with "mine cj" => (with_reducible (rename @Ne Nat _ _ ∧ _ => zhcj)); have _ := zhcj.1; replace zhcj := zhcj.2
  k_with "mine go" => (repeat (first | walk_at "mine cj" | (k_unfold; (try dsimp only)) | walk_at "mine fold" | walk1 | (dsimp only; walk1)))
  k_with "mine fold" => ((with_reducible show wpAny _ _ (exec _ _) _ _ _); k_fold)
  k_with "mine go2" => (repeat (first | walk_at "mine cj" | (k_unfold; (try dsimp only)) | walk_at "mine fold" | walk_at "mine fold2" | walk1 | (dsimp only; walk1)))
  k_with "mine fold2" => ((fail_if_success (fail_if_success k_fold)); (with_reducible show wpAny _ _ _ (fun _ _ => wpAny _ _ _ _ _ _) _ _); k_fold)
  k_with "mine bnd" => first | with_reducible assumption | omega | ((try simp only [List.length_set, List.length_append, List.length_cons, List.length_nil, List.length_dropLast, sdN_length]); omega)
  k_with "mine ctx" => ((case zctxk1 => k_asm); (case zctxk2 => k_asm); (case zctxk3 => k_asm); (case zctxk4 => k_asm); (case zctxk5 => k_asm); (case zctxkK => first | exact rfl | assumption); (case zctxkU => k_updF); (case zctxkd => ktr_room); (case zctxku => ktr_units); (case zctxki => l_ints))
  k_with "call ref" => (k_here; (with_reducible show wpAny _ _ (call (Value.ref 77) _) _ _ _); k_dflt (refine' mut_use (sd_c _ _ _ _ _ _ ?zctxp1 ?zctxp2 ?zctxp3 ?zctxp4) ?zctxk1 ?zctxk2 ?zctxk3 ?zctxk4 ?zctxk5 ?zctxkK ?zctxkU ?zctxkd ?zctxku ?zctxki ?_; walk_at "mine ctx"; (case zctxp1 => walk_at "mine bnd"); (case zctxp2 => walk_at "mine bnd"); (case zctxp3 => walk_at "mine bnd"); (case zctxp4 => walk_at "mine bnd"); k_whole); intro _ _ _ _ _ _ _ zN' _ zho'; (have ze1 := zho'.1); (have ze2 := zho'.2); clear zho'; subst ze1; subst ze2; (try dsimp only at zN'); (try k_sweep))
  k_with "call ref" => (k_here; (with_reducible show wpAny _ _ (call (Value.ref 91) _) _ _ _); k_dflt (refine' mut_use (sdx_c _ _ _ _ _ _ ?zctxp1 ?zctxp2 ?zctxp3 ?zctxp4) ?zctxk1 ?zctxk2 ?zctxk3 ?zctxk4 ?zctxk5 ?zctxkK ?zctxkU ?zctxkd ?zctxku ?zctxki ?_; walk_at "mine ctx"; (case zctxp1 => walk_at "mine bnd"); (case zctxp2 => walk_at "mine bnd"); (case zctxp3 => walk_at "mine bnd"); (case zctxp4 => walk_at "mine bnd"); k_whole); intro _ _ _ _ _ _ _ zN' _ zho'; (have ze1 := zho'.1); (have ze2 := zho'.2); clear zho'; subst ze1; subst ze2; (try dsimp only at zN'); (try k_sweep))
  k_with "mine bnd" => first | with_reducible assumption | omega | ((try simp only [List.length_set, List.length_append, List.length_cons, List.length_nil, List.length_dropLast, sdN_length, suN_length]); omega)
  k_with "call ref" => (k_here; (with_reducible show wpAny _ _ (call (Value.ref 84) _) _ _ _); k_dflt (refine' mut_use (su_c _ _ _ _ _ ?zctxp1 ?zctxp2 ?zctxp3) ?zctxk1 ?zctxk2 ?zctxk3 ?zctxk4 ?zctxk5 ?zctxkK ?zctxkU ?zctxkd ?zctxku ?zctxki ?_; walk_at "mine ctx"; (case zctxp1 => walk_at "mine bnd"); (case zctxp2 => walk_at "mine bnd"); (case zctxp3 => walk_at "mine bnd"); k_whole); intro _ _ _ _ _ _ _ zN' _ zho'; (have ze1 := zho'.1); (have ze2 := zho'.2); clear zho'; subst ze1; subst ze2; (try dsimp only at zN'); (try k_sweep))
  k_with "call ref" => (k_here; (with_reducible show wpAny _ _ (call (Value.ref 98) _) _ _ _); k_dflt (refine' mut_use (sux_c _ _ _ _ _ ?zctxp1 ?zctxp2 ?zctxp3) ?zctxk1 ?zctxk2 ?zctxk3 ?zctxk4 ?zctxk5 ?zctxkK ?zctxkU ?zctxkd ?zctxku ?zctxki ?_; walk_at "mine ctx"; (case zctxp1 => walk_at "mine bnd"); (case zctxp2 => walk_at "mine bnd"); (case zctxp3 => walk_at "mine bnd"); k_whole); intro _ _ _ _ _ _ _ zN' _ zho'; (have ze1 := zho'.1); (have ze2 := zho'.2); clear zho'; subst ze1; subst ze2; (try dsimp only at zN'); (try k_sweep))
  k_with "mine bnd" => first | with_reducible assumption | omega | ((try simp only [List.length_set, List.length_append, List.length_cons, List.length_nil, List.length_dropLast, sdN_length, suN_length, liftN_length]); omega)
  k_with "setItem ref int" => (k_here; (with_reducible show wpAny _ _ (setItem (Value.ref _) (Value.int _ _) (Value.int _ _)) _ _ _); k_dflt (refine' ksa_set ?zr260k1 ?zr260k2 ?zr260k3 ?zr260k4 ?zr260k5 ?zr260k6 ?zr260k7 ?_; (case zr260k1 => k_asm); (case zr260k2 => k_asm); (case zr260k3 => k_upd); (case zr260k4 => l_ints); (case zr260k5 => walk_at "mine bnd"); (case zr260k6 => walk_at "mine bnd"); (case zr260k7 => walk_at "mine bnd"); k_whole); intro _ _ _ _ _ _; (try k_sweep))
  k_with "call ref" => (k_here; (with_reducible show wpAny _ _ (call (Value.ref 21) _) _ _ _); k_dflt (refine' mut_use (push_c _ _ _ _ _ ?zctxp1) ?zctxk1 ?zctxk2 ?zctxk3 ?zctxk4 ?zctxk5 ?zctxkK ?zctxkU ?zctxkd ?zctxku ?zctxki ?_; walk_at "mine ctx"; (case zctxp1 => walk_at "mine bnd"); k_whole); intro _ _ _ _ _ _ _ zN' _ zho'; (have ze1 := zho'.1); (have ze2 := zho'.2); clear zho'; subst ze1; subst ze2; (try dsimp only at zN'); (try k_sweep))
  k_with "call ref" => (k_here; (with_reducible show wpAny _ _ (call (Value.ref 28) _) _ _ _); k_dflt (refine' mut_use (pop_c _ _ _ _ ?zctxp1 ?zctxp2) ?zctxk1 ?zctxk2 ?zctxk3 ?zctxk4 ?zctxk5 ?zctxkK ?zctxkU ?zctxkd ?zctxku ?zctxki ?_; walk_at "mine ctx"; (case zctxp1 => walk_at "mine bnd"); (case zctxp2 => walk_at "mine bnd"); k_whole); intro _ _ _ _ _ _ _ zN' _ zho'; (obtain ⟨ze1, _, ze2⟩ := zho'); subst ze1; subst ze2; (try dsimp only at zN'); (try k_sweep))
  k_with "call ref" => (k_here; (with_reducible show wpAny _ _ (call (Value.ref 56) _) _ _ _); k_dflt (refine' mut_use (popx_c _ _ _ _ ?zctxp1 ?zctxp2) ?zctxk1 ?zctxk2 ?zctxk3 ?zctxk4 ?zctxk5 ?zctxkK ?zctxkU ?zctxkd ?zctxku ?zctxki ?_; walk_at "mine ctx"; (case zctxp1 => walk_at "mine bnd"); (case zctxp2 => walk_at "mine bnd"); k_whole); intro _ _ _ _ _ _ _ zN' _ zho'; (obtain ⟨ze1, _, ze2⟩ := zho'); subst ze1; subst ze2; (try dsimp only at zN'); (try k_sweep))
  k_with "call ref" => (k_here; (with_reducible show wpAny _ _ (call (Value.ref 35) _) _ _ _); k_dflt (refine' mut_use (repl_c _ _ _ _ _ ?zctxp1 ?zctxp2) ?zctxk1 ?zctxk2 ?zctxk3 ?zctxk4 ?zctxk5 ?zctxkK ?zctxkU ?zctxkd ?zctxku ?zctxki ?_; walk_at "mine ctx"; (case zctxp1 => walk_at "mine bnd"); (case zctxp2 => walk_at "mine bnd"); k_whole); intro _ _ _ _ _ _ _ zN' _ zho'; (obtain ⟨ze1, _, ze2⟩ := zho'); subst ze1; subst ze2; (try dsimp only at zN'); (try k_sweep))
  k_with "call ref" => (k_here; (with_reducible show wpAny _ _ (call (Value.ref 63) _) _ _ _); k_dflt (refine' mut_use (replx_c _ _ _ _ _ ?zctxp1 ?zctxp2) ?zctxk1 ?zctxk2 ?zctxk3 ?zctxk4 ?zctxk5 ?zctxkK ?zctxkU ?zctxkd ?zctxku ?zctxki ?_; walk_at "mine ctx"; (case zctxp1 => walk_at "mine bnd"); (case zctxp2 => walk_at "mine bnd"); k_whole); intro _ _ _ _ _ _ _ zN' _ zho'; (obtain ⟨ze1, _, ze2⟩ := zho'); subst ze1; subst ze2; (try dsimp only at zN'); (try k_sweep))
  k_with "call ref" => (k_here; (with_reducible show wpAny _ _ (call (Value.ref 42) _) _ _ _); k_dflt (refine' mut_use (pushpop_c _ _ _ _ _ ?zctxp1 ?zctxp2) ?zctxk1 ?zctxk2 ?zctxk3 ?zctxk4 ?zctxk5 ?zctxkK ?zctxkU ?zctxkd ?zctxku ?zctxki ?_; walk_at "mine ctx"; (case zctxp1 => walk_at "mine bnd"); (case zctxp2 => walk_at "mine bnd"); k_whole); intro _ _ _ _ _ _ _ zN' _ zho'; (obtain ⟨ze1, _, ze2⟩ := zho'); subst ze1; subst ze2; (try dsimp only at zN'); (try k_sweep))
  k_with "call ref" => (k_here; (with_reducible show wpAny _ _ (call (Value.ref 110) _) _ _ _); k_dflt (refine' mut_use (lift_c _ _ _ _ _ _ ?zctxp1 ?zctxp2 ?zctxp3 ?zctxp4 ?zctxp5) ?zctxk1 ?zctxk2 ?zctxk3 ?zctxk4 ?zctxk5 ?zctxkK ?zctxkU ?zctxkd ?zctxku ?zctxki ?_; walk_at "mine ctx"; (case zctxp1 => walk_at "mine bnd"); (case zctxp2 => walk_at "mine bnd"); (case zctxp3 => walk_at "mine bnd"); (case zctxp4 => walk_at "mine bnd"); (case zctxp5 => walk_at "mine bnd"); k_whole); intro _ _ _ _ _ _ _ zN' _ zho'; (have ze1 := zho'.1); (have ze2 := zho'.2); clear zho'; subst ze1; subst ze2; (try dsimp only at zN'); (try k_sweep))
  k_with "call ref" => (k_here; (with_reducible show wpAny _ _ (call (Value.ref 49) _) _ _ _); k_dflt (refine' mut_use (hpf_c _ _ _ _ ?zctxp1) ?zctxk1 ?zctxk2 ?zctxk3 ?zctxk4 ?zctxk5 ?zctxkK ?zctxkU ?zctxkd ?zctxku ?zctxki ?_; walk_at "mine ctx"; (case zctxp1 => walk_at "mine bnd"); k_whole); intro _ _ _ _ _ _ _ zN' _ zho'; (have ze1 := zho'.1); (have ze2 := zho'.2); clear zho'; subst ze1; subst ze2; (try dsimp only at zN'); (try k_sweep))
  k_with "call ref" => (k_here; (with_reducible show wpAny _ _ (call (Value.ref 70) _) _ _ _); k_dflt (refine' mut_use (hpfx_c _ _ _ _ ?zctxp1) ?zctxk1 ?zctxk2 ?zctxk3 ?zctxk4 ?zctxk5 ?zctxkK ?zctxkU ?zctxkd ?zctxku ?zctxki ?_; walk_at "mine ctx"; (case zctxp1 => walk_at "mine bnd"); k_whole); intro _ _ _ _ _ _ _ zN' _ zho'; (have ze1 := zho'.1); (have ze2 := zho'.2); clear zho'; subst ze1; subst ze2; (try dsimp only at zN'); (try k_sweep))
  k_with "call ref" => (k_here; (with_reducible show wpAny _ _ (call (Value.ref 124) _) _ _ _); k_dflt (refine' mut_use (lcall_c _ _ _ _ _ _ _ ?zctxp1 ?zctxp2) ?zctxk1 ?zctxk2 ?zctxk3 ?zctxk4 ?zctxk5 ?zctxkK ?zctxkU ?zctxkd ?zctxku ?zctxki ?_; walk_at "mine ctx"; (case zctxp1 => walk_at "mine bnd"); (case zctxp2 => walk_at "mine bnd"); k_whole); intro _ _ _ _ _ _ _ zN' _ zho'; (have ze1 := zho'.1); (have _ := zho'.2); clear zho'; subst ze1; (try dsimp only at zN'); (try k_sweep))
  k_with "call builtin:len" => (k_here; (with_reducible show wpAny _ _ (call (Value.builtin "len") [Value.ref _]) _ _ _); k_dflt (refine' len_ints ?zr271k1 ?zr271k2 ?zr271k3 ?zr271k4 ?_; (case zr271k1 => k_asm); (case zr271k2 => k_mem); (case zr271k3 => l_ints); (case zr271k4 => walk_at "mine bnd"); k_whole))
  k_with "truthy ref" => (k_here; (with_reducible show wpAny _ _ (truthy (Value.ref _)) _ _ _); k_dflt (refine' truthy_ints ?zr272k1 ?zr272k2 ?zr272k3 ?zr272k4 ?_; (case zr272k1 => k_asm); (case zr272k2 => k_mem); (case zr272k3 => l_ints); (case zr272k4 => walk_at "mine bnd")))
  k_with "mine end" => ((try dsimp only); (try (k_unfold; try dsimp only)))
  k_with "mine maps" => first | exact List.forall_mem_nil _ | (refine List.forall_mem_cons.mpr ⟨by rfl, ?_⟩; walk_at "mine maps")
  k_with "binaryOp FloorDiv int int" => (k_here; (with_reducible refine ediv_int ?zr275kb ?zr275kp ?_); (case zr275kb => decide); (case zr275kp => first | exact PyProof.noPylong_of_log2 (by decide +kernel) | exact PyProof.noPylong_small (by omega)))
  k_with "binaryOp Mod int int" => (k_here; (with_reducible refine emod_int ?zr276kb ?_); (case zr276kb => first | decide | omega))
  k_with "subscriptTail Name Slice ref ref" => (k_here; (with_reducible show wpAny _ _ (subscriptTail _ (PySem.Expr.Slice none none none _) (Value.ref _) (Value.ref _)) _ _ _); k_dflt (refine' slice_all ?zr277F ?zr277N ?zr277l ?zr277z ?_ ?zr277s ?zr277t; (case zr277F => k_asm); (case zr277N => k_asm); (case zr277l => k_mem); (case zr277z => omega); (case zr277s => with_unfolding_all rfl); (case zr277t => (intro _; with_unfolding_all rfl))); intro _ _ _ _ zl1; (try k_lt zl1); (try k_sweep))
  k_with "mine off" => ((simp only [List.forall_mem_cons, List.not_mem_nil, false_implies, implies_true, and_true]); (repeat' apply And.intro) <;> k_ne)
  k_with "call builtin:list.pop" => (k_here; (with_reducible show wpAny _ _ (call (Value.builtin _) [Value.ref _, Value.int _ _]) _ _ _); k_dflt (refine' pop_at ?zr279F ?zr279N ?zr279U ?zr279i ?zr279a ?zr279b ?zr279c ?_; (case zr279F => k_asm); (case zr279N => k_asm); (case zr279U => k_updF); (case zr279i => l_ints); (case zr279a => walk_at "mine bnd"); (case zr279b => walk_at "mine bnd"); (case zr279c => walk_at "mine bnd")); intro _ _ _ zN' _; (try dsimp only at zN'); (try k_sweep))
  k_with "inplaceOp Add ref" => (k_here; (with_reducible show wpAny _ _ (inplaceOp Operator.Add (Value.ref _) (Value.ref _)) _ _ _); k_dflt (refine' iadd_lists ?zr280F ?zr280N ?zr280U ?zr280b ?zr280z ?_; (case zr280F => k_asm); (case zr280N => k_asm); (case zr280U => k_updF); (case zr280b => k_mem); (case zr280z => first | assumption | omega)); intro _ _ _ zN'; (try dsimp only at zN'); (try k_sweep))
  k_with "mine enterC" => (refine' def_enterC ?zr281k1 ?zr281k2 ?zr281k3 ?zr281k4 ?zr281k5 ?zr281kA ?zr281kF ?zr281kK ?zr281k6 ?zr281k7 ?zr281k8 ?zr281k9 ?zr281kB ?zr281kD ?_ ?zr281c2 ?zr281c3 ?zr281c4; (case zr281kA => exact rfl); (case zr281kF => exact rfl); (case zr281kK => assumption); (case zr281k1 => k_asm); (case zr281k2 => k_asm); (case zr281k3 => k_asm); (case zr281k4 => k_asm); (case zr281k5 => k_asm); (case zr281k6 => k_is); (case zr281k7 => k_is); (case zr281k8 => ktr_room); (case zr281k9 => exact BindsTo.of_eq rfl); (case zr281kB => exact rfl); (case zr281kD => decide +kernel); (case zr281c2 => exact rfl); (case zr281c3 => exact rfl); (case zr281c4 => exact rfl); k_whole)
  k_with "ite" => first | (with_reducible refine c_ff ?_) | (with_reducible refine c_tt ?_) | (with_reducible refine ct_yes (by assumption) ?_) | (with_reducible refine ct_no (by assumption) ?_) | (with_reducible refine cb_yes (by assumption) ?_) | (with_reducible refine cb_no (by assumption) ?_) | (with_reducible refine cn_yes (by assumption) ?_) | (with_reducible refine cn_no (by assumption) ?_)
  k_with "exec For Tuple Name cons nil" => (k_here; (rename Fr _ _ _ _ => zlF'); (with_unfolding_all refine' For_turns zlF' ?_; k_whole))
  k_with "pyIter ref" => ((with_reducible show wpAny _ _ (pyIter (Value.ref _)) (fun it s₂ => TurnsAt _ _ _ _ _ _ _ _ _ it s₂) _ _); refine stop_of ?_)
  k_with "mine same" => k_extra "mine same"
  k_with "mine bnd" => ((simp only [List.length_map]); omega)
  k_with "compareOp Eq ref ref" => (k_here; (with_reducible show wpAny _ _ (compareOp CmpOp.Eq (Value.ref _) (Value.ref _)) _ _ _); (refine' eq_own ?zr287N ?zr287a ?zr287b ?zr287i ?zr287j ?zr287u ?zr287e ?_; (case zr287N => k_asm); (case zr287a => k_mem); (case zr287b => k_mem); (case zr287i => l_ints); (case zr287j => l_ints); (case zr287u => ktr_units); (case zr287e => walk_at "mine same"); k_whole))
  k_with "call builtin:list.append" => (k_here; (with_reducible show wpAny _ _ (call (Value.builtin _) [Value.ref _, Value.ref _]) _ _ _); k_dflt (refine' append_any ?zr288k1 ?zr288k2 ?zr288k3 ?zr288z ?_; (case zr288k1 => k_asm); (case zr288k2 => k_asm); (case zr288k3 => k_updF); (case zr288z => walk_at "mine bnd")); intro _ _ zN'; (try dsimp only at zN'); (try k_sweep))
  k_with "call ref" => (k_here; (with_reducible show wpAny _ _ (call (Value.ref 124) _) _ _ _); k_dflt (refine' mut_use (lcall_c _ _ _ _ _ _ _ ?zctxp1 ?zctxp2) ?zctxk1 ?zctxk2 ?zctxk3 ?zctxk4 ?zctxk5 ?zctxkK ?zctxkU ?zctxkd ?zctxku ?zctxki ?_; walk_at "mine ctx"; (case zctxp1 => walk_at "mine bnd"); (case zctxp2 => walk_at "mine bnd"); k_whole); intro _ _ _ _ _ _ _ zN' _ zho'; (have ze1 := zho'.1); (have _ := zho'.2); clear zho'; subst ze1; walk_at "mine ok"; (try dsimp only at zN'); (try k_sweep))
  k_with "call builtin:all" => (k_here; (with_reducible show wpAny _ _ (call (Value.builtin "all") [Value.ref _]) _ _ _); k_dflt (refine all_trues (by k_asm) (by k_asm) (by rfl) (by k_mem) (by assumption) ?_); intro _ _ _ _)
  k_with "eval ListComp" => (k_here; (with_reducible show wpAny _ _ (eval (PySem.Expr.ListComp (PySem.Expr.Compare _ _ _ _) _ _ _) _) _ _ _); k_dflt (refine LCg.ListComp_U (F₀ := by k_asm) (by with_unfolding_all rfl) (by decide) (by rfl) (by decide) (by rfl) ?_))
  k_with "CompSrc" => ((with_reducible show LCg.CompSrc _ _ _ _ _ _ _ (PySem.Expr.Compare _ _ _ _) _ _ _ _ _ _); k_dflt ((refine' LCg.CompSrc.ledger (by rfl) ?zr292kF ?zr292kN ?zr292kM ?zr292kZ ?_; (case zr292kF => k_asm); (case zr292kN => k_asm); (case zr292kM => k_mem); (case zr292kZ => kcf_size); intro _; refine' comp_truesL ?zr292ki (fun _ _ _ _ _ _ _ _ _ _ _ _ _ _ _ _ _ _ _ => ?_) (fun _ _ => ?_); (case zr292ki => first | assumption | l_ints))); kcf_last)
  k_with "CompSrc" => ((with_reducible show LCg.CompSrc _ _ _ _ _ _ _ (PySem.Expr.Compare _ _ _ _) _ _ _ _ _ _); k_dflt ((refine LCg.CompSrc.range (by rfl) (by k_asm) (by k_asm) (by assumption) (by exact small_one (by omega) (by omega) (by omega) (by omega)) (by exact rangeSize_nat _ _) (by rw [PySem.sizeLine_eq]; omega) ?_; intro _; refine' comp_truesR (fun _ _ _ _ _ _ _ _ _ _ _ _ _ _ _ _ _ _ _ => ?_) (fun _ _ => ?_))); kcf_last)
  k_with "subscriptTail Name BinOp ref int" => (k_here; (with_reducible show wpAny _ _ (subscriptTail _ _ (Value.ref _) (Value.int _ _)) _ _ _); k_dflt (refine' ksa_sub ?zr294k1 ?zr294k2 ?zr294k3 ?zr294k4 ?zr294k5 ?zr294k6 ?_ ?zr294k7; (case zr294k1 => k_asm); (case zr294k2 => k_mem); (case zr294k3 => l_ints); (case zr294k4 => walk_at "mine bnd"); (case zr294k5 => walk_at "mine bnd"); (case zr294k6 => walk_at "mine bnd"); (case zr294k7 => with_unfolding_all rfl); k_whole); intro _)
  k_with "subscriptTail Name Name ref int" => (k_here; (with_reducible show wpAny _ _ (subscriptTail _ _ (Value.ref _) (Value.int _ _)) _ _ _); k_dflt (refine' ksa_sub ?zr295k1 ?zr295k2 ?zr295k3 ?zr295k4 ?zr295k5 ?zr295k6 ?_ ?zr295k7; (case zr295k1 => k_asm); (case zr295k2 => k_mem); (case zr295k3 => l_ints); (case zr295k4 => walk_at "mine bnd"); (case zr295k5 => walk_at "mine bnd"); (case zr295k6 => walk_at "mine bnd"); (case zr295k7 => with_unfolding_all rfl); k_whole); intro _)
  k_with "CompEnd" => (refine LCg.CompEnd.intro (by assumption) (by assumption) _ (fun p hp => hp) ?zr296o ?zr296s ⟨rfl, ?zr296y⟩; (case zr296o => assumption); (case zr296s => first | exact True.intro | lcg_src | assumption); (case zr296y => (refine bool_lt ?_; walk_at "mine lt")))
  k_with "mine lt" => first | exact lt_at (by assumption) (by assumption) rfl | exact (by assumption : ∀ x ∈ _, _) _ (by assumption)
  k_with "call ref" => (k_here; (with_reducible show wpAny _ _ (call (Value.ref 131) _) _ _ _); (rename BacksOk _ _ => zq2); k_dflt (refine' mutp_use (lback_c _ _ _ _ ?zctxp1 zq2) ?zctxk1 ?zctxk2 ?zctxk3 ?zctxk4 ?zctxk5 ?zctxkK ?zctxkU ?zctxkd ?zctxku ?zctxki ?zctxkp ?_; walk_at "mine ctx"; (case zctxkp => (rename ToldIs _ _ _ => zq3); (rename OwnOff _ _ => zq4); exact told_pre (by assumption) (by k_mem) (fun p hp => by kst_mem) zq3 zq4 (by k_mem) (by k_ne)); (case zctxp1 => omega); k_whole); intro _ _ _ _ _ _ _ zN' _ zho'; (have ze1 := zho'.1); (have ze2 := zho'.2); clear zho'; subst ze1; subst ze2; (try dsimp only at zN'); (try k_sweep))
  k_with "eval IfExp" => ((with_reducible show wpAny _ _ (eval (PySem.Expr.IfExp (PySem.Expr.Compare _ [PySem.CmpOp.Eq] _ _) _ _ _) _) _ _ _); (with_reducible rename JMark 1 => zhjm); clear zhjm; refine stop_of ?_)
  k_with "exec If" => ((with_reducible show wpAny _ _ (exec (PySem.Stmt.If (PySem.Expr.Compare _ [PySem.CmpOp.Eq] _ _) _ _ _) _) _ _ _); (with_reducible rename JMark 2 => zhjm); clear zhjm; refine stop_of ?_)
  refine wpAny_call ?_
  k_dflt (walk_at "mine enterC")
  intro g L' h' tk cells hg hlt F' N' Y' B' X' T'
  k_lt hlt
  k_cells Y'
  (try simp only [List.cons_append, List.nil_append] at N')
  (try dsimp only); (try k_fold)
  have N₀ := N
  clear F N B
  have hg2 : ∀ b o, b ≠ sl → s.heap.get? b = some o → g.get? b = some o := fun b o hb e => hg b o (by simpa using hb) e
  have hq1 : g.IsList l1 vs1.toArray := ⟨listOf vs1.toArray n1, hg2 _ _ hn1 hl1, rfl, n1, rfl⟩
  have hq2 : g.IsList l2 vs2.toArray := ⟨listOf vs2.toArray n2, hg2 _ _ hn2 hl2, rfl, n2, rfl⟩
  have hsg2 := steps_g hst hg2
  have hvl1 : vs1.length = heap.length := hi1.length
  have hvl2 : vs2.length = start.length := hi2.length
  have jl1 := hJ.hl
  have jl2 := hJ.sl
  have hs1 : 0 < sg := by omega
  have hs2 : ¬ sg < 0 := by omega
  k_with_none
  k_with "mine enter" => (refine' def_enter ?zr245k1 ?zr245k2 ?zr245k3 ?zr245k4 ?zr245k5 ?zr245kA ?zr245kF ?zr245kK ?zr245k6 ?zr245k7 ?zr245k8 ?zr245k9 ?zr245kB ?_ ?zr245c2 ?zr245c3 ?zr245c4 ?zr245c5; (case zr245kA => exact rfl); (case zr245kF => exact rfl); (case zr245kK => assumption); (case zr245k1 => k_asm); (case zr245k2 => k_asm); (case zr245k3 => k_asm); (case zr245k4 => k_asm); (case zr245k5 => k_asm); (case zr245k6 => k_is); (case zr245k7 => k_is); (case zr245k8 => ktr_room); (case zr245k9 => exact BindsTo.of_eq rfl); (case zr245c5 => decide); (case zr245kB => exact locs rfl); (case zr245c2 => exact rfl); (case zr245c3 => exact rfl); (case zr245c4 => exact rfl); k_whole)
  k_with "binaryOp RShift int int" => (k_here; (with_reducible refine PySem.wpAny_rshift1_int ?zr246kb1 ?_); (case zr246kb1 => omega))
  k_with "mine cj" => (with_reducible (rename @Ne Nat _ _ ∧ _ => zhcj)); have _ := zhcj.1; replace zhcj := zhcj.2
  k_with "mine go" => (repeat (first | walk_at "mine cj" | (k_unfold; (try dsimp only)) | walk_at "mine fold" | walk1 | (dsimp only; walk1)))
  k_with "mine fold" => ((with_reducible show wpAny _ _ (exec _ _) _ _ _); k_fold)
  k_with "mine go2" => (repeat (first | walk_at "mine cj" | (k_unfold; (try dsimp only)) | walk_at "mine fold" | walk_at "mine fold2" | walk1 | (dsimp only; walk1)))
  k_with "mine fold2" => ((fail_if_success (fail_if_success k_fold)); (with_reducible show wpAny _ _ _ (fun _ _ => wpAny _ _ _ _ _ _) _ _); k_fold)
  k_with "mine bnd" => first | with_reducible assumption | omega | ((try simp only [List.length_set, List.length_append, List.length_cons, List.length_nil, List.length_dropLast, sdN_length]); omega)
  k_with "mine ctx" => ((case zctxk1 => k_asm); (case zctxk2 => k_asm); (case zctxk3 => k_asm); (case zctxk4 => k_asm); (case zctxk5 => k_asm); (case zctxkK => first | exact rfl | assumption); (case zctxkU => k_updF); (case zctxkd => ktr_room); (case zctxku => ktr_units); (case zctxki => l_ints))
  k_with "call ref" => (k_here; (with_reducible show wpAny _ _ (call (Value.ref 77) _) _ _ _); k_dflt (refine' mut_use (sd_c _ _ _ _ _ _ ?zctxp1 ?zctxp2 ?zctxp3 ?zctxp4) ?zctxk1 ?zctxk2 ?zctxk3 ?zctxk4 ?zctxk5 ?zctxkK ?zctxkU ?zctxkd ?zctxku ?zctxki ?_; walk_at "mine ctx"; (case zctxp1 => walk_at "mine bnd"); (case zctxp2 => walk_at "mine bnd"); (case zctxp3 => walk_at "mine bnd"); (case zctxp4 => walk_at "mine bnd"); k_whole); intro _ _ _ _ _ _ _ zN' _ zho'; (have ze1 := zho'.1); (have ze2 := zho'.2); clear zho'; subst ze1; subst ze2; (try dsimp only at zN'); (try k_sweep))
  k_with "call ref" => (k_here; (with_reducible show wpAny _ _ (call (Value.ref 91) _) _ _ _); k_dflt (refine' mut_use (sdx_c _ _ _ _ _ _ ?zctxp1 ?zctxp2 ?zctxp3 ?zctxp4) ?zctxk1 ?zctxk2 ?zctxk3 ?zctxk4 ?zctxk5 ?zctxkK ?zctxkU ?zctxkd ?zctxku ?zctxki ?_; walk_at "mine ctx"; (case zctxp1 => walk_at "mine bnd"); (case zctxp2 => walk_at "mine bnd"); (case zctxp3 => walk_at "mine bnd"); (case zctxp4 => walk_at "mine bnd"); k_whole); intro _ _ _ _ _ _ _ zN' _ zho'; (have ze1 := zho'.1); (have ze2 := zho'.2); clear zho'; subst ze1; subst ze2; (try dsimp only at zN'); (try k_sweep))
  k_with "mine bnd" => first | with_reducible assumption | omega | ((try simp only [List.length_set, List.length_append, List.length_cons, List.length_nil, List.length_dropLast, sdN_length, suN_length]); omega)
  k_with "call ref" => (k_here; (with_reducible show wpAny _ _ (call (Value.ref 84) _) _ _ _); k_dflt (refine' mut_use (su_c _ _ _ _ _ ?zctxp1 ?zctxp2 ?zctxp3) ?zctxk1 ?zctxk2 ?zctxk3 ?zctxk4 ?zctxk5 ?zctxkK ?zctxkU ?zctxkd ?zctxku ?zctxki ?_; walk_at "mine ctx"; (case zctxp1 => walk_at "mine bnd"); (case zctxp2 => walk_at "mine bnd"); (case zctxp3 => walk_at "mine bnd"); k_whole); intro _ _ _ _ _ _ _ zN' _ zho'; (have ze1 := zho'.1); (have ze2 := zho'.2); clear zho'; subst ze1; subst ze2; (try dsimp only at zN'); (try k_sweep))
  k_with "call ref" => (k_here; (with_reducible show wpAny _ _ (call (Value.ref 98) _) _ _ _); k_dflt (refine' mut_use (sux_c _ _ _ _ _ ?zctxp1 ?zctxp2 ?zctxp3) ?zctxk1 ?zctxk2 ?zctxk3 ?zctxk4 ?zctxk5 ?zctxkK ?zctxkU ?zctxkd ?zctxku ?zctxki ?_; walk_at "mine ctx"; (case zctxp1 => walk_at "mine bnd"); (case zctxp2 => walk_at "mine bnd"); (case zctxp3 => walk_at "mine bnd"); k_whole); intro _ _ _ _ _ _ _ zN' _ zho'; (have ze1 := zho'.1); (have ze2 := zho'.2); clear zho'; subst ze1; subst ze2; (try dsimp only at zN'); (try k_sweep))
  k_with "mine bnd" => first | with_reducible assumption | omega | ((try simp only [List.length_set, List.length_append, List.length_cons, List.length_nil, List.length_dropLast, sdN_length, suN_length, liftN_length]); omega)
  k_with "setItem ref int" => (k_here; (with_reducible show wpAny _ _ (setItem (Value.ref _) (Value.int _ _) (Value.int _ _)) _ _ _); k_dflt (refine' ksa_set ?zr260k1 ?zr260k2 ?zr260k3 ?zr260k4 ?zr260k5 ?zr260k6 ?zr260k7 ?_; (case zr260k1 => k_asm); (case zr260k2 => k_asm); (case zr260k3 => k_upd); (case zr260k4 => l_ints); (case zr260k5 => walk_at "mine bnd"); (case zr260k6 => walk_at "mine bnd"); (case zr260k7 => walk_at "mine bnd"); k_whole); intro _ _ _ _ _ _; (try k_sweep))
  k_with "call ref" => (k_here; (with_reducible show wpAny _ _ (call (Value.ref 21) _) _ _ _); k_dflt (refine' mut_use (push_c _ _ _ _ _ ?zctxp1) ?zctxk1 ?zctxk2 ?zctxk3 ?zctxk4 ?zctxk5 ?zctxkK ?zctxkU ?zctxkd ?zctxku ?zctxki ?_; walk_at "mine ctx"; (case zctxp1 => walk_at "mine bnd"); k_whole); intro _ _ _ _ _ _ _ zN' _ zho'; (have ze1 := zho'.1); (have ze2 := zho'.2); clear zho'; subst ze1; subst ze2; (try dsimp only at zN'); (try k_sweep))
  k_with "call ref" => (k_here; (with_reducible show wpAny _ _ (call (Value.ref 28) _) _ _ _); k_dflt (refine' mut_use (pop_c _ _ _ _ ?zctxp1 ?zctxp2) ?zctxk1 ?zctxk2 ?zctxk3 ?zctxk4 ?zctxk5 ?zctxkK ?zctxkU ?zctxkd ?zctxku ?zctxki ?_; walk_at "mine ctx"; (case zctxp1 => walk_at "mine bnd"); (case zctxp2 => walk_at "mine bnd"); k_whole); intro _ _ _ _ _ _ _ zN' _ zho'; (obtain ⟨ze1, _, ze2⟩ := zho'); subst ze1; subst ze2; (try dsimp only at zN'); (try k_sweep))
  k_with "call ref" => (k_here; (with_reducible show wpAny _ _ (call (Value.ref 56) _) _ _ _); k_dflt (refine' mut_use (popx_c _ _ _ _ ?zctxp1 ?zctxp2) ?zctxk1 ?zctxk2 ?zctxk3 ?zctxk4 ?zctxk5 ?zctxkK ?zctxkU ?zctxkd ?zctxku ?zctxki ?_; walk_at "mine ctx"; (case zctxp1 => walk_at "mine bnd"); (case zctxp2 => walk_at "mine bnd"); k_whole); intro _ _ _ _ _ _ _ zN' _ zho'; (obtain ⟨ze1, _, ze2⟩ := zho'); subst ze1; subst ze2; (try dsimp only at zN'); (try k_sweep))
  k_with "call ref" => (k_here; (with_reducible show wpAny _ _ (call (Value.ref 35) _) _ _ _); k_dflt (refine' mut_use (repl_c _ _ _ _ _ ?zctxp1 ?zctxp2) ?zctxk1 ?zctxk2 ?zctxk3 ?zctxk4 ?zctxk5 ?zctxkK ?zctxkU ?zctxkd ?zctxku ?zctxki ?_; walk_at "mine ctx"; (case zctxp1 => walk_at "mine bnd"); (case zctxp2 => walk_at "mine bnd"); k_whole); intro _ _ _ _ _ _ _ zN' _ zho'; (obtain ⟨ze1, _, ze2⟩ := zho'); subst ze1; subst ze2; (try dsimp only at zN'); (try k_sweep))
  k_with "call ref" => (k_here; (with_reducible show wpAny _ _ (call (Value.ref 63) _) _ _ _); k_dflt (refine' mut_use (replx_c _ _ _ _ _ ?zctxp1 ?zctxp2) ?zctxk1 ?zctxk2 ?zctxk3 ?zctxk4 ?zctxk5 ?zctxkK ?zctxkU ?zctxkd ?zctxku ?zctxki ?_; walk_at "mine ctx"; (case zctxp1 => walk_at "mine bnd"); (case zctxp2 => walk_at "mine bnd"); k_whole); intro _ _ _ _ _ _ _ zN' _ zho'; (obtain ⟨ze1, _, ze2⟩ := zho'); subst ze1; subst ze2; (try dsimp only at zN'); (try k_sweep))
  k_with "call ref" => (k_here; (with_reducible show wpAny _ _ (call (Value.ref 42) _) _ _ _); k_dflt (refine' mut_use (pushpop_c _ _ _ _ _ ?zctxp1 ?zctxp2) ?zctxk1 ?zctxk2 ?zctxk3 ?zctxk4 ?zctxk5 ?zctxkK ?zctxkU ?zctxkd ?zctxku ?zctxki ?_; walk_at "mine ctx"; (case zctxp1 => walk_at "mine bnd"); (case zctxp2 => walk_at "mine bnd"); k_whole); intro _ _ _ _ _ _ _ zN' _ zho'; (obtain ⟨ze1, _, ze2⟩ := zho'); subst ze1; subst ze2; (try dsimp only at zN'); (try k_sweep))
  k_with "call ref" => (k_here; (with_reducible show wpAny _ _ (call (Value.ref 110) _) _ _ _); k_dflt (refine' mut_use (lift_c _ _ _ _ _ _ ?zctxp1 ?zctxp2 ?zctxp3 ?zctxp4 ?zctxp5) ?zctxk1 ?zctxk2 ?zctxk3 ?zctxk4 ?zctxk5 ?zctxkK ?zctxkU ?zctxkd ?zctxku ?zctxki ?_; walk_at "mine ctx"; (case zctxp1 => walk_at "mine bnd"); (case zctxp2 => walk_at "mine bnd"); (case zctxp3 => walk_at "mine bnd"); (case zctxp4 => walk_at "mine bnd"); (case zctxp5 => walk_at "mine bnd"); k_whole); intro _ _ _ _ _ _ _ zN' _ zho'; (have ze1 := zho'.1); (have ze2 := zho'.2); clear zho'; subst ze1; subst ze2; (try dsimp only at zN'); (try k_sweep))
  k_with "call ref" => (k_here; (with_reducible show wpAny _ _ (call (Value.ref 49) _) _ _ _); k_dflt (refine' mut_use (hpf_c _ _ _ _ ?zctxp1) ?zctxk1 ?zctxk2 ?zctxk3 ?zctxk4 ?zctxk5 ?zctxkK ?zctxkU ?zctxkd ?zctxku ?zctxki ?_; walk_at "mine ctx"; (case zctxp1 => walk_at "mine bnd"); k_whole); intro _ _ _ _ _ _ _ zN' _ zho'; (have ze1 := zho'.1); (have ze2 := zho'.2); clear zho'; subst ze1; subst ze2; (try dsimp only at zN'); (try k_sweep))
  k_with "call ref" => (k_here; (with_reducible show wpAny _ _ (call (Value.ref 70) _) _ _ _); k_dflt (refine' mut_use (hpfx_c _ _ _ _ ?zctxp1) ?zctxk1 ?zctxk2 ?zctxk3 ?zctxk4 ?zctxk5 ?zctxkK ?zctxkU ?zctxkd ?zctxku ?zctxki ?_; walk_at "mine ctx"; (case zctxp1 => walk_at "mine bnd"); k_whole); intro _ _ _ _ _ _ _ zN' _ zho'; (have ze1 := zho'.1); (have ze2 := zho'.2); clear zho'; subst ze1; subst ze2; (try dsimp only at zN'); (try k_sweep))
  k_with "call ref" => (k_here; (with_reducible show wpAny _ _ (call (Value.ref 124) _) _ _ _); k_dflt (refine' mut_use (lcall_c _ _ _ _ _ _ _ ?zctxp1 ?zctxp2) ?zctxk1 ?zctxk2 ?zctxk3 ?zctxk4 ?zctxk5 ?zctxkK ?zctxkU ?zctxkd ?zctxku ?zctxki ?_; walk_at "mine ctx"; (case zctxp1 => walk_at "mine bnd"); (case zctxp2 => walk_at "mine bnd"); k_whole); intro _ _ _ _ _ _ _ zN' _ zho'; (have ze1 := zho'.1); (have _ := zho'.2); clear zho'; subst ze1; (try dsimp only at zN'); (try k_sweep))
  k_with "call builtin:len" => (k_here; (with_reducible show wpAny _ _ (call (Value.builtin "len") [Value.ref _]) _ _ _); k_dflt (refine' len_ints ?zr271k1 ?zr271k2 ?zr271k3 ?zr271k4 ?_; (case zr271k1 => k_asm); (case zr271k2 => k_mem); (case zr271k3 => l_ints); (case zr271k4 => walk_at "mine bnd"); k_whole))
  k_with "truthy ref" => (k_here; (with_reducible show wpAny _ _ (truthy (Value.ref _)) _ _ _); k_dflt (refine' truthy_ints ?zr272k1 ?zr272k2 ?zr272k3 ?zr272k4 ?_; (case zr272k1 => k_asm); (case zr272k2 => k_mem); (case zr272k3 => l_ints); (case zr272k4 => walk_at "mine bnd")))
  k_with "mine end" => ((try dsimp only); (try (k_unfold; try dsimp only)))
  k_with "mine maps" => first | exact List.forall_mem_nil _ | (refine List.forall_mem_cons.mpr ⟨by rfl, ?_⟩; walk_at "mine maps")
  k_with "binaryOp FloorDiv int int" => (k_here; (with_reducible refine ediv_int ?zr275kb ?zr275kp ?_); (case zr275kb => decide); (case zr275kp => first | exact PyProof.noPylong_of_log2 (by decide +kernel) | exact PyProof.noPylong_small (by omega)))
  k_with "binaryOp Mod int int" => (k_here; (with_reducible refine emod_int ?zr276kb ?_); (case zr276kb => first | decide | omega))
  k_with "subscriptTail Name Slice ref ref" => (k_here; (with_reducible show wpAny _ _ (subscriptTail _ (PySem.Expr.Slice none none none _) (Value.ref _) (Value.ref _)) _ _ _); k_dflt (refine' slice_all ?zr277F ?zr277N ?zr277l ?zr277z ?_ ?zr277s ?zr277t; (case zr277F => k_asm); (case zr277N => k_asm); (case zr277l => k_mem); (case zr277z => omega); (case zr277s => with_unfolding_all rfl); (case zr277t => (intro _; with_unfolding_all rfl))); intro _ _ _ _ zl1; (try k_lt zl1); (try k_sweep))
  k_with "mine off" => ((simp only [List.forall_mem_cons, List.not_mem_nil, false_implies, implies_true, and_true]); (repeat' apply And.intro) <;> k_ne)
  k_with "call builtin:list.pop" => (k_here; (with_reducible show wpAny _ _ (call (Value.builtin _) [Value.ref _, Value.int _ _]) _ _ _); k_dflt (refine' pop_at ?zr279F ?zr279N ?zr279U ?zr279i ?zr279a ?zr279b ?zr279c ?_; (case zr279F => k_asm); (case zr279N => k_asm); (case zr279U => k_updF); (case zr279i => l_ints); (case zr279a => walk_at "mine bnd"); (case zr279b => walk_at "mine bnd"); (case zr279c => walk_at "mine bnd")); intro _ _ _ zN' _; (try dsimp only at zN'); (try k_sweep))
  k_with "inplaceOp Add ref" => (k_here; (with_reducible show wpAny _ _ (inplaceOp Operator.Add (Value.ref _) (Value.ref _)) _ _ _); k_dflt (refine' iadd_lists ?zr280F ?zr280N ?zr280U ?zr280b ?zr280z ?_; (case zr280F => k_asm); (case zr280N => k_asm); (case zr280U => k_updF); (case zr280b => k_mem); (case zr280z => first | assumption | omega)); intro _ _ _ zN'; (try dsimp only at zN'); (try k_sweep))
  k_with "mine enterC" => (refine' def_enterC ?zr281k1 ?zr281k2 ?zr281k3 ?zr281k4 ?zr281k5 ?zr281kA ?zr281kF ?zr281kK ?zr281k6 ?zr281k7 ?zr281k8 ?zr281k9 ?zr281kB ?zr281kD ?_ ?zr281c2 ?zr281c3 ?zr281c4; (case zr281kA => exact rfl); (case zr281kF => exact rfl); (case zr281kK => assumption); (case zr281k1 => k_asm); (case zr281k2 => k_asm); (case zr281k3 => k_asm); (case zr281k4 => k_asm); (case zr281k5 => k_asm); (case zr281k6 => k_is); (case zr281k7 => k_is); (case zr281k8 => ktr_room); (case zr281k9 => exact BindsTo.of_eq rfl); (case zr281kB => exact rfl); (case zr281kD => decide +kernel); (case zr281c2 => exact rfl); (case zr281c3 => exact rfl); (case zr281c4 => exact rfl); k_whole)
  k_with "ite" => first | (with_reducible refine c_ff ?_) | (with_reducible refine c_tt ?_) | (with_reducible refine ct_yes (by assumption) ?_) | (with_reducible refine ct_no (by assumption) ?_) | (with_reducible refine cb_yes (by assumption) ?_) | (with_reducible refine cb_no (by assumption) ?_) | (with_reducible refine cn_yes (by assumption) ?_) | (with_reducible refine cn_no (by assumption) ?_)
  k_with "exec For Tuple Name cons nil" => (k_here; (rename Fr _ _ _ _ => zlF'); (with_unfolding_all refine' For_turns zlF' ?_; k_whole))
  k_with "pyIter ref" => ((with_reducible show wpAny _ _ (pyIter (Value.ref _)) (fun it s₂ => TurnsAt _ _ _ _ _ _ _ _ _ it s₂) _ _); refine stop_of ?_)
  k_with "mine same" => k_extra "mine same"
  k_with "mine bnd" => ((simp only [List.length_map]); omega)
  k_with "compareOp Eq ref ref" => (k_here; (with_reducible show wpAny _ _ (compareOp CmpOp.Eq (Value.ref _) (Value.ref _)) _ _ _); (refine' eq_own ?zr287N ?zr287a ?zr287b ?zr287i ?zr287j ?zr287u ?zr287e ?_; (case zr287N => k_asm); (case zr287a => k_mem); (case zr287b => k_mem); (case zr287i => l_ints); (case zr287j => l_ints); (case zr287u => ktr_units); (case zr287e => walk_at "mine same"); k_whole))
  k_with "call builtin:list.append" => (k_here; (with_reducible show wpAny _ _ (call (Value.builtin _) [Value.ref _, Value.ref _]) _ _ _); k_dflt (refine' append_any ?zr288k1 ?zr288k2 ?zr288k3 ?zr288z ?_; (case zr288k1 => k_asm); (case zr288k2 => k_asm); (case zr288k3 => k_updF); (case zr288z => walk_at "mine bnd")); intro _ _ zN'; (try dsimp only at zN'); (try k_sweep))
  k_with "call ref" => (k_here; (with_reducible show wpAny _ _ (call (Value.ref 124) _) _ _ _); k_dflt (refine' mut_use (lcall_c _ _ _ _ _ _ _ ?zctxp1 ?zctxp2) ?zctxk1 ?zctxk2 ?zctxk3 ?zctxk4 ?zctxk5 ?zctxkK ?zctxkU ?zctxkd ?zctxku ?zctxki ?_; walk_at "mine ctx"; (case zctxp1 => walk_at "mine bnd"); (case zctxp2 => walk_at "mine bnd"); k_whole); intro _ _ _ _ _ _ _ zN' _ zho'; (have ze1 := zho'.1); (have _ := zho'.2); clear zho'; subst ze1; walk_at "mine ok"; (try dsimp only at zN'); (try k_sweep))
  k_with "call builtin:all" => (k_here; (with_reducible show wpAny _ _ (call (Value.builtin "all") [Value.ref _]) _ _ _); k_dflt (refine all_trues (by k_asm) (by k_asm) (by rfl) (by k_mem) (by assumption) ?_); intro _ _ _ _)
  k_with "eval ListComp" => (k_here; (with_reducible show wpAny _ _ (eval (PySem.Expr.ListComp (PySem.Expr.Compare _ _ _ _) _ _ _) _) _ _ _); k_dflt (refine LCg.ListComp_U (F₀ := by k_asm) (by with_unfolding_all rfl) (by decide) (by rfl) (by decide) (by rfl) ?_))
  k_with "CompSrc" => ((with_reducible show LCg.CompSrc _ _ _ _ _ _ _ (PySem.Expr.Compare _ _ _ _) _ _ _ _ _ _); k_dflt ((refine' LCg.CompSrc.ledger (by rfl) ?zr292kF ?zr292kN ?zr292kM ?zr292kZ ?_; (case zr292kF => k_asm); (case zr292kN => k_asm); (case zr292kM => k_mem); (case zr292kZ => kcf_size); intro _; refine' comp_truesL ?zr292ki (fun _ _ _ _ _ _ _ _ _ _ _ _ _ _ _ _ _ _ _ => ?_) (fun _ _ => ?_); (case zr292ki => first | assumption | l_ints))); kcf_last)
  k_with "CompSrc" => ((with_reducible show LCg.CompSrc _ _ _ _ _ _ _ (PySem.Expr.Compare _ _ _ _) _ _ _ _ _ _); k_dflt ((refine LCg.CompSrc.range (by rfl) (by k_asm) (by k_asm) (by assumption) (by exact small_one (by omega) (by omega) (by omega) (by omega)) (by exact rangeSize_nat _ _) (by rw [PySem.sizeLine_eq]; omega) ?_; intro _; refine' comp_truesR (fun _ _ _ _ _ _ _ _ _ _ _ _ _ _ _ _ _ _ _ => ?_) (fun _ _ => ?_))); kcf_last)
  k_with "subscriptTail Name BinOp ref int" => (k_here; (with_reducible show wpAny _ _ (subscriptTail _ _ (Value.ref _) (Value.int _ _)) _ _ _); k_dflt (refine' ksa_sub ?zr294k1 ?zr294k2 ?zr294k3 ?zr294k4 ?zr294k5 ?zr294k6 ?_ ?zr294k7; (case zr294k1 => k_asm); (case zr294k2 => k_mem); (case zr294k3 => l_ints); (case zr294k4 => walk_at "mine bnd"); (case zr294k5 => walk_at "mine bnd"); (case zr294k6 => walk_at "mine bnd"); (case zr294k7 => with_unfolding_all rfl); k_whole); intro _)
  k_with "subscriptTail Name Name ref int" => (k_here; (with_reducible show wpAny _ _ (subscriptTail _ _ (Value.ref _) (Value.int _ _)) _ _ _); k_dflt (refine' ksa_sub ?zr295k1 ?zr295k2 ?zr295k3 ?zr295k4 ?zr295k5 ?zr295k6 ?_ ?zr295k7; (case zr295k1 => k_asm); (case zr295k2 => k_mem); (case zr295k3 => l_ints); (case zr295k4 => walk_at "mine bnd"); (case zr295k5 => walk_at "mine bnd"); (case zr295k6 => walk_at "mine bnd"); (case zr295k7 => with_unfolding_all rfl); k_whole); intro _)
  k_with "CompEnd" => (refine LCg.CompEnd.intro (by assumption) (by assumption) _ (fun p hp => hp) ?zr296o ?zr296s ⟨rfl, ?zr296y⟩; (case zr296o => assumption); (case zr296s => first | exact True.intro | lcg_src | assumption); (case zr296y => (refine bool_lt ?_; walk_at "mine lt")))
  k_with "mine lt" => first | exact lt_at (by assumption) (by assumption) rfl | exact (by assumption : ∀ x ∈ _, _) _ (by assumption)
  k_with "call ref" => (k_here; (with_reducible show wpAny _ _ (call (Value.ref 131) _) _ _ _); (rename BacksOk _ _ => zq2); k_dflt (refine' mutp_use (lback_c _ _ _ _ ?zctxp1 zq2) ?zctxk1 ?zctxk2 ?zctxk3 ?zctxk4 ?zctxk5 ?zctxkK ?zctxkU ?zctxkd ?zctxku ?zctxki ?zctxkp ?_; walk_at "mine ctx"; (case zctxkp => (rename ToldIs _ _ _ => zq3); (rename OwnOff _ _ => zq4); exact told_pre (by assumption) (by k_mem) (fun p hp => by kst_mem) zq3 zq4 (by k_mem) (by k_ne)); (case zctxp1 => omega); k_whole); intro _ _ _ _ _ _ _ zN' _ zho'; (have ze1 := zho'.1); (have ze2 := zho'.2); clear zho'; subst ze1; subst ze2; (try dsimp only at zN'); (try k_sweep))
  k_with "eval IfExp" => ((with_reducible show wpAny _ _ (eval (PySem.Expr.IfExp (PySem.Expr.Compare _ [PySem.CmpOp.Eq] _ _) _ _ _) _) _ _ _); (with_reducible rename JMark 1 => zhjm); clear zhjm; refine stop_of ?_)
  k_with "exec If" => ((with_reducible show wpAny _ _ (exec (PySem.Stmt.If (PySem.Expr.Compare _ [PySem.CmpOp.Eq] _ _) _ _ _) _) _ _ _); (with_reducible rename JMark 2 => zhjm); clear zhjm; refine stop_of ?_)
  have jhp := hJ.heapify
  rw [if_neg hs2] at jhp
  k_with "mine same" => first | (rw [List.length_map]; exact jhp) | exact jhp
  walk_at "mine go"
  · unfold Stop
    rename_i oO oR₀ oS dO dR dS _ _ _ _ _ _ ys0 hI0 _ D0 _ _ _ _ _ _ _ _ _ _ _ _ hIR _ DR _ _ _ _ _ _ _ oR hcR _ _ _ _ vR nR hiR _ _ _ tl _ _ _ _ _ _ _ lT _ lN'
    (rename Fr _ _ _ _ => lF')
    rw [show (decide (hpfN ltA ((List.map (fun k' => sg * k') start).length / 2) (List.map (fun k' => sg * k') start) = List.map (fun k' => sg * k') heap)) = true from decide_eq_true (by rw [List.length_map]; exact jhp)] at lF'
    have hiR2 : IntsAre vR (heap.map (sg * ·)) := ints_to hiR (by rw [List.length_map]; exact jhp)
    with_unfolding_all refine iter_listTurns (by rfl) lF' lN' (by k_mem) (by rfl) (by rfl) ?_
    intro I lI
    (try k_lt lI)
    refine rest_v (σ := (List Value × List Int × Nat) × (List Value × List Ent × Nat × List (Addr × Obj)) × Obj) (fun c => (tl, listOf c.2.1.1.toArray c.2.1.2.2.1) :: (DR, listOf c.1.1.toArray c.1.2.2) :: (D0, LCg.lst ys0) :: (L' + 1 + 1 + 1, c.2.2) :: (L' + 1 + 1, oR) :: (L' + 1, oS) :: (sl, listOf sv.toArray nt) :: c.2.1.2.2.2)
      (fun c => [(Str.ofString "drawn", .ref D0), (Str.ofString "fair", .bool true), (Str.ofString "told", .ref tl)])
      (fun i c => IntsAre c.1.1 c.1.2.1 ∧ J i c.1.2.1 c.2.1.2.1 ∧ ToldIs c.2.1.1 c.2.1.2.1 c.2.1.2.2.2 ∧ OwnOff c.2.1.2.2.2 [I, tl, DR, D0, L' + 1 + 1 + 1, L' + 1 + 1, L' + 1, sl] ∧ ∃ x, c.2.2.data = .cell x) ((vR, heap.map (sg * ·), nR), ([], [], 0, []), oO) rfl (by walk_at "mine maps") ⟨hiR2, hJ.init, toldIs_nil, offs_nil _, ⟨_, dO⟩⟩ ?off (fun c => ⟨by k_mem, trivial⟩) ?turn ?done
    case off =>
      rintro i ⟨⟨vr, row, nr⟩, ⟨tv, told, nt2, T⟩, oO2⟩ ⟨_, _, _, ho, _⟩
      dsimp only at ho ⊢
      have ho1 : ∀ p ∈ T, p.1 ≠ I := fun p hp => ho p hp I (.head _)
      simp only [List.forall_mem_cons, List.not_mem_nil, false_implies, implies_true, and_true]
      refine ⟨?_, ?_, ?_, ?_, ?_, ?_, ?_, ho1⟩ <;> k_ne
    case turn =>
      rintro i a ⟨⟨vr, row, nr⟩, ⟨tv, told, nt2, T⟩, oO2⟩ u ha ⟨hir, hj, hto, ho, ⟨cv, hcO⟩⟩ v h tk hv F
      obtain ⟨hin, b, k, num, t1, t2, rfl, hek, hT0⟩ := steps_item hsg2 ha
      have hv' : v = .ref b := hv
      subst hv'
      refine AllObj.cons (fun o1 hc1 => AllObj.nil (fun N' => ?_))
      have hT : IsTup h b #[.int k t1, .int num t2] := hT0.keeps F.keep
      clear lF' lN'
      dsimp only [kstB] at F
      (try dsimp only at *); (try simp only [List.cons_append, List.nil_append] at N'); (try k_fold)
      have hvr : vr.length = row.length := hir.length
      have jlen := hJ.len _ _ _ hj
      have jl3 := jlen.1
      have jl4 := jlen.2.1
      have jl5 := jlen.2.2 hin
      have mk : KstMark := kstMark
      have jl6 := hJ.el
      have jl7 : tv.length = i := hto.1.trans jl3
      have hkd : k = (if sg < 0 then 1 + k % 2 else k) := (if_neg hs2).symm
      obtain ⟨item, hit⟩ : ∃ item, item = (if k = 1 then lastI row else sg * num) := ⟨_, rfl⟩
      k_with_none
      k_with "mine enter" => (refine' def_enter ?zr245k1 ?zr245k2 ?zr245k3 ?zr245k4 ?zr245k5 ?zr245kA ?zr245kF ?zr245kK ?zr245k6 ?zr245k7 ?zr245k8 ?zr245k9 ?zr245kB ?_ ?zr245c2 ?zr245c3 ?zr245c4 ?zr245c5; (case zr245kA => exact rfl); (case zr245kF => exact rfl); (case zr245kK => assumption); (case zr245k1 => k_asm); (case zr245k2 => k_asm); (case zr245k3 => k_asm); (case zr245k4 => k_asm); (case zr245k5 => k_asm); (case zr245k6 => k_is); (case zr245k7 => k_is); (case zr245k8 => ktr_room); (case zr245k9 => exact BindsTo.of_eq rfl); (case zr245c5 => decide); (case zr245kB => exact locs rfl); (case zr245c2 => exact rfl); (case zr245c3 => exact rfl); (case zr245c4 => exact rfl); k_whole)
      k_with "binaryOp RShift int int" => (k_here; (with_reducible refine PySem.wpAny_rshift1_int ?zr246kb1 ?_); (case zr246kb1 => omega))
      k_with "mine cj" => (with_reducible (rename @Ne Nat _ _ ∧ _ => zhcj)); have _ := zhcj.1; replace zhcj := zhcj.2
      k_with "mine go" => (repeat (first | walk_at "mine cj" | (k_unfold; (try dsimp only)) | walk_at "mine fold" | walk1 | (dsimp only; walk1)))
      k_with "mine fold" => ((with_reducible show wpAny _ _ (exec _ _) _ _ _); k_fold)
      k_with "mine go2" => (repeat (first | walk_at "mine cj" | (k_unfold; (try dsimp only)) | walk_at "mine fold" | walk_at "mine fold2" | walk1 | (dsimp only; walk1)))
      k_with "mine fold2" => ((fail_if_success (fail_if_success k_fold)); (with_reducible show wpAny _ _ _ (fun _ _ => wpAny _ _ _ _ _ _) _ _); k_fold)
      k_with "mine bnd" => first | with_reducible assumption | omega | ((try simp only [List.length_set, List.length_append, List.length_cons, List.length_nil, List.length_dropLast, sdN_length]); omega)
      k_with "mine ctx" => ((case zctxk1 => k_asm); (case zctxk2 => k_asm); (case zctxk3 => k_asm); (case zctxk4 => k_asm); (case zctxk5 => k_asm); (case zctxkK => first | exact rfl | assumption); (case zctxkU => k_updF); (case zctxkd => ktr_room); (case zctxku => ktr_units); (case zctxki => l_ints))
      k_with "call ref" => (k_here; (with_reducible show wpAny _ _ (call (Value.ref 77) _) _ _ _); k_dflt (refine' mut_use (sd_c _ _ _ _ _ _ ?zctxp1 ?zctxp2 ?zctxp3 ?zctxp4) ?zctxk1 ?zctxk2 ?zctxk3 ?zctxk4 ?zctxk5 ?zctxkK ?zctxkU ?zctxkd ?zctxku ?zctxki ?_; walk_at "mine ctx"; (case zctxp1 => walk_at "mine bnd"); (case zctxp2 => walk_at "mine bnd"); (case zctxp3 => walk_at "mine bnd"); (case zctxp4 => walk_at "mine bnd"); k_whole); intro _ _ _ _ _ _ _ zN' _ zho'; (have ze1 := zho'.1); (have ze2 := zho'.2); clear zho'; subst ze1; subst ze2; (try dsimp only at zN'); (try k_sweep))
      k_with "call ref" => (k_here; (with_reducible show wpAny _ _ (call (Value.ref 91) _) _ _ _); k_dflt (refine' mut_use (sdx_c _ _ _ _ _ _ ?zctxp1 ?zctxp2 ?zctxp3 ?zctxp4) ?zctxk1 ?zctxk2 ?zctxk3 ?zctxk4 ?zctxk5 ?zctxkK ?zctxkU ?zctxkd ?zctxku ?zctxki ?_; walk_at "mine ctx"; (case zctxp1 => walk_at "mine bnd"); (case zctxp2 => walk_at "mine bnd"); (case zctxp3 => walk_at "mine bnd"); (case zctxp4 => walk_at "mine bnd"); k_whole); intro _ _ _ _ _ _ _ zN' _ zho'; (have ze1 := zho'.1); (have ze2 := zho'.2); clear zho'; subst ze1; subst ze2; (try dsimp only at zN'); (try k_sweep))
      k_with "mine bnd" => first | with_reducible assumption | omega | ((try simp only [List.length_set, List.length_append, List.length_cons, List.length_nil, List.length_dropLast, sdN_length, suN_length]); omega)
      k_with "call ref" => (k_here; (with_reducible show wpAny _ _ (call (Value.ref 84) _) _ _ _); k_dflt (refine' mut_use (su_c _ _ _ _ _ ?zctxp1 ?zctxp2 ?zctxp3) ?zctxk1 ?zctxk2 ?zctxk3 ?zctxk4 ?zctxk5 ?zctxkK ?zctxkU ?zctxkd ?zctxku ?zctxki ?_; walk_at "mine ctx"; (case zctxp1 => walk_at "mine bnd"); (case zctxp2 => walk_at "mine bnd"); (case zctxp3 => walk_at "mine bnd"); k_whole); intro _ _ _ _ _ _ _ zN' _ zho'; (have ze1 := zho'.1); (have ze2 := zho'.2); clear zho'; subst ze1; subst ze2; (try dsimp only at zN'); (try k_sweep))
      k_with "call ref" => (k_here; (with_reducible show wpAny _ _ (call (Value.ref 98) _) _ _ _); k_dflt (refine' mut_use (sux_c _ _ _ _ _ ?zctxp1 ?zctxp2 ?zctxp3) ?zctxk1 ?zctxk2 ?zctxk3 ?zctxk4 ?zctxk5 ?zctxkK ?zctxkU ?zctxkd ?zctxku ?zctxki ?_; walk_at "mine ctx"; (case zctxp1 => walk_at "mine bnd"); (case zctxp2 => walk_at "mine bnd"); (case zctxp3 => walk_at "mine bnd"); k_whole); intro _ _ _ _ _ _ _ zN' _ zho'; (have ze1 := zho'.1); (have ze2 := zho'.2); clear zho'; subst ze1; subst ze2; (try dsimp only at zN'); (try k_sweep))
      k_with "mine bnd" => first | with_reducible assumption | omega | ((try simp only [List.length_set, List.length_append, List.length_cons, List.length_nil, List.length_dropLast, sdN_length, suN_length, liftN_length]); omega)
      k_with "setItem ref int" => (k_here; (with_reducible show wpAny _ _ (setItem (Value.ref _) (Value.int _ _) (Value.int _ _)) _ _ _); k_dflt (refine' ksa_set ?zr260k1 ?zr260k2 ?zr260k3 ?zr260k4 ?zr260k5 ?zr260k6 ?zr260k7 ?_; (case zr260k1 => k_asm); (case zr260k2 => k_asm); (case zr260k3 => k_upd); (case zr260k4 => l_ints); (case zr260k5 => walk_at "mine bnd"); (case zr260k6 => walk_at "mine bnd"); (case zr260k7 => walk_at "mine bnd"); k_whole); intro _ _ _ _ _ _; (try k_sweep))
      k_with "call ref" => (k_here; (with_reducible show wpAny _ _ (call (Value.ref 21) _) _ _ _); k_dflt (refine' mut_use (push_c _ _ _ _ _ ?zctxp1) ?zctxk1 ?zctxk2 ?zctxk3 ?zctxk4 ?zctxk5 ?zctxkK ?zctxkU ?zctxkd ?zctxku ?zctxki ?_; walk_at "mine ctx"; (case zctxp1 => walk_at "mine bnd"); k_whole); intro _ _ _ _ _ _ _ zN' _ zho'; (have ze1 := zho'.1); (have ze2 := zho'.2); clear zho'; subst ze1; subst ze2; (try dsimp only at zN'); (try k_sweep))
      k_with "call ref" => (k_here; (with_reducible show wpAny _ _ (call (Value.ref 28) _) _ _ _); k_dflt (refine' mut_use (pop_c _ _ _ _ ?zctxp1 ?zctxp2) ?zctxk1 ?zctxk2 ?zctxk3 ?zctxk4 ?zctxk5 ?zctxkK ?zctxkU ?zctxkd ?zctxku ?zctxki ?_; walk_at "mine ctx"; (case zctxp1 => walk_at "mine bnd"); (case zctxp2 => walk_at "mine bnd"); k_whole); intro _ _ _ _ _ _ _ zN' _ zho'; (obtain ⟨ze1, _, ze2⟩ := zho'); subst ze1; subst ze2; (try dsimp only at zN'); (try k_sweep))
      k_with "call ref" => (k_here; (with_reducible show wpAny _ _ (call (Value.ref 56) _) _ _ _); k_dflt (refine' mut_use (popx_c _ _ _ _ ?zctxp1 ?zctxp2) ?zctxk1 ?zctxk2 ?zctxk3 ?zctxk4 ?zctxk5 ?zctxkK ?zctxkU ?zctxkd ?zctxku ?zctxki ?_; walk_at "mine ctx"; (case zctxp1 => walk_at "mine bnd"); (case zctxp2 => walk_at "mine bnd"); k_whole); intro _ _ _ _ _ _ _ zN' _ zho'; (obtain ⟨ze1, _, ze2⟩ := zho'); subst ze1; subst ze2; (try dsimp only at zN'); (try k_sweep))
      k_with "call ref" => (k_here; (with_reducible show wpAny _ _ (call (Value.ref 35) _) _ _ _); k_dflt (refine' mut_use (repl_c _ _ _ _ _ ?zctxp1 ?zctxp2) ?zctxk1 ?zctxk2 ?zctxk3 ?zctxk4 ?zctxk5 ?zctxkK ?zctxkU ?zctxkd ?zctxku ?zctxki ?_; walk_at "mine ctx"; (case zctxp1 => walk_at "mine bnd"); (case zctxp2 => walk_at "mine bnd"); k_whole); intro _ _ _ _ _ _ _ zN' _ zho'; (obtain ⟨ze1, _, ze2⟩ := zho'); subst ze1; subst ze2; (try dsimp only at zN'); (try k_sweep))
      k_with "call ref" => (k_here; (with_reducible show wpAny _ _ (call (Value.ref 63) _) _ _ _); k_dflt (refine' mut_use (replx_c _ _ _ _ _ ?zctxp1 ?zctxp2) ?zctxk1 ?zctxk2 ?zctxk3 ?zctxk4 ?zctxk5 ?zctxkK ?zctxkU ?zctxkd ?zctxku ?zctxki ?_; walk_at "mine ctx"; (case zctxp1 => walk_at "mine bnd"); (case zctxp2 => walk_at "mine bnd"); k_whole); intro _ _ _ _ _ _ _ zN' _ zho'; (obtain ⟨ze1, _, ze2⟩ := zho'); subst ze1; subst ze2; (try dsimp only at zN'); (try k_sweep))
      k_with "call ref" => (k_here; (with_reducible show wpAny _ _ (call (Value.ref 42) _) _ _ _); k_dflt (refine' mut_use (pushpop_c _ _ _ _ _ ?zctxp1 ?zctxp2) ?zctxk1 ?zctxk2 ?zctxk3 ?zctxk4 ?zctxk5 ?zctxkK ?zctxkU ?zctxkd ?zctxku ?zctxki ?_; walk_at "mine ctx"; (case zctxp1 => walk_at "mine bnd"); (case zctxp2 => walk_at "mine bnd"); k_whole); intro _ _ _ _ _ _ _ zN' _ zho'; (obtain ⟨ze1, _, ze2⟩ := zho'); subst ze1; subst ze2; (try dsimp only at zN'); (try k_sweep))
      k_with "call ref" => (k_here; (with_reducible show wpAny _ _ (call (Value.ref 110) _) _ _ _); k_dflt (refine' mut_use (lift_c _ _ _ _ _ _ ?zctxp1 ?zctxp2 ?zctxp3 ?zctxp4 ?zctxp5) ?zctxk1 ?zctxk2 ?zctxk3 ?zctxk4 ?zctxk5 ?zctxkK ?zctxkU ?zctxkd ?zctxku ?zctxki ?_; walk_at "mine ctx"; (case zctxp1 => walk_at "mine bnd"); (case zctxp2 => walk_at "mine bnd"); (case zctxp3 => walk_at "mine bnd"); (case zctxp4 => walk_at "mine bnd"); (case zctxp5 => walk_at "mine bnd"); k_whole); intro _ _ _ _ _ _ _ zN' _ zho'; (have ze1 := zho'.1); (have ze2 := zho'.2); clear zho'; subst ze1; subst ze2; (try dsimp only at zN'); (try k_sweep))
      k_with "call ref" => (k_here; (with_reducible show wpAny _ _ (call (Value.ref 49) _) _ _ _); k_dflt (refine' mut_use (hpf_c _ _ _ _ ?zctxp1) ?zctxk1 ?zctxk2 ?zctxk3 ?zctxk4 ?zctxk5 ?zctxkK ?zctxkU ?zctxkd ?zctxku ?zctxki ?_; walk_at "mine ctx"; (case zctxp1 => walk_at "mine bnd"); k_whole); intro _ _ _ _ _ _ _ zN' _ zho'; (have ze1 := zho'.1); (have ze2 := zho'.2); clear zho'; subst ze1; subst ze2; (try dsimp only at zN'); (try k_sweep))
      k_with "call ref" => (k_here; (with_reducible show wpAny _ _ (call (Value.ref 70) _) _ _ _); k_dflt (refine' mut_use (hpfx_c _ _ _ _ ?zctxp1) ?zctxk1 ?zctxk2 ?zctxk3 ?zctxk4 ?zctxk5 ?zctxkK ?zctxkU ?zctxkd ?zctxku ?zctxki ?_; walk_at "mine ctx"; (case zctxp1 => walk_at "mine bnd"); k_whole); intro _ _ _ _ _ _ _ zN' _ zho'; (have ze1 := zho'.1); (have ze2 := zho'.2); clear zho'; subst ze1; subst ze2; (try dsimp only at zN'); (try k_sweep))
      k_with "call ref" => (k_here; (with_reducible show wpAny _ _ (call (Value.ref 124) _) _ _ _); k_dflt (refine' mut_use (lcall_c _ _ _ _ _ _ _ ?zctxp1 ?zctxp2) ?zctxk1 ?zctxk2 ?zctxk3 ?zctxk4 ?zctxk5 ?zctxkK ?zctxkU ?zctxkd ?zctxku ?zctxki ?_; walk_at "mine ctx"; (case zctxp1 => walk_at "mine bnd"); (case zctxp2 => walk_at "mine bnd"); k_whole); intro _ _ _ _ _ _ _ zN' _ zho'; (have ze1 := zho'.1); (have _ := zho'.2); clear zho'; subst ze1; (try dsimp only at zN'); (try k_sweep))
      k_with "call builtin:len" => (k_here; (with_reducible show wpAny _ _ (call (Value.builtin "len") [Value.ref _]) _ _ _); k_dflt (refine' len_ints ?zr271k1 ?zr271k2 ?zr271k3 ?zr271k4 ?_; (case zr271k1 => k_asm); (case zr271k2 => k_mem); (case zr271k3 => l_ints); (case zr271k4 => walk_at "mine bnd"); k_whole))
      k_with "truthy ref" => (k_here; (with_reducible show wpAny _ _ (truthy (Value.ref _)) _ _ _); k_dflt (refine' truthy_ints ?zr272k1 ?zr272k2 ?zr272k3 ?zr272k4 ?_; (case zr272k1 => k_asm); (case zr272k2 => k_mem); (case zr272k3 => l_ints); (case zr272k4 => walk_at "mine bnd")))
      k_with "mine end" => ((try dsimp only); (try (k_unfold; try dsimp only)))
      k_with "mine maps" => first | exact List.forall_mem_nil _ | (refine List.forall_mem_cons.mpr ⟨by rfl, ?_⟩; walk_at "mine maps")
      k_with "binaryOp FloorDiv int int" => (k_here; (with_reducible refine ediv_int ?zr275kb ?zr275kp ?_); (case zr275kb => decide); (case zr275kp => first | exact PyProof.noPylong_of_log2 (by decide +kernel) | exact PyProof.noPylong_small (by omega)))
      k_with "binaryOp Mod int int" => (k_here; (with_reducible refine emod_int ?zr276kb ?_); (case zr276kb => first | decide | omega))
      k_with "subscriptTail Name Slice ref ref" => (k_here; (with_reducible show wpAny _ _ (subscriptTail _ (PySem.Expr.Slice none none none _) (Value.ref _) (Value.ref _)) _ _ _); k_dflt (refine' slice_all ?zr277F ?zr277N ?zr277l ?zr277z ?_ ?zr277s ?zr277t; (case zr277F => k_asm); (case zr277N => k_asm); (case zr277l => k_mem); (case zr277z => omega); (case zr277s => with_unfolding_all rfl); (case zr277t => (intro _; with_unfolding_all rfl))); intro _ _ _ _ zl1; (try k_lt zl1); (try k_sweep))
      k_with "mine off" => ((simp only [List.forall_mem_cons, List.not_mem_nil, false_implies, implies_true, and_true]); (repeat' apply And.intro) <;> k_ne)
      k_with "call builtin:list.pop" => (k_here; (with_reducible show wpAny _ _ (call (Value.builtin _) [Value.ref _, Value.int _ _]) _ _ _); k_dflt (refine' pop_at ?zr279F ?zr279N ?zr279U ?zr279i ?zr279a ?zr279b ?zr279c ?_; (case zr279F => k_asm); (case zr279N => k_asm); (case zr279U => k_updF); (case zr279i => l_ints); (case zr279a => walk_at "mine bnd"); (case zr279b => walk_at "mine bnd"); (case zr279c => walk_at "mine bnd")); intro _ _ _ zN' _; (try dsimp only at zN'); (try k_sweep))
      k_with "inplaceOp Add ref" => (k_here; (with_reducible show wpAny _ _ (inplaceOp Operator.Add (Value.ref _) (Value.ref _)) _ _ _); k_dflt (refine' iadd_lists ?zr280F ?zr280N ?zr280U ?zr280b ?zr280z ?_; (case zr280F => k_asm); (case zr280N => k_asm); (case zr280U => k_updF); (case zr280b => k_mem); (case zr280z => first | assumption | omega)); intro _ _ _ zN'; (try dsimp only at zN'); (try k_sweep))
      k_with "mine enterC" => (refine' def_enterC ?zr281k1 ?zr281k2 ?zr281k3 ?zr281k4 ?zr281k5 ?zr281kA ?zr281kF ?zr281kK ?zr281k6 ?zr281k7 ?zr281k8 ?zr281k9 ?zr281kB ?zr281kD ?_ ?zr281c2 ?zr281c3 ?zr281c4; (case zr281kA => exact rfl); (case zr281kF => exact rfl); (case zr281kK => assumption); (case zr281k1 => k_asm); (case zr281k2 => k_asm); (case zr281k3 => k_asm); (case zr281k4 => k_asm); (case zr281k5 => k_asm); (case zr281k6 => k_is); (case zr281k7 => k_is); (case zr281k8 => ktr_room); (case zr281k9 => exact BindsTo.of_eq rfl); (case zr281kB => exact rfl); (case zr281kD => decide +kernel); (case zr281c2 => exact rfl); (case zr281c3 => exact rfl); (case zr281c4 => exact rfl); k_whole)
      k_with "ite" => first | (with_reducible refine c_ff ?_) | (with_reducible refine c_tt ?_) | (with_reducible refine ct_yes (by assumption) ?_) | (with_reducible refine ct_no (by assumption) ?_) | (with_reducible refine cb_yes (by assumption) ?_) | (with_reducible refine cb_no (by assumption) ?_) | (with_reducible refine cn_yes (by assumption) ?_) | (with_reducible refine cn_no (by assumption) ?_)
      k_with "exec For Tuple Name cons nil" => (k_here; (rename Fr _ _ _ _ => zlF'); (with_unfolding_all refine' For_turns zlF' ?_; k_whole))
      k_with "pyIter ref" => ((with_reducible show wpAny _ _ (pyIter (Value.ref _)) (fun it s₂ => TurnsAt _ _ _ _ _ _ _ _ _ it s₂) _ _); refine stop_of ?_)
      k_with "mine same" => k_extra "mine same"
      k_with "mine bnd" => ((simp only [List.length_map]); omega)
      k_with "compareOp Eq ref ref" => (k_here; (with_reducible show wpAny _ _ (compareOp CmpOp.Eq (Value.ref _) (Value.ref _)) _ _ _); (refine' eq_own ?zr287N ?zr287a ?zr287b ?zr287i ?zr287j ?zr287u ?zr287e ?_; (case zr287N => k_asm); (case zr287a => k_mem); (case zr287b => k_mem); (case zr287i => l_ints); (case zr287j => l_ints); (case zr287u => ktr_units); (case zr287e => walk_at "mine same"); k_whole))
      k_with "call builtin:list.append" => (k_here; (with_reducible show wpAny _ _ (call (Value.builtin _) [Value.ref _, Value.ref _]) _ _ _); k_dflt (refine' append_any ?zr288k1 ?zr288k2 ?zr288k3 ?zr288z ?_; (case zr288k1 => k_asm); (case zr288k2 => k_asm); (case zr288k3 => k_updF); (case zr288z => walk_at "mine bnd")); intro _ _ zN'; (try dsimp only at zN'); (try k_sweep))
      k_with "call ref" => (k_here; (with_reducible show wpAny _ _ (call (Value.ref 124) _) _ _ _); k_dflt (refine' mut_use (lcall_c _ _ _ _ _ _ _ ?zctxp1 ?zctxp2) ?zctxk1 ?zctxk2 ?zctxk3 ?zctxk4 ?zctxk5 ?zctxkK ?zctxkU ?zctxkd ?zctxku ?zctxki ?_; walk_at "mine ctx"; (case zctxp1 => walk_at "mine bnd"); (case zctxp2 => walk_at "mine bnd"); k_whole); intro _ _ _ _ _ _ _ zN' _ zho'; (have ze1 := zho'.1); (have _ := zho'.2); clear zho'; subst ze1; walk_at "mine ok"; (try dsimp only at zN'); (try k_sweep))
      k_with "call builtin:all" => (k_here; (with_reducible show wpAny _ _ (call (Value.builtin "all") [Value.ref _]) _ _ _); k_dflt (refine all_trues (by k_asm) (by k_asm) (by rfl) (by k_mem) (by assumption) ?_); intro _ _ _ _)
      k_with "eval ListComp" => (k_here; (with_reducible show wpAny _ _ (eval (PySem.Expr.ListComp (PySem.Expr.Compare _ _ _ _) _ _ _) _) _ _ _); k_dflt (refine LCg.ListComp_U (F₀ := by k_asm) (by with_unfolding_all rfl) (by decide) (by rfl) (by decide) (by rfl) ?_))
      k_with "CompSrc" => ((with_reducible show LCg.CompSrc _ _ _ _ _ _ _ (PySem.Expr.Compare _ _ _ _) _ _ _ _ _ _); k_dflt ((refine' LCg.CompSrc.ledger (by rfl) ?zr292kF ?zr292kN ?zr292kM ?zr292kZ ?_; (case zr292kF => k_asm); (case zr292kN => k_asm); (case zr292kM => k_mem); (case zr292kZ => kcf_size); intro _; refine' comp_truesL ?zr292ki (fun _ _ _ _ _ _ _ _ _ _ _ _ _ _ _ _ _ _ _ => ?_) (fun _ _ => ?_); (case zr292ki => first | assumption | l_ints))); kcf_last)
      k_with "CompSrc" => ((with_reducible show LCg.CompSrc _ _ _ _ _ _ _ (PySem.Expr.Compare _ _ _ _) _ _ _ _ _ _); k_dflt ((refine LCg.CompSrc.range (by rfl) (by k_asm) (by k_asm) (by assumption) (by exact small_one (by omega) (by omega) (by omega) (by omega)) (by exact rangeSize_nat _ _) (by rw [PySem.sizeLine_eq]; omega) ?_; intro _; refine' comp_truesR (fun _ _ _ _ _ _ _ _ _ _ _ _ _ _ _ _ _ _ _ => ?_) (fun _ _ => ?_))); kcf_last)
      k_with "subscriptTail Name BinOp ref int" => (k_here; (with_reducible show wpAny _ _ (subscriptTail _ _ (Value.ref _) (Value.int _ _)) _ _ _); k_dflt (refine' ksa_sub ?zr294k1 ?zr294k2 ?zr294k3 ?zr294k4 ?zr294k5 ?zr294k6 ?_ ?zr294k7; (case zr294k1 => k_asm); (case zr294k2 => k_mem); (case zr294k3 => l_ints); (case zr294k4 => walk_at "mine bnd"); (case zr294k5 => walk_at "mine bnd"); (case zr294k6 => walk_at "mine bnd"); (case zr294k7 => with_unfolding_all rfl); k_whole); intro _)
      k_with "subscriptTail Name Name ref int" => (k_here; (with_reducible show wpAny _ _ (subscriptTail _ _ (Value.ref _) (Value.int _ _)) _ _ _); k_dflt (refine' ksa_sub ?zr295k1 ?zr295k2 ?zr295k3 ?zr295k4 ?zr295k5 ?zr295k6 ?_ ?zr295k7; (case zr295k1 => k_asm); (case zr295k2 => k_mem); (case zr295k3 => l_ints); (case zr295k4 => walk_at "mine bnd"); (case zr295k5 => walk_at "mine bnd"); (case zr295k6 => walk_at "mine bnd"); (case zr295k7 => with_unfolding_all rfl); k_whole); intro _)
      k_with "CompEnd" => (refine LCg.CompEnd.intro (by assumption) (by assumption) _ (fun p hp => hp) ?zr296o ?zr296s ⟨rfl, ?zr296y⟩; (case zr296o => assumption); (case zr296s => first | exact True.intro | lcg_src | assumption); (case zr296y => (refine bool_lt ?_; walk_at "mine lt")))
      k_with "mine lt" => first | exact lt_at (by assumption) (by assumption) rfl | exact (by assumption : ∀ x ∈ _, _) _ (by assumption)
      k_with "call ref" => (k_here; (with_reducible show wpAny _ _ (call (Value.ref 131) _) _ _ _); (rename BacksOk _ _ => zq2); k_dflt (refine' mutp_use (lback_c _ _ _ _ ?zctxp1 zq2) ?zctxk1 ?zctxk2 ?zctxk3 ?zctxk4 ?zctxk5 ?zctxkK ?zctxkU ?zctxkd ?zctxku ?zctxki ?zctxkp ?_; walk_at "mine ctx"; (case zctxkp => (rename ToldIs _ _ _ => zq3); (rename OwnOff _ _ => zq4); exact told_pre (by assumption) (by k_mem) (fun p hp => by kst_mem) zq3 zq4 (by k_mem) (by k_ne)); (case zctxp1 => omega); k_whole); intro _ _ _ _ _ _ _ zN' _ zho'; (have ze1 := zho'.1); (have ze2 := zho'.2); clear zho'; subst ze1; subst ze2; (try dsimp only at zN'); (try k_sweep))
      k_with "eval IfExp" => ((with_reducible show wpAny _ _ (eval (PySem.Expr.IfExp (PySem.Expr.Compare _ [PySem.CmpOp.Eq] _ _) _ _ _) _) _ _ _); (with_reducible rename JMark 1 => zhjm); clear zhjm; refine stop_of ?_)
      k_with "exec If" => ((with_reducible show wpAny _ _ (exec (PySem.Stmt.If (PySem.Expr.Compare _ [PySem.CmpOp.Eq] _ _) _ _ _) _) _ _ _); (with_reducible rename JMark 2 => zhjm); clear zhjm; refine stop_of ?_)
      have jk1 := jmark 1
      walk_at "mine go"
      unfold Stop
      refine join_int item ?_ (fun u9 tk9 => ?_)
      · by_cases hk1 : k = 1
        · rw [if_pos hk1] at hit
          walk_at "mine go"
          exact JInt.of hit _ _ _
        · rw [if_neg hk1] at hit
          walk_at "mine go"
          exact JInt.of hit _ _ _
      k_with "mine ok" => (rename OV _ _ => e2; have hj0 := tab_turn hJ hj hek hkd hit e2; obtain ⟨hj2, jm1, jm3, jm4, jm5⟩ := hj0)
      have jk2 := jmark 2
      walk_at "mine go"
      unfold Stop
      by_cases hk0 : k = 0
      · have jm7 := jm5 hk0
        subst jm7
        walk_at "mine go"
        rename News _ _ _ _ => N9
        rename OV _ _ => e2
        exact lpost_tab (by assumption) (news_tail N9) rfl rfl rfl (by assumption) hj2 hto ho e2 (by assumption) (by assumption) (by assumption) (by assumption) (by assumption) (by assumption) (by assumption) (by assumption) (by assumption)
      · obtain ⟨o8, t9, jm6, jm7, jm8⟩ := jm4 hk0
        subst jm7
        by_cases hk2 : k = 2
        · walk_at "mine go"
          rename News _ _ _ _ => N9
          exact lpost_tab (by assumption) (news_tail N9) rfl rfl rfl (by assumption) hj2 hto ho jm6 (by assumption) (by assumption) (by assumption) (by assumption) (by assumption) (by assumption) (by assumption) (by assumption) (by assumption)
        · have jm9 := jm8 hk2
          k_with "mine lt" => exact jm9 _ (by assumption)
          walk_at "mine go"
          rename News _ _ _ _ => N9
          exact lpost_tab (by assumption) (news_tail (news_tail N9)) rfl rfl rfl (by assumption) hj2 hto ho jm6 (by assumption) (by assumption) (by assumption) (by assumption) (by assumption) (by assumption) (by assumption) (by assumption) (by assumption)
    case done =>
      rintro ⟨⟨vr, row, nr⟩, ⟨tv, told, nt2, T⟩, oO2⟩ u h tk ⟨hir, hj, hto, ho, ⟨cv, hcO⟩⟩ F N'
      have hz : (sv.map Itm.val).length = es.length := by rw [List.length_map]; exact hst.1
      rw [hz] at hj
      clear lF' lN'
      dsimp only [kstB] at F
      (try dsimp only at *); (try k_fold)
      obtain ⟨hbo, hbk⟩ := hJ.back _ _ hj
      have jl3 := (hJ.len _ _ _ hj).1
      have jl6 := hJ.el
      have mk : KstMark := kstMark
      k_with_none
      k_with "mine enter" => (refine' def_enter ?zr245k1 ?zr245k2 ?zr245k3 ?zr245k4 ?zr245k5 ?zr245kA ?zr245kF ?zr245kK ?zr245k6 ?zr245k7 ?zr245k8 ?zr245k9 ?zr245kB ?_ ?zr245c2 ?zr245c3 ?zr245c4 ?zr245c5; (case zr245kA => exact rfl); (case zr245kF => exact rfl); (case zr245kK => assumption); (case zr245k1 => k_asm); (case zr245k2 => k_asm); (case zr245k3 => k_asm); (case zr245k4 => k_asm); (case zr245k5 => k_asm); (case zr245k6 => k_is); (case zr245k7 => k_is); (case zr245k8 => ktr_room); (case zr245k9 => exact BindsTo.of_eq rfl); (case zr245c5 => decide); (case zr245kB => exact locs rfl); (case zr245c2 => exact rfl); (case zr245c3 => exact rfl); (case zr245c4 => exact rfl); k_whole)
      k_with "binaryOp RShift int int" => (k_here; (with_reducible refine PySem.wpAny_rshift1_int ?zr246kb1 ?_); (case zr246kb1 => omega))
      k_with "mine cj" => (with_reducible (rename @Ne Nat _ _ ∧ _ => zhcj)); have _ := zhcj.1; replace zhcj := zhcj.2
      k_with "mine go" => (repeat (first | walk_at "mine cj" | (k_unfold; (try dsimp only)) | walk_at "mine fold" | walk1 | (dsimp only; walk1)))
      k_with "mine fold" => ((with_reducible show wpAny _ _ (exec _ _) _ _ _); k_fold)
      k_with "mine go2" => (repeat (first | walk_at "mine cj" | (k_unfold; (try dsimp only)) | walk_at "mine fold" | walk_at "mine fold2" | walk1 | (dsimp only; walk1)))
      k_with "mine fold2" => ((fail_if_success (fail_if_success k_fold)); (with_reducible show wpAny _ _ _ (fun _ _ => wpAny _ _ _ _ _ _) _ _); k_fold)
      k_with "mine bnd" => first | with_reducible assumption | omega | ((try simp only [List.length_set, List.length_append, List.length_cons, List.length_nil, List.length_dropLast, sdN_length]); omega)
      k_with "mine ctx" => ((case zctxk1 => k_asm); (case zctxk2 => k_asm); (case zctxk3 => k_asm); (case zctxk4 => k_asm); (case zctxk5 => k_asm); (case zctxkK => first | exact rfl | assumption); (case zctxkU => k_updF); (case zctxkd => ktr_room); (case zctxku => ktr_units); (case zctxki => l_ints))
      k_with "call ref" => (k_here; (with_reducible show wpAny _ _ (call (Value.ref 77) _) _ _ _); k_dflt (refine' mut_use (sd_c _ _ _ _ _ _ ?zctxp1 ?zctxp2 ?zctxp3 ?zctxp4) ?zctxk1 ?zctxk2 ?zctxk3 ?zctxk4 ?zctxk5 ?zctxkK ?zctxkU ?zctxkd ?zctxku ?zctxki ?_; walk_at "mine ctx"; (case zctxp1 => walk_at "mine bnd"); (case zctxp2 => walk_at "mine bnd"); (case zctxp3 => walk_at "mine bnd"); (case zctxp4 => walk_at "mine bnd"); k_whole); intro _ _ _ _ _ _ _ zN' _ zho'; (have ze1 := zho'.1); (have ze2 := zho'.2); clear zho'; subst ze1; subst ze2; (try dsimp only at zN'); (try k_sweep))
      k_with "call ref" => (k_here; (with_reducible show wpAny _ _ (call (Value.ref 91) _) _ _ _); k_dflt (refine' mut_use (sdx_c _ _ _ _ _ _ ?zctxp1 ?zctxp2 ?zctxp3 ?zctxp4) ?zctxk1 ?zctxk2 ?zctxk3 ?zctxk4 ?zctxk5 ?zctxkK ?zctxkU ?zctxkd ?zctxku ?zctxki ?_; walk_at "mine ctx"; (case zctxp1 => walk_at "mine bnd"); (case zctxp2 => walk_at "mine bnd"); (case zctxp3 => walk_at "mine bnd"); (case zctxp4 => walk_at "mine bnd"); k_whole); intro _ _ _ _ _ _ _ zN' _ zho'; (have ze1 := zho'.1); (have ze2 := zho'.2); clear zho'; subst ze1; subst ze2; (try dsimp only at zN'); (try k_sweep))
      k_with "mine bnd" => first | with_reducible assumption | omega | ((try simp only [List.length_set, List.length_append, List.length_cons, List.length_nil, List.length_dropLast, sdN_length, suN_length]); omega)
      k_with "call ref" => (k_here; (with_reducible show wpAny _ _ (call (Value.ref 84) _) _ _ _); k_dflt (refine' mut_use (su_c _ _ _ _ _ ?zctxp1 ?zctxp2 ?zctxp3) ?zctxk1 ?zctxk2 ?zctxk3 ?zctxk4 ?zctxk5 ?zctxkK ?zctxkU ?zctxkd ?zctxku ?zctxki ?_; walk_at "mine ctx"; (case zctxp1 => walk_at "mine bnd"); (case zctxp2 => walk_at "mine bnd"); (case zctxp3 => walk_at "mine bnd"); k_whole); intro _ _ _ _ _ _ _ zN' _ zho'; (have ze1 := zho'.1); (have ze2 := zho'.2); clear zho'; subst ze1; subst ze2; (try dsimp only at zN'); (try k_sweep))
      k_with "call ref" => (k_here; (with_reducible show wpAny _ _ (call (Value.ref 98) _) _ _ _); k_dflt (refine' mut_use (sux_c _ _ _ _ _ ?zctxp1 ?zctxp2 ?zctxp3) ?zctxk1 ?zctxk2 ?zctxk3 ?zctxk4 ?zctxk5 ?zctxkK ?zctxkU ?zctxkd ?zctxku ?zctxki ?_; walk_at "mine ctx"; (case zctxp1 => walk_at "mine bnd"); (case zctxp2 => walk_at "mine bnd"); (case zctxp3 => walk_at "mine bnd"); k_whole); intro _ _ _ _ _ _ _ zN' _ zho'; (have ze1 := zho'.1); (have ze2 := zho'.2); clear zho'; subst ze1; subst ze2; (try dsimp only at zN'); (try k_sweep))
      k_with "mine bnd" => first | with_reducible assumption | omega | ((try simp only [List.length_set, List.length_append, List.length_cons, List.length_nil, List.length_dropLast, sdN_length, suN_length, liftN_length]); omega)
      k_with "setItem ref int" => (k_here; (with_reducible show wpAny _ _ (setItem (Value.ref _) (Value.int _ _) (Value.int _ _)) _ _ _); k_dflt (refine' ksa_set ?zr260k1 ?zr260k2 ?zr260k3 ?zr260k4 ?zr260k5 ?zr260k6 ?zr260k7 ?_; (case zr260k1 => k_asm); (case zr260k2 => k_asm); (case zr260k3 => k_upd); (case zr260k4 => l_ints); (case zr260k5 => walk_at "mine bnd"); (case zr260k6 => walk_at "mine bnd"); (case zr260k7 => walk_at "mine bnd"); k_whole); intro _ _ _ _ _ _; (try k_sweep))
      k_with "call ref" => (k_here; (with_reducible show wpAny _ _ (call (Value.ref 21) _) _ _ _); k_dflt (refine' mut_use (push_c _ _ _ _ _ ?zctxp1) ?zctxk1 ?zctxk2 ?zctxk3 ?zctxk4 ?zctxk5 ?zctxkK ?zctxkU ?zctxkd ?zctxku ?zctxki ?_; walk_at "mine ctx"; (case zctxp1 => walk_at "mine bnd"); k_whole); intro _ _ _ _ _ _ _ zN' _ zho'; (have ze1 := zho'.1); (have ze2 := zho'.2); clear zho'; subst ze1; subst ze2; (try dsimp only at zN'); (try k_sweep))
      k_with "call ref" => (k_here; (with_reducible show wpAny _ _ (call (Value.ref 28) _) _ _ _); k_dflt (refine' mut_use (pop_c _ _ _ _ ?zctxp1 ?zctxp2) ?zctxk1 ?zctxk2 ?zctxk3 ?zctxk4 ?zctxk5 ?zctxkK ?zctxkU ?zctxkd ?zctxku ?zctxki ?_; walk_at "mine ctx"; (case zctxp1 => walk_at "mine bnd"); (case zctxp2 => walk_at "mine bnd"); k_whole); intro _ _ _ _ _ _ _ zN' _ zho'; (obtain ⟨ze1, _, ze2⟩ := zho'); subst ze1; subst ze2; (try dsimp only at zN'); (try k_sweep))
      k_with "call ref" => (k_here; (with_reducible show wpAny _ _ (call (Value.ref 56) _) _ _ _); k_dflt (refine' mut_use (popx_c _ _ _ _ ?zctxp1 ?zctxp2) ?zctxk1 ?zctxk2 ?zctxk3 ?zctxk4 ?zctxk5 ?zctxkK ?zctxkU ?zctxkd ?zctxku ?zctxki ?_; walk_at "mine ctx"; (case zctxp1 => walk_at "mine bnd"); (case zctxp2 => walk_at "mine bnd"); k_whole); intro _ _ _ _ _ _ _ zN' _ zho'; (obtain ⟨ze1, _, ze2⟩ := zho'); subst ze1; subst ze2; (try dsimp only at zN'); (try k_sweep))
      k_with "call ref" => (k_here; (with_reducible show wpAny _ _ (call (Value.ref 35) _) _ _ _); k_dflt (refine' mut_use (repl_c _ _ _ _ _ ?zctxp1 ?zctxp2) ?zctxk1 ?zctxk2 ?zctxk3 ?zctxk4 ?zctxk5 ?zctxkK ?zctxkU ?zctxkd ?zctxku ?zctxki ?_; walk_at "mine ctx"; (case zctxp1 => walk_at "mine bnd"); (case zctxp2 => walk_at "mine bnd"); k_whole); intro _ _ _ _ _ _ _ zN' _ zho'; (obtain ⟨ze1, _, ze2⟩ := zho'); subst ze1; subst ze2; (try dsimp only at zN'); (try k_sweep))
      k_with "call ref" => (k_here; (with_reducible show wpAny _ _ (call (Value.ref 63) _) _ _ _); k_dflt (refine' mut_use (replx_c _ _ _ _ _ ?zctxp1 ?zctxp2) ?zctxk1 ?zctxk2 ?zctxk3 ?zctxk4 ?zctxk5 ?zctxkK ?zctxkU ?zctxkd ?zctxku ?zctxki ?_; walk_at "mine ctx"; (case zctxp1 => walk_at "mine bnd"); (case zctxp2 => walk_at "mine bnd"); k_whole); intro _ _ _ _ _ _ _ zN' _ zho'; (obtain ⟨ze1, _, ze2⟩ := zho'); subst ze1; subst ze2; (try dsimp only at zN'); (try k_sweep))
      k_with "call ref" => (k_here; (with_reducible show wpAny _ _ (call (Value.ref 42) _) _ _ _); k_dflt (refine' mut_use (pushpop_c _ _ _ _ _ ?zctxp1 ?zctxp2) ?zctxk1 ?zctxk2 ?zctxk3 ?zctxk4 ?zctxk5 ?zctxkK ?zctxkU ?zctxkd ?zctxku ?zctxki ?_; walk_at "mine ctx"; (case zctxp1 => walk_at "mine bnd"); (case zctxp2 => walk_at "mine bnd"); k_whole); intro _ _ _ _ _ _ _ zN' _ zho'; (obtain ⟨ze1, _, ze2⟩ := zho'); subst ze1; subst ze2; (try dsimp only at zN'); (try k_sweep))
      k_with "call ref" => (k_here; (with_reducible show wpAny _ _ (call (Value.ref 110) _) _ _ _); k_dflt (refine' mut_use (lift_c _ _ _ _ _ _ ?zctxp1 ?zctxp2 ?zctxp3 ?zctxp4 ?zctxp5) ?zctxk1 ?zctxk2 ?zctxk3 ?zctxk4 ?zctxk5 ?zctxkK ?zctxkU ?zctxkd ?zctxku ?zctxki ?_; walk_at "mine ctx"; (case zctxp1 => walk_at "mine bnd"); (case zctxp2 => walk_at "mine bnd"); (case zctxp3 => walk_at "mine bnd"); (case zctxp4 => walk_at "mine bnd"); (case zctxp5 => walk_at "mine bnd"); k_whole); intro _ _ _ _ _ _ _ zN' _ zho'; (have ze1 := zho'.1); (have ze2 := zho'.2); clear zho'; subst ze1; subst ze2; (try dsimp only at zN'); (try k_sweep))
      k_with "call ref" => (k_here; (with_reducible show wpAny _ _ (call (Value.ref 49) _) _ _ _); k_dflt (refine' mut_use (hpf_c _ _ _ _ ?zctxp1) ?zctxk1 ?zctxk2 ?zctxk3 ?zctxk4 ?zctxk5 ?zctxkK ?zctxkU ?zctxkd ?zctxku ?zctxki ?_; walk_at "mine ctx"; (case zctxp1 => walk_at "mine bnd"); k_whole); intro _ _ _ _ _ _ _ zN' _ zho'; (have ze1 := zho'.1); (have ze2 := zho'.2); clear zho'; subst ze1; subst ze2; (try dsimp only at zN'); (try k_sweep))
      k_with "call ref" => (k_here; (with_reducible show wpAny _ _ (call (Value.ref 70) _) _ _ _); k_dflt (refine' mut_use (hpfx_c _ _ _ _ ?zctxp1) ?zctxk1 ?zctxk2 ?zctxk3 ?zctxk4 ?zctxk5 ?zctxkK ?zctxkU ?zctxkd ?zctxku ?zctxki ?_; walk_at "mine ctx"; (case zctxp1 => walk_at "mine bnd"); k_whole); intro _ _ _ _ _ _ _ zN' _ zho'; (have ze1 := zho'.1); (have ze2 := zho'.2); clear zho'; subst ze1; subst ze2; (try dsimp only at zN'); (try k_sweep))
      k_with "call ref" => (k_here; (with_reducible show wpAny _ _ (call (Value.ref 124) _) _ _ _); k_dflt (refine' mut_use (lcall_c _ _ _ _ _ _ _ ?zctxp1 ?zctxp2) ?zctxk1 ?zctxk2 ?zctxk3 ?zctxk4 ?zctxk5 ?zctxkK ?zctxkU ?zctxkd ?zctxku ?zctxki ?_; walk_at "mine ctx"; (case zctxp1 => walk_at "mine bnd"); (case zctxp2 => walk_at "mine bnd"); k_whole); intro _ _ _ _ _ _ _ zN' _ zho'; (have ze1 := zho'.1); (have _ := zho'.2); clear zho'; subst ze1; (try dsimp only at zN'); (try k_sweep))
      k_with "call builtin:len" => (k_here; (with_reducible show wpAny _ _ (call (Value.builtin "len") [Value.ref _]) _ _ _); k_dflt (refine' len_ints ?zr271k1 ?zr271k2 ?zr271k3 ?zr271k4 ?_; (case zr271k1 => k_asm); (case zr271k2 => k_mem); (case zr271k3 => l_ints); (case zr271k4 => walk_at "mine bnd"); k_whole))
      k_with "truthy ref" => (k_here; (with_reducible show wpAny _ _ (truthy (Value.ref _)) _ _ _); k_dflt (refine' truthy_ints ?zr272k1 ?zr272k2 ?zr272k3 ?zr272k4 ?_; (case zr272k1 => k_asm); (case zr272k2 => k_mem); (case zr272k3 => l_ints); (case zr272k4 => walk_at "mine bnd")))
      k_with "mine end" => ((try dsimp only); (try (k_unfold; try dsimp only)))
      k_with "mine maps" => first | exact List.forall_mem_nil _ | (refine List.forall_mem_cons.mpr ⟨by rfl, ?_⟩; walk_at "mine maps")
      k_with "binaryOp FloorDiv int int" => (k_here; (with_reducible refine ediv_int ?zr275kb ?zr275kp ?_); (case zr275kb => decide); (case zr275kp => first | exact PyProof.noPylong_of_log2 (by decide +kernel) | exact PyProof.noPylong_small (by omega)))
      k_with "binaryOp Mod int int" => (k_here; (with_reducible refine emod_int ?zr276kb ?_); (case zr276kb => first | decide | omega))
      k_with "subscriptTail Name Slice ref ref" => (k_here; (with_reducible show wpAny _ _ (subscriptTail _ (PySem.Expr.Slice none none none _) (Value.ref _) (Value.ref _)) _ _ _); k_dflt (refine' slice_all ?zr277F ?zr277N ?zr277l ?zr277z ?_ ?zr277s ?zr277t; (case zr277F => k_asm); (case zr277N => k_asm); (case zr277l => k_mem); (case zr277z => omega); (case zr277s => with_unfolding_all rfl); (case zr277t => (intro _; with_unfolding_all rfl))); intro _ _ _ _ zl1; (try k_lt zl1); (try k_sweep))
      k_with "mine off" => ((simp only [List.forall_mem_cons, List.not_mem_nil, false_implies, implies_true, and_true]); (repeat' apply And.intro) <;> k_ne)
      k_with "call builtin:list.pop" => (k_here; (with_reducible show wpAny _ _ (call (Value.builtin _) [Value.ref _, Value.int _ _]) _ _ _); k_dflt (refine' pop_at ?zr279F ?zr279N ?zr279U ?zr279i ?zr279a ?zr279b ?zr279c ?_; (case zr279F => k_asm); (case zr279N => k_asm); (case zr279U => k_updF); (case zr279i => l_ints); (case zr279a => walk_at "mine bnd"); (case zr279b => walk_at "mine bnd"); (case zr279c => walk_at "mine bnd")); intro _ _ _ zN' _; (try dsimp only at zN'); (try k_sweep))
      k_with "inplaceOp Add ref" => (k_here; (with_reducible show wpAny _ _ (inplaceOp Operator.Add (Value.ref _) (Value.ref _)) _ _ _); k_dflt (refine' iadd_lists ?zr280F ?zr280N ?zr280U ?zr280b ?zr280z ?_; (case zr280F => k_asm); (case zr280N => k_asm); (case zr280U => k_updF); (case zr280b => k_mem); (case zr280z => first | assumption | omega)); intro _ _ _ zN'; (try dsimp only at zN'); (try k_sweep))
      k_with "mine enterC" => (refine' def_enterC ?zr281k1 ?zr281k2 ?zr281k3 ?zr281k4 ?zr281k5 ?zr281kA ?zr281kF ?zr281kK ?zr281k6 ?zr281k7 ?zr281k8 ?zr281k9 ?zr281kB ?zr281kD ?_ ?zr281c2 ?zr281c3 ?zr281c4; (case zr281kA => exact rfl); (case zr281kF => exact rfl); (case zr281kK => assumption); (case zr281k1 => k_asm); (case zr281k2 => k_asm); (case zr281k3 => k_asm); (case zr281k4 => k_asm); (case zr281k5 => k_asm); (case zr281k6 => k_is); (case zr281k7 => k_is); (case zr281k8 => ktr_room); (case zr281k9 => exact BindsTo.of_eq rfl); (case zr281kB => exact rfl); (case zr281kD => decide +kernel); (case zr281c2 => exact rfl); (case zr281c3 => exact rfl); (case zr281c4 => exact rfl); k_whole)
      k_with "ite" => first | (with_reducible refine c_ff ?_) | (with_reducible refine c_tt ?_) | (with_reducible refine ct_yes (by assumption) ?_) | (with_reducible refine ct_no (by assumption) ?_) | (with_reducible refine cb_yes (by assumption) ?_) | (with_reducible refine cb_no (by assumption) ?_) | (with_reducible refine cn_yes (by assumption) ?_) | (with_reducible refine cn_no (by assumption) ?_)
      k_with "exec For Tuple Name cons nil" => (k_here; (rename Fr _ _ _ _ => zlF'); (with_unfolding_all refine' For_turns zlF' ?_; k_whole))
      k_with "pyIter ref" => ((with_reducible show wpAny _ _ (pyIter (Value.ref _)) (fun it s₂ => TurnsAt _ _ _ _ _ _ _ _ _ it s₂) _ _); refine stop_of ?_)
      k_with "mine same" => k_extra "mine same"
      k_with "mine bnd" => ((simp only [List.length_map]); omega)
      k_with "compareOp Eq ref ref" => (k_here; (with_reducible show wpAny _ _ (compareOp CmpOp.Eq (Value.ref _) (Value.ref _)) _ _ _); (refine' eq_own ?zr287N ?zr287a ?zr287b ?zr287i ?zr287j ?zr287u ?zr287e ?_; (case zr287N => k_asm); (case zr287a => k_mem); (case zr287b => k_mem); (case zr287i => l_ints); (case zr287j => l_ints); (case zr287u => ktr_units); (case zr287e => walk_at "mine same"); k_whole))
      k_with "call builtin:list.append" => (k_here; (with_reducible show wpAny _ _ (call (Value.builtin _) [Value.ref _, Value.ref _]) _ _ _); k_dflt (refine' append_any ?zr288k1 ?zr288k2 ?zr288k3 ?zr288z ?_; (case zr288k1 => k_asm); (case zr288k2 => k_asm); (case zr288k3 => k_updF); (case zr288z => walk_at "mine bnd")); intro _ _ zN'; (try dsimp only at zN'); (try k_sweep))
      k_with "call ref" => (k_here; (with_reducible show wpAny _ _ (call (Value.ref 124) _) _ _ _); k_dflt (refine' mut_use (lcall_c _ _ _ _ _ _ _ ?zctxp1 ?zctxp2) ?zctxk1 ?zctxk2 ?zctxk3 ?zctxk4 ?zctxk5 ?zctxkK ?zctxkU ?zctxkd ?zctxku ?zctxki ?_; walk_at "mine ctx"; (case zctxp1 => walk_at "mine bnd"); (case zctxp2 => walk_at "mine bnd"); k_whole); intro _ _ _ _ _ _ _ zN' _ zho'; (have ze1 := zho'.1); (have _ := zho'.2); clear zho'; subst ze1; walk_at "mine ok"; (try dsimp only at zN'); (try k_sweep))
      k_with "call builtin:all" => (k_here; (with_reducible show wpAny _ _ (call (Value.builtin "all") [Value.ref _]) _ _ _); k_dflt (refine all_trues (by k_asm) (by k_asm) (by rfl) (by k_mem) (by assumption) ?_); intro _ _ _ _)
      k_with "eval ListComp" => (k_here; (with_reducible show wpAny _ _ (eval (PySem.Expr.ListComp (PySem.Expr.Compare _ _ _ _) _ _ _) _) _ _ _); k_dflt (refine LCg.ListComp_U (F₀ := by k_asm) (by with_unfolding_all rfl) (by decide) (by rfl) (by decide) (by rfl) ?_))
      k_with "CompSrc" => ((with_reducible show LCg.CompSrc _ _ _ _ _ _ _ (PySem.Expr.Compare _ _ _ _) _ _ _ _ _ _); k_dflt ((refine' LCg.CompSrc.ledger (by rfl) ?zr292kF ?zr292kN ?zr292kM ?zr292kZ ?_; (case zr292kF => k_asm); (case zr292kN => k_asm); (case zr292kM => k_mem); (case zr292kZ => kcf_size); intro _; refine' comp_truesL ?zr292ki (fun _ _ _ _ _ _ _ _ _ _ _ _ _ _ _ _ _ _ _ => ?_) (fun _ _ => ?_); (case zr292ki => first | assumption | l_ints))); kcf_last)
      k_with "CompSrc" => ((with_reducible show LCg.CompSrc _ _ _ _ _ _ _ (PySem.Expr.Compare _ _ _ _) _ _ _ _ _ _); k_dflt ((refine LCg.CompSrc.range (by rfl) (by k_asm) (by k_asm) (by assumption) (by exact small_one (by omega) (by omega) (by omega) (by omega)) (by exact rangeSize_nat _ _) (by rw [PySem.sizeLine_eq]; omega) ?_; intro _; refine' comp_truesR (fun _ _ _ _ _ _ _ _ _ _ _ _ _ _ _ _ _ _ _ => ?_) (fun _ _ => ?_))); kcf_last)
      k_with "subscriptTail Name BinOp ref int" => (k_here; (with_reducible show wpAny _ _ (subscriptTail _ _ (Value.ref _) (Value.int _ _)) _ _ _); k_dflt (refine' ksa_sub ?zr294k1 ?zr294k2 ?zr294k3 ?zr294k4 ?zr294k5 ?zr294k6 ?_ ?zr294k7; (case zr294k1 => k_asm); (case zr294k2 => k_mem); (case zr294k3 => l_ints); (case zr294k4 => walk_at "mine bnd"); (case zr294k5 => walk_at "mine bnd"); (case zr294k6 => walk_at "mine bnd"); (case zr294k7 => with_unfolding_all rfl); k_whole); intro _)
      k_with "subscriptTail Name Name ref int" => (k_here; (with_reducible show wpAny _ _ (subscriptTail _ _ (Value.ref _) (Value.int _ _)) _ _ _); k_dflt (refine' ksa_sub ?zr295k1 ?zr295k2 ?zr295k3 ?zr295k4 ?zr295k5 ?zr295k6 ?_ ?zr295k7; (case zr295k1 => k_asm); (case zr295k2 => k_mem); (case zr295k3 => l_ints); (case zr295k4 => walk_at "mine bnd"); (case zr295k5 => walk_at "mine bnd"); (case zr295k6 => walk_at "mine bnd"); (case zr295k7 => with_unfolding_all rfl); k_whole); intro _)
      k_with "CompEnd" => (refine LCg.CompEnd.intro (by assumption) (by assumption) _ (fun p hp => hp) ?zr296o ?zr296s ⟨rfl, ?zr296y⟩; (case zr296o => assumption); (case zr296s => first | exact True.intro | lcg_src | assumption); (case zr296y => (refine bool_lt ?_; walk_at "mine lt")))
      k_with "mine lt" => first | exact lt_at (by assumption) (by assumption) rfl | exact (by assumption : ∀ x ∈ _, _) _ (by assumption)
      k_with "call ref" => (k_here; (with_reducible show wpAny _ _ (call (Value.ref 131) _) _ _ _); (rename BacksOk _ _ => zq2); k_dflt (refine' mutp_use (lback_c _ _ _ _ ?zctxp1 zq2) ?zctxk1 ?zctxk2 ?zctxk3 ?zctxk4 ?zctxk5 ?zctxkK ?zctxkU ?zctxkd ?zctxku ?zctxki ?zctxkp ?_; walk_at "mine ctx"; (case zctxkp => (rename ToldIs _ _ _ => zq3); (rename OwnOff _ _ => zq4); exact told_pre (by assumption) (by k_mem) (fun p hp => by kst_mem) zq3 zq4 (by k_mem) (by k_ne)); (case zctxp1 => omega); k_whole); intro _ _ _ _ _ _ _ zN' _ zho'; (have ze1 := zho'.1); (have ze2 := zho'.2); clear zho'; subst ze1; subst ze2; (try dsimp only at zN'); (try k_sweep))
      k_with "eval IfExp" => ((with_reducible show wpAny _ _ (eval (PySem.Expr.IfExp (PySem.Expr.Compare _ [PySem.CmpOp.Eq] _ _) _ _ _) _) _ _ _); (with_reducible rename JMark 1 => zhjm); clear zhjm; refine stop_of ?_)
      k_with "exec If" => ((with_reducible show wpAny _ _ (exec (PySem.Stmt.If (PySem.Expr.Compare _ [PySem.CmpOp.Eq] _ _) _ _ _) _) _ _ _); (with_reducible rename JMark 2 => zhjm); clear zhjm; refine stop_of ?_)
      walk_at "mine go"
      rw [decide_eq_true (by exact hbk)]
      exact hret _ _ (hkeep_one hg (by assumption) (by assumption) (by assumption) (by k_mem))

theorem ltabx_c (w : World) (mean : ExcName → Option Value) (mg mb : Str → Option Value) {sg : Int} {heap start : List Int} {es : List (Int × Int)} {J : Nat → List Int → List Ent → Prop} (hsg : sg = -1) (hJ : TabJ sg heap start es J) :
    TabC w mean mg mb 20 136 sg heap start es := by
  unfold TabC
  intro dp un gd cn cs a ccd cl outer A₀ base h₀ L m s Q E l1 l2 sl vs1 vs2 sv n1 n2 nt t B F X T hk hd hu N hn1 hn2 hi1 hi2 hl1 hl2 hst hret
  w_top off
  k_with_none
  k_with "mine enter" => (refine' def_enter ?zr301k1 ?zr301k2 ?zr301k3 ?zr301k4 ?zr301k5 ?zr301kA ?zr301kF ?zr301kK ?zr301k6 ?zr301k7 ?zr301k8 ?zr301k9 ?zr301kB ?_ ?zr301c2 ?zr301c3 ?zr301c4 ?zr301c5; (case zr301kA => exact rfl); (case zr301kF => exact rfl); (case zr301kK => assumption); (case zr301k1 => k_asm); (case zr301k2 => k_asm); (case zr301k3 => k_asm); (case zr301k4 => k_asm); (case zr301k5 => k_asm); (case zr301k6 => k_is); (case zr301k7 => k_is); (case zr301k8 => ktr_room); (case zr301k9 => exact BindsTo.of_eq rfl); (case zr301c5 => decide); (case zr301kB => exact locs rfl); (case zr301c2 => exact rfl); (case zr301c3 => exact rfl); (case zr301c4 => exact rfl); k_whole)
  k_with "binaryOp RShift int int" => (k_here; (with_reducible refine PySem.wpAny_rshift1_int ?zr302kb1 ?_); (case zr302kb1 => omega))
  k_with "mine cj" => (with_reducible (rename @Ne Nat _ _ ∧ _ => zhcj)); have _ := zhcj.1; replace zhcj := zhcj.2
  k_with "mine go" => (repeat (first | walk_at "mine cj" | (k_unfold; (try dsimp only)) | walk_at "mine fold" | walk1 | (dsimp only; walk1)))
  k_with "mine fold" => ((with_reducible show wpAny _ _ (exec _ _) _ _ _); k_fold)
  k_with "mine go2" => (repeat (first | walk_at "mine cj" | (k_unfold; (try dsimp only)) | walk_at "mine fold" | walk_at "mine fold2" | walk1 | (dsimp only; walk1)))
  k_with "mine fold2" => ((fail_if_success (fail_if_success k_fold)); (with_reducible show wpAny _ _ _ (fun _ _ => wpAny _ _ _ _ _ _) _ _); k_fold)
  k_with "mine bnd" => first | with_reducible assumption | omega | ((try simp only [List.length_set, List.length_append, List.length_cons, List.length_nil, List.length_dropLast, sdN_length]); omega)
  k_with "mine ctx" => ((case zctxk1 => k_asm); (case zctxk2 => k_asm); (case zctxk3 => k_asm); (case zctxk4 => k_asm); (case zctxk5 => k_asm); (case zctxkK => first | exact rfl | assumption); (case zctxkU => k_updF); (case zctxkd => ktr_room); (case zctxku => ktr_units); (case zctxki => l_ints))
  k_with "call ref" => (k_here; (with_reducible show wpAny _ _ (call (Value.ref 77) _) _ _ _); k_dflt (refine' mut_use (sd_c _ _ _ _ _ _ ?zctxp1 ?zctxp2 ?zctxp3 ?zctxp4) ?zctxk1 ?zctxk2 ?zctxk3 ?zctxk4 ?zctxk5 ?zctxkK ?zctxkU ?zctxkd ?zctxku ?zctxki ?_; walk_at "mine ctx"; (case zctxp1 => walk_at "mine bnd"); (case zctxp2 => walk_at "mine bnd"); (case zctxp3 => walk_at "mine bnd"); (case zctxp4 => walk_at "mine bnd"); k_whole); intro _ _ _ _ _ _ _ zN' _ zho'; (have ze1 := zho'.1); (have ze2 := zho'.2); clear zho'; subst ze1; subst ze2; (try dsimp only at zN'); (try k_sweep))
  k_with "call ref" => (k_here; (with_reducible show wpAny _ _ (call (Value.ref 91) _) _ _ _); k_dflt (refine' mut_use (sdx_c _ _ _ _ _ _ ?zctxp1 ?zctxp2 ?zctxp3 ?zctxp4) ?zctxk1 ?zctxk2 ?zctxk3 ?zctxk4 ?zctxk5 ?zctxkK ?zctxkU ?zctxkd ?zctxku ?zctxki ?_; walk_at "mine ctx"; (case zctxp1 => walk_at "mine bnd"); (case zctxp2 => walk_at "mine bnd"); (case zctxp3 => walk_at "mine bnd"); (case zctxp4 => walk_at "mine bnd"); k_whole); intro _ _ _ _ _ _ _ zN' _ zho'; (have ze1 := zho'.1); (have ze2 := zho'.2); clear zho'; subst ze1; subst ze2; (try dsimp only at zN'); (try k_sweep))
  k_with "mine bnd" => first | with_reducible assumption | omega | ((try simp only [List.length_set, List.length_append, List.length_cons, List.length_nil, List.length_dropLast, sdN_length, suN_length]); omega)
  k_with "call ref" => (k_here; (with_reducible show wpAny _ _ (call (Value.ref 84) _) _ _ _); k_dflt (refine' mut_use (su_c _ _ _ _ _ ?zctxp1 ?zctxp2 ?zctxp3) ?zctxk1 ?zctxk2 ?zctxk3 ?zctxk4 ?zctxk5 ?zctxkK ?zctxkU ?zctxkd ?zctxku ?zctxki ?_; walk_at "mine ctx"; (case zctxp1 => walk_at "mine bnd"); (case zctxp2 => walk_at "mine bnd"); (case zctxp3 => walk_at "mine bnd"); k_whole); intro _ _ _ _ _ _ _ zN' _ zho'; (have ze1 := zho'.1); (have ze2 := zho'.2); clear zho'; subst ze1; subst ze2; (try dsimp only at zN'); (try k_sweep))
  k_with "call ref" => (k_here; (with_reducible show wpAny _ _ (call (Value.ref 98) _) _ _ _); k_dflt (refine' mut_use (sux_c _ _ _ _ _ ?zctxp1 ?zctxp2 ?zctxp3) ?zctxk1 ?zctxk2 ?zctxk3 ?zctxk4 ?zctxk5 ?zctxkK ?zctxkU ?zctxkd ?zctxku ?zctxki ?_; walk_at "mine ctx"; (case zctxp1 => walk_at "mine bnd"); (case zctxp2 => walk_at "mine bnd"); (case zctxp3 => walk_at "mine bnd"); k_whole); intro _ _ _ _ _ _ _ zN' _ zho'; (have ze1 := zho'.1); (have ze2 := zho'.2); clear zho'; subst ze1; subst ze2; (try dsimp only at zN'); (try k_sweep))
  k_with "mine bnd" => first | with_reducible assumption | omega | ((try simp only [List.length_set, List.length_append, List.length_cons, List.length_nil, List.length_dropLast, sdN_length, suN_length, liftN_length]); omega)
  k_with "setItem ref int" => (k_here; (with_reducible show wpAny _ _ (setItem (Value.ref _) (Value.int _ _) (Value.int _ _)) _ _ _); k_dflt (refine' ksa_set ?zr316k1 ?zr316k2 ?zr316k3 ?zr316k4 ?zr316k5 ?zr316k6 ?zr316k7 ?_; (case zr316k1 => k_asm); (case zr316k2 => k_asm); (case zr316k3 => k_upd); (case zr316k4 => l_ints); (case zr316k5 => walk_at "mine bnd"); (case zr316k6 => walk_at "mine bnd"); (case zr316k7 => walk_at "mine bnd"); k_whole); intro _ _ _ _ _ _; (try k_sweep))
  k_with "call ref" => (k_here; (with_reducible show wpAny _ _ (call (Value.ref 21) _) _ _ _); k_dflt (refine' mut_use (push_c _ _ _ _ _ ?zctxp1) ?zctxk1 ?zctxk2 ?zctxk3 ?zctxk4 ?zctxk5 ?zctxkK ?zctxkU ?zctxkd ?zctxku ?zctxki ?_; walk_at "mine ctx"; (case zctxp1 => walk_at "mine bnd"); k_whole); intro _ _ _ _ _ _ _ zN' _ zho'; (have ze1 := zho'.1); (have ze2 := zho'.2); clear zho'; subst ze1; subst ze2; (try dsimp only at zN'); (try k_sweep))
  k_with "call ref" => (k_here; (with_reducible show wpAny _ _ (call (Value.ref 28) _) _ _ _); k_dflt (refine' mut_use (pop_c _ _ _ _ ?zctxp1 ?zctxp2) ?zctxk1 ?zctxk2 ?zctxk3 ?zctxk4 ?zctxk5 ?zctxkK ?zctxkU ?zctxkd ?zctxku ?zctxki ?_; walk_at "mine ctx"; (case zctxp1 => walk_at "mine bnd"); (case zctxp2 => walk_at "mine bnd"); k_whole); intro _ _ _ _ _ _ _ zN' _ zho'; (obtain ⟨ze1, _, ze2⟩ := zho'); subst ze1; subst ze2; (try dsimp only at zN'); (try k_sweep))
  k_with "call ref" => (k_here; (with_reducible show wpAny _ _ (call (Value.ref 56) _) _ _ _); k_dflt (refine' mut_use (popx_c _ _ _ _ ?zctxp1 ?zctxp2) ?zctxk1 ?zctxk2 ?zctxk3 ?zctxk4 ?zctxk5 ?zctxkK ?zctxkU ?zctxkd ?zctxku ?zctxki ?_; walk_at "mine ctx"; (case zctxp1 => walk_at "mine bnd"); (case zctxp2 => walk_at "mine bnd"); k_whole); intro _ _ _ _ _ _ _ zN' _ zho'; (obtain ⟨ze1, _, ze2⟩ := zho'); subst ze1; subst ze2; (try dsimp only at zN'); (try k_sweep))
  k_with "call ref" => (k_here; (with_reducible show wpAny _ _ (call (Value.ref 35) _) _ _ _); k_dflt (refine' mut_use (repl_c _ _ _ _ _ ?zctxp1 ?zctxp2) ?zctxk1 ?zctxk2 ?zctxk3 ?zctxk4 ?zctxk5 ?zctxkK ?zctxkU ?zctxkd ?zctxku ?zctxki ?_; walk_at "mine ctx"; (case zctxp1 => walk_at "mine bnd"); (case zctxp2 => walk_at "mine bnd"); k_whole); intro _ _ _ _ _ _ _ zN' _ zho'; (obtain ⟨ze1, _, ze2⟩ := zho'); subst ze1; subst ze2; (try dsimp only at zN'); (try k_sweep))
  k_with "call ref" => (k_here; (with_reducible show wpAny _ _ (call (Value.ref 63) _) _ _ _); k_dflt (refine' mut_use (replx_c _ _ _ _ _ ?zctxp1 ?zctxp2) ?zctxk1 ?zctxk2 ?zctxk3 ?zctxk4 ?zctxk5 ?zctxkK ?zctxkU ?zctxkd ?zctxku ?zctxki ?_; walk_at "mine ctx"; (case zctxp1 => walk_at "mine bnd"); (case zctxp2 => walk_at "mine bnd"); k_whole); intro _ _ _ _ _ _ _ zN' _ zho'; (obtain ⟨ze1, _, ze2⟩ := zho'); subst ze1; subst ze2; (try dsimp only at zN'); (try k_sweep))
  k_with "call ref" => (k_here; (with_reducible show wpAny _ _ (call (Value.ref 42) _) _ _ _); k_dflt (refine' mut_use (pushpop_c _ _ _ _ _ ?zctxp1 ?zctxp2) ?zctxk1 ?zctxk2 ?zctxk3 ?zctxk4 ?zctxk5 ?zctxkK ?zctxkU ?zctxkd ?zctxku ?zctxki ?_; walk_at "mine ctx"; (case zctxp1 => walk_at "mine bnd"); (case zctxp2 => walk_at "mine bnd"); k_whole); intro _ _ _ _ _ _ _ zN' _ zho'; (obtain ⟨ze1, _, ze2⟩ := zho'); subst ze1; subst ze2; (try dsimp only at zN'); (try k_sweep))
  k_with "call ref" => (k_here; (with_reducible show wpAny _ _ (call (Value.ref 110) _) _ _ _); k_dflt (refine' mut_use (lift_c _ _ _ _ _ _ ?zctxp1 ?zctxp2 ?zctxp3 ?zctxp4 ?zctxp5) ?zctxk1 ?zctxk2 ?zctxk3 ?zctxk4 ?zctxk5 ?zctxkK ?zctxkU ?zctxkd ?zctxku ?zctxki ?_; walk_at "mine ctx"; (case zctxp1 => walk_at "mine bnd"); (case zctxp2 => walk_at "mine bnd"); (case zctxp3 => walk_at "mine bnd"); (case zctxp4 => walk_at "mine bnd"); (case zctxp5 => walk_at "mine bnd"); k_whole); intro _ _ _ _ _ _ _ zN' _ zho'; (have ze1 := zho'.1); (have ze2 := zho'.2); clear zho'; subst ze1; subst ze2; (try dsimp only at zN'); (try k_sweep))
  k_with "call ref" => (k_here; (with_reducible show wpAny _ _ (call (Value.ref 49) _) _ _ _); k_dflt (refine' mut_use (hpf_c _ _ _ _ ?zctxp1) ?zctxk1 ?zctxk2 ?zctxk3 ?zctxk4 ?zctxk5 ?zctxkK ?zctxkU ?zctxkd ?zctxku ?zctxki ?_; walk_at "mine ctx"; (case zctxp1 => walk_at "mine bnd"); k_whole); intro _ _ _ _ _ _ _ zN' _ zho'; (have ze1 := zho'.1); (have ze2 := zho'.2); clear zho'; subst ze1; subst ze2; (try dsimp only at zN'); (try k_sweep))
  k_with "call ref" => (k_here; (with_reducible show wpAny _ _ (call (Value.ref 70) _) _ _ _); k_dflt (refine' mut_use (hpfx_c _ _ _ _ ?zctxp1) ?zctxk1 ?zctxk2 ?zctxk3 ?zctxk4 ?zctxk5 ?zctxkK ?zctxkU ?zctxkd ?zctxku ?zctxki ?_; walk_at "mine ctx"; (case zctxp1 => walk_at "mine bnd"); k_whole); intro _ _ _ _ _ _ _ zN' _ zho'; (have ze1 := zho'.1); (have ze2 := zho'.2); clear zho'; subst ze1; subst ze2; (try dsimp only at zN'); (try k_sweep))
  k_with "call ref" => (k_here; (with_reducible show wpAny _ _ (call (Value.ref 124) _) _ _ _); k_dflt (refine' mut_use (lcall_c _ _ _ _ _ _ _ ?zctxp1 ?zctxp2) ?zctxk1 ?zctxk2 ?zctxk3 ?zctxk4 ?zctxk5 ?zctxkK ?zctxkU ?zctxkd ?zctxku ?zctxki ?_; walk_at "mine ctx"; (case zctxp1 => walk_at "mine bnd"); (case zctxp2 => walk_at "mine bnd"); k_whole); intro _ _ _ _ _ _ _ zN' _ zho'; (have ze1 := zho'.1); (have _ := zho'.2); clear zho'; subst ze1; (try dsimp only at zN'); (try k_sweep))
  k_with "call builtin:len" => (k_here; (with_reducible show wpAny _ _ (call (Value.builtin "len") [Value.ref _]) _ _ _); k_dflt (refine' len_ints ?zr327k1 ?zr327k2 ?zr327k3 ?zr327k4 ?_; (case zr327k1 => k_asm); (case zr327k2 => k_mem); (case zr327k3 => l_ints); (case zr327k4 => walk_at "mine bnd"); k_whole))
  k_with "truthy ref" => (k_here; (with_reducible show wpAny _ _ (truthy (Value.ref _)) _ _ _); k_dflt (refine' truthy_ints ?zr328k1 ?zr328k2 ?zr328k3 ?zr328k4 ?_; (case zr328k1 => k_asm); (case zr328k2 => k_mem); (case zr328k3 => l_ints); (case zr328k4 => walk_at "mine bnd")))
  k_with "mine end" => ((try dsimp only); (try (k_unfold; try dsimp only)))
  k_with "mine maps" => first | exact List.forall_mem_nil _ | (refine List.forall_mem_cons.mpr ⟨by rfl, ?_⟩; walk_at "mine maps")
  k_with "binaryOp FloorDiv int int" => (k_here; (with_reducible refine ediv_int ?zr331kb ?zr331kp ?_); (case zr331kb => decide); (case zr331kp => first | exact PyProof.noPylong_of_log2 (by decide +kernel) | exact PyProof.noPylong_small (by omega)))
  k_with "binaryOp Mod int int" => (k_here; (with_reducible refine emod_int ?zr332kb ?_); (case zr332kb => first | decide | omega))
  k_with "subscriptTail Name Slice ref ref" => (k_here; (with_reducible show wpAny _ _ (subscriptTail _ (PySem.Expr.Slice none none none _) (Value.ref _) (Value.ref _)) _ _ _); k_dflt (refine' slice_all ?zr333F ?zr333N ?zr333l ?zr333z ?_ ?zr333s ?zr333t; (case zr333F => k_asm); (case zr333N => k_asm); (case zr333l => k_mem); (case zr333z => omega); (case zr333s => with_unfolding_all rfl); (case zr333t => (intro _; with_unfolding_all rfl))); intro _ _ _ _ zl1; (try k_lt zl1); (try k_sweep))
  k_with "mine off" => ((simp only [List.forall_mem_cons, List.not_mem_nil, false_implies, implies_true, and_true]); (repeat' apply And.intro) <;> k_ne)
  k_with "call builtin:list.pop" => (k_here; (with_reducible show wpAny _ _ (call (Value.builtin _) [Value.ref _, Value.int _ _]) _ _ _); k_dflt (refine' pop_at ?zr335F ?zr335N ?zr335U ?zr335i ?zr335a ?zr335b ?zr335c ?_; (case zr335F => k_asm); (case zr335N => k_asm); (case zr335U => k_updF); (case zr335i => l_ints); (case zr335a => walk_at "mine bnd"); (case zr335b => walk_at "mine bnd"); (case zr335c => walk_at "mine bnd")); intro _ _ _ zN' _; (try dsimp only at zN'); (try k_sweep))
  k_with "inplaceOp Add ref" => (k_here; (with_reducible show wpAny _ _ (inplaceOp Operator.Add (Value.ref _) (Value.ref _)) _ _ _); k_dflt (refine' iadd_lists ?zr336F ?zr336N ?zr336U ?zr336b ?zr336z ?_; (case zr336F => k_asm); (case zr336N => k_asm); (case zr336U => k_updF); (case zr336b => k_mem); (case zr336z => first | assumption | omega)); intro _ _ _ zN'; (try dsimp only at zN'); (try k_sweep))
  k_with "mine enterC" => (refine' def_enterC ?zr337k1 ?zr337k2 ?zr337k3 ?zr337k4 ?zr337k5 ?zr337kA ?zr337kF ?zr337kK ?zr337k6 ?zr337k7 ?zr337k8 ?zr337k9 ?zr337kB ?zr337kD ?_ ?zr337c2 ?zr337c3 ?zr337c4; (case zr337kA => exact rfl); (case zr337kF => exact rfl); (case zr337kK => assumption); (case zr337k1 => k_asm); (case zr337k2 => k_asm); (case zr337k3 => k_asm); (case zr337k4 => k_asm); (case zr337k5 => k_asm); (case zr337k6 => k_is); (case zr337k7 => k_is); (case zr337k8 => ktr_room); (case zr337k9 => exact BindsTo.of_eq rfl); (case zr337kB => exact rfl); (case zr337kD => decide +kernel); (case zr337c2 => exact rfl); (case zr337c3 => exact rfl); (case zr337c4 => exact rfl); k_whole)
  k_with "ite" => first | (with_reducible refine c_ff ?_) | (with_reducible refine c_tt ?_) | (with_reducible refine ct_yes (by assumption) ?_) | (with_reducible refine ct_no (by assumption) ?_) | (with_reducible refine cb_yes (by assumption) ?_) | (with_reducible refine cb_no (by assumption) ?_) | (with_reducible refine cn_yes (by assumption) ?_) | (with_reducible refine cn_no (by assumption) ?_)
  k_with "exec For Tuple Name cons nil" => (k_here; (rename Fr _ _ _ _ => zlF'); (with_unfolding_all refine' For_turns zlF' ?_; k_whole))
  k_with "pyIter ref" => ((with_reducible show wpAny _ _ (pyIter (Value.ref _)) (fun it s₂ => TurnsAt _ _ _ _ _ _ _ _ _ it s₂) _ _); refine stop_of ?_)
  k_with "mine same" => k_extra "mine same"
  k_with "mine bnd" => ((simp only [List.length_map]); omega)
  k_with "compareOp Eq ref ref" => (k_here; (with_reducible show wpAny _ _ (compareOp CmpOp.Eq (Value.ref _) (Value.ref _)) _ _ _); (refine' eq_own ?zr343N ?zr343a ?zr343b ?zr343i ?zr343j ?zr343u ?zr343e ?_; (case zr343N => k_asm); (case zr343a => k_mem); (case zr343b => k_mem); (case zr343i => l_ints); (case zr343j => l_ints); (case zr343u => ktr_units); (case zr343e => walk_at "mine same"); k_whole))
  k_with "call builtin:list.append" => (k_here; (with_reducible show wpAny _ _ (call (Value.builtin _) [Value.ref _, Value.ref _]) _ _ _); k_dflt (refine' append_any ?zr344k1 ?zr344k2 ?zr344k3 ?zr344z ?_; (case zr344k1 => k_asm); (case zr344k2 => k_asm); (case zr344k3 => k_updF); (case zr344z => walk_at "mine bnd")); intro _ _ zN'; (try dsimp only at zN'); (try k_sweep))
  k_with "call ref" => (k_here; (with_reducible show wpAny _ _ (call (Value.ref 124) _) _ _ _); k_dflt (refine' mut_use (lcall_c _ _ _ _ _ _ _ ?zctxp1 ?zctxp2) ?zctxk1 ?zctxk2 ?zctxk3 ?zctxk4 ?zctxk5 ?zctxkK ?zctxkU ?zctxkd ?zctxku ?zctxki ?_; walk_at "mine ctx"; (case zctxp1 => walk_at "mine bnd"); (case zctxp2 => walk_at "mine bnd"); k_whole); intro _ _ _ _ _ _ _ zN' _ zho'; (have ze1 := zho'.1); (have _ := zho'.2); clear zho'; subst ze1; walk_at "mine ok"; (try dsimp only at zN'); (try k_sweep))
  k_with "call builtin:all" => (k_here; (with_reducible show wpAny _ _ (call (Value.builtin "all") [Value.ref _]) _ _ _); k_dflt (refine all_trues (by k_asm) (by k_asm) (by rfl) (by k_mem) (by assumption) ?_); intro _ _ _ _)
  k_with "eval ListComp" => (k_here; (with_reducible show wpAny _ _ (eval (PySem.Expr.ListComp (PySem.Expr.Compare _ _ _ _) _ _ _) _) _ _ _); k_dflt (refine LCg.ListComp_U (F₀ := by k_asm) (by with_unfolding_all rfl) (by decide) (by rfl) (by decide) (by rfl) ?_))
  k_with "CompSrc" => ((with_reducible show LCg.CompSrc _ _ _ _ _ _ _ (PySem.Expr.Compare _ _ _ _) _ _ _ _ _ _); k_dflt ((refine' LCg.CompSrc.ledger (by rfl) ?zr348kF ?zr348kN ?zr348kM ?zr348kZ ?_; (case zr348kF => k_asm); (case zr348kN => k_asm); (case zr348kM => k_mem); (case zr348kZ => kcf_size); intro _; refine' comp_truesL ?zr348ki (fun _ _ _ _ _ _ _ _ _ _ _ _ _ _ _ _ _ _ _ => ?_) (fun _ _ => ?_); (case zr348ki => first | assumption | l_ints))); kcf_last)
  k_with "CompSrc" => ((with_reducible show LCg.CompSrc _ _ _ _ _ _ _ (PySem.Expr.Compare _ _ _ _) _ _ _ _ _ _); k_dflt ((refine LCg.CompSrc.range (by rfl) (by k_asm) (by k_asm) (by assumption) (by exact small_one (by omega) (by omega) (by omega) (by omega)) (by exact rangeSize_nat _ _) (by rw [PySem.sizeLine_eq]; omega) ?_; intro _; refine' comp_truesR (fun _ _ _ _ _ _ _ _ _ _ _ _ _ _ _ _ _ _ _ => ?_) (fun _ _ => ?_))); kcf_last)
  k_with "subscriptTail Name BinOp ref int" => (k_here; (with_reducible show wpAny _ _ (subscriptTail _ _ (Value.ref _) (Value.int _ _)) _ _ _); k_dflt (refine' ksa_sub ?zr350k1 ?zr350k2 ?zr350k3 ?zr350k4 ?zr350k5 ?zr350k6 ?_ ?zr350k7; (case zr350k1 => k_asm); (case zr350k2 => k_mem); (case zr350k3 => l_ints); (case zr350k4 => walk_at "mine bnd"); (case zr350k5 => walk_at "mine bnd"); (case zr350k6 => walk_at "mine bnd"); (case zr350k7 => with_unfolding_all rfl); k_whole); intro _)
  k_with "subscriptTail Name Name ref int" => (k_here; (with_reducible show wpAny _ _ (subscriptTail _ _ (Value.ref _) (Value.int _ _)) _ _ _); k_dflt (refine' ksa_sub ?zr351k1 ?zr351k2 ?zr351k3 ?zr351k4 ?zr351k5 ?zr351k6 ?_ ?zr351k7; (case zr351k1 => k_asm); (case zr351k2 => k_mem); (case zr351k3 => l_ints); (case zr351k4 => walk_at "mine bnd"); (case zr351k5 => walk_at "mine bnd"); (case zr351k6 => walk_at "mine bnd"); (case zr351k7 => with_unfolding_all rfl); k_whole); intro _)
  k_with "CompEnd" => (refine LCg.CompEnd.intro (by assumption) (by assumption) _ (fun p hp => hp) ?zr352o ?zr352s ⟨rfl, ?zr352y⟩; (case zr352o => assumption); (case zr352s => first | exact True.intro | lcg_src | assumption); (case zr352y => (refine bool_lt ?_; walk_at "mine lt")))
  k_with "mine lt" => first | exact lt_at (by assumption) (by assumption) rfl | exact (by assumption : ∀ x ∈ _, _) _ (by assumption)
  k_with "call ref" => (k_here; (with_reducible show wpAny _ _ (call (Value.ref 131) _) _ _ _); (rename BacksOk _ _ => zq2); k_dflt (refine' mutp_use (lback_c _ _ _ _ ?zctxp1 zq2) ?zctxk1 ?zctxk2 ?zctxk3 ?zctxk4 ?zctxk5 ?zctxkK ?zctxkU ?zctxkd ?zctxku ?zctxki ?zctxkp ?_; walk_at "mine ctx"; (case zctxkp => (rename ToldIs _ _ _ => zq3); (rename OwnOff _ _ => zq4); exact told_pre (by assumption) (by k_mem) (fun p hp => by kst_mem) zq3 zq4 (by k_mem) (by k_ne)); (case zctxp1 => omega); k_whole); intro _ _ _ _ _ _ _ zN' _ zho'; (have ze1 := zho'.1); (have ze2 := zho'.2); clear zho'; subst ze1; subst ze2; (try dsimp only at zN'); (try k_sweep))
  k_with "eval IfExp" => ((with_reducible show wpAny _ _ (eval (PySem.Expr.IfExp (PySem.Expr.Compare _ [PySem.CmpOp.Eq] _ _) _ _ _) _) _ _ _); (with_reducible rename JMark 1 => zhjm); clear zhjm; refine stop_of ?_)
  k_with "exec If" => ((with_reducible show wpAny _ _ (exec (PySem.Stmt.If (PySem.Expr.Compare _ [PySem.CmpOp.Eq] _ _) _ _ _) _) _ _ _); (with_reducible rename JMark 2 => zhjm); clear zhjm; refine stop_of ?_)
  refine wpAny_call ?_
  k_dflt (walk_at "mine enterC")
  intro g L' h' tk cells hg hlt F' N' Y' B' X' T'
  k_lt hlt
  k_cells Y'
  (try simp only [List.cons_append, List.nil_append] at N')
  (try dsimp only); (try k_fold)
  have N₀ := N
  clear F N B
  have hg2 : ∀ b o, b ≠ sl → s.heap.get? b = some o → g.get? b = some o := fun b o hb e => hg b o (by simpa using hb) e
  have hq1 : g.IsList l1 vs1.toArray := ⟨listOf vs1.toArray n1, hg2 _ _ hn1 hl1, rfl, n1, rfl⟩
  have hq2 : g.IsList l2 vs2.toArray := ⟨listOf vs2.toArray n2, hg2 _ _ hn2 hl2, rfl, n2, rfl⟩
  have hsg2 := steps_g hst hg2
  have hvl1 : vs1.length = heap.length := hi1.length
  have hvl2 : vs2.length = start.length := hi2.length
  have jl1 := hJ.hl
  have jl2 := hJ.sl
  have hs1 : ¬ 0 < sg := by omega
  have hs2 : sg < 0 := by omega
  k_with_none
  k_with "mine enter" => (refine' def_enter ?zr301k1 ?zr301k2 ?zr301k3 ?zr301k4 ?zr301k5 ?zr301kA ?zr301kF ?zr301kK ?zr301k6 ?zr301k7 ?zr301k8 ?zr301k9 ?zr301kB ?_ ?zr301c2 ?zr301c3 ?zr301c4 ?zr301c5; (case zr301kA => exact rfl); (case zr301kF => exact rfl); (case zr301kK => assumption); (case zr301k1 => k_asm); (case zr301k2 => k_asm); (case zr301k3 => k_asm); (case zr301k4 => k_asm); (case zr301k5 => k_asm); (case zr301k6 => k_is); (case zr301k7 => k_is); (case zr301k8 => ktr_room); (case zr301k9 => exact BindsTo.of_eq rfl); (case zr301c5 => decide); (case zr301kB => exact locs rfl); (case zr301c2 => exact rfl); (case zr301c3 => exact rfl); (case zr301c4 => exact rfl); k_whole)
  k_with "binaryOp RShift int int" => (k_here; (with_reducible refine PySem.wpAny_rshift1_int ?zr302kb1 ?_); (case zr302kb1 => omega))
  k_with "mine cj" => (with_reducible (rename @Ne Nat _ _ ∧ _ => zhcj)); have _ := zhcj.1; replace zhcj := zhcj.2
  k_with "mine go" => (repeat (first | walk_at "mine cj" | (k_unfold; (try dsimp only)) | walk_at "mine fold" | walk1 | (dsimp only; walk1)))
  k_with "mine fold" => ((with_reducible show wpAny _ _ (exec _ _) _ _ _); k_fold)
  k_with "mine go2" => (repeat (first | walk_at "mine cj" | (k_unfold; (try dsimp only)) | walk_at "mine fold" | walk_at "mine fold2" | walk1 | (dsimp only; walk1)))
  k_with "mine fold2" => ((fail_if_success (fail_if_success k_fold)); (with_reducible show wpAny _ _ _ (fun _ _ => wpAny _ _ _ _ _ _) _ _); k_fold)
  k_with "mine bnd" => first | with_reducible assumption | omega | ((try simp only [List.length_set, List.length_append, List.length_cons, List.length_nil, List.length_dropLast, sdN_length]); omega)
  k_with "mine ctx" => ((case zctxk1 => k_asm); (case zctxk2 => k_asm); (case zctxk3 => k_asm); (case zctxk4 => k_asm); (case zctxk5 => k_asm); (case zctxkK => first | exact rfl | assumption); (case zctxkU => k_updF); (case zctxkd => ktr_room); (case zctxku => ktr_units); (case zctxki => l_ints))
  k_with "call ref" => (k_here; (with_reducible show wpAny _ _ (call (Value.ref 77) _) _ _ _); k_dflt (refine' mut_use (sd_c _ _ _ _ _ _ ?zctxp1 ?zctxp2 ?zctxp3 ?zctxp4) ?zctxk1 ?zctxk2 ?zctxk3 ?zctxk4 ?zctxk5 ?zctxkK ?zctxkU ?zctxkd ?zctxku ?zctxki ?_; walk_at "mine ctx"; (case zctxp1 => walk_at "mine bnd"); (case zctxp2 => walk_at "mine bnd"); (case zctxp3 => walk_at "mine bnd"); (case zctxp4 => walk_at "mine bnd"); k_whole); intro _ _ _ _ _ _ _ zN' _ zho'; (have ze1 := zho'.1); (have ze2 := zho'.2); clear zho'; subst ze1; subst ze2; (try dsimp only at zN'); (try k_sweep))
  k_with "call ref" => (k_here; (with_reducible show wpAny _ _ (call (Value.ref 91) _) _ _ _); k_dflt (refine' mut_use (sdx_c _ _ _ _ _ _ ?zctxp1 ?zctxp2 ?zctxp3 ?zctxp4) ?zctxk1 ?zctxk2 ?zctxk3 ?zctxk4 ?zctxk5 ?zctxkK ?zctxkU ?zctxkd ?zctxku ?zctxki ?_; walk_at "mine ctx"; (case zctxp1 => walk_at "mine bnd"); (case zctxp2 => walk_at "mine bnd"); (case zctxp3 => walk_at "mine bnd"); (case zctxp4 => walk_at "mine bnd"); k_whole); intro _ _ _ _ _ _ _ zN' _ zho'; (have ze1 := zho'.1); (have ze2 := zho'.2); clear zho'; subst ze1; subst ze2; (try dsimp only at zN'); (try k_sweep))
  k_with "mine bnd" => first | with_reducible assumption | omega | ((try simp only [List.length_set, List.length_append, List.length_cons, List.length_nil, List.length_dropLast, sdN_length, suN_length]); omega)
  k_with "call ref" => (k_here; (with_reducible show wpAny _ _ (call (Value.ref 84) _) _ _ _); k_dflt (refine' mut_use (su_c _ _ _ _ _ ?zctxp1 ?zctxp2 ?zctxp3) ?zctxk1 ?zctxk2 ?zctxk3 ?zctxk4 ?zctxk5 ?zctxkK ?zctxkU ?zctxkd ?zctxku ?zctxki ?_; walk_at "mine ctx"; (case zctxp1 => walk_at "mine bnd"); (case zctxp2 => walk_at "mine bnd"); (case zctxp3 => walk_at "mine bnd"); k_whole); intro _ _ _ _ _ _ _ zN' _ zho'; (have ze1 := zho'.1); (have ze2 := zho'.2); clear zho'; subst ze1; subst ze2; (try dsimp only at zN'); (try k_sweep))
  k_with "call ref" => (k_here; (with_reducible show wpAny _ _ (call (Value.ref 98) _) _ _ _); k_dflt (refine' mut_use (sux_c _ _ _ _ _ ?zctxp1 ?zctxp2 ?zctxp3) ?zctxk1 ?zctxk2 ?zctxk3 ?zctxk4 ?zctxk5 ?zctxkK ?zctxkU ?zctxkd ?zctxku ?zctxki ?_; walk_at "mine ctx"; (case zctxp1 => walk_at "mine bnd"); (case zctxp2 => walk_at "mine bnd"); (case zctxp3 => walk_at "mine bnd"); k_whole); intro _ _ _ _ _ _ _ zN' _ zho'; (have ze1 := zho'.1); (have ze2 := zho'.2); clear zho'; subst ze1; subst ze2; (try dsimp only at zN'); (try k_sweep))
  k_with "mine bnd" => first | with_reducible assumption | omega | ((try simp only [List.length_set, List.length_append, List.length_cons, List.length_nil, List.length_dropLast, sdN_length, suN_length, liftN_length]); omega)
  k_with "setItem ref int" => (k_here; (with_reducible show wpAny _ _ (setItem (Value.ref _) (Value.int _ _) (Value.int _ _)) _ _ _); k_dflt (refine' ksa_set ?zr316k1 ?zr316k2 ?zr316k3 ?zr316k4 ?zr316k5 ?zr316k6 ?zr316k7 ?_; (case zr316k1 => k_asm); (case zr316k2 => k_asm); (case zr316k3 => k_upd); (case zr316k4 => l_ints); (case zr316k5 => walk_at "mine bnd"); (case zr316k6 => walk_at "mine bnd"); (case zr316k7 => walk_at "mine bnd"); k_whole); intro _ _ _ _ _ _; (try k_sweep))
  k_with "call ref" => (k_here; (with_reducible show wpAny _ _ (call (Value.ref 21) _) _ _ _); k_dflt (refine' mut_use (push_c _ _ _ _ _ ?zctxp1) ?zctxk1 ?zctxk2 ?zctxk3 ?zctxk4 ?zctxk5 ?zctxkK ?zctxkU ?zctxkd ?zctxku ?zctxki ?_; walk_at "mine ctx"; (case zctxp1 => walk_at "mine bnd"); k_whole); intro _ _ _ _ _ _ _ zN' _ zho'; (have ze1 := zho'.1); (have ze2 := zho'.2); clear zho'; subst ze1; subst ze2; (try dsimp only at zN'); (try k_sweep))
  k_with "call ref" => (k_here; (with_reducible show wpAny _ _ (call (Value.ref 28) _) _ _ _); k_dflt (refine' mut_use (pop_c _ _ _ _ ?zctxp1 ?zctxp2) ?zctxk1 ?zctxk2 ?zctxk3 ?zctxk4 ?zctxk5 ?zctxkK ?zctxkU ?zctxkd ?zctxku ?zctxki ?_; walk_at "mine ctx"; (case zctxp1 => walk_at "mine bnd"); (case zctxp2 => walk_at "mine bnd"); k_whole); intro _ _ _ _ _ _ _ zN' _ zho'; (obtain ⟨ze1, _, ze2⟩ := zho'); subst ze1; subst ze2; (try dsimp only at zN'); (try k_sweep))
  k_with "call ref" => (k_here; (with_reducible show wpAny _ _ (call (Value.ref 56) _) _ _ _); k_dflt (refine' mut_use (popx_c _ _ _ _ ?zctxp1 ?zctxp2) ?zctxk1 ?zctxk2 ?zctxk3 ?zctxk4 ?zctxk5 ?zctxkK ?zctxkU ?zctxkd ?zctxku ?zctxki ?_; walk_at "mine ctx"; (case zctxp1 => walk_at "mine bnd"); (case zctxp2 => walk_at "mine bnd"); k_whole); intro _ _ _ _ _ _ _ zN' _ zho'; (obtain ⟨ze1, _, ze2⟩ := zho'); subst ze1; subst ze2; (try dsimp only at zN'); (try k_sweep))
  k_with "call ref" => (k_here; (with_reducible show wpAny _ _ (call (Value.ref 35) _) _ _ _); k_dflt (refine' mut_use (repl_c _ _ _ _ _ ?zctxp1 ?zctxp2) ?zctxk1 ?zctxk2 ?zctxk3 ?zctxk4 ?zctxk5 ?zctxkK ?zctxkU ?zctxkd ?zctxku ?zctxki ?_; walk_at "mine ctx"; (case zctxp1 => walk_at "mine bnd"); (case zctxp2 => walk_at "mine bnd"); k_whole); intro _ _ _ _ _ _ _ zN' _ zho'; (obtain ⟨ze1, _, ze2⟩ := zho'); subst ze1; subst ze2; (try dsimp only at zN'); (try k_sweep))
  k_with "call ref" => (k_here; (with_reducible show wpAny _ _ (call (Value.ref 63) _) _ _ _); k_dflt (refine' mut_use (replx_c _ _ _ _ _ ?zctxp1 ?zctxp2) ?zctxk1 ?zctxk2 ?zctxk3 ?zctxk4 ?zctxk5 ?zctxkK ?zctxkU ?zctxkd ?zctxku ?zctxki ?_; walk_at "mine ctx"; (case zctxp1 => walk_at "mine bnd"); (case zctxp2 => walk_at "mine bnd"); k_whole); intro _ _ _ _ _ _ _ zN' _ zho'; (obtain ⟨ze1, _, ze2⟩ := zho'); subst ze1; subst ze2; (try dsimp only at zN'); (try k_sweep))
  k_with "call ref" => (k_here; (with_reducible show wpAny _ _ (call (Value.ref 42) _) _ _ _); k_dflt (refine' mut_use (pushpop_c _ _ _ _ _ ?zctxp1 ?zctxp2) ?zctxk1 ?zctxk2 ?zctxk3 ?zctxk4 ?zctxk5 ?zctxkK ?zctxkU ?zctxkd ?zctxku ?zctxki ?_; walk_at "mine ctx"; (case zctxp1 => walk_at "mine bnd"); (case zctxp2 => walk_at "mine bnd"); k_whole); intro _ _ _ _ _ _ _ zN' _ zho'; (obtain ⟨ze1, _, ze2⟩ := zho'); subst ze1; subst ze2; (try dsimp only at zN'); (try k_sweep))
  k_with "call ref" => (k_here; (with_reducible show wpAny _ _ (call (Value.ref 110) _) _ _ _); k_dflt (refine' mut_use (lift_c _ _ _ _ _ _ ?zctxp1 ?zctxp2 ?zctxp3 ?zctxp4 ?zctxp5) ?zctxk1 ?zctxk2 ?zctxk3 ?zctxk4 ?zctxk5 ?zctxkK ?zctxkU ?zctxkd ?zctxku ?zctxki ?_; walk_at "mine ctx"; (case zctxp1 => walk_at "mine bnd"); (case zctxp2 => walk_at "mine bnd"); (case zctxp3 => walk_at "mine bnd"); (case zctxp4 => walk_at "mine bnd"); (case zctxp5 => walk_at "mine bnd"); k_whole); intro _ _ _ _ _ _ _ zN' _ zho'; (have ze1 := zho'.1); (have ze2 := zho'.2); clear zho'; subst ze1; subst ze2; (try dsimp only at zN'); (try k_sweep))
  k_with "call ref" => (k_here; (with_reducible show wpAny _ _ (call (Value.ref 49) _) _ _ _); k_dflt (refine' mut_use (hpf_c _ _ _ _ ?zctxp1) ?zctxk1 ?zctxk2 ?zctxk3 ?zctxk4 ?zctxk5 ?zctxkK ?zctxkU ?zctxkd ?zctxku ?zctxki ?_; walk_at "mine ctx"; (case zctxp1 => walk_at "mine bnd"); k_whole); intro _ _ _ _ _ _ _ zN' _ zho'; (have ze1 := zho'.1); (have ze2 := zho'.2); clear zho'; subst ze1; subst ze2; (try dsimp only at zN'); (try k_sweep))
  k_with "call ref" => (k_here; (with_reducible show wpAny _ _ (call (Value.ref 70) _) _ _ _); k_dflt (refine' mut_use (hpfx_c _ _ _ _ ?zctxp1) ?zctxk1 ?zctxk2 ?zctxk3 ?zctxk4 ?zctxk5 ?zctxkK ?zctxkU ?zctxkd ?zctxku ?zctxki ?_; walk_at "mine ctx"; (case zctxp1 => walk_at "mine bnd"); k_whole); intro _ _ _ _ _ _ _ zN' _ zho'; (have ze1 := zho'.1); (have ze2 := zho'.2); clear zho'; subst ze1; subst ze2; (try dsimp only at zN'); (try k_sweep))
  k_with "call ref" => (k_here; (with_reducible show wpAny _ _ (call (Value.ref 124) _) _ _ _); k_dflt (refine' mut_use (lcall_c _ _ _ _ _ _ _ ?zctxp1 ?zctxp2) ?zctxk1 ?zctxk2 ?zctxk3 ?zctxk4 ?zctxk5 ?zctxkK ?zctxkU ?zctxkd ?zctxku ?zctxki ?_; walk_at "mine ctx"; (case zctxp1 => walk_at "mine bnd"); (case zctxp2 => walk_at "mine bnd"); k_whole); intro _ _ _ _ _ _ _ zN' _ zho'; (have ze1 := zho'.1); (have _ := zho'.2); clear zho'; subst ze1; (try dsimp only at zN'); (try k_sweep))
  k_with "call builtin:len" => (k_here; (with_reducible show wpAny _ _ (call (Value.builtin "len") [Value.ref _]) _ _ _); k_dflt (refine' len_ints ?zr327k1 ?zr327k2 ?zr327k3 ?zr327k4 ?_; (case zr327k1 => k_asm); (case zr327k2 => k_mem); (case zr327k3 => l_ints); (case zr327k4 => walk_at "mine bnd"); k_whole))
  k_with "truthy ref" => (k_here; (with_reducible show wpAny _ _ (truthy (Value.ref _)) _ _ _); k_dflt (refine' truthy_ints ?zr328k1 ?zr328k2 ?zr328k3 ?zr328k4 ?_; (case zr328k1 => k_asm); (case zr328k2 => k_mem); (case zr328k3 => l_ints); (case zr328k4 => walk_at "mine bnd")))
  k_with "mine end" => ((try dsimp only); (try (k_unfold; try dsimp only)))
  k_with "mine maps" => first | exact List.forall_mem_nil _ | (refine List.forall_mem_cons.mpr ⟨by rfl, ?_⟩; walk_at "mine maps")
  k_with "binaryOp FloorDiv int int" => (k_here; (with_reducible refine ediv_int ?zr331kb ?zr331kp ?_); (case zr331kb => decide); (case zr331kp => first | exact PyProof.noPylong_of_log2 (by decide +kernel) | exact PyProof.noPylong_small (by omega)))
  k_with "binaryOp Mod int int" => (k_here; (with_reducible refine emod_int ?zr332kb ?_); (case zr332kb => first | decide | omega))
  k_with "subscriptTail Name Slice ref ref" => (k_here; (with_reducible show wpAny _ _ (subscriptTail _ (PySem.Expr.Slice none none none _) (Value.ref _) (Value.ref _)) _ _ _); k_dflt (refine' slice_all ?zr333F ?zr333N ?zr333l ?zr333z ?_ ?zr333s ?zr333t; (case zr333F => k_asm); (case zr333N => k_asm); (case zr333l => k_mem); (case zr333z => omega); (case zr333s => with_unfolding_all rfl); (case zr333t => (intro _; with_unfolding_all rfl))); intro _ _ _ _ zl1; (try k_lt zl1); (try k_sweep))
  k_with "mine off" => ((simp only [List.forall_mem_cons, List.not_mem_nil, false_implies, implies_true, and_true]); (repeat' apply And.intro) <;> k_ne)
  k_with "call builtin:list.pop" => (k_here; (with_reducible show wpAny _ _ (call (Value.builtin _) [Value.ref _, Value.int _ _]) _ _ _); k_dflt (refine' pop_at ?zr335F ?zr335N ?zr335U ?zr335i ?zr335a ?zr335b ?zr335c ?_; (case zr335F => k_asm); (case zr335N => k_asm); (case zr335U => k_updF); (case zr335i => l_ints); (case zr335a => walk_at "mine bnd"); (case zr335b => walk_at "mine bnd"); (case zr335c => walk_at "mine bnd")); intro _ _ _ zN' _; (try dsimp only at zN'); (try k_sweep))
  k_with "inplaceOp Add ref" => (k_here; (with_reducible show wpAny _ _ (inplaceOp Operator.Add (Value.ref _) (Value.ref _)) _ _ _); k_dflt (refine' iadd_lists ?zr336F ?zr336N ?zr336U ?zr336b ?zr336z ?_; (case zr336F => k_asm); (case zr336N => k_asm); (case zr336U => k_updF); (case zr336b => k_mem); (case zr336z => first | assumption | omega)); intro _ _ _ zN'; (try dsimp only at zN'); (try k_sweep))
  k_with "mine enterC" => (refine' def_enterC ?zr337k1 ?zr337k2 ?zr337k3 ?zr337k4 ?zr337k5 ?zr337kA ?zr337kF ?zr337kK ?zr337k6 ?zr337k7 ?zr337k8 ?zr337k9 ?zr337kB ?zr337kD ?_ ?zr337c2 ?zr337c3 ?zr337c4; (case zr337kA => exact rfl); (case zr337kF => exact rfl); (case zr337kK => assumption); (case zr337k1 => k_asm); (case zr337k2 => k_asm); (case zr337k3 => k_asm); (case zr337k4 => k_asm); (case zr337k5 => k_asm); (case zr337k6 => k_is); (case zr337k7 => k_is); (case zr337k8 => ktr_room); (case zr337k9 => exact BindsTo.of_eq rfl); (case zr337kB => exact rfl); (case zr337kD => decide +kernel); (case zr337c2 => exact rfl); (case zr337c3 => exact rfl); (case zr337c4 => exact rfl); k_whole)
  k_with "ite" => first | (with_reducible refine c_ff ?_) | (with_reducible refine c_tt ?_) | (with_reducible refine ct_yes (by assumption) ?_) | (with_reducible refine ct_no (by assumption) ?_) | (with_reducible refine cb_yes (by assumption) ?_) | (with_reducible refine cb_no (by assumption) ?_) | (with_reducible refine cn_yes (by assumption) ?_) | (with_reducible refine cn_no (by assumption) ?_)
  k_with "exec For Tuple Name cons nil" => (k_here; (rename Fr _ _ _ _ => zlF'); (with_unfolding_all refine' For_turns zlF' ?_; k_whole))
  k_with "pyIter ref" => ((with_reducible show wpAny _ _ (pyIter (Value.ref _)) (fun it s₂ => TurnsAt _ _ _ _ _ _ _ _ _ it s₂) _ _); refine stop_of ?_)
  k_with "mine same" => k_extra "mine same"
  k_with "mine bnd" => ((simp only [List.length_map]); omega)
  k_with "compareOp Eq ref ref" => (k_here; (with_reducible show wpAny _ _ (compareOp CmpOp.Eq (Value.ref _) (Value.ref _)) _ _ _); (refine' eq_own ?zr343N ?zr343a ?zr343b ?zr343i ?zr343j ?zr343u ?zr343e ?_; (case zr343N => k_asm); (case zr343a => k_mem); (case zr343b => k_mem); (case zr343i => l_ints); (case zr343j => l_ints); (case zr343u => ktr_units); (case zr343e => walk_at "mine same"); k_whole))
  k_with "call builtin:list.append" => (k_here; (with_reducible show wpAny _ _ (call (Value.builtin _) [Value.ref _, Value.ref _]) _ _ _); k_dflt (refine' append_any ?zr344k1 ?zr344k2 ?zr344k3 ?zr344z ?_; (case zr344k1 => k_asm); (case zr344k2 => k_asm); (case zr344k3 => k_updF); (case zr344z => walk_at "mine bnd")); intro _ _ zN'; (try dsimp only at zN'); (try k_sweep))
  k_with "call ref" => (k_here; (with_reducible show wpAny _ _ (call (Value.ref 124) _) _ _ _); k_dflt (refine' mut_use (lcall_c _ _ _ _ _ _ _ ?zctxp1 ?zctxp2) ?zctxk1 ?zctxk2 ?zctxk3 ?zctxk4 ?zctxk5 ?zctxkK ?zctxkU ?zctxkd ?zctxku ?zctxki ?_; walk_at "mine ctx"; (case zctxp1 => walk_at "mine bnd"); (case zctxp2 => walk_at "mine bnd"); k_whole); intro _ _ _ _ _ _ _ zN' _ zho'; (have ze1 := zho'.1); (have _ := zho'.2); clear zho'; subst ze1; walk_at "mine ok"; (try dsimp only at zN'); (try k_sweep))
  k_with "call builtin:all" => (k_here; (with_reducible show wpAny _ _ (call (Value.builtin "all") [Value.ref _]) _ _ _); k_dflt (refine all_trues (by k_asm) (by k_asm) (by rfl) (by k_mem) (by assumption) ?_); intro _ _ _ _)
  k_with "eval ListComp" => (k_here; (with_reducible show wpAny _ _ (eval (PySem.Expr.ListComp (PySem.Expr.Compare _ _ _ _) _ _ _) _) _ _ _); k_dflt (refine LCg.ListComp_U (F₀ := by k_asm) (by with_unfolding_all rfl) (by decide) (by rfl) (by decide) (by rfl) ?_))
  k_with "CompSrc" => ((with_reducible show LCg.CompSrc _ _ _ _ _ _ _ (PySem.Expr.Compare _ _ _ _) _ _ _ _ _ _); k_dflt ((refine' LCg.CompSrc.ledger (by rfl) ?zr348kF ?zr348kN ?zr348kM ?zr348kZ ?_; (case zr348kF => k_asm); (case zr348kN => k_asm); (case zr348kM => k_mem); (case zr348kZ => kcf_size); intro _; refine' comp_truesL ?zr348ki (fun _ _ _ _ _ _ _ _ _ _ _ _ _ _ _ _ _ _ _ => ?_) (fun _ _ => ?_); (case zr348ki => first | assumption | l_ints))); kcf_last)
  k_with "CompSrc" => ((with_reducible show LCg.CompSrc _ _ _ _ _ _ _ (PySem.Expr.Compare _ _ _ _) _ _ _ _ _ _); k_dflt ((refine LCg.CompSrc.range (by rfl) (by k_asm) (by k_asm) (by assumption) (by exact small_one (by omega) (by omega) (by omega) (by omega)) (by exact rangeSize_nat _ _) (by rw [PySem.sizeLine_eq]; omega) ?_; intro _; refine' comp_truesR (fun _ _ _ _ _ _ _ _ _ _ _ _ _ _ _ _ _ _ _ => ?_) (fun _ _ => ?_))); kcf_last)
  k_with "subscriptTail Name BinOp ref int" => (k_here; (with_reducible show wpAny _ _ (subscriptTail _ _ (Value.ref _) (Value.int _ _)) _ _ _); k_dflt (refine' ksa_sub ?zr350k1 ?zr350k2 ?zr350k3 ?zr350k4 ?zr350k5 ?zr350k6 ?_ ?zr350k7; (case zr350k1 => k_asm); (case zr350k2 => k_mem); (case zr350k3 => l_ints); (case zr350k4 => walk_at "mine bnd"); (case zr350k5 => walk_at "mine bnd"); (case zr350k6 => walk_at "mine bnd"); (case zr350k7 => with_unfolding_all rfl); k_whole); intro _)
  k_with "subscriptTail Name Name ref int" => (k_here; (with_reducible show wpAny _ _ (subscriptTail _ _ (Value.ref _) (Value.int _ _)) _ _ _); k_dflt (refine' ksa_sub ?zr351k1 ?zr351k2 ?zr351k3 ?zr351k4 ?zr351k5 ?zr351k6 ?_ ?zr351k7; (case zr351k1 => k_asm); (case zr351k2 => k_mem); (case zr351k3 => l_ints); (case zr351k4 => walk_at "mine bnd"); (case zr351k5 => walk_at "mine bnd"); (case zr351k6 => walk_at "mine bnd"); (case zr351k7 => with_unfolding_all rfl); k_whole); intro _)
  k_with "CompEnd" => (refine LCg.CompEnd.intro (by assumption) (by assumption) _ (fun p hp => hp) ?zr352o ?zr352s ⟨rfl, ?zr352y⟩; (case zr352o => assumption); (case zr352s => first | exact True.intro | lcg_src | assumption); (case zr352y => (refine bool_lt ?_; walk_at "mine lt")))
  k_with "mine lt" => first | exact lt_at (by assumption) (by assumption) rfl | exact (by assumption : ∀ x ∈ _, _) _ (by assumption)
  k_with "call ref" => (k_here; (with_reducible show wpAny _ _ (call (Value.ref 131) _) _ _ _); (rename BacksOk _ _ => zq2); k_dflt (refine' mutp_use (lback_c _ _ _ _ ?zctxp1 zq2) ?zctxk1 ?zctxk2 ?zctxk3 ?zctxk4 ?zctxk5 ?zctxkK ?zctxkU ?zctxkd ?zctxku ?zctxki ?zctxkp ?_; walk_at "mine ctx"; (case zctxkp => (rename ToldIs _ _ _ => zq3); (rename OwnOff _ _ => zq4); exact told_pre (by assumption) (by k_mem) (fun p hp => by kst_mem) zq3 zq4 (by k_mem) (by k_ne)); (case zctxp1 => omega); k_whole); intro _ _ _ _ _ _ _ zN' _ zho'; (have ze1 := zho'.1); (have ze2 := zho'.2); clear zho'; subst ze1; subst ze2; (try dsimp only at zN'); (try k_sweep))
  k_with "eval IfExp" => ((with_reducible show wpAny _ _ (eval (PySem.Expr.IfExp (PySem.Expr.Compare _ [PySem.CmpOp.Eq] _ _) _ _ _) _) _ _ _); (with_reducible rename JMark 1 => zhjm); clear zhjm; refine stop_of ?_)
  k_with "exec If" => ((with_reducible show wpAny _ _ (exec (PySem.Stmt.If (PySem.Expr.Compare _ [PySem.CmpOp.Eq] _ _) _ _ _) _) _ _ _); (with_reducible rename JMark 2 => zhjm); clear zhjm; refine stop_of ?_)
  have jhp := hJ.heapify
  rw [if_pos hs2] at jhp
  k_with "mine same" => first | (rw [List.length_map]; exact jhp) | exact jhp
  walk_at "mine go"
  · unfold Stop
    rename_i oO oR₀ oS dO dR dS _ _ _ _ _ _ ys0 hI0 _ D0 _ _ _ _ _ _ _ _ _ _ _ _ hIR _ DR _ _ _ _ _ _ _ oR hcR _ _ _ _ vR nR hiR _ _ _ tl _ _ _ _ _ _ _ lT _ lN'
    (rename Fr _ _ _ _ => lF')
    rw [show (decide (hpfN ltB ((List.map (fun k' => sg * k') start).length / 2) (List.map (fun k' => sg * k') start) = List.map (fun k' => sg * k') heap)) = true from decide_eq_true (by rw [List.length_map]; exact jhp)] at lF'
    have hiR2 : IntsAre vR (heap.map (sg * ·)) := ints_to hiR (by rw [List.length_map]; exact jhp)
    with_unfolding_all refine iter_listTurns (by rfl) lF' lN' (by k_mem) (by rfl) (by rfl) ?_
    intro I lI
    (try k_lt lI)
    refine rest_v (σ := (List Value × List Int × Nat) × (List Value × List Ent × Nat × List (Addr × Obj)) × Obj) (fun c => (tl, listOf c.2.1.1.toArray c.2.1.2.2.1) :: (DR, listOf c.1.1.toArray c.1.2.2) :: (D0, LCg.lst ys0) :: (L' + 1 + 1 + 1, c.2.2) :: (L' + 1 + 1, oR) :: (L' + 1, oS) :: (sl, listOf sv.toArray nt) :: c.2.1.2.2.2)
      (fun c => [(Str.ofString "drawn", .ref D0), (Str.ofString "fair", .bool true), (Str.ofString "told", .ref tl)])
      (fun i c => IntsAre c.1.1 c.1.2.1 ∧ J i c.1.2.1 c.2.1.2.1 ∧ ToldIs c.2.1.1 c.2.1.2.1 c.2.1.2.2.2 ∧ OwnOff c.2.1.2.2.2 [I, tl, DR, D0, L' + 1 + 1 + 1, L' + 1 + 1, L' + 1, sl] ∧ ∃ x, c.2.2.data = .cell x) ((vR, heap.map (sg * ·), nR), ([], [], 0, []), oO) rfl (by walk_at "mine maps") ⟨hiR2, hJ.init, toldIs_nil, offs_nil _, ⟨_, dO⟩⟩ ?off (fun c => ⟨by k_mem, trivial⟩) ?turn ?done
    case off =>
      rintro i ⟨⟨vr, row, nr⟩, ⟨tv, told, nt2, T⟩, oO2⟩ ⟨_, _, _, ho, _⟩
      dsimp only at ho ⊢
      have ho1 : ∀ p ∈ T, p.1 ≠ I := fun p hp => ho p hp I (.head _)
      simp only [List.forall_mem_cons, List.not_mem_nil, false_implies, implies_true, and_true]
      refine ⟨?_, ?_, ?_, ?_, ?_, ?_, ?_, ho1⟩ <;> k_ne
    case turn =>
      rintro i a ⟨⟨vr, row, nr⟩, ⟨tv, told, nt2, T⟩, oO2⟩ u ha ⟨hir, hj, hto, ho, ⟨cv, hcO⟩⟩ v h tk hv F
      obtain ⟨hin, b, k, num, t1, t2, rfl, hek, hT0⟩ := steps_item hsg2 ha
      have hv' : v = .ref b := hv
      subst hv'
      refine AllObj.cons (fun o1 hc1 => AllObj.nil (fun N' => ?_))
      have hT : IsTup h b #[.int k t1, .int num t2] := hT0.keeps F.keep
      clear lF' lN'
      dsimp only [kstB] at F
      (try dsimp only at *); (try simp only [List.cons_append, List.nil_append] at N'); (try k_fold)
      have hvr : vr.length = row.length := hir.length
      have jlen := hJ.len _ _ _ hj
      have jl3 := jlen.1
      have jl4 := jlen.2.1
      have jl5 := jlen.2.2 hin
      have mk : KstMark := kstMark
      have jl6 := hJ.el
      have jl7 : tv.length = i := hto.1.trans jl3
      have hkd : 1 + k % 2 = (if sg < 0 then 1 + k % 2 else k) := (if_pos hs2).symm
      obtain ⟨item, hit⟩ : ∃ item, item = (if 1 + k % 2 = 1 then lastI row else sg * num) := ⟨_, rfl⟩
      k_with_none
      k_with "mine enter" => (refine' def_enter ?zr301k1 ?zr301k2 ?zr301k3 ?zr301k4 ?zr301k5 ?zr301kA ?zr301kF ?zr301kK ?zr301k6 ?zr301k7 ?zr301k8 ?zr301k9 ?zr301kB ?_ ?zr301c2 ?zr301c3 ?zr301c4 ?zr301c5; (case zr301kA => exact rfl); (case zr301kF => exact rfl); (case zr301kK => assumption); (case zr301k1 => k_asm); (case zr301k2 => k_asm); (case zr301k3 => k_asm); (case zr301k4 => k_asm); (case zr301k5 => k_asm); (case zr301k6 => k_is); (case zr301k7 => k_is); (case zr301k8 => ktr_room); (case zr301k9 => exact BindsTo.of_eq rfl); (case zr301c5 => decide); (case zr301kB => exact locs rfl); (case zr301c2 => exact rfl); (case zr301c3 => exact rfl); (case zr301c4 => exact rfl); k_whole)
      k_with "binaryOp RShift int int" => (k_here; (with_reducible refine PySem.wpAny_rshift1_int ?zr302kb1 ?_); (case zr302kb1 => omega))
      k_with "mine cj" => (with_reducible (rename @Ne Nat _ _ ∧ _ => zhcj)); have _ := zhcj.1; replace zhcj := zhcj.2
      k_with "mine go" => (repeat (first | walk_at "mine cj" | (k_unfold; (try dsimp only)) | walk_at "mine fold" | walk1 | (dsimp only; walk1)))
      k_with "mine fold" => ((with_reducible show wpAny _ _ (exec _ _) _ _ _); k_fold)
      k_with "mine go2" => (repeat (first | walk_at "mine cj" | (k_unfold; (try dsimp only)) | walk_at "mine fold" | walk_at "mine fold2" | walk1 | (dsimp only; walk1)))
      k_with "mine fold2" => ((fail_if_success (fail_if_success k_fold)); (with_reducible show wpAny _ _ _ (fun _ _ => wpAny _ _ _ _ _ _) _ _); k_fold)
      k_with "mine bnd" => first | with_reducible assumption | omega | ((try simp only [List.length_set, List.length_append, List.length_cons, List.length_nil, List.length_dropLast, sdN_length]); omega)
      k_with "mine ctx" => ((case zctxk1 => k_asm); (case zctxk2 => k_asm); (case zctxk3 => k_asm); (case zctxk4 => k_asm); (case zctxk5 => k_asm); (case zctxkK => first | exact rfl | assumption); (case zctxkU => k_updF); (case zctxkd => ktr_room); (case zctxku => ktr_units); (case zctxki => l_ints))
      k_with "call ref" => (k_here; (with_reducible show wpAny _ _ (call (Value.ref 77) _) _ _ _); k_dflt (refine' mut_use (sd_c _ _ _ _ _ _ ?zctxp1 ?zctxp2 ?zctxp3 ?zctxp4) ?zctxk1 ?zctxk2 ?zctxk3 ?zctxk4 ?zctxk5 ?zctxkK ?zctxkU ?zctxkd ?zctxku ?zctxki ?_; walk_at "mine ctx"; (case zctxp1 => walk_at "mine bnd"); (case zctxp2 => walk_at "mine bnd"); (case zctxp3 => walk_at "mine bnd"); (case zctxp4 => walk_at "mine bnd"); k_whole); intro _ _ _ _ _ _ _ zN' _ zho'; (have ze1 := zho'.1); (have ze2 := zho'.2); clear zho'; subst ze1; subst ze2; (try dsimp only at zN'); (try k_sweep))
      k_with "call ref" => (k_here; (with_reducible show wpAny _ _ (call (Value.ref 91) _) _ _ _); k_dflt (refine' mut_use (sdx_c _ _ _ _ _ _ ?zctxp1 ?zctxp2 ?zctxp3 ?zctxp4) ?zctxk1 ?zctxk2 ?zctxk3 ?zctxk4 ?zctxk5 ?zctxkK ?zctxkU ?zctxkd ?zctxku ?zctxki ?_; walk_at "mine ctx"; (case zctxp1 => walk_at "mine bnd"); (case zctxp2 => walk_at "mine bnd"); (case zctxp3 => walk_at "mine bnd"); (case zctxp4 => walk_at "mine bnd"); k_whole); intro _ _ _ _ _ _ _ zN' _ zho'; (have ze1 := zho'.1); (have ze2 := zho'.2); clear zho'; subst ze1; subst ze2; (try dsimp only at zN'); (try k_sweep))
      k_with "mine bnd" => first | with_reducible assumption | omega | ((try simp only [List.length_set, List.length_append, List.length_cons, List.length_nil, List.length_dropLast, sdN_length, suN_length]); omega)
      k_with "call ref" => (k_here; (with_reducible show wpAny _ _ (call (Value.ref 84) _) _ _ _); k_dflt (refine' mut_use (su_c _ _ _ _ _ ?zctxp1 ?zctxp2 ?zctxp3) ?zctxk1 ?zctxk2 ?zctxk3 ?zctxk4 ?zctxk5 ?zctxkK ?zctxkU ?zctxkd ?zctxku ?zctxki ?_; walk_at "mine ctx"; (case zctxp1 => walk_at "mine bnd"); (case zctxp2 => walk_at "mine bnd"); (case zctxp3 => walk_at "mine bnd"); k_whole); intro _ _ _ _ _ _ _ zN' _ zho'; (have ze1 := zho'.1); (have ze2 := zho'.2); clear zho'; subst ze1; subst ze2; (try dsimp only at zN'); (try k_sweep))
      k_with "call ref" => (k_here; (with_reducible show wpAny _ _ (call (Value.ref 98) _) _ _ _); k_dflt (refine' mut_use (sux_c _ _ _ _ _ ?zctxp1 ?zctxp2 ?zctxp3) ?zctxk1 ?zctxk2 ?zctxk3 ?zctxk4 ?zctxk5 ?zctxkK ?zctxkU ?zctxkd ?zctxku ?zctxki ?_; walk_at "mine ctx"; (case zctxp1 => walk_at "mine bnd"); (case zctxp2 => walk_at "mine bnd"); (case zctxp3 => walk_at "mine bnd"); k_whole); intro _ _ _ _ _ _ _ zN' _ zho'; (have ze1 := zho'.1); (have ze2 := zho'.2); clear zho'; subst ze1; subst ze2; (try dsimp only at zN'); (try k_sweep))
      k_with "mine bnd" => first | with_reducible assumption | omega | ((try simp only [List.length_set, List.length_append, List.length_cons, List.length_nil, List.length_dropLast, sdN_length, suN_length, liftN_length]); omega)
      k_with "setItem ref int" => (k_here; (with_reducible show wpAny _ _ (setItem (Value.ref _) (Value.int _ _) (Value.int _ _)) _ _ _); k_dflt (refine' ksa_set ?zr316k1 ?zr316k2 ?zr316k3 ?zr316k4 ?zr316k5 ?zr316k6 ?zr316k7 ?_; (case zr316k1 => k_asm); (case zr316k2 => k_asm); (case zr316k3 => k_upd); (case zr316k4 => l_ints); (case zr316k5 => walk_at "mine bnd"); (case zr316k6 => walk_at "mine bnd"); (case zr316k7 => walk_at "mine bnd"); k_whole); intro _ _ _ _ _ _; (try k_sweep))
      k_with "call ref" => (k_here; (with_reducible show wpAny _ _ (call (Value.ref 21) _) _ _ _); k_dflt (refine' mut_use (push_c _ _ _ _ _ ?zctxp1) ?zctxk1 ?zctxk2 ?zctxk3 ?zctxk4 ?zctxk5 ?zctxkK ?zctxkU ?zctxkd ?zctxku ?zctxki ?_; walk_at "mine ctx"; (case zctxp1 => walk_at "mine bnd"); k_whole); intro _ _ _ _ _ _ _ zN' _ zho'; (have ze1 := zho'.1); (have ze2 := zho'.2); clear zho'; subst ze1; subst ze2; (try dsimp only at zN'); (try k_sweep))
      k_with "call ref" => (k_here; (with_reducible show wpAny _ _ (call (Value.ref 28) _) _ _ _); k_dflt (refine' mut_use (pop_c _ _ _ _ ?zctxp1 ?zctxp2) ?zctxk1 ?zctxk2 ?zctxk3 ?zctxk4 ?zctxk5 ?zctxkK ?zctxkU ?zctxkd ?zctxku ?zctxki ?_; walk_at "mine ctx"; (case zctxp1 => walk_at "mine bnd"); (case zctxp2 => walk_at "mine bnd"); k_whole); intro _ _ _ _ _ _ _ zN' _ zho'; (obtain ⟨ze1, _, ze2⟩ := zho'); subst ze1; subst ze2; (try dsimp only at zN'); (try k_sweep))
      k_with "call ref" => (k_here; (with_reducible show wpAny _ _ (call (Value.ref 56) _) _ _ _); k_dflt (refine' mut_use (popx_c _ _ _ _ ?zctxp1 ?zctxp2) ?zctxk1 ?zctxk2 ?zctxk3 ?zctxk4 ?zctxk5 ?zctxkK ?zctxkU ?zctxkd ?zctxku ?zctxki ?_; walk_at "mine ctx"; (case zctxp1 => walk_at "mine bnd"); (case zctxp2 => walk_at "mine bnd"); k_whole); intro _ _ _ _ _ _ _ zN' _ zho'; (obtain ⟨ze1, _, ze2⟩ := zho'); subst ze1; subst ze2; (try dsimp only at zN'); (try k_sweep))
      k_with "call ref" => (k_here; (with_reducible show wpAny _ _ (call (Value.ref 35) _) _ _ _); k_dflt (refine' mut_use (repl_c _ _ _ _ _ ?zctxp1 ?zctxp2) ?zctxk1 ?zctxk2 ?zctxk3 ?zctxk4 ?zctxk5 ?zctxkK ?zctxkU ?zctxkd ?zctxku ?zctxki ?_; walk_at "mine ctx"; (case zctxp1 => walk_at "mine bnd"); (case zctxp2 => walk_at "mine bnd"); k_whole); intro _ _ _ _ _ _ _ zN' _ zho'; (obtain ⟨ze1, _, ze2⟩ := zho'); subst ze1; subst ze2; (try dsimp only at zN'); (try k_sweep))
      k_with "call ref" => (k_here; (with_reducible show wpAny _ _ (call (Value.ref 63) _) _ _ _); k_dflt (refine' mut_use (replx_c _ _ _ _ _ ?zctxp1 ?zctxp2) ?zctxk1 ?zctxk2 ?zctxk3 ?zctxk4 ?zctxk5 ?zctxkK ?zctxkU ?zctxkd ?zctxku ?zctxki ?_; walk_at "mine ctx"; (case zctxp1 => walk_at "mine bnd"); (case zctxp2 => walk_at "mine bnd"); k_whole); intro _ _ _ _ _ _ _ zN' _ zho'; (obtain ⟨ze1, _, ze2⟩ := zho'); subst ze1; subst ze2; (try dsimp only at zN'); (try k_sweep))
      k_with "call ref" => (k_here; (with_reducible show wpAny _ _ (call (Value.ref 42) _) _ _ _); k_dflt (refine' mut_use (pushpop_c _ _ _ _ _ ?zctxp1 ?zctxp2) ?zctxk1 ?zctxk2 ?zctxk3 ?zctxk4 ?zctxk5 ?zctxkK ?zctxkU ?zctxkd ?zctxku ?zctxki ?_; walk_at "mine ctx"; (case zctxp1 => walk_at "mine bnd"); (case zctxp2 => walk_at "mine bnd"); k_whole); intro _ _ _ _ _ _ _ zN' _ zho'; (obtain ⟨ze1, _, ze2⟩ := zho'); subst ze1; subst ze2; (try dsimp only at zN'); (try k_sweep))
      k_with "call ref" => (k_here; (with_reducible show wpAny _ _ (call (Value.ref 110) _) _ _ _); k_dflt (refine' mut_use (lift_c _ _ _ _ _ _ ?zctxp1 ?zctxp2 ?zctxp3 ?zctxp4 ?zctxp5) ?zctxk1 ?zctxk2 ?zctxk3 ?zctxk4 ?zctxk5 ?zctxkK ?zctxkU ?zctxkd ?zctxku ?zctxki ?_; walk_at "mine ctx"; (case zctxp1 => walk_at "mine bnd"); (case zctxp2 => walk_at "mine bnd"); (case zctxp3 => walk_at "mine bnd"); (case zctxp4 => walk_at "mine bnd"); (case zctxp5 => walk_at "mine bnd"); k_whole); intro _ _ _ _ _ _ _ zN' _ zho'; (have ze1 := zho'.1); (have ze2 := zho'.2); clear zho'; subst ze1; subst ze2; (try dsimp only at zN'); (try k_sweep))
      k_with "call ref" => (k_here; (with_reducible show wpAny _ _ (call (Value.ref 49) _) _ _ _); k_dflt (refine' mut_use (hpf_c _ _ _ _ ?zctxp1) ?zctxk1 ?zctxk2 ?zctxk3 ?zctxk4 ?zctxk5 ?zctxkK ?zctxkU ?zctxkd ?zctxku ?zctxki ?_; walk_at "mine ctx"; (case zctxp1 => walk_at "mine bnd"); k_whole); intro _ _ _ _ _ _ _ zN' _ zho'; (have ze1 := zho'.1); (have ze2 := zho'.2); clear zho'; subst ze1; subst ze2; (try dsimp only at zN'); (try k_sweep))
      k_with "call ref" => (k_here; (with_reducible show wpAny _ _ (call (Value.ref 70) _) _ _ _); k_dflt (refine' mut_use (hpfx_c _ _ _ _ ?zctxp1) ?zctxk1 ?zctxk2 ?zctxk3 ?zctxk4 ?zctxk5 ?zctxkK ?zctxkU ?zctxkd ?zctxku ?zctxki ?_; walk_at "mine ctx"; (case zctxp1 => walk_at "mine bnd"); k_whole); intro _ _ _ _ _ _ _ zN' _ zho'; (have ze1 := zho'.1); (have ze2 := zho'.2); clear zho'; subst ze1; subst ze2; (try dsimp only at zN'); (try k_sweep))
      k_with "call ref" => (k_here; (with_reducible show wpAny _ _ (call (Value.ref 124) _) _ _ _); k_dflt (refine' mut_use (lcall_c _ _ _ _ _ _ _ ?zctxp1 ?zctxp2) ?zctxk1 ?zctxk2 ?zctxk3 ?zctxk4 ?zctxk5 ?zctxkK ?zctxkU ?zctxkd ?zctxku ?zctxki ?_; walk_at "mine ctx"; (case zctxp1 => walk_at "mine bnd"); (case zctxp2 => walk_at "mine bnd"); k_whole); intro _ _ _ _ _ _ _ zN' _ zho'; (have ze1 := zho'.1); (have _ := zho'.2); clear zho'; subst ze1; (try dsimp only at zN'); (try k_sweep))
      k_with "call builtin:len" => (k_here; (with_reducible show wpAny _ _ (call (Value.builtin "len") [Value.ref _]) _ _ _); k_dflt (refine' len_ints ?zr327k1 ?zr327k2 ?zr327k3 ?zr327k4 ?_; (case zr327k1 => k_asm); (case zr327k2 => k_mem); (case zr327k3 => l_ints); (case zr327k4 => walk_at "mine bnd"); k_whole))
      k_with "truthy ref" => (k_here; (with_reducible show wpAny _ _ (truthy (Value.ref _)) _ _ _); k_dflt (refine' truthy_ints ?zr328k1 ?zr328k2 ?zr328k3 ?zr328k4 ?_; (case zr328k1 => k_asm); (case zr328k2 => k_mem); (case zr328k3 => l_ints); (case zr328k4 => walk_at "mine bnd")))
      k_with "mine end" => ((try dsimp only); (try (k_unfold; try dsimp only)))
      k_with "mine maps" => first | exact List.forall_mem_nil _ | (refine List.forall_mem_cons.mpr ⟨by rfl, ?_⟩; walk_at "mine maps")
      k_with "binaryOp FloorDiv int int" => (k_here; (with_reducible refine ediv_int ?zr331kb ?zr331kp ?_); (case zr331kb => decide); (case zr331kp => first | exact PyProof.noPylong_of_log2 (by decide +kernel) | exact PyProof.noPylong_small (by omega)))
      k_with "binaryOp Mod int int" => (k_here; (with_reducible refine emod_int ?zr332kb ?_); (case zr332kb => first | decide | omega))
      k_with "subscriptTail Name Slice ref ref" => (k_here; (with_reducible show wpAny _ _ (subscriptTail _ (PySem.Expr.Slice none none none _) (Value.ref _) (Value.ref _)) _ _ _); k_dflt (refine' slice_all ?zr333F ?zr333N ?zr333l ?zr333z ?_ ?zr333s ?zr333t; (case zr333F => k_asm); (case zr333N => k_asm); (case zr333l => k_mem); (case zr333z => omega); (case zr333s => with_unfolding_all rfl); (case zr333t => (intro _; with_unfolding_all rfl))); intro _ _ _ _ zl1; (try k_lt zl1); (try k_sweep))
      k_with "mine off" => ((simp only [List.forall_mem_cons, List.not_mem_nil, false_implies, implies_true, and_true]); (repeat' apply And.intro) <;> k_ne)
      k_with "call builtin:list.pop" => (k_here; (with_reducible show wpAny _ _ (call (Value.builtin _) [Value.ref _, Value.int _ _]) _ _ _); k_dflt (refine' pop_at ?zr335F ?zr335N ?zr335U ?zr335i ?zr335a ?zr335b ?zr335c ?_; (case zr335F => k_asm); (case zr335N => k_asm); (case zr335U => k_updF); (case zr335i => l_ints); (case zr335a => walk_at "mine bnd"); (case zr335b => walk_at "mine bnd"); (case zr335c => walk_at "mine bnd")); intro _ _ _ zN' _; (try dsimp only at zN'); (try k_sweep))
      k_with "inplaceOp Add ref" => (k_here; (with_reducible show wpAny _ _ (inplaceOp Operator.Add (Value.ref _) (Value.ref _)) _ _ _); k_dflt (refine' iadd_lists ?zr336F ?zr336N ?zr336U ?zr336b ?zr336z ?_; (case zr336F => k_asm); (case zr336N => k_asm); (case zr336U => k_updF); (case zr336b => k_mem); (case zr336z => first | assumption | omega)); intro _ _ _ zN'; (try dsimp only at zN'); (try k_sweep))
      k_with "mine enterC" => (refine' def_enterC ?zr337k1 ?zr337k2 ?zr337k3 ?zr337k4 ?zr337k5 ?zr337kA ?zr337kF ?zr337kK ?zr337k6 ?zr337k7 ?zr337k8 ?zr337k9 ?zr337kB ?zr337kD ?_ ?zr337c2 ?zr337c3 ?zr337c4; (case zr337kA => exact rfl); (case zr337kF => exact rfl); (case zr337kK => assumption); (case zr337k1 => k_asm); (case zr337k2 => k_asm); (case zr337k3 => k_asm); (case zr337k4 => k_asm); (case zr337k5 => k_asm); (case zr337k6 => k_is); (case zr337k7 => k_is); (case zr337k8 => ktr_room); (case zr337k9 => exact BindsTo.of_eq rfl); (case zr337kB => exact rfl); (case zr337kD => decide +kernel); (case zr337c2 => exact rfl); (case zr337c3 => exact rfl); (case zr337c4 => exact rfl); k_whole)
      k_with "ite" => first | (with_reducible refine c_ff ?_) | (with_reducible refine c_tt ?_) | (with_reducible refine ct_yes (by assumption) ?_) | (with_reducible refine ct_no (by assumption) ?_) | (with_reducible refine cb_yes (by assumption) ?_) | (with_reducible refine cb_no (by assumption) ?_) | (with_reducible refine cn_yes (by assumption) ?_) | (with_reducible refine cn_no (by assumption) ?_)
      k_with "exec For Tuple Name cons nil" => (k_here; (rename Fr _ _ _ _ => zlF'); (with_unfolding_all refine' For_turns zlF' ?_; k_whole))
      k_with "pyIter ref" => ((with_reducible show wpAny _ _ (pyIter (Value.ref _)) (fun it s₂ => TurnsAt _ _ _ _ _ _ _ _ _ it s₂) _ _); refine stop_of ?_)
      k_with "mine same" => k_extra "mine same"
      k_with "mine bnd" => ((simp only [List.length_map]); omega)
      k_with "compareOp Eq ref ref" => (k_here; (with_reducible show wpAny _ _ (compareOp CmpOp.Eq (Value.ref _) (Value.ref _)) _ _ _); (refine' eq_own ?zr343N ?zr343a ?zr343b ?zr343i ?zr343j ?zr343u ?zr343e ?_; (case zr343N => k_asm); (case zr343a => k_mem); (case zr343b => k_mem); (case zr343i => l_ints); (case zr343j => l_ints); (case zr343u => ktr_units); (case zr343e => walk_at "mine same"); k_whole))
      k_with "call builtin:list.append" => (k_here; (with_reducible show wpAny _ _ (call (Value.builtin _) [Value.ref _, Value.ref _]) _ _ _); k_dflt (refine' append_any ?zr344k1 ?zr344k2 ?zr344k3 ?zr344z ?_; (case zr344k1 => k_asm); (case zr344k2 => k_asm); (case zr344k3 => k_updF); (case zr344z => walk_at "mine bnd")); intro _ _ zN'; (try dsimp only at zN'); (try k_sweep))
      k_with "call ref" => (k_here; (with_reducible show wpAny _ _ (call (Value.ref 124) _) _ _ _); k_dflt (refine' mut_use (lcall_c _ _ _ _ _ _ _ ?zctxp1 ?zctxp2) ?zctxk1 ?zctxk2 ?zctxk3 ?zctxk4 ?zctxk5 ?zctxkK ?zctxkU ?zctxkd ?zctxku ?zctxki ?_; walk_at "mine ctx"; (case zctxp1 => walk_at "mine bnd"); (case zctxp2 => walk_at "mine bnd"); k_whole); intro _ _ _ _ _ _ _ zN' _ zho'; (have ze1 := zho'.1); (have _ := zho'.2); clear zho'; subst ze1; walk_at "mine ok"; (try dsimp only at zN'); (try k_sweep))
      k_with "call builtin:all" => (k_here; (with_reducible show wpAny _ _ (call (Value.builtin "all") [Value.ref _]) _ _ _); k_dflt (refine all_trues (by k_asm) (by k_asm) (by rfl) (by k_mem) (by assumption) ?_); intro _ _ _ _)
      k_with "eval ListComp" => (k_here; (with_reducible show wpAny _ _ (eval (PySem.Expr.ListComp (PySem.Expr.Compare _ _ _ _) _ _ _) _) _ _ _); k_dflt (refine LCg.ListComp_U (F₀ := by k_asm) (by with_unfolding_all rfl) (by decide) (by rfl) (by decide) (by rfl) ?_))
      k_with "CompSrc" => ((with_reducible show LCg.CompSrc _ _ _ _ _ _ _ (PySem.Expr.Compare _ _ _ _) _ _ _ _ _ _); k_dflt ((refine' LCg.CompSrc.ledger (by rfl) ?zr348kF ?zr348kN ?zr348kM ?zr348kZ ?_; (case zr348kF => k_asm); (case zr348kN => k_asm); (case zr348kM => k_mem); (case zr348kZ => kcf_size); intro _; refine' comp_truesL ?zr348ki (fun _ _ _ _ _ _ _ _ _ _ _ _ _ _ _ _ _ _ _ => ?_) (fun _ _ => ?_); (case zr348ki => first | assumption | l_ints))); kcf_last)
      k_with "CompSrc" => ((with_reducible show LCg.CompSrc _ _ _ _ _ _ _ (PySem.Expr.Compare _ _ _ _) _ _ _ _ _ _); k_dflt ((refine LCg.CompSrc.range (by rfl) (by k_asm) (by k_asm) (by assumption) (by exact small_one (by omega) (by omega) (by omega) (by omega)) (by exact rangeSize_nat _ _) (by rw [PySem.sizeLine_eq]; omega) ?_; intro _; refine' comp_truesR (fun _ _ _ _ _ _ _ _ _ _ _ _ _ _ _ _ _ _ _ => ?_) (fun _ _ => ?_))); kcf_last)
      k_with "subscriptTail Name BinOp ref int" => (k_here; (with_reducible show wpAny _ _ (subscriptTail _ _ (Value.ref _) (Value.int _ _)) _ _ _); k_dflt (refine' ksa_sub ?zr350k1 ?zr350k2 ?zr350k3 ?zr350k4 ?zr350k5 ?zr350k6 ?_ ?zr350k7; (case zr350k1 => k_asm); (case zr350k2 => k_mem); (case zr350k3 => l_ints); (case zr350k4 => walk_at "mine bnd"); (case zr350k5 => walk_at "mine bnd"); (case zr350k6 => walk_at "mine bnd"); (case zr350k7 => with_unfolding_all rfl); k_whole); intro _)
      k_with "subscriptTail Name Name ref int" => (k_here; (with_reducible show wpAny _ _ (subscriptTail _ _ (Value.ref _) (Value.int _ _)) _ _ _); k_dflt (refine' ksa_sub ?zr351k1 ?zr351k2 ?zr351k3 ?zr351k4 ?zr351k5 ?zr351k6 ?_ ?zr351k7; (case zr351k1 => k_asm); (case zr351k2 => k_mem); (case zr351k3 => l_ints); (case zr351k4 => walk_at "mine bnd"); (case zr351k5 => walk_at "mine bnd"); (case zr351k6 => walk_at "mine bnd"); (case zr351k7 => with_unfolding_all rfl); k_whole); intro _)
      k_with "CompEnd" => (refine LCg.CompEnd.intro (by assumption) (by assumption) _ (fun p hp => hp) ?zr352o ?zr352s ⟨rfl, ?zr352y⟩; (case zr352o => assumption); (case zr352s => first | exact True.intro | lcg_src | assumption); (case zr352y => (refine bool_lt ?_; walk_at "mine lt")))
      k_with "mine lt" => first | exact lt_at (by assumption) (by assumption) rfl | exact (by assumption : ∀ x ∈ _, _) _ (by assumption)
      k_with "call ref" => (k_here; (with_reducible show wpAny _ _ (call (Value.ref 131) _) _ _ _); (rename BacksOk _ _ => zq2); k_dflt (refine' mutp_use (lback_c _ _ _ _ ?zctxp1 zq2) ?zctxk1 ?zctxk2 ?zctxk3 ?zctxk4 ?zctxk5 ?zctxkK ?zctxkU ?zctxkd ?zctxku ?zctxki ?zctxkp ?_; walk_at "mine ctx"; (case zctxkp => (rename ToldIs _ _ _ => zq3); (rename OwnOff _ _ => zq4); exact told_pre (by assumption) (by k_mem) (fun p hp => by kst_mem) zq3 zq4 (by k_mem) (by k_ne)); (case zctxp1 => omega); k_whole); intro _ _ _ _ _ _ _ zN' _ zho'; (have ze1 := zho'.1); (have ze2 := zho'.2); clear zho'; subst ze1; subst ze2; (try dsimp only at zN'); (try k_sweep))
      k_with "eval IfExp" => ((with_reducible show wpAny _ _ (eval (PySem.Expr.IfExp (PySem.Expr.Compare _ [PySem.CmpOp.Eq] _ _) _ _ _) _) _ _ _); (with_reducible rename JMark 1 => zhjm); clear zhjm; refine stop_of ?_)
      k_with "exec If" => ((with_reducible show wpAny _ _ (exec (PySem.Stmt.If (PySem.Expr.Compare _ [PySem.CmpOp.Eq] _ _) _ _ _) _) _ _ _); (with_reducible rename JMark 2 => zhjm); clear zhjm; refine stop_of ?_)
      have jk1 := jmark 1
      walk_at "mine go"
      unfold Stop
      refine join_int item ?_ (fun u9 tk9 => ?_)
      · by_cases hk1 : 1 + k % 2 = 1
        · rw [if_pos hk1] at hit
          walk_at "mine go"
          exact JInt.of hit _ _ _
        · rw [if_neg hk1] at hit
          walk_at "mine go"
          exact JInt.of hit _ _ _
      k_with "mine ok" => (rename OV _ _ => e2; have hj0 := tab_turn hJ hj hek hkd hit e2; obtain ⟨hj2, jm1, jm3, jm4, jm5⟩ := hj0)
      have jk2 := jmark 2
      walk_at "mine go"
      unfold Stop
      have hk0 : ¬ 1 + k % 2 = 0 := by omega
      obtain ⟨o8, t9, jm6, jm7, jm8⟩ := jm4 hk0
      subst jm7
      by_cases hk2 : 1 + k % 2 = 2
      · walk_at "mine go"
        rename News _ _ _ _ => N9
        exact lpost_tab (by assumption) (news_tail N9) rfl rfl rfl (by assumption) hj2 hto ho jm6 (by assumption) (by assumption) (by assumption) (by assumption) (by assumption) (by assumption) (by assumption) (by assumption) (by assumption)
      · have jm9 := jm8 hk2
        k_with "mine lt" => exact jm9 _ (by assumption)
        walk_at "mine go"
        rename News _ _ _ _ => N9
        exact lpost_tab (by assumption) (news_tail (news_tail N9)) rfl rfl rfl (by assumption) hj2 hto ho jm6 (by assumption) (by assumption) (by assumption) (by assumption) (by assumption) (by assumption) (by assumption) (by assumption) (by assumption)
    case done =>
      rintro ⟨⟨vr, row, nr⟩, ⟨tv, told, nt2, T⟩, oO2⟩ u h tk ⟨hir, hj, hto, ho, ⟨cv, hcO⟩⟩ F N'
      have hz : (sv.map Itm.val).length = es.length := by rw [List.length_map]; exact hst.1
      rw [hz] at hj
      clear lF' lN'
      dsimp only [kstB] at F
      (try dsimp only at *); (try k_fold)
      obtain ⟨hbo, hbk⟩ := hJ.back _ _ hj
      have jl3 := (hJ.len _ _ _ hj).1
      have jl6 := hJ.el
      have mk : KstMark := kstMark
      k_with_none
      k_with "mine enter" => (refine' def_enter ?zr301k1 ?zr301k2 ?zr301k3 ?zr301k4 ?zr301k5 ?zr301kA ?zr301kF ?zr301kK ?zr301k6 ?zr301k7 ?zr301k8 ?zr301k9 ?zr301kB ?_ ?zr301c2 ?zr301c3 ?zr301c4 ?zr301c5; (case zr301kA => exact rfl); (case zr301kF => exact rfl); (case zr301kK => assumption); (case zr301k1 => k_asm); (case zr301k2 => k_asm); (case zr301k3 => k_asm); (case zr301k4 => k_asm); (case zr301k5 => k_asm); (case zr301k6 => k_is); (case zr301k7 => k_is); (case zr301k8 => ktr_room); (case zr301k9 => exact BindsTo.of_eq rfl); (case zr301c5 => decide); (case zr301kB => exact locs rfl); (case zr301c2 => exact rfl); (case zr301c3 => exact rfl); (case zr301c4 => exact rfl); k_whole)
      k_with "binaryOp RShift int int" => (k_here; (with_reducible refine PySem.wpAny_rshift1_int ?zr302kb1 ?_); (case zr302kb1 => omega))
      k_with "mine cj" => (with_reducible (rename @Ne Nat _ _ ∧ _ => zhcj)); have _ := zhcj.1; replace zhcj := zhcj.2
      k_with "mine go" => (repeat (first | walk_at "mine cj" | (k_unfold; (try dsimp only)) | walk_at "mine fold" | walk1 | (dsimp only; walk1)))
      k_with "mine fold" => ((with_reducible show wpAny _ _ (exec _ _) _ _ _); k_fold)
      k_with "mine go2" => (repeat (first | walk_at "mine cj" | (k_unfold; (try dsimp only)) | walk_at "mine fold" | walk_at "mine fold2" | walk1 | (dsimp only; walk1)))
      k_with "mine fold2" => ((fail_if_success (fail_if_success k_fold)); (with_reducible show wpAny _ _ _ (fun _ _ => wpAny _ _ _ _ _ _) _ _); k_fold)
      k_with "mine bnd" => first | with_reducible assumption | omega | ((try simp only [List.length_set, List.length_append, List.length_cons, List.length_nil, List.length_dropLast, sdN_length]); omega)
      k_with "mine ctx" => ((case zctxk1 => k_asm); (case zctxk2 => k_asm); (case zctxk3 => k_asm); (case zctxk4 => k_asm); (case zctxk5 => k_asm); (case zctxkK => first | exact rfl | assumption); (case zctxkU => k_updF); (case zctxkd => ktr_room); (case zctxku => ktr_units); (case zctxki => l_ints))
      k_with "call ref" => (k_here; (with_reducible show wpAny _ _ (call (Value.ref 77) _) _ _ _); k_dflt (refine' mut_use (sd_c _ _ _ _ _ _ ?zctxp1 ?zctxp2 ?zctxp3 ?zctxp4) ?zctxk1 ?zctxk2 ?zctxk3 ?zctxk4 ?zctxk5 ?zctxkK ?zctxkU ?zctxkd ?zctxku ?zctxki ?_; walk_at "mine ctx"; (case zctxp1 => walk_at "mine bnd"); (case zctxp2 => walk_at "mine bnd"); (case zctxp3 => walk_at "mine bnd"); (case zctxp4 => walk_at "mine bnd"); k_whole); intro _ _ _ _ _ _ _ zN' _ zho'; (have ze1 := zho'.1); (have ze2 := zho'.2); clear zho'; subst ze1; subst ze2; (try dsimp only at zN'); (try k_sweep))
      k_with "call ref" => (k_here; (with_reducible show wpAny _ _ (call (Value.ref 91) _) _ _ _); k_dflt (refine' mut_use (sdx_c _ _ _ _ _ _ ?zctxp1 ?zctxp2 ?zctxp3 ?zctxp4) ?zctxk1 ?zctxk2 ?zctxk3 ?zctxk4 ?zctxk5 ?zctxkK ?zctxkU ?zctxkd ?zctxku ?zctxki ?_; walk_at "mine ctx"; (case zctxp1 => walk_at "mine bnd"); (case zctxp2 => walk_at "mine bnd"); (case zctxp3 => walk_at "mine bnd"); (case zctxp4 => walk_at "mine bnd"); k_whole); intro _ _ _ _ _ _ _ zN' _ zho'; (have ze1 := zho'.1); (have ze2 := zho'.2); clear zho'; subst ze1; subst ze2; (try dsimp only at zN'); (try k_sweep))
      k_with "mine bnd" => first | with_reducible assumption | omega | ((try simp only [List.length_set, List.length_append, List.length_cons, List.length_nil, List.length_dropLast, sdN_length, suN_length]); omega)
      k_with "call ref" => (k_here; (with_reducible show wpAny _ _ (call (Value.ref 84) _) _ _ _); k_dflt (refine' mut_use (su_c _ _ _ _ _ ?zctxp1 ?zctxp2 ?zctxp3) ?zctxk1 ?zctxk2 ?zctxk3 ?zctxk4 ?zctxk5 ?zctxkK ?zctxkU ?zctxkd ?zctxku ?zctxki ?_; walk_at "mine ctx"; (case zctxp1 => walk_at "mine bnd"); (case zctxp2 => walk_at "mine bnd"); (case zctxp3 => walk_at "mine bnd"); k_whole); intro _ _ _ _ _ _ _ zN' _ zho'; (have ze1 := zho'.1); (have ze2 := zho'.2); clear zho'; subst ze1; subst ze2; (try dsimp only at zN'); (try k_sweep))
      k_with "call ref" => (k_here; (with_reducible show wpAny _ _ (call (Value.ref 98) _) _ _ _); k_dflt (refine' mut_use (sux_c _ _ _ _ _ ?zctxp1 ?zctxp2 ?zctxp3) ?zctxk1 ?zctxk2 ?zctxk3 ?zctxk4 ?zctxk5 ?zctxkK ?zctxkU ?zctxkd ?zctxku ?zctxki ?_; walk_at "mine ctx"; (case zctxp1 => walk_at "mine bnd"); (case zctxp2 => walk_at "mine bnd"); (case zctxp3 => walk_at "mine bnd"); k_whole); intro _ _ _ _ _ _ _ zN' _ zho'; (have ze1 := zho'.1); (have ze2 := zho'.2); clear zho'; subst ze1; subst ze2; (try dsimp only at zN'); (try k_sweep))
      k_with "mine bnd" => first | with_reducible assumption | omega | ((try simp only [List.length_set, List.length_append, List.length_cons, List.length_nil, List.length_dropLast, sdN_length, suN_length, liftN_length]); omega)
      k_with "setItem ref int" => (k_here; (with_reducible show wpAny _ _ (setItem (Value.ref _) (Value.int _ _) (Value.int _ _)) _ _ _); k_dflt (refine' ksa_set ?zr316k1 ?zr316k2 ?zr316k3 ?zr316k4 ?zr316k5 ?zr316k6 ?zr316k7 ?_; (case zr316k1 => k_asm); (case zr316k2 => k_asm); (case zr316k3 => k_upd); (case zr316k4 => l_ints); (case zr316k5 => walk_at "mine bnd"); (case zr316k6 => walk_at "mine bnd"); (case zr316k7 => walk_at "mine bnd"); k_whole); intro _ _ _ _ _ _; (try k_sweep))
      k_with "call ref" => (k_here; (with_reducible show wpAny _ _ (call (Value.ref 21) _) _ _ _); k_dflt (refine' mut_use (push_c _ _ _ _ _ ?zctxp1) ?zctxk1 ?zctxk2 ?zctxk3 ?zctxk4 ?zctxk5 ?zctxkK ?zctxkU ?zctxkd ?zctxku ?zctxki ?_; walk_at "mine ctx"; (case zctxp1 => walk_at "mine bnd"); k_whole); intro _ _ _ _ _ _ _ zN' _ zho'; (have ze1 := zho'.1); (have ze2 := zho'.2); clear zho'; subst ze1; subst ze2; (try dsimp only at zN'); (try k_sweep))
      k_with "call ref" => (k_here; (with_reducible show wpAny _ _ (call (Value.ref 28) _) _ _ _); k_dflt (refine' mut_use (pop_c _ _ _ _ ?zctxp1 ?zctxp2) ?zctxk1 ?zctxk2 ?zctxk3 ?zctxk4 ?zctxk5 ?zctxkK ?zctxkU ?zctxkd ?zctxku ?zctxki ?_; walk_at "mine ctx"; (case zctxp1 => walk_at "mine bnd"); (case zctxp2 => walk_at "mine bnd"); k_whole); intro _ _ _ _ _ _ _ zN' _ zho'; (obtain ⟨ze1, _, ze2⟩ := zho'); subst ze1; subst ze2; (try dsimp only at zN'); (try k_sweep))
      k_with "call ref" => (k_here; (with_reducible show wpAny _ _ (call (Value.ref 56) _) _ _ _); k_dflt (refine' mut_use (popx_c _ _ _ _ ?zctxp1 ?zctxp2) ?zctxk1 ?zctxk2 ?zctxk3 ?zctxk4 ?zctxk5 ?zctxkK ?zctxkU ?zctxkd ?zctxku ?zctxki ?_; walk_at "mine ctx"; (case zctxp1 => walk_at "mine bnd"); (case zctxp2 => walk_at "mine bnd"); k_whole); intro _ _ _ _ _ _ _ zN' _ zho'; (obtain ⟨ze1, _, ze2⟩ := zho'); subst ze1; subst ze2; (try dsimp only at zN'); (try k_sweep))
      k_with "call ref" => (k_here; (with_reducible show wpAny _ _ (call (Value.ref 35) _) _ _ _); k_dflt (refine' mut_use (repl_c _ _ _ _ _ ?zctxp1 ?zctxp2) ?zctxk1 ?zctxk2 ?zctxk3 ?zctxk4 ?zctxk5 ?zctxkK ?zctxkU ?zctxkd ?zctxku ?zctxki ?_; walk_at "mine ctx"; (case zctxp1 => walk_at "mine bnd"); (case zctxp2 => walk_at "mine bnd"); k_whole); intro _ _ _ _ _ _ _ zN' _ zho'; (obtain ⟨ze1, _, ze2⟩ := zho'); subst ze1; subst ze2; (try dsimp only at zN'); (try k_sweep))
      k_with "call ref" => (k_here; (with_reducible show wpAny _ _ (call (Value.ref 63) _) _ _ _); k_dflt (refine' mut_use (replx_c _ _ _ _ _ ?zctxp1 ?zctxp2) ?zctxk1 ?zctxk2 ?zctxk3 ?zctxk4 ?zctxk5 ?zctxkK ?zctxkU ?zctxkd ?zctxku ?zctxki ?_; walk_at "mine ctx"; (case zctxp1 => walk_at "mine bnd"); (case zctxp2 => walk_at "mine bnd"); k_whole); intro _ _ _ _ _ _ _ zN' _ zho'; (obtain ⟨ze1, _, ze2⟩ := zho'); subst ze1; subst ze2; (try dsimp only at zN'); (try k_sweep))
      k_with "call ref" => (k_here; (with_reducible show wpAny _ _ (call (Value.ref 42) _) _ _ _); k_dflt (refine' mut_use (pushpop_c _ _ _ _ _ ?zctxp1 ?zctxp2) ?zctxk1 ?zctxk2 ?zctxk3 ?zctxk4 ?zctxk5 ?zctxkK ?zctxkU ?zctxkd ?zctxku ?zctxki ?_; walk_at "mine ctx"; (case zctxp1 => walk_at "mine bnd"); (case zctxp2 => walk_at "mine bnd"); k_whole); intro _ _ _ _ _ _ _ zN' _ zho'; (obtain ⟨ze1, _, ze2⟩ := zho'); subst ze1; subst ze2; (try dsimp only at zN'); (try k_sweep))
      k_with "call ref" => (k_here; (with_reducible show wpAny _ _ (call (Value.ref 110) _) _ _ _); k_dflt (refine' mut_use (lift_c _ _ _ _ _ _ ?zctxp1 ?zctxp2 ?zctxp3 ?zctxp4 ?zctxp5) ?zctxk1 ?zctxk2 ?zctxk3 ?zctxk4 ?zctxk5 ?zctxkK ?zctxkU ?zctxkd ?zctxku ?zctxki ?_; walk_at "mine ctx"; (case zctxp1 => walk_at "mine bnd"); (case zctxp2 => walk_at "mine bnd"); (case zctxp3 => walk_at "mine bnd"); (case zctxp4 => walk_at "mine bnd"); (case zctxp5 => walk_at "mine bnd"); k_whole); intro _ _ _ _ _ _ _ zN' _ zho'; (have ze1 := zho'.1); (have ze2 := zho'.2); clear zho'; subst ze1; subst ze2; (try dsimp only at zN'); (try k_sweep))
      k_with "call ref" => (k_here; (with_reducible show wpAny _ _ (call (Value.ref 49) _) _ _ _); k_dflt (refine' mut_use (hpf_c _ _ _ _ ?zctxp1) ?zctxk1 ?zctxk2 ?zctxk3 ?zctxk4 ?zctxk5 ?zctxkK ?zctxkU ?zctxkd ?zctxku ?zctxki ?_; walk_at "mine ctx"; (case zctxp1 => walk_at "mine bnd"); k_whole); intro _ _ _ _ _ _ _ zN' _ zho'; (have ze1 := zho'.1); (have ze2 := zho'.2); clear zho'; subst ze1; subst ze2; (try dsimp only at zN'); (try k_sweep))
      k_with "call ref" => (k_here; (with_reducible show wpAny _ _ (call (Value.ref 70) _) _ _ _); k_dflt (refine' mut_use (hpfx_c _ _ _ _ ?zctxp1) ?zctxk1 ?zctxk2 ?zctxk3 ?zctxk4 ?zctxk5 ?zctxkK ?zctxkU ?zctxkd ?zctxku ?zctxki ?_; walk_at "mine ctx"; (case zctxp1 => walk_at "mine bnd"); k_whole); intro _ _ _ _ _ _ _ zN' _ zho'; (have ze1 := zho'.1); (have ze2 := zho'.2); clear zho'; subst ze1; subst ze2; (try dsimp only at zN'); (try k_sweep))
      k_with "call ref" => (k_here; (with_reducible show wpAny _ _ (call (Value.ref 124) _) _ _ _); k_dflt (refine' mut_use (lcall_c _ _ _ _ _ _ _ ?zctxp1 ?zctxp2) ?zctxk1 ?zctxk2 ?zctxk3 ?zctxk4 ?zctxk5 ?zctxkK ?zctxkU ?zctxkd ?zctxku ?zctxki ?_; walk_at "mine ctx"; (case zctxp1 => walk_at "mine bnd"); (case zctxp2 => walk_at "mine bnd"); k_whole); intro _ _ _ _ _ _ _ zN' _ zho'; (have ze1 := zho'.1); (have _ := zho'.2); clear zho'; subst ze1; (try dsimp only at zN'); (try k_sweep))
      k_with "call builtin:len" => (k_here; (with_reducible show wpAny _ _ (call (Value.builtin "len") [Value.ref _]) _ _ _); k_dflt (refine' len_ints ?zr327k1 ?zr327k2 ?zr327k3 ?zr327k4 ?_; (case zr327k1 => k_asm); (case zr327k2 => k_mem); (case zr327k3 => l_ints); (case zr327k4 => walk_at "mine bnd"); k_whole))
      k_with "truthy ref" => (k_here; (with_reducible show wpAny _ _ (truthy (Value.ref _)) _ _ _); k_dflt (refine' truthy_ints ?zr328k1 ?zr328k2 ?zr328k3 ?zr328k4 ?_; (case zr328k1 => k_asm); (case zr328k2 => k_mem); (case zr328k3 => l_ints); (case zr328k4 => walk_at "mine bnd")))
      k_with "mine end" => ((try dsimp only); (try (k_unfold; try dsimp only)))
      k_with "mine maps" => first | exact List.forall_mem_nil _ | (refine List.forall_mem_cons.mpr ⟨by rfl, ?_⟩; walk_at "mine maps")
      k_with "binaryOp FloorDiv int int" => (k_here; (with_reducible refine ediv_int ?zr331kb ?zr331kp ?_); (case zr331kb => decide); (case zr331kp => first | exact PyProof.noPylong_of_log2 (by decide +kernel) | exact PyProof.noPylong_small (by omega)))
      k_with "binaryOp Mod int int" => (k_here; (with_reducible refine emod_int ?zr332kb ?_); (case zr332kb => first | decide | omega))
      k_with "subscriptTail Name Slice ref ref" => (k_here; (with_reducible show wpAny _ _ (subscriptTail _ (PySem.Expr.Slice none none none _) (Value.ref _) (Value.ref _)) _ _ _); k_dflt (refine' slice_all ?zr333F ?zr333N ?zr333l ?zr333z ?_ ?zr333s ?zr333t; (case zr333F => k_asm); (case zr333N => k_asm); (case zr333l => k_mem); (case zr333z => omega); (case zr333s => with_unfolding_all rfl); (case zr333t => (intro _; with_unfolding_all rfl))); intro _ _ _ _ zl1; (try k_lt zl1); (try k_sweep))
      k_with "mine off" => ((simp only [List.forall_mem_cons, List.not_mem_nil, false_implies, implies_true, and_true]); (repeat' apply And.intro) <;> k_ne)
      k_with "call builtin:list.pop" => (k_here; (with_reducible show wpAny _ _ (call (Value.builtin _) [Value.ref _, Value.int _ _]) _ _ _); k_dflt (refine' pop_at ?zr335F ?zr335N ?zr335U ?zr335i ?zr335a ?zr335b ?zr335c ?_; (case zr335F => k_asm); (case zr335N => k_asm); (case zr335U => k_updF); (case zr335i => l_ints); (case zr335a => walk_at "mine bnd"); (case zr335b => walk_at "mine bnd"); (case zr335c => walk_at "mine bnd")); intro _ _ _ zN' _; (try dsimp only at zN'); (try k_sweep))
      k_with "inplaceOp Add ref" => (k_here; (with_reducible show wpAny _ _ (inplaceOp Operator.Add (Value.ref _) (Value.ref _)) _ _ _); k_dflt (refine' iadd_lists ?zr336F ?zr336N ?zr336U ?zr336b ?zr336z ?_; (case zr336F => k_asm); (case zr336N => k_asm); (case zr336U => k_updF); (case zr336b => k_mem); (case zr336z => first | assumption | omega)); intro _ _ _ zN'; (try dsimp only at zN'); (try k_sweep))
      k_with "mine enterC" => (refine' def_enterC ?zr337k1 ?zr337k2 ?zr337k3 ?zr337k4 ?zr337k5 ?zr337kA ?zr337kF ?zr337kK ?zr337k6 ?zr337k7 ?zr337k8 ?zr337k9 ?zr337kB ?zr337kD ?_ ?zr337c2 ?zr337c3 ?zr337c4; (case zr337kA => exact rfl); (case zr337kF => exact rfl); (case zr337kK => assumption); (case zr337k1 => k_asm); (case zr337k2 => k_asm); (case zr337k3 => k_asm); (case zr337k4 => k_asm); (case zr337k5 => k_asm); (case zr337k6 => k_is); (case zr337k7 => k_is); (case zr337k8 => ktr_room); (case zr337k9 => exact BindsTo.of_eq rfl); (case zr337kB => exact rfl); (case zr337kD => decide +kernel); (case zr337c2 => exact rfl); (case zr337c3 => exact rfl); (case zr337c4 => exact rfl); k_whole)
      k_with "ite" => first | (with_reducible refine c_ff ?_) | (with_reducible refine c_tt ?_) | (with_reducible refine ct_yes (by assumption) ?_) | (with_reducible refine ct_no (by assumption) ?_) | (with_reducible refine cb_yes (by assumption) ?_) | (with_reducible refine cb_no (by assumption) ?_) | (with_reducible refine cn_yes (by assumption) ?_) | (with_reducible refine cn_no (by assumption) ?_)
      k_with "exec For Tuple Name cons nil" => (k_here; (rename Fr _ _ _ _ => zlF'); (with_unfolding_all refine' For_turns zlF' ?_; k_whole))
      k_with "pyIter ref" => ((with_reducible show wpAny _ _ (pyIter (Value.ref _)) (fun it s₂ => TurnsAt _ _ _ _ _ _ _ _ _ it s₂) _ _); refine stop_of ?_)
      k_with "mine same" => k_extra "mine same"
      k_with "mine bnd" => ((simp only [List.length_map]); omega)
      k_with "compareOp Eq ref ref" => (k_here; (with_reducible show wpAny _ _ (compareOp CmpOp.Eq (Value.ref _) (Value.ref _)) _ _ _); (refine' eq_own ?zr343N ?zr343a ?zr343b ?zr343i ?zr343j ?zr343u ?zr343e ?_; (case zr343N => k_asm); (case zr343a => k_mem); (case zr343b => k_mem); (case zr343i => l_ints); (case zr343j => l_ints); (case zr343u => ktr_units); (case zr343e => walk_at "mine same"); k_whole))
      k_with "call builtin:list.append" => (k_here; (with_reducible show wpAny _ _ (call (Value.builtin _) [Value.ref _, Value.ref _]) _ _ _); k_dflt (refine' append_any ?zr344k1 ?zr344k2 ?zr344k3 ?zr344z ?_; (case zr344k1 => k_asm); (case zr344k2 => k_asm); (case zr344k3 => k_updF); (case zr344z => walk_at "mine bnd")); intro _ _ zN'; (try dsimp only at zN'); (try k_sweep))
      k_with "call ref" => (k_here; (with_reducible show wpAny _ _ (call (Value.ref 124) _) _ _ _); k_dflt (refine' mut_use (lcall_c _ _ _ _ _ _ _ ?zctxp1 ?zctxp2) ?zctxk1 ?zctxk2 ?zctxk3 ?zctxk4 ?zctxk5 ?zctxkK ?zctxkU ?zctxkd ?zctxku ?zctxki ?_; walk_at "mine ctx"; (case zctxp1 => walk_at "mine bnd"); (case zctxp2 => walk_at "mine bnd"); k_whole); intro _ _ _ _ _ _ _ zN' _ zho'; (have ze1 := zho'.1); (have _ := zho'.2); clear zho'; subst ze1; walk_at "mine ok"; (try dsimp only at zN'); (try k_sweep))
      k_with "call builtin:all" => (k_here; (with_reducible show wpAny _ _ (call (Value.builtin "all") [Value.ref _]) _ _ _); k_dflt (refine all_trues (by k_asm) (by k_asm) (by rfl) (by k_mem) (by assumption) ?_); intro _ _ _ _)
      k_with "eval ListComp" => (k_here; (with_reducible show wpAny _ _ (eval (PySem.Expr.ListComp (PySem.Expr.Compare _ _ _ _) _ _ _) _) _ _ _); k_dflt (refine LCg.ListComp_U (F₀ := by k_asm) (by with_unfolding_all rfl) (by decide) (by rfl) (by decide) (by rfl) ?_))
      k_with "CompSrc" => ((with_reducible show LCg.CompSrc _ _ _ _ _ _ _ (PySem.Expr.Compare _ _ _ _) _ _ _ _ _ _); k_dflt ((refine' LCg.CompSrc.ledger (by rfl) ?zr348kF ?zr348kN ?zr348kM ?zr348kZ ?_; (case zr348kF => k_asm); (case zr348kN => k_asm); (case zr348kM => k_mem); (case zr348kZ => kcf_size); intro _; refine' comp_truesL ?zr348ki (fun _ _ _ _ _ _ _ _ _ _ _ _ _ _ _ _ _ _ _ => ?_) (fun _ _ => ?_); (case zr348ki => first | assumption | l_ints))); kcf_last)
      k_with "CompSrc" => ((with_reducible show LCg.CompSrc _ _ _ _ _ _ _ (PySem.Expr.Compare _ _ _ _) _ _ _ _ _ _); k_dflt ((refine LCg.CompSrc.range (by rfl) (by k_asm) (by k_asm) (by assumption) (by exact small_one (by omega) (by omega) (by omega) (by omega)) (by exact rangeSize_nat _ _) (by rw [PySem.sizeLine_eq]; omega) ?_; intro _; refine' comp_truesR (fun _ _ _ _ _ _ _ _ _ _ _ _ _ _ _ _ _ _ _ => ?_) (fun _ _ => ?_))); kcf_last)
      k_with "subscriptTail Name BinOp ref int" => (k_here; (with_reducible show wpAny _ _ (subscriptTail _ _ (Value.ref _) (Value.int _ _)) _ _ _); k_dflt (refine' ksa_sub ?zr350k1 ?zr350k2 ?zr350k3 ?zr350k4 ?zr350k5 ?zr350k6 ?_ ?zr350k7; (case zr350k1 => k_asm); (case zr350k2 => k_mem); (case zr350k3 => l_ints); (case zr350k4 => walk_at "mine bnd"); (case zr350k5 => walk_at "mine bnd"); (case zr350k6 => walk_at "mine bnd"); (case zr350k7 => with_unfolding_all rfl); k_whole); intro _)
      k_with "subscriptTail Name Name ref int" => (k_here; (with_reducible show wpAny _ _ (subscriptTail _ _ (Value.ref _) (Value.int _ _)) _ _ _); k_dflt (refine' ksa_sub ?zr351k1 ?zr351k2 ?zr351k3 ?zr351k4 ?zr351k5 ?zr351k6 ?_ ?zr351k7; (case zr351k1 => k_asm); (case zr351k2 => k_mem); (case zr351k3 => l_ints); (case zr351k4 => walk_at "mine bnd"); (case zr351k5 => walk_at "mine bnd"); (case zr351k6 => walk_at "mine bnd"); (case zr351k7 => with_unfolding_all rfl); k_whole); intro _)
      k_with "CompEnd" => (refine LCg.CompEnd.intro (by assumption) (by assumption) _ (fun p hp => hp) ?zr352o ?zr352s ⟨rfl, ?zr352y⟩; (case zr352o => assumption); (case zr352s => first | exact True.intro | lcg_src | assumption); (case zr352y => (refine bool_lt ?_; walk_at "mine lt")))
      k_with "mine lt" => first | exact lt_at (by assumption) (by assumption) rfl | exact (by assumption : ∀ x ∈ _, _) _ (by assumption)
      k_with "call ref" => (k_here; (with_reducible show wpAny _ _ (call (Value.ref 131) _) _ _ _); (rename BacksOk _ _ => zq2); k_dflt (refine' mutp_use (lback_c _ _ _ _ ?zctxp1 zq2) ?zctxk1 ?zctxk2 ?zctxk3 ?zctxk4 ?zctxk5 ?zctxkK ?zctxkU ?zctxkd ?zctxku ?zctxki ?zctxkp ?_; walk_at "mine ctx"; (case zctxkp => (rename ToldIs _ _ _ => zq3); (rename OwnOff _ _ => zq4); exact told_pre (by assumption) (by k_mem) (fun p hp => by kst_mem) zq3 zq4 (by k_mem) (by k_ne)); (case zctxp1 => omega); k_whole); intro _ _ _ _ _ _ _ zN' _ zho'; (have ze1 := zho'.1); (have ze2 := zho'.2); clear zho'; subst ze1; subst ze2; (try dsimp only at zN'); (try k_sweep))
      k_with "eval IfExp" => ((with_reducible show wpAny _ _ (eval (PySem.Expr.IfExp (PySem.Expr.Compare _ [PySem.CmpOp.Eq] _ _) _ _ _) _) _ _ _); (with_reducible rename JMark 1 => zhjm); clear zhjm; refine stop_of ?_)
      k_with "exec If" => ((with_reducible show wpAny _ _ (exec (PySem.Stmt.If (PySem.Expr.Compare _ [PySem.CmpOp.Eq] _ _) _ _ _) _) _ _ _); (with_reducible rename JMark 2 => zhjm); clear zhjm; refine stop_of ?_)
      walk_at "mine go"
      rw [decide_eq_true (by exact hbk)]
      exact hret _ _ (hkeep_one hg (by assumption) (by assumption) (by assumption) (by k_mem))

theorem ints_of_all : ∀ (l : List Value), (∀ v ∈ l, ∃ k t, v = Value.int k t) → ∃ ms, IntsAre l ms
  | [], _ => ⟨[], .nil⟩
  | v :: r, h => by
    obtain ⟨k, t, e⟩ := h v (.head _)
    obtain ⟨ms, hm⟩ := ints_of_all r fun u hu => h u (.tail _ hu)
    subst e
    exact ⟨k :: ms, .cons k t hm⟩
theorem pick_ints {vs : List Value} {ns : List Int} (hi : IntsAre vs ns) (lo hi' st : Option Int) : ∃ ms, IntsAre (slicePick vs.toArray lo hi' st).toList ms := by
  refine ints_of_all _ fun v hv => ?_
  unfold slicePick at hv
  have hv' := List.mem_filterMap.mp (by simpa using hv)
  obtain ⟨i, _, he⟩ := hv'
  obtain ⟨k, t, e, _⟩ := IntsAre.at hi i v (by simpa using he)
  exact ⟨k, t, e⟩
theorem slice_step {prog : Program} {w : World} {A : Around} {E : Value → Shared → Prop} {s : Shared} {h₀ : Heap} {L l : Addr} {m : Str → Option Value} {news : List (Addr × Obj)} {value slice : PySem.Expr} {vs : List Value} {ns : List Int} {x y : Int} {t u : Tok} {ops : List Value} {Q : Value → Shared → Prop}
    (F : Fr h₀ L s.heap m) (N : News h₀ L s.heap news) (hl : h₀.IsList l vs.toArray) (hi : IntsAre vs ns) (h0 : 0 < y) (hz : vs.length < 2 ^ 20)
    (h : ∀ D h' ws ms, Fr h₀ L h' m → News h₀ L h' ((D, listOf (List.toArray ws) 0) :: news) → (∀ p ∈ news, p.1 < D) → IntsAre ws ms → Q (.ref D) { s with heap := h' })
    (hs : subscripted slice false (.ref l) (.ref s.heap.objs.size) = operate ops (getItem (.ref l) (.ref s.heap.objs.size))) (ht : ∀ r, letTemporaryGo value (.ref l) r = pure ()) :
    wpAny (model prog w) A (subscriptTail value slice (.ref l) (.ref s.heap.objs.size)) Q E { s with heap := s.heap.push { cls := .type "slice", data := .fields #[.int x t, .none, .int y u] } } := by
  obtain ⟨ms, hm⟩ := pick_ints hi (some x) none (some y)
  refine kmk_slice3_lit F N (Fr.lst F hl) (IsPart.int _ _) IsPart.none (IsPart.int _ _) (by intro e; have := Option.some.inj e; omega) rfl (fun D h' F' N' l1 => h D h' _ ms F' N' l1 hm) hs ht ?_
  rw [List.size_toArray, sizeLine_eq]
  omega
theorem comp_intsR {prog : Program} {w : World} {A : Around} {s : Shared} {h₀ : Heap} {L : Addr} {m : Str → Option Value} {env : Env} {elt : PySem.Expr} {x : Str} {scope : Scope} {cl : List (Str × Addr)} {S : List (Addr × Obj) → Prop} {Fin : List Value → List (Addr × Obj) → Prop} {news : List (Addr × Obj)} {n : Nat}
    (turn : ∀ i t I oI C oC D m₂ ys h tk (E' : Value → Shared → Prop), i < n → LCg.NsObj oC m₂ → m₂ x = some (.int (i : Int) t) → Fr h₀ L h m → News h₀ L h ((I, oI) :: (C, oC) :: (D, LCg.lst ys) :: news) → LCg.Off3 I C D news → ((@Ne Nat I C) ∧ (@Ne Nat I D) ∧ (@Ne Nat C D)) →
      wpAny (model prog w) A (eval elt (compEnvC scope cl C env)) (LCg.CompEnd h₀ L m { s with heap := h, toks := tk } I oI C oC D (LCg.lst ys) S (fun y news' => news' = news ∧ ∃ k t, y = .int k t)) E' { s with heap := h, toks := tk })
    (fin : ∀ ys ns, ns.length = n → IntsAre ys ns → Fin ys news) : LCg.CompRest prog w A h₀ L m env elt x scope cl s S (fun i v => ∃ t, v = .int (0 + (i : Int)) t) Fin n 0 [] news := by
  have key : ∀ (j i : Nat) (ys : List Value) (ns : List Int), i + j = n → ns.length = i → IntsAre ys ns → LCg.CompRest prog w A h₀ L m env elt x scope cl s S (fun i v => ∃ t, v = .int (0 + (i : Int)) t) Fin j i ys news := by
    intro j
    induction j with
    | zero =>
      intro i ys ns hi hn hy
      have e : i = n := by omega
      subst e
      exact LCg.CompRest.zero (fin ys ns hn hy)
    | succ j ih =>
      intro i ys ns hi hn hy
      refine LCg.CompRest.succ ?_
      intro v I oI C oC D m₂ h tk E' hv hC hx F N off ne
      obtain ⟨t, hv⟩ := hv
      subst hv
      rw [Int.zero_add] at hx
      refine wpAny_mono (turn i t I oI C oC D m₂ ys h tk E' (by omega) hC hx F N off ne) (fun y s₂ hq => ?_) fun _ _ e => e
      obtain ⟨h', tk', nw, e, F', N', off', hS, hn', k, t', hy'⟩ := hq
      rw [hn'] at N' off' hS
      refine ⟨h', tk', news, e, F', N', off', hS, ?_⟩
      rw [hy']
      refine ih (i + 1) _ (ns ++ [k]) (by omega) (by rw [List.length_append, hn]; rfl) (IntsAre.append hy (.cons _ _ .nil))
  exact key n 0 [] [] (by omega) rfl .nil
/-- pairs of ints made one by one: where they lie -/
def PairsIs (ys : List Value) (es : List (Int × Int)) (T : List (Addr × Obj)) : Prop :=
  ys.length = es.length ∧ ∀ (i : Nat) (e : Int × Int), es[i]? = some e → ∃ (a : Addr) (ob : Obj) (t1 t2 : Tok) (k : Nat), ys[i]? = some (Value.ref a) ∧ (a, ob) ∈ T ∧ ob = ({ cls := .type "tuple", data := .seq #[.int e.1 t1, .int e.2 t2] k } : Obj)
theorem pairs_nil : PairsIs [] [] [] := ⟨rfl, fun i e h => by simp at h⟩
theorem pairs_snoc {ys : List Value} {es : List (Int × Int)} {T : List (Addr × Obj)} (x : PairsIs ys es T) (a : Addr) (p q : Int) (t1 t2 : Tok) (n : Nat) :
    PairsIs (ys ++ [.ref a]) (es ++ [(p, q)]) ((a, ({ cls := .type "tuple", data := .seq #[.int p t1, .int q t2] n } : Obj)) :: T) := by
  obtain ⟨h1, h2⟩ := x
  refine ⟨by rw [List.length_append, List.length_append, h1]; rfl, fun i e he => ?_⟩
  rcases Nat.lt_or_ge i es.length with z | z
  · rw [List.getElem?_append_left z] at he
    obtain ⟨b, ob, u1, u2, n', r1, r2, r3⟩ := h2 i e he
    exact ⟨b, ob, u1, u2, n', by rw [List.getElem?_append_left (by omega)]; exact r1, .tail _ r2, r3⟩
  · have e2 : i = es.length := by
      rcases Nat.lt_or_ge es.length i with q | q
      · rw [List.getElem?_eq_none (by rw [List.length_append]; simp; omega)] at he; cases he
      · omega
    subst e2
    rw [List.getElem?_append_right (Nat.le_refl _), Nat.sub_self] at he
    have he' : (p, q) = e := Option.some.inj he
    subst he'
    refine ⟨a, _, t1, t2, n, ?_, .head _, rfl⟩
    rw [List.getElem?_append_right (by omega), h1, Nat.sub_self]
    rfl
theorem comp_pairsR {prog : Program} {w : World} {A : Around} {s : Shared} {h₀ : Heap} {L : Addr} {m : Str → Option Value} {env : Env} {elt : PySem.Expr} {x : Str} {scope : Scope} {cl : List (Str × Addr)} {S : List (Addr × Obj) → Prop} {Fin : List Value → List (Addr × Obj) → Prop} {news : List (Addr × Obj)} {n : Nat} (f1 f2 : Nat → Int)
    (turn : ∀ i t I oI C oC D m₂ ys h tk (E' : Value → Shared → Prop) T, i < n → LCg.NsObj oC m₂ → m₂ x = some (.int (i : Int) t) → Fr h₀ L h m → News h₀ L h ((I, oI) :: (C, oC) :: (D, LCg.lst ys) :: (news ++ T)) → LCg.Off3 I C D (news ++ T) → ((@Ne Nat I C) ∧ (@Ne Nat I D) ∧ (@Ne Nat C D)) →
      wpAny (model prog w) A (eval elt (compEnvC scope cl C env)) (LCg.CompEnd h₀ L m { s with heap := h, toks := tk } I oI C oC D (LCg.lst ys) S (fun y news' => ∃ (a : Addr) (t1 t2 : Tok) (k : Nat), news' = news ++ ((a, ({ cls := .type "tuple", data := .seq #[.int (f1 i) t1, .int (f2 i) t2] k } : Obj)) :: T) ∧ y = .ref a)) E' { s with heap := h, toks := tk })
    (fin : ∀ ys T, PairsIs ys ((List.range n).map fun i => (f1 i, f2 i)) T → Fin ys (news ++ T)) : LCg.CompRest prog w A h₀ L m env elt x scope cl s S (fun i v => ∃ t, v = .int (0 + (i : Int)) t) Fin n 0 [] news := by
  have key : ∀ (j i : Nat) (ys : List Value) (T : List (Addr × Obj)), i + j = n → PairsIs ys ((List.range i).map fun i => (f1 i, f2 i)) T → LCg.CompRest prog w A h₀ L m env elt x scope cl s S (fun i v => ∃ t, v = .int (0 + (i : Int)) t) Fin j i ys (news ++ T) := by
    intro j
    induction j with
    | zero =>
      intro i ys T hi hp
      have e : i = n := by omega
      subst e
      exact LCg.CompRest.zero (fin ys T hp)
    | succ j ih =>
      intro i ys T hi hp
      refine LCg.CompRest.succ ?_
      intro v I oI C oC D m₂ h tk E' hv hC hx F N off ne
      obtain ⟨t, hv⟩ := hv
      subst hv
      rw [Int.zero_add] at hx
      refine wpAny_mono (turn i t I oI C oC D m₂ ys h tk E' T (by omega) hC hx F N off ne) (fun y s₂ hq => ?_) fun _ _ e => e
      obtain ⟨h', tk', nw, e, F', N', off', hS, a, t1, t2, k, hn', hy'⟩ := hq
      rw [hn'] at N' off' hS
      refine ⟨h', tk', _, e, F', N', off', hS, ?_⟩
      rw [hy']
      refine ih (i + 1) _ _ (by omega) ?_
      rw [List.range_succ, List.map_append]
      exact pairs_snoc hp a _ _ t1 t2 k
  have q := key n 0 [] [] (by omega) pairs_nil
  rw [List.append_nil] at q
  exact q

section
open PyProof.Rows.LCg
variable {prog : Program} {w : World} {A : Around} {E : Value → Shared → Prop} {s : Shared} {h₀ : Heap} {L : Addr} {m : Str → Option Value} {env : Env}
def enumMap (g : Int → Int → Int) (ks : List Int) (n : Nat) : List Int := (List.range n).map fun (i : Nat) => g (i : Int) (ks.getD i 0)
theorem enumMap_length (g : Int → Int → Int) (ks : List Int) (n : Nat) : (enumMap g ks n).length = n := by
  unfold enumMap
  rw [List.length_map, List.length_range]
theorem off_ones {D : Addr} : ∀ {l : List (Addr × Obj)}, Off1 D l → ∀ p ∈ l, @Ne Nat p.1 D
  | [], _, p, h => nomatch h
  | q :: r, x, p, h => by
    rcases List.mem_cons.mp h with rfl | h
    · exact x.1
    · exact off_ones x.2 p h
theorem block_En {elt iter : Expr} {a b : Str} {pa pb tp : Pos} {kk : Nat} {scope : Scope} {cl : List (Str × Addr)} {pos : Pos} {s₂ : Shared} {I it l : Addr} {lo : Obj} {vs : List Value} {ks : List Int} {n : Nat} {news : List (Addr × Obj)} (g : Int → Int → Int)
    {RR : Value → Addr → Result → Shared → Prop}
    (hh : A.handled = none) (hei : I ≠ it) (hle : l ≠ I) (hli : l ≠ it) (hks : IntsAre vs ks) (hsz : vs.length ≤ sizeLine) (hlo : lo = listOf vs.toArray n) (hml : (l, lo) ∈ news)
    (hst : (∃ old, IsEnum s₂.heap I it 0 old) ∧ s₂.heap.IsListIter it l 0 ∧ s₂.heap.IsList l vs.toArray)
    (hcell : ∀ y ∈ scope.names, y.2 ≠ .cell) (hkind : scope.kind = .function) (hxa : scope.names.lookup a = some .local) (hxb : scope.names.lookup b = some .local) (hab : ¬ a = b)
    (F : Fr h₀ L s₂.heap m) (N : News h₀ L s₂.heap news) (hIL : L ≠ I) (hitL : L ≠ it) (hI₀ : h₀.get? I = none) (hi₀ : h₀.get? it = none) (off : ∀ p ∈ news, p.1 ≠ I) (offi : ∀ p ∈ news, p.1 ≠ it)
    (turn : ∀ (i : Nat) k t t' oI C oC D m₂ ys oi h tk (E' : Value → Shared → Prop), ks[i]? = some k → NsObj oC m₂ → m₂ a = some (.int (i : Int) t) → m₂ b = some (.int k t') → Fr h₀ L h m → News h₀ L h ((I, oI) :: (C, oC) :: (D, lst ys) :: (it, oi) :: news) → Off3 I C D ((it, oi) :: news) → ((@Ne Nat I C) ∧ (@Ne Nat I D) ∧ (@Ne Nat C D)) →
      wpAny (model prog w) A (eval elt (compEnvC scope cl C env)) (CompEnd h₀ L m { s₂ with heap := h, toks := tk } I oI C oC D (lst ys) (fun _ => True) (fun y news' => news' = (it, oi) :: news ∧ ∃ t, y = .int (g (i : Int) k) t)) E' { s₂ with heap := h, toks := tk })
    (hRR : ∀ D C h tk m' ys, Fr h₀ L h m → News h₀ L h ((D, lst ys) :: news) → Off1 D news → h.Ns C m' → h₀.get? C = none → h₀.get? D = none → C ≠ L → D ≠ L → C ≠ D → (∀ p ∈ news, p.1 ≠ C) → IntsAre ys (enumMap g ks ks.length) → RR (.ref D) C (.ok .next) { s₂ with heap := h, toks := tk }) :
    wpAny (model prog w) A (newList []) (fun acc s₃ => wpAny (model prog w) A (newFunctionEnv scope env.globals cl [] env.qual none .none (some env)) (fun cenv s₄ =>
      codeAny (model prog w) A (.compStart (.ListComp elt [⟨.Tuple [.Name a pa, .Name b pb] kk tp, iter, [], 0⟩] scope pos) 0 (.ref I) acc { cenv with scope := relabel scope env }) (RR acc cenv.locals) s₄) E s₃) E s₂ := by
  refine wpAny_newObj_type (wpAny_newFunctionEnv hcell (by intro y hy; simp at hy) (fun h₁ hns₁ hsb₁ => ?_) hkind)
  dsimp only at hns₁ hsb₁ ⊢
  generalize hH2 : s₂.heap.push { cls := .type "list", dict := none, data := .seq ([] : List Value).toArray } = H2 at hns₁ hsb₁ ⊢
  have hC : H2.objs.size = s₂.heap.objs.size + 1 := by rw [← hH2, Heap.size_push]
  have hDC : s₂.heap.objs.size ≠ H2.objs.size := by rw [hC]; exact Nat.ne_of_lt (Nat.lt_succ_self _)
  have below : ∀ b, b < s₂.heap.objs.size → b ≠ H2.objs.size ∧ b ≠ s₂.heap.objs.size := fun b hb => ⟨by rw [hC]; exact Nat.ne_of_lt (Nat.lt_succ_of_lt hb), Nat.ne_of_lt hb⟩
  have hIlt : I < s₂.heap.objs.size := by obtain ⟨_, e⟩ := hst.1; exact Heap.lt_size e
  have hitlt : it < s₂.heap.objs.size := by obtain ⟨_, e, _⟩ := hst.2.1; exact Heap.lt_size e
  have old : ∀ b o, s₂.heap.get? b = some o → h₁.get? b = some o := fun b o e => hsb₁.extBut b o (below b (Heap.lt_size e)).1 (Heap.get?_push_of_some _ (hH2 ▸ Heap.get?_push_of_some _ e))
  have hacc : h₁.get? s₂.heap.objs.size = some (lst []) := hsb₁.extBut _ _ hDC (Heap.get?_push_of_some _ (hH2 ▸ Heap.get?_push_size _ rfl))
  have W := WalksT.enumerate (prog := prog) (w := w) hh I it l hei hle hli vs.toArray
  have hst₁ : (∃ old, IsEnum h₁ I it ((0 : Nat) : Int) old) ∧ h₁.IsListIter it l 0 ∧ h₁.IsList l vs.toArray := by
    obtain ⟨⟨ov, e⟩, x, y⟩ := hst
    exact ⟨⟨ov, old _ _ e⟩, x.at fun o e => old _ o e, y.at fun o e => old _ o e⟩
  have fresh : ∀ a, s₂.heap.objs.size ≤ a → s₂.heap.get? a = none := fun a ha => by
    cases e : s₂.heap.get? a with
    | none => rfl
    | some o' => exact absurd (Heap.lt_size e) (Nat.not_lt.mpr ha)
  have fresh₀ : ∀ a, s₂.heap.objs.size ≤ a → h₀.get? a = none := fun a ha => by
    cases e : h₀.get? a with
    | none => rfl
    | some o' => have := F.keep a o' e; rw [fresh a ha] at this; cases this
  have hD₀ : h₀.get? s₂.heap.objs.size = none := fresh₀ _ (Nat.le_refl _)
  have hC₀ : h₀.get? H2.objs.size = none := fresh₀ _ (by rw [hC]; exact Nat.le_succ _)
  have hLlt : L < s₂.heap.objs.size := F.ns.lt
  have hDL : s₂.heap.objs.size ≠ L := Ne.symm (below L hLlt).2
  have hCL : H2.objs.size ≠ L := Ne.symm (below L hLlt).1
  have hCI : I ≠ H2.objs.size := (below I hIlt).1
  have hDI : I ≠ s₂.heap.objs.size := (below I hIlt).2
  have hCi : it ≠ H2.objs.size := (below it hitlt).1
  have hDi : it ≠ s₂.heap.objs.size := (below it hitlt).2
  have offN : ∀ p ∈ news, p.1 ≠ H2.objs.size ∧ p.1 ≠ s₂.heap.objs.size := fun p hp => below _ (Heap.lt_size (N p hp).1)
  have hkl : ks.length = vs.length := hks.length.symm
  have loop : ∀ s₃ : Shared, s₃ = { s₂ with heap := h₁, toks := s₂.toks + ([] : List (Str × Value)).length } →
      codeAny (model prog w) A (.compLoop (.ListComp elt [⟨.Tuple [.Name a pa, .Name b pb] kk tp, iter, [], 0⟩] scope pos) 0 (.ref I) (.ref s₂.heap.objs.size) (compEnvC scope cl H2.objs.size env))
        (RR (.ref s₂.heap.objs.size) H2.objs.size) s₃ := by
    rintro s₃ rfl
    refine kcp_loop
      (fun k s' => ∃ h' tk i ys m', s' = { s₂ with heap := h', toks := tk } ∧ i ≤ vs.length ∧ k = vs.length + 1 - i ∧ ys.length = i ∧ IntsAre ys (enumMap g ks i) ∧ ((∃ old, IsEnum h' I it ((i : Nat) : Int) old) ∧ h'.IsListIter it l i ∧ h'.IsList l vs.toArray) ∧ Fr h₀ L h' m ∧ h'.Ns H2.objs.size m' ∧
        News h₀ L h' ((s₂.heap.objs.size, lst ys) :: news)) ?_ (vs.length + 1)
      ⟨h₁, _, 0, [], _, rfl, Nat.zero_le _, rfl, rfl, .nil, hst₁, F.keeps old, hns₁, fun p hp => ?_⟩
    · rintro k s' ⟨h', tk, i, ys, m', rfl, hi, rfl, hyl, hyi, hst', F', hn', N'⟩
      by_cases hlt : i < vs.length
      · refine W.item i _ _ _ (by simpa using hlt) hst' fun T vals h₂ tk₂ hPv _ hT hMd hk₂ => ?_
        refine W.go _ _ _ i T _ _ _ hMd fun h₃ hst₃ hk₃ => ?_
        obtain ⟨t, x, hx, rfl⟩ := hPv
        obtain ⟨k, t', rfl, hkk⟩ := IntsAre.at hks i x (by simpa using hx)
        have hT₃ : h₃.IsTuple T #[.int (i : Int) t, .int k t'] := hT.at fun o e => hk₃ T o (W.apart i T _ hMd) e
        have up₃ : ∀ c o, c ≠ I → c ≠ it → h'.get? c = some o → h₃.get? c = some o := fun c o hc hc' e => hk₃ c o (by simp [hc, hc']) (hk₂ c o (by simp [hc, hc']) e)
        refine kcp_assign (env := compEnvC scope cl H2.objs.size env) hh hT₃ (lookup_relabel_local hxa) (lookup_relabel_local hxb) (by simp [compEnvC, relabel, hkind]) (hn'.at' fun o e => up₃ _ o (Ne.symm hCI) (Ne.symm hCi) e) fun h₄ tk₄ hn₄ hs₄ => ?_
        have up : ∀ c o, c ≠ I → c ≠ it → c ≠ H2.objs.size → h'.get? c = some o → h₄.get? c = some o := fun c o h1 h1' h2 e => hs₄ c o h2 (up₃ c o h1 h1' e)
        obtain ⟨⟨ov', hI₃⟩, hit₃, hl₃⟩ := hst₃
        have hI₄ : IsEnum h₄ I it ((i + 1 : Nat) : Int) ov' := hs₄ I _ hCI hI₃
        have hit₄ : h₄.IsListIter it l (i + 1) := hit₃.at fun o e => hs₄ it o hCi e
        obtain ⟨oI, heI, hoI⟩ : ∃ oI : Obj, h₄.get? I = some oI ∧ ∀ h : Heap, h.get? I = some oI → ∃ ov, IsEnum h I it ((i + 1 : Nat) : Int) ov := ⟨_, hI₄, fun _ e => ⟨_, e⟩⟩
        obtain ⟨oi, hei', hoi⟩ := hit₄
        obtain ⟨oC, heC, hoC⟩ := ns_obj hn₄
        have F₄ : Fr h₀ L h₄ m := ⟨F'.ns.at' fun o e => up _ o hIL hitL (Ne.symm hCL) e, fun c o e => up c o (fun q => by rw [q, hI₀] at e; cases e) (fun q => by rw [q, hi₀] at e; cases e) (fun q => by rw [q, hC₀] at e; cases e) (F'.keep c o e), F'.above⟩
        have off₄ : Off3 I H2.objs.size s₂.heap.objs.size ((it, oi) :: news) := Off3.of fun p hp => by
          rcases List.mem_cons.mp hp with rfl | hp
          · exact ⟨Ne.symm hei, hCi, hDi⟩
          · exact ⟨off p hp, (offN p hp).1, (offN p hp).2⟩
        have N₄ : News h₀ L h₄ ((I, oI) :: (H2.objs.size, oC) :: (s₂.heap.objs.size, lst ys) :: (it, oi) :: news) := fun q hq => by
          rcases List.mem_cons.mp hq with rfl | hq
          · exact ⟨heI, Ne.symm hIL, hI₀⟩
          · rcases List.mem_cons.mp hq with rfl | hq
            · exact ⟨heC, hCL, hC₀⟩
            · rcases List.mem_cons.mp hq with rfl | hq
              · have z := N' _ List.mem_cons_self
                exact ⟨up _ _ (Ne.symm hDI) (Ne.symm hDi) hDC z.1, z.2⟩
              · rcases List.mem_cons.mp hq with rfl | hq
                · exact ⟨hei', Ne.symm hitL, hi₀⟩
                · have z := N' q (List.mem_cons_of_mem _ hq)
                  exact ⟨up _ _ (off q hq) (offi q hq) (offN q hq).1 z.1, z.2⟩
        refine wpAny_mono (turn i k t t' oI H2.objs.size oC s₂.heap.objs.size _ ys oi h₄ _ _ hkk hoC (by simp [hab]) (by simp) F₄ N₄ off₄ ⟨hCI, hDI, Ne.symm hDC⟩) (fun y s₅ h₅ => ?_) fun _ _ e => e
        obtain ⟨h₅, tk₅, news₅, rfl, F₅, N₅, off₅, _, rfl, t₅, rfl⟩ := h₅
        have zI := (N₅ (I, oI) List.mem_cons_self).1
        have zC := (N₅ (H2.objs.size, oC) (List.mem_cons_of_mem _ List.mem_cons_self)).1
        have zD := (N₅ (s₂.heap.objs.size, lst ys) (List.mem_cons_of_mem _ (List.mem_cons_of_mem _ List.mem_cons_self))).1
        have zi := (N₅ (it, oi) (List.mem_cons_of_mem _ (List.mem_cons_of_mem _ (List.mem_cons_of_mem _ List.mem_cons_self)))).1
        have N₅' : News h₀ L h₅ news := fun q hq => N₅ q (List.mem_cons_of_mem _ (List.mem_cons_of_mem _ (List.mem_cons_of_mem _ (List.mem_cons_of_mem _ hq))))
        refine append_at (hsz := by show ys.toArray.size ≤ sizeLine; rw [List.size_toArray, hyl]; exact Nat.le_trans hi hsz) zD fun h₆ hs₆ hD₆ => ?_
        have hl₆ : h₆.IsList l vs.toArray := ⟨lo, hs₆.extBut _ _ (offN _ hml).2 (N₅' _ hml).1, (by subst hlo; rfl), n, (by subst hlo; rfl)⟩
        refine ⟨vs.length + 1 - (i + 1), by omega, h₆, tk₅, i + 1, ys ++ [.int (g (i : Int) k) t₅], _, rfl, hlt, rfl, by rw [List.length_append, List.length_singleton, hyl], ?_, ⟨hoI h₆ (hs₆.extBut I oI hDI zI), ⟨oi, hs₆.extBut it oi hDi zi, hoi⟩, hl₆⟩, F₅.change hs₆ hDL hD₀,
          (hoC.ns zC).sameBut hs₆ (Ne.symm hDC), fun q hq => ?_⟩
        · have e : enumMap g ks (i + 1) = enumMap g ks i ++ [g (i : Int) k] := by
            unfold enumMap
            rw [List.range_succ, List.map_append]
            congr 1
            show [g (i : Int) (ks.getD i 0)] = _
            rw [List.getD_eq_getElem?_getD, hkk]
            rfl
          rw [e]
          exact hyi.append (.cons _ _ .nil)
        · rcases List.mem_cons.mp hq with rfl | hq
          · exact ⟨hD₆.trans (congrArg some (lst_snoc ys _)), hDL, hD₀⟩
          · exact ⟨hs₆.extBut _ _ (offN q hq).2 (N₅' q hq).1, (N₅' q hq).2⟩
      · have hin : i = vs.length := Nat.le_antisymm hi (Nat.not_lt.mp hlt)
        subst hin
        refine W.done _ _ _ (by simpa using hst') fun h₂ tk₂ hk₂ => ?_
        have up : ∀ c o, c ≠ I → c ≠ it → h'.get? c = some o → h₂.get? c = some o := fun c o h1 h2 e => hk₂ c o (by simp [h1, h2]) e
        refine hRR _ _ h₂ tk₂ _ ys ⟨F'.ns.at' fun o e => up _ o hIL hitL e, fun c o e => up c o (fun q => by rw [q, hI₀] at e; cases e) (fun q => by rw [q, hi₀] at e; cases e) (F'.keep c o e), F'.above⟩ (fun p hp => ?_) ?_ (hn'.at' fun o e => up _ o (Ne.symm hCI) (Ne.symm hCi) e) hC₀ hD₀ hCL hDL (Ne.symm hDC) (fun p hp => (offN p hp).1) (by rw [hkl]; exact hyi)
        · have z := N' p hp
          rcases List.mem_cons.mp hp with rfl | hp
          · exact ⟨up _ _ (Ne.symm hDI) (Ne.symm hDi) z.1, z.2⟩
          · exact ⟨up _ _ (off p hp) (offi p hp) z.1, z.2⟩
        · have : ∀ l : List (Addr × Obj), (∀ p ∈ l, p.1 ≠ s₂.heap.objs.size) → Off1 s₂.heap.objs.size l := by
            intro l
            induction l with
            | nil => intro _; exact trivial
            | cons p r ih => intro h; exact ⟨h p (.head _), ih fun q hq => h q (.tail _ hq)⟩
          exact this news fun p hp => (offN p hp).2
    · rcases List.mem_cons.mp hp with rfl | hp
      · exact ⟨hacc, hDL, hD₀⟩
      · exact ⟨old _ _ (N p hp).1, (N p hp).2⟩
  exact codeAny_compStart_list (loop _ rfl) (W.self 0 _ _ _ hst₁ (loop _ rfl))
def EnSrc (prog : Program) (w : World) (A : Around) (h₀ : Heap) (L : Addr) (m : Str → Option Value) (env : Env) (elt : Expr) (a b : Str) (scope : Scope) (cl : List (Str × Addr)) (Q : Value → Shared → Prop) (xv : Value) (s₁ : Shared) : Prop :=
  ∃ (I it l : Addr) (vs : List Value) (ks : List Int) (n : Nat) (news : List (Addr × Obj)) (g : Int → Int → Int), xv = .ref I ∧ A.handled = none ∧ I ≠ it ∧ l ≠ I ∧ l ≠ it ∧ IntsAre vs ks ∧ vs.length ≤ sizeLine ∧ (l, listOf vs.toArray n) ∈ news ∧
    ((∃ old, IsEnum s₁.heap I it 0 old) ∧ s₁.heap.IsListIter it l 0 ∧ s₁.heap.IsList l vs.toArray) ∧ Fr h₀ L s₁.heap m ∧ News h₀ L s₁.heap news ∧ L ≠ I ∧ L ≠ it ∧ h₀.get? I = none ∧ h₀.get? it = none ∧ (∀ p ∈ news, p.1 ≠ I) ∧ (∀ p ∈ news, p.1 ≠ it) ∧
    (∀ (i : Nat) k t t' oI C oC D m₂ ys oi h tk (E' : Value → Shared → Prop), ks[i]? = some k → NsObj oC m₂ → m₂ a = some (.int (i : Int) t) → m₂ b = some (.int k t') → Fr h₀ L h m → News h₀ L h ((I, oI) :: (C, oC) :: (D, lst ys) :: (it, oi) :: news) → Off3 I C D ((it, oi) :: news) → ((@Ne Nat I C) ∧ (@Ne Nat I D) ∧ (@Ne Nat C D)) →
      wpAny (model prog w) A (eval elt (compEnvC scope cl C env)) (CompEnd h₀ L m { s₁ with heap := h, toks := tk } I oI C oC D (lst ys) (fun _ => True) (fun y news' => news' = (it, oi) :: news ∧ ∃ t, y = .int (g (i : Int) k) t)) E' { s₁ with heap := h, toks := tk }) ∧
    ∀ D h tk ys, Fr h₀ L h m → News h₀ L h ((D, lst ys) :: news) → Off1 D news → IntsAre ys (enumMap g ks ks.length) → Q (.ref D) { s₁ with heap := h, toks := tk }
theorem enSrc_call {elt : Expr} {a b : Str} {scope : Scope} {cl : List (Str × Addr)} {Q : Value → Shared → Prop} {l : Addr} {vs : List Value} {ks : List Int} {n : Nat} {news : List (Addr × Obj)} (g : Int → Int → Int) (hh : A.handled = none) (F : Fr h₀ L s.heap m) (N : News h₀ L s.heap news) (hml : (l, listOf vs.toArray n) ∈ news) (hks : IntsAre vs ks) (hsz : vs.length ≤ sizeLine)
    (turn : ∀ I it (_ : ∀ p ∈ news, p.1 < it) (_ : it < I) g' (i : Nat) k t t' oI C oC D m₂ ys oi h tk (E' : Value → Shared → Prop), ks[i]? = some k → NsObj oC m₂ → m₂ a = some (.int (i : Int) t) → m₂ b = some (.int k t') → Fr h₀ L h m → News h₀ L h ((I, oI) :: (C, oC) :: (D, lst ys) :: (it, oi) :: news) → Off3 I C D ((it, oi) :: news) → ((@Ne Nat I C) ∧ (@Ne Nat I D) ∧ (@Ne Nat C D)) →
      wpAny (model prog w) A (eval elt (compEnvC scope cl C env)) (CompEnd h₀ L m { s with heap := h, toks := tk } I oI C oC D (lst ys) (fun _ => True) (fun y news' => news' = (it, oi) :: news ∧ ∃ t, y = .int (g (i : Int) k) t)) E' { { s with heap := g' } with heap := h, toks := tk })
    (fin : ∀ D h tk ys ns, Fr h₀ L h m → News h₀ L h ((D, lst ys) :: news) → (∀ p ∈ news, @Ne Nat p.1 D) → IntsAre ys ns → ns = enumMap g ks ks.length → ns.length = ks.length → Q (.ref D) { s with heap := h, toks := tk }) :
    wpAny (model prog w) A (call (.type "enumerate") [.ref l]) (EnSrc prog w A h₀ L m env elt a b scope cl Q) E s := by
  have hax := N _ hml
  have hl : s.heap.IsList l vs.toArray := ⟨_, hax.1, rfl, n, rfl⟩
  have hlt : l < s.heap.objs.size := Heap.lt_size hax.1
  have hLs : L < s.heap.objs.size := F.ns.lt
  refine call_enumerate_list hl fun h' hE hI hsz' hk => ?_
  have new : ∀ c, s.heap.objs.size ≤ c → h₀.get? c = none := fun c hc => by
    cases e : h₀.get? c with
    | none => rfl
    | some o' => exact absurd (Heap.lt_size (F.keep c o' e)) (Nat.not_lt.mpr hc)
  have lts : ∀ p ∈ news, p.1 < s.heap.objs.size := fun p hp => Heap.lt_size (N p hp).1
  refine ⟨s.heap.objs.size + 1, s.heap.objs.size, l, vs, ks, n, news, g, rfl, hh, Nat.succ_ne_self _, Nat.ne_of_lt (Nat.lt_succ_of_lt hlt), Nat.ne_of_lt hlt, hks, hsz, hml, ⟨⟨_, hE⟩, hI, hl.at fun o e => hk l o e⟩, F.keeps hk, N.grown hk,
    Nat.ne_of_lt (Nat.lt_succ_of_lt hLs), Nat.ne_of_lt hLs, new _ (Nat.le_succ _), new _ (Nat.le_refl _), fun p hp => Nat.ne_of_lt (Nat.lt_succ_of_lt (lts p hp)), fun p hp => Nat.ne_of_lt (lts p hp), ?_, fun D h tk ys F' N' o hi => fin D h tk ys _ F' N' (off_ones o) hi rfl (enumMap_length _ _ _)⟩
  intro i k t t' oI C oC D m₂ ys oi h tk E' h1 h2 h3 h4 h5 h6 h7 h8
  exact turn _ _ lts (Nat.lt_succ_self _) h' i k t t' oI C oC D m₂ ys oi h tk E' h1 h2 h3 h4 h5 h6 h7 h8
theorem ListComp_En {elt iter : Expr} {a b : Str} {pa pb tp : Pos} {kk : Nat} {scope : Scope} {cl : List (Str × Addr)} {pos : Pos} {Q : Value → Shared → Prop} (_F₀ : Fr h₀ L s.heap m)
    (hclos : closureFor scope env = pure cl) (hcell : ∀ y ∈ scope.names, y.2 ≠ .cell) (hkind : scope.kind = .function)
    (hnames : ∀ y ∈ scope.names, y.2 = .local → scope.names.lookup y.1 = some .local) (hxa : scope.names.lookup a = some .local) (hxb : scope.names.lookup b = some .local) (hab : ¬ a = b)
    (h : wpAny (model prog w) A (eval iter env) (EnSrc prog w A h₀ L m env elt a b scope cl Q) E s)
    (hs : ∀ x, foldedSetIterable iter env x = pure x := by intro _; rfl) :
    wpAny (model prog w) A (eval (.ListComp elt [⟨.Tuple [.Name a pa, .Name b pb] kk tp, iter, [], 0⟩] scope pos) env) Q E s := by
  rw [eval_ListComp]
  refine wpAny_comprehension_free (use := none) rfl hs hclos hkind hnames (wpAny_mono h (fun xv s₁ h₁ => ?_) fun _ _ e => e)
  obtain ⟨I, it, l, vs, ks, n, news, g, rfl, hh, hei, hle, hli, hks, hsz, hml, hst, F, N, hIL, hitL, hI₀, hi₀, off, offi, turn, fin⟩ := h₁
  obtain ⟨⟨ov, hE⟩, hst2⟩ := hst
  refine wpAny_pyIter_enum hE ?_
  refine block_En g hh hei hle hli hks hsz rfl hml ⟨⟨_, hE⟩, hst2⟩ hcell hkind hxa hxb hab F N hIL hitL hI₀ hi₀ off offi turn ?_
  intro D C h tk m' ys F' N' o1 hn hC₀ hD₀ hCL hDL hCD offC hi
  refine ⟨m', hn, fun h'' hs'' => fin D h'' tk ys (F'.change hs'' hCL hC₀) (fun p hp => ?_) o1 hi⟩
  refine ⟨hs''.extBut _ _ ?_ (N' p hp).1, (N' p hp).2⟩
  rcases List.mem_cons.mp hp with rfl | hp
  · exact Ne.symm hCD
  · exact offC p hp
end

theorem off_one {D : Addr} : ∀ {l : List (Addr × Obj)}, LCg.Off1 D l → ∀ p ∈ l, @Ne Nat p.1 D
  | [], _, p, h => nomatch h
  | q :: r, x, p, h => by
    rcases List.mem_cons.mp h with rfl | h
    · exact x.1
    · exact off_one x.2 p h
theorem hkeep_fr {h₀ h h' : Heap} {L : Addr} {m : Str → Option Value} (F : Fr h₀ L h m) (K : HKeep h h') : Fr h₀ L h' m := F.keeps K
theorem hkeep_new {h₀ h h' : Heap} {L r : Addr} {m : Str → Option Value} {o : Obj} {news : List (Addr × Obj)} (F : Fr h₀ L h m) (N : News h₀ L h news) (K : HKeep h h') (hr : h.get? r = none) (ho : h'.get? r = some o) : News h₀ L h' ((r, o) :: news) := by
  intro p hp
  rcases List.mem_cons.mp hp with rfl | hp
  · refine ⟨ho, fun e => ?_, ?_⟩
    · have e' : r = L := e
      obtain ⟨oL, es, ep, eL, _⟩ := F.ns
      rw [← e', hr] at eL
      cases eL
    · cases e : h₀.get? r with
      | none => rfl
      | some x => have := F.keep _ _ e; rw [hr] at this; cases this
  · exact ⟨K _ _ (N p hp).1, (N p hp).2⟩
theorem fresh_ne {h₀ h : Heap} {L r : Addr} {news : List (Addr × Obj)} (N : News h₀ L h news) (hr : h.get? r = none) : ∀ p ∈ news, @Ne Nat p.1 r := fun p hp e => by
  have e' : p.1 = r := e
  have := (N p hp).1
  rw [e', hr] at this
  cases this
theorem new2r_use {w : World} {mean : ExcName → Option Value} {mg mb : Str → Option Value} {k : Nat} {f : Addr} {xs ys : List Int} {Out : List Int → Prop}
    {dp un : Nat} {gd : Option (List Code)} {cn : Str} {cs : Scope} {a : Addr} {ccd : Value} {cl : List (Str × Addr)} {outer : List Env} {A₀ : Around} {base h₀ : Heap} {L : Addr} {m : Str → Option Value} {s : Shared} {Q E : Value → Shared → Prop}
    {l1 l2 : Addr} {vs1 vs2 : List Value} {n1 n2 : Nat} {news : List (Addr × Obj)} (C : New2R w mean mg mb k f xs ys Out)
    (B : Below A₀ base outer h₀) (F : Fr h₀ L s.heap m) (X : (hd.heap_39 w.params).In h₀) (N : News h₀ L s.heap news) (T : TopM mean mg mb h₀) (hk : cs.kind = .function)
    (hd : dp + k < recursionLimit) (hu : un + 8 * k < cLine) (m1 : (l1, listOf vs1.toArray n1) ∈ news) (m2 : (l2, listOf vs2.toArray n2) ∈ news) (hne : @Ne Nat l1 l2) (hi1 : IntsAre vs1 xs) (hi2 : IntsAre vs2 ys)
    (ret : ∀ h' tk' r vs' n' hs', Fr h₀ L h' m → News h₀ L h' ((r, listOf (List.toArray vs') n') :: news) → (∀ p ∈ news, @Ne Nat p.1 r) → IntsAre vs' hs' → Out hs' → Q (.ref r) { s with heap := h', toks := tk' }) :
    wpAny (model PR w) (ktrTop dp un gd cn cs L a ccd cl outer) (call (.ref f) [.ref l1, .ref l2]) Q E s := by
  have z : News h₀ L s.heap [(l1, listOf vs1.toArray n1), (l2, listOf vs2.toArray n2)] := by
    intro p hp
    rcases List.mem_cons.mp hp with rfl | hp
    · exact N _ m1
    · rw [List.mem_singleton.mp hp]; exact N _ m2
  exact C _ _ _ _ _ _ _ _ _ _ _ _ _ _ _ _ _ _ _ _ _ _ _ B F X z hne T hk hd hu hi1 hi2 fun h' tk' r vs' n' hs' K hr ho hi' o => ret h' tk' r vs' n' hs' (hkeep_fr F K) (hkeep_new F N K hr ho) (fresh_ne N hr) hi' o
theorem new2c_use {w : World} {mean : ExcName → Option Value} {mg mb : Str → Option Value} {k : Nat} {f : Addr} {xs ys Out : List Int}
    {dp un : Nat} {gd : Option (List Code)} {cn : Str} {cs : Scope} {a : Addr} {ccd : Value} {cl : List (Str × Addr)} {outer : List Env} {A₀ : Around} {base h₀ : Heap} {L : Addr} {m : Str → Option Value} {s : Shared} {Q E : Value → Shared → Prop}
    {l1 l2 : Addr} {vs1 vs2 : List Value} {n1 n2 : Nat} {news : List (Addr × Obj)} (C : New2C w mean mg mb k f xs ys Out)
    (B : Below A₀ base outer h₀) (F : Fr h₀ L s.heap m) (X : (hd.heap_39 w.params).In h₀) (N : News h₀ L s.heap news) (T : TopM mean mg mb h₀) (hk : cs.kind = .function)
    (hd : dp + k < recursionLimit) (hu : un + 8 * k < cLine) (m1 : (l1, listOf vs1.toArray n1) ∈ news) (m2 : (l2, listOf vs2.toArray n2) ∈ news) (hne : @Ne Nat l1 l2) (hi1 : IntsAre vs1 xs) (hi2 : IntsAre vs2 ys)
    (ret : ∀ h' tk' r vs' n', Fr h₀ L h' m → News h₀ L h' ((r, listOf (List.toArray vs') n') :: news) → (∀ p ∈ news, @Ne Nat p.1 r) → IntsAre vs' Out → Q (.ref r) { s with heap := h', toks := tk' }) :
    wpAny (model PR w) (ktrTop dp un gd cn cs L a ccd cl outer) (call (.ref f) [.ref l1, .ref l2]) Q E s := by
  have z : News h₀ L s.heap [(l1, listOf vs1.toArray n1), (l2, listOf vs2.toArray n2)] := by
    intro p hp
    rcases List.mem_cons.mp hp with rfl | hp
    · exact N _ m1
    · rw [List.mem_singleton.mp hp]; exact N _ m2
  exact C _ _ _ _ _ _ _ _ _ _ _ _ _ _ _ _ _ _ _ _ _ _ _ B F X z hne T hk hd hu hi1 hi2 fun h' tk' r vs' n' K hr ho hi' => ret h' tk' r vs' n' (hkeep_fr F K) (hkeep_new F N K hr ho) (fresh_ne N hr) hi'
theorem tab_use {w : World} {mean : ExcName → Option Value} {mg mb : Str → Option Value} {k : Nat} {f : Addr} {sg : Int} {heap start : List Int} {es : List (Int × Int)}
    {dp un : Nat} {gd : Option (List Code)} {cn : Str} {cs : Scope} {a : Addr} {ccd : Value} {cl : List (Str × Addr)} {outer : List Env} {A₀ : Around} {base h₀ : Heap} {L : Addr} {m : Str → Option Value} {s : Shared} {Q E : Value → Shared → Prop}
    {l1 l2 sl : Addr} {vs1 vs2 sv : List Value} {n1 n2 nt : Nat} {t : Tok} {news : List (Addr × Obj)} (C : TabC w mean mg mb k f sg heap start es)
    (B : Below A₀ base outer h₀) (F : Fr h₀ L s.heap m) (X : (hd.heap_39 w.params).In h₀) (N : News h₀ L s.heap news) (T : TopM mean mg mb h₀) (hk : cs.kind = .function)
    (hd : dp + k < recursionLimit) (hu : un + 8 * k < cLine) (m0 : (sl, listOf sv.toArray nt) ∈ news) (m1 : (l1, listOf vs1.toArray n1) ∈ news) (m2 : (l2, listOf vs2.toArray n2) ∈ news) (hn1 : @Ne Nat l1 sl) (hn2 : @Ne Nat l2 sl) (hi1 : IntsAre vs1 heap) (hi2 : IntsAre vs2 start) (hst : StepsPre sl sv es s.heap)
    (ret : ∀ h' tk', Fr h₀ L h' m → News h₀ L h' news → Q (.bool true) { s with heap := h', toks := tk' }) :
    wpAny (model PR w) (ktrTop dp un gd cn cs L a ccd cl outer) (call (.ref f) [.ref l1, .ref l2, .ref sl, .int sg t]) Q E s := by
  have z : News h₀ L s.heap [(sl, listOf sv.toArray nt)] := by
    intro p hp
    rw [List.mem_singleton.mp hp]; exact N _ m0
  exact C _ _ _ _ _ _ _ _ _ _ _ _ _ _ _ _ _ _ _ _ _ _ _ _ _ _ _ B F X T hk hd hu z hn1 hn2 hi1 hi2 (N _ m1).1 (N _ m2).1 hst fun h' tk' K => ret h' tk' (hkeep_fr F K) (fun p hp => ⟨K _ _ (N p hp).1, (N p hp).2⟩)
theorem pairs_pre {h₀ h : Heap} {L sl : Addr} {sv : List Value} {es : List (Int × Int)} {T all : List (Addr × Obj)} (N : News h₀ L h all) (hp : PairsIs sv es T) (hT : ∀ p ∈ T, p ∈ all) (hne : ∀ p ∈ T, @Ne Nat p.1 sl) : StepsPre sl sv es h := by
  refine ⟨hp.1, fun i e he => ?_⟩
  obtain ⟨a, ob, t1, t2, k, q1, q2, q3⟩ := hp.2 i e he
  subst q3
  exact ⟨a, t1, t2, q1, hne _ q2, _, (N _ (hT _ q2)).1, rfl, k, rfl⟩
theorem pairs_end {h₀ h' : Heap} {L I C D a : Addr} {m : Str → Option Value} {s₁ : Shared} {oI oC oD : Obj} {S : List (Addr × Obj) → Prop} {T news : List (Addr × Obj)} {tk n : Nat} {p q : Int} {t1 t2 : Tok} (hS : ∀ l, S l)
    (F : Fr h₀ L h' m) (N : News h₀ L h' ((a, ({ cls := .type "tuple", data := .seq #[.int p t1, .int q t2] n } : Obj)) :: (I, oI) :: (C, oC) :: (D, oD) :: (news ++ T))) (off : LCg.Off3 I C D (news ++ T)) (l1 : I < a) (l2 : C < a) (l3 : D < a) :
    LCg.CompEnd h₀ L m s₁ I oI C oC D oD S (fun y news' => ∃ (a : Addr) (t1 t2 : Tok) (k : Nat), news' = news ++ ((a, ({ cls := .type "tuple", data := .seq #[.int p t1, .int q t2] k } : Obj)) :: T) ∧ y = .ref a) (.ref a) { s₁ with heap := h', toks := tk } := by
  refine LCg.CompEnd.intro F N (news ++ ((a, ({ cls := .type "tuple", data := .seq #[.int p t1, .int q t2] n } : Obj)) :: T)) ?_ ?_ (hS _) ⟨a, t1, t2, n, rfl, rfl⟩
  · intro x hx
    rcases List.mem_cons.mp hx with rfl | hx
    · exact .tail _ (.head _)
    · rcases List.mem_cons.mp hx with rfl | hx
      · exact .tail _ (.tail _ (.head _))
      · rcases List.mem_cons.mp hx with rfl | hx
        · exact .tail _ (.tail _ (.tail _ (.head _)))
        · rcases List.mem_append.mp hx with hx | hx
          · exact .tail _ (.tail _ (.tail _ (.tail _ (List.mem_append_left _ hx))))
          · rcases List.mem_cons.mp hx with rfl | hx
            · exact .head _
            · exact .tail _ (.tail _ (.tail _ (.tail _ (List.mem_append_right _ hx))))
  · refine LCg.Off3.of fun x hx => ?_
    have om := off.mem
    rcases List.mem_append.mp hx with hx | hx
    · exact om _ (List.mem_append_left _ hx)
    · rcases List.mem_cons.mp hx with rfl | hx
      · exact ⟨Nat.ne_of_gt l1, Nat.ne_of_gt l2, Nat.ne_of_gt l3⟩
      · exact om _ (List.mem_append_right _ hx)
theorem slice_run9 {prog : Program} {w : World} {A : Around} {E : Value → Shared → Prop} {s : Shared} {h₀ : Heap} {L l : Addr} {m : Str → Option Value} {news : List (Addr × Obj)} {value slice : PySem.Expr} {vs : List Value} {ns : List Int} {n : Nat} {x y : Int} {t u : Tok} {Q : Value → Shared → Prop}
    (F : Fr h₀ L s.heap m) (N : News h₀ L s.heap news) (hm : (l, listOf vs.toArray n) ∈ news) (hi : IntsAre vs ns) (h0 : 0 ≤ x) (h1 : x ≤ y) (h2 : y ≤ ns.length) (hz : ns.length < 2 ^ 20)
    (h : ∀ D h' ws ms, Fr h₀ L h' m → News h₀ L h' ((D, listOf (List.toArray ws) 0) :: news) → (∀ p ∈ news, p.1 < D) → IntsAre ws ms → (ms.length : Int) = y - x → Q (.ref D) { s with heap := h' })
    (hs : subscripted slice false (.ref l) (.ref s.heap.objs.size) = operate [.ref s.heap.objs.size, .ref l] (getItem (.ref l) (.ref s.heap.objs.size))) (ht : ∀ r, letTemporaryGo value (.ref l) r = pure ()) :
    wpAny (model prog w) A (subscriptTail value slice (.ref l) (.ref s.heap.objs.size)) Q E { s with heap := s.heap.push { cls := .type "slice", data := .fields #[.int x t, .int y u, .none] } } := by
  refine kmk_slice_lit F N (PySem.IsL.isList (n := n) (N _ hm).1) (IsPart.int _ _) (IsPart.int _ _) rfl (fun D h' F' N' l1 => h D h' _ _ F' N' l1 (kmk_run hi h0 (by omega)) ?_) hs ht ?_
  · rw [List.length_take, List.length_drop]
    omega
  · rw [List.size_toArray, sizeLine_eq, hi.length]
    omega
theorem slice_upto9 {prog : Program} {w : World} {A : Around} {E : Value → Shared → Prop} {s : Shared} {h₀ : Heap} {L l : Addr} {m : Str → Option Value} {news : List (Addr × Obj)} {value slice : PySem.Expr} {vs : List Value} {ns : List Int} {n : Nat} {y : Int} {u : Tok} {Q : Value → Shared → Prop}
    (F : Fr h₀ L s.heap m) (N : News h₀ L s.heap news) (hm : (l, listOf vs.toArray n) ∈ news) (hi : IntsAre vs ns) (h1 : 0 ≤ y) (h2 : y ≤ ns.length) (hz : ns.length < 2 ^ 20)
    (h : ∀ D h' ws ms, Fr h₀ L h' m → News h₀ L h' ((D, listOf (List.toArray ws) 0) :: news) → (∀ p ∈ news, p.1 < D) → IntsAre ws ms → (ms.length : Int) = y → Q (.ref D) { s with heap := h' })
    (hs : subscripted slice false (.ref l) (.ref s.heap.objs.size) = operate [.ref s.heap.objs.size, .ref l] (getItem (.ref l) (.ref s.heap.objs.size))) (ht : ∀ r, letTemporaryGo value (.ref l) r = pure ()) :
    wpAny (model prog w) A (subscriptTail value slice (.ref l) (.ref s.heap.objs.size)) Q E { s with heap := s.heap.push { cls := .type "slice", data := .fields #[.none, .int y u, .none] } } := by
  refine kmk_slice_lit F N (PySem.IsL.isList (n := n) (N _ hm).1) IsPart.none (IsPart.int _ _) rfl (fun D h' F' N' l1 => h D h' _ _ F' N' l1 (kmk_upto hi h1) ?_) hs ht ?_
  · rw [List.length_take]
    omega
  · rw [List.size_toArray, sizeLine_eq, hi.length]
    omega
theorem slice_from9 {prog : Program} {w : World} {A : Around} {E : Value → Shared → Prop} {s : Shared} {h₀ : Heap} {L l : Addr} {m : Str → Option Value} {news : List (Addr × Obj)} {value slice : PySem.Expr} {vs : List Value} {ns : List Int} {n : Nat} {x : Int} {t : Tok} {Q : Value → Shared → Prop}
    (F : Fr h₀ L s.heap m) (N : News h₀ L s.heap news) (hm : (l, listOf vs.toArray n) ∈ news) (hi : IntsAre vs ns) (h0 : 0 ≤ x) (h1 : x ≤ ns.length) (hz : ns.length < 2 ^ 20)
    (h : ∀ D h' ws ms, Fr h₀ L h' m → News h₀ L h' ((D, listOf (List.toArray ws) 0) :: news) → (∀ p ∈ news, p.1 < D) → IntsAre ws ms → (ms.length : Int) = ns.length - x → Q (.ref D) { s with heap := h' })
    (hs : subscripted slice false (.ref l) (.ref s.heap.objs.size) = operate [.ref s.heap.objs.size, .ref l] (getItem (.ref l) (.ref s.heap.objs.size))) (ht : ∀ r, letTemporaryGo value (.ref l) r = pure ()) :
    wpAny (model prog w) A (subscriptTail value slice (.ref l) (.ref s.heap.objs.size)) Q E { s with heap := s.heap.push { cls := .type "slice", data := .fields #[.int x t, .none, .none] } } := by
  refine kmk_slice_lit F N (PySem.IsL.isList (n := n) (N _ hm).1) (IsPart.int _ _) IsPart.none rfl (fun D h' F' N' l1 => h D h' _ _ F' N' l1 (kmk_from hi h0) ?_) hs ht ?_
  · rw [List.length_drop]
    omega
  · rw [List.size_toArray, sizeLine_eq, hi.length]
    omega

structure PlainLaw : Prop where
  heap : ∀ xs : List Int, 0 < xs.length → xs.Pairwise (· < ·) → ∃ J, LhStep xs J ∧ ∀ row free, J xs.length row free → (∀ k, 1 ≤ k → k < row.length → row.getD ((k - 1) / 2) 0 < row.getD k 0) ∧ row.Perm xs
  tab : ∀ (sg : Int) (heap picks : List Int) (es : List (Int × Int)), (sg = 1 ∨ sg = -1) → (∀ k, 1 ≤ k → k < heap.length → heap.getD ((k - 1) / 2) 0 < heap.getD k 0) → heap.Nodup → heap.length ≤ 12 → 6 ≤ heap.length → picks.length = heap.length / 2 → es.length ≤ 6 → (es.map (·.2)).Nodup → (∀ e ∈ es, e.2 ∉ heap) →
    ∃ J, TabJ sg heap (apartN 0 picks heap) es J
theorem rest_len {R N : Nat} {a c : Int} (h : (R : Int) = N - a) (h2 : (N : Int) = a + c) : (R : Int) = c := by omega
theorem lt_toNat {i : Nat} {x : Int} (h : i < (x - 0).toNat) : (i : Int) < x := by omega
theorem toNat_len {n : Nat} {x : Int} (h : n = (x - 0).toNat) (hx : 0 ≤ x) : (n : Int) = x := by omega
theorem nodup_of_mod {ns : List Int} (h : ∀ i j, i < ns.length → j < ns.length → ns.getD i 0 = ns.getD j 0 → i = j) : ns.Nodup := by
  rw [List.nodup_iff_pairwise_ne, List.pairwise_iff_getElem]
  intro i j hi hj hij e
  have q := h i j hi hj (by simpa [List.getD_eq_getElem?_getD, hi, hj] using e)
  omega
theorem enumMap_getD (g : Int → Int → Int) (ks : List Int) {n i : Nat} (h : i < n) : (enumMap g ks n).getD i 0 = g (i : Int) (ks.getD i 0) := by
  unfold enumMap
  rw [List.getD_eq_getElem?_getD, List.getElem?_map, List.getElem?_range h]
  rfl
theorem enum_sorted {ks ns n' : List Int} {n : Nat} (hns : ns = enumMap (fun i z => 32 * (z % 40) + i) ks n) (hk : n ≤ 12) (hp : n'.Perm ns) (ho : n'.Pairwise (· ≤ ·)) : n'.Pairwise (· < ·) ∧ (∀ x ∈ n', x % 32 < 12) ∧ n'.length = n := by
  have hl : ns.length = n := by rw [hns, enumMap_length]
  have hm : ∀ i, i < n → ns.getD i 0 % 32 = (i : Int) := by
    intro i hi
    rw [hns, enumMap_getD _ _ hi]
    omega
  have nd : ns.Nodup := nodup_of_mod fun i j hi hj e => by
    have a := hm i (by omega)
    have b := hm j (by omega)
    rw [e] at a
    omega
  have nd' : n'.Nodup := hp.nodup_iff.mpr nd
  refine ⟨?_, fun x hx => ?_, by rw [hp.length_eq, hl]⟩
  · rw [List.nodup_iff_pairwise_ne] at nd'
    exact (List.pairwise_and_iff.mpr ⟨ho, nd'⟩).imp fun h => by have a := h.1; have b := h.2; omega
  · obtain ⟨i, hi, e⟩ := List.getElem_of_mem (hp.mem_iff.mp hx)
    have a := hm i (by omega)
    rw [List.getD_eq_getElem?_getD, List.getElem?_eq_getElem hi] at a
    have a' : ns[i] % 32 = (i : Int) := a
    rw [e] at a'
    omega
theorem off_tail {D : Addr} {l T : List (Addr × Obj)} (h : LCg.Off1 D (l ++ T)) : ∀ p ∈ T, @Ne Nat p.1 D := fun p hp => off_one h p (List.mem_append_right _ hp)
theorem row_len {a b c : Nat} {x : Int} (h1 : a = b) (h2 : b = c) (h3 : (c : Int) = x) : (a : Int) = x := by omega
theorem toNat_le6 {x : Int} (h : x ≤ 6) : (x - 0).toNat ≤ 6 := by omega
theorem nodup_of_lt {n' row : List Int} (h : n'.Pairwise (· < ·)) (p : row.Perm n') : row.Nodup := by
  refine p.nodup_iff.mpr ?_
  rw [List.nodup_iff_pairwise_ne]
  exact h.imp fun h => by omega
theorem picks_len {P row : Nat} {z : Int} (h1 : (P : Int) = 2 * z + z / 2 - 2 * z) (h2 : (row : Int) = z) : P = row / 2 := by omega
theorem steps_facts {R ns row : List Int} {ys : List Value} {T : List (Addr × Obj)} {n : Nat} (hp : PairsIs ys ((List.range n).map fun (i : Nat) => (R.getD (2 * (i : Int)).toNat 0 % 4, 32 * (R.getD (2 * (i : Int) + 1).toNat 0 % 40) + 12 + (i : Int))) T) (hn : n ≤ 6) (hrow : ∀ x ∈ ns, x % 32 < 12) (hpm : row.Perm ns) :
    ∃ es, PairsIs ys es T ∧ es.length ≤ 6 ∧ (es.map (·.2)).Nodup ∧ ∀ e ∈ es, e.2 ∉ row := by
  refine ⟨_, hp, by rw [List.length_map, List.length_range]; exact hn, ?_, ?_⟩
  · refine nodup_of_mod fun i j hi hj e => ?_
    simp only [List.length_map, List.length_range] at hi hj
    simp only [List.map_map, List.getD_eq_getElem?_getD, List.getElem?_map, List.getElem?_range hi, List.getElem?_range hj, Option.map_some, Option.getD_some, Function.comp] at e
    omega
  · intro e he hm
    obtain ⟨i, hi, rfl⟩ := List.mem_map.mp he
    have q := hrow _ (hpm.mem_iff.mp hm)
    have hi' := List.mem_range.mp hi
    dsimp only at q
    omega
theorem law_w (PL : PlainLaw) : PySem.Challenge.rw_sc0015_01.Holds := by
  refine hd ?_
  k_with_none
  k_with "mine enter" => (refine' def_enter ?zr471k1 ?zr471k2 ?zr471k3 ?zr471k4 ?zr471k5 ?zr471kA ?zr471kF ?zr471kK ?zr471k6 ?zr471k7 ?zr471k8 ?zr471k9 ?zr471kB ?_ ?zr471c2 ?zr471c3 ?zr471c4 ?zr471c5; (case zr471kA => exact rfl); (case zr471kF => exact rfl); (case zr471kK => assumption); (case zr471k1 => k_asm); (case zr471k2 => k_asm); (case zr471k3 => k_asm); (case zr471k4 => k_asm); (case zr471k5 => k_asm); (case zr471k6 => k_is); (case zr471k7 => k_is); (case zr471k8 => ktr_room); (case zr471k9 => exact BindsTo.of_eq rfl); (case zr471c5 => decide); (case zr471kB => exact locs rfl); (case zr471c2 => exact rfl); (case zr471c3 => exact rfl); (case zr471c4 => exact rfl); k_whole)
  k_with "binaryOp RShift int int" => (k_here; (with_reducible refine PySem.wpAny_rshift1_int ?zr472kb1 ?_); (case zr472kb1 => omega))
  k_with "mine cj" => (with_reducible (rename @Ne Nat _ _ ∧ _ => zhcj)); have _ := zhcj.1; replace zhcj := zhcj.2
  k_with "mine go" => (repeat (first | walk_at "mine cj" | (k_unfold; (try dsimp only)) | walk_at "mine fold" | walk1 | (dsimp only; walk1)))
  k_with "mine fold" => ((with_reducible show wpAny _ _ (exec _ _) _ _ _); k_fold)
  k_with "mine go2" => (repeat (first | walk_at "mine cj" | (k_unfold; (try dsimp only)) | walk_at "mine fold" | walk_at "mine fold2" | walk1 | (dsimp only; walk1)))
  k_with "mine fold2" => ((fail_if_success (fail_if_success k_fold)); (with_reducible show wpAny _ _ _ (fun _ _ => wpAny _ _ _ _ _ _) _ _); k_fold)
  k_with "mine bnd" => first | with_reducible assumption | omega | ((try simp only [List.length_set, List.length_append, List.length_cons, List.length_nil, List.length_dropLast, sdN_length]); omega)
  k_with "mine ctx" => ((case zctxk1 => k_asm); (case zctxk2 => k_asm); (case zctxk3 => k_asm); (case zctxk4 => k_asm); (case zctxk5 => k_asm); (case zctxkK => first | exact rfl | assumption); (case zctxkU => k_updF); (case zctxkd => ktr_room); (case zctxku => ktr_units); (case zctxki => l_ints))
  k_with "call ref" => (k_here; (with_reducible show wpAny _ _ (call (Value.ref 77) _) _ _ _); k_dflt (refine' mut_use (sd_c _ _ _ _ _ _ ?zctxp1 ?zctxp2 ?zctxp3 ?zctxp4) ?zctxk1 ?zctxk2 ?zctxk3 ?zctxk4 ?zctxk5 ?zctxkK ?zctxkU ?zctxkd ?zctxku ?zctxki ?_; walk_at "mine ctx"; (case zctxp1 => walk_at "mine bnd"); (case zctxp2 => walk_at "mine bnd"); (case zctxp3 => walk_at "mine bnd"); (case zctxp4 => walk_at "mine bnd"); k_whole); intro _ _ _ _ _ _ _ zN' _ zho'; (have ze1 := zho'.1); (have ze2 := zho'.2); clear zho'; subst ze1; subst ze2; (try dsimp only at zN'); (try k_sweep))
  k_with "call ref" => (k_here; (with_reducible show wpAny _ _ (call (Value.ref 91) _) _ _ _); k_dflt (refine' mut_use (sdx_c _ _ _ _ _ _ ?zctxp1 ?zctxp2 ?zctxp3 ?zctxp4) ?zctxk1 ?zctxk2 ?zctxk3 ?zctxk4 ?zctxk5 ?zctxkK ?zctxkU ?zctxkd ?zctxku ?zctxki ?_; walk_at "mine ctx"; (case zctxp1 => walk_at "mine bnd"); (case zctxp2 => walk_at "mine bnd"); (case zctxp3 => walk_at "mine bnd"); (case zctxp4 => walk_at "mine bnd"); k_whole); intro _ _ _ _ _ _ _ zN' _ zho'; (have ze1 := zho'.1); (have ze2 := zho'.2); clear zho'; subst ze1; subst ze2; (try dsimp only at zN'); (try k_sweep))
  k_with "mine bnd" => first | with_reducible assumption | omega | ((try simp only [List.length_set, List.length_append, List.length_cons, List.length_nil, List.length_dropLast, sdN_length, suN_length]); omega)
  k_with "call ref" => (k_here; (with_reducible show wpAny _ _ (call (Value.ref 84) _) _ _ _); k_dflt (refine' mut_use (su_c _ _ _ _ _ ?zctxp1 ?zctxp2 ?zctxp3) ?zctxk1 ?zctxk2 ?zctxk3 ?zctxk4 ?zctxk5 ?zctxkK ?zctxkU ?zctxkd ?zctxku ?zctxki ?_; walk_at "mine ctx"; (case zctxp1 => walk_at "mine bnd"); (case zctxp2 => walk_at "mine bnd"); (case zctxp3 => walk_at "mine bnd"); k_whole); intro _ _ _ _ _ _ _ zN' _ zho'; (have ze1 := zho'.1); (have ze2 := zho'.2); clear zho'; subst ze1; subst ze2; (try dsimp only at zN'); (try k_sweep))
  k_with "call ref" => (k_here; (with_reducible show wpAny _ _ (call (Value.ref 98) _) _ _ _); k_dflt (refine' mut_use (sux_c _ _ _ _ _ ?zctxp1 ?zctxp2 ?zctxp3) ?zctxk1 ?zctxk2 ?zctxk3 ?zctxk4 ?zctxk5 ?zctxkK ?zctxkU ?zctxkd ?zctxku ?zctxki ?_; walk_at "mine ctx"; (case zctxp1 => walk_at "mine bnd"); (case zctxp2 => walk_at "mine bnd"); (case zctxp3 => walk_at "mine bnd"); k_whole); intro _ _ _ _ _ _ _ zN' _ zho'; (have ze1 := zho'.1); (have ze2 := zho'.2); clear zho'; subst ze1; subst ze2; (try dsimp only at zN'); (try k_sweep))
  k_with "mine bnd" => first | with_reducible assumption | omega | ((try simp only [List.length_set, List.length_append, List.length_cons, List.length_nil, List.length_dropLast, sdN_length, suN_length, liftN_length]); omega)
  k_with "setItem ref int" => (k_here; (with_reducible show wpAny _ _ (setItem (Value.ref _) (Value.int _ _) (Value.int _ _)) _ _ _); k_dflt (refine' ksa_set ?zr486k1 ?zr486k2 ?zr486k3 ?zr486k4 ?zr486k5 ?zr486k6 ?zr486k7 ?_; (case zr486k1 => k_asm); (case zr486k2 => k_asm); (case zr486k3 => k_upd); (case zr486k4 => l_ints); (case zr486k5 => walk_at "mine bnd"); (case zr486k6 => walk_at "mine bnd"); (case zr486k7 => walk_at "mine bnd"); k_whole); intro _ _ _ _ _ _; (try k_sweep))
  k_with "call ref" => (k_here; (with_reducible show wpAny _ _ (call (Value.ref 21) _) _ _ _); k_dflt (refine' mut_use (push_c _ _ _ _ _ ?zctxp1) ?zctxk1 ?zctxk2 ?zctxk3 ?zctxk4 ?zctxk5 ?zctxkK ?zctxkU ?zctxkd ?zctxku ?zctxki ?_; walk_at "mine ctx"; (case zctxp1 => walk_at "mine bnd"); k_whole); intro _ _ _ _ _ _ _ zN' _ zho'; (have ze1 := zho'.1); (have ze2 := zho'.2); clear zho'; subst ze1; subst ze2; (try dsimp only at zN'); (try k_sweep))
  k_with "call ref" => (k_here; (with_reducible show wpAny _ _ (call (Value.ref 28) _) _ _ _); k_dflt (refine' mut_use (pop_c _ _ _ _ ?zctxp1 ?zctxp2) ?zctxk1 ?zctxk2 ?zctxk3 ?zctxk4 ?zctxk5 ?zctxkK ?zctxkU ?zctxkd ?zctxku ?zctxki ?_; walk_at "mine ctx"; (case zctxp1 => walk_at "mine bnd"); (case zctxp2 => walk_at "mine bnd"); k_whole); intro _ _ _ _ _ _ _ zN' _ zho'; (obtain ⟨ze1, _, ze2⟩ := zho'); subst ze1; subst ze2; (try dsimp only at zN'); (try k_sweep))
  k_with "call ref" => (k_here; (with_reducible show wpAny _ _ (call (Value.ref 56) _) _ _ _); k_dflt (refine' mut_use (popx_c _ _ _ _ ?zctxp1 ?zctxp2) ?zctxk1 ?zctxk2 ?zctxk3 ?zctxk4 ?zctxk5 ?zctxkK ?zctxkU ?zctxkd ?zctxku ?zctxki ?_; walk_at "mine ctx"; (case zctxp1 => walk_at "mine bnd"); (case zctxp2 => walk_at "mine bnd"); k_whole); intro _ _ _ _ _ _ _ zN' _ zho'; (obtain ⟨ze1, _, ze2⟩ := zho'); subst ze1; subst ze2; (try dsimp only at zN'); (try k_sweep))
  k_with "call ref" => (k_here; (with_reducible show wpAny _ _ (call (Value.ref 35) _) _ _ _); k_dflt (refine' mut_use (repl_c _ _ _ _ _ ?zctxp1 ?zctxp2) ?zctxk1 ?zctxk2 ?zctxk3 ?zctxk4 ?zctxk5 ?zctxkK ?zctxkU ?zctxkd ?zctxku ?zctxki ?_; walk_at "mine ctx"; (case zctxp1 => walk_at "mine bnd"); (case zctxp2 => walk_at "mine bnd"); k_whole); intro _ _ _ _ _ _ _ zN' _ zho'; (obtain ⟨ze1, _, ze2⟩ := zho'); subst ze1; subst ze2; (try dsimp only at zN'); (try k_sweep))
  k_with "call ref" => (k_here; (with_reducible show wpAny _ _ (call (Value.ref 63) _) _ _ _); k_dflt (refine' mut_use (replx_c _ _ _ _ _ ?zctxp1 ?zctxp2) ?zctxk1 ?zctxk2 ?zctxk3 ?zctxk4 ?zctxk5 ?zctxkK ?zctxkU ?zctxkd ?zctxku ?zctxki ?_; walk_at "mine ctx"; (case zctxp1 => walk_at "mine bnd"); (case zctxp2 => walk_at "mine bnd"); k_whole); intro _ _ _ _ _ _ _ zN' _ zho'; (obtain ⟨ze1, _, ze2⟩ := zho'); subst ze1; subst ze2; (try dsimp only at zN'); (try k_sweep))
  k_with "call ref" => (k_here; (with_reducible show wpAny _ _ (call (Value.ref 42) _) _ _ _); k_dflt (refine' mut_use (pushpop_c _ _ _ _ _ ?zctxp1 ?zctxp2) ?zctxk1 ?zctxk2 ?zctxk3 ?zctxk4 ?zctxk5 ?zctxkK ?zctxkU ?zctxkd ?zctxku ?zctxki ?_; walk_at "mine ctx"; (case zctxp1 => walk_at "mine bnd"); (case zctxp2 => walk_at "mine bnd"); k_whole); intro _ _ _ _ _ _ _ zN' _ zho'; (obtain ⟨ze1, _, ze2⟩ := zho'); subst ze1; subst ze2; (try dsimp only at zN'); (try k_sweep))
  k_with "call ref" => (k_here; (with_reducible show wpAny _ _ (call (Value.ref 110) _) _ _ _); k_dflt (refine' mut_use (lift_c _ _ _ _ _ _ ?zctxp1 ?zctxp2 ?zctxp3 ?zctxp4 ?zctxp5) ?zctxk1 ?zctxk2 ?zctxk3 ?zctxk4 ?zctxk5 ?zctxkK ?zctxkU ?zctxkd ?zctxku ?zctxki ?_; walk_at "mine ctx"; (case zctxp1 => walk_at "mine bnd"); (case zctxp2 => walk_at "mine bnd"); (case zctxp3 => walk_at "mine bnd"); (case zctxp4 => walk_at "mine bnd"); (case zctxp5 => walk_at "mine bnd"); k_whole); intro _ _ _ _ _ _ _ zN' _ zho'; (have ze1 := zho'.1); (have ze2 := zho'.2); clear zho'; subst ze1; subst ze2; (try dsimp only at zN'); (try k_sweep))
  k_with "call ref" => (k_here; (with_reducible show wpAny _ _ (call (Value.ref 49) _) _ _ _); k_dflt (refine' mut_use (hpf_c _ _ _ _ ?zctxp1) ?zctxk1 ?zctxk2 ?zctxk3 ?zctxk4 ?zctxk5 ?zctxkK ?zctxkU ?zctxkd ?zctxku ?zctxki ?_; walk_at "mine ctx"; (case zctxp1 => walk_at "mine bnd"); k_whole); intro _ _ _ _ _ _ _ zN' _ zho'; (have ze1 := zho'.1); (have ze2 := zho'.2); clear zho'; subst ze1; subst ze2; (try dsimp only at zN'); (try k_sweep))
  k_with "call ref" => (k_here; (with_reducible show wpAny _ _ (call (Value.ref 70) _) _ _ _); k_dflt (refine' mut_use (hpfx_c _ _ _ _ ?zctxp1) ?zctxk1 ?zctxk2 ?zctxk3 ?zctxk4 ?zctxk5 ?zctxkK ?zctxkU ?zctxkd ?zctxku ?zctxki ?_; walk_at "mine ctx"; (case zctxp1 => walk_at "mine bnd"); k_whole); intro _ _ _ _ _ _ _ zN' _ zho'; (have ze1 := zho'.1); (have ze2 := zho'.2); clear zho'; subst ze1; subst ze2; (try dsimp only at zN'); (try k_sweep))
  k_with "call ref" => (k_here; (with_reducible show wpAny _ _ (call (Value.ref 124) _) _ _ _); k_dflt (refine' mut_use (lcall_c _ _ _ _ _ _ _ ?zctxp1 ?zctxp2) ?zctxk1 ?zctxk2 ?zctxk3 ?zctxk4 ?zctxk5 ?zctxkK ?zctxkU ?zctxkd ?zctxku ?zctxki ?_; walk_at "mine ctx"; (case zctxp1 => walk_at "mine bnd"); (case zctxp2 => walk_at "mine bnd"); k_whole); intro _ _ _ _ _ _ _ zN' _ zho'; (have ze1 := zho'.1); (have _ := zho'.2); clear zho'; subst ze1; (try dsimp only at zN'); (try k_sweep))
  k_with "call builtin:len" => (k_here; (with_reducible show wpAny _ _ (call (Value.builtin "len") [Value.ref _]) _ _ _); k_dflt (refine' len_ints ?zr497k1 ?zr497k2 ?zr497k3 ?zr497k4 ?_; (case zr497k1 => k_asm); (case zr497k2 => k_mem); (case zr497k3 => l_ints); (case zr497k4 => walk_at "mine bnd"); k_whole))
  k_with "truthy ref" => (k_here; (with_reducible show wpAny _ _ (truthy (Value.ref _)) _ _ _); k_dflt (refine' truthy_ints ?zr498k1 ?zr498k2 ?zr498k3 ?zr498k4 ?_; (case zr498k1 => k_asm); (case zr498k2 => k_mem); (case zr498k3 => l_ints); (case zr498k4 => walk_at "mine bnd")))
  k_with "mine end" => ((try dsimp only); (try (k_unfold; try dsimp only)))
  k_with "mine maps" => first | exact List.forall_mem_nil _ | (refine List.forall_mem_cons.mpr ⟨by rfl, ?_⟩; walk_at "mine maps")
  k_with "binaryOp FloorDiv int int" => (k_here; (with_reducible refine ediv_int ?zr501kb ?zr501kp ?_); (case zr501kb => decide); (case zr501kp => first | exact PyProof.noPylong_of_log2 (by decide +kernel) | exact PyProof.noPylong_small (by omega)))
  k_with "binaryOp Mod int int" => (k_here; (with_reducible refine emod_int ?zr502kb ?_); (case zr502kb => first | decide | omega))
  k_with "subscriptTail Name Slice ref ref" => (k_here; (with_reducible show wpAny _ _ (subscriptTail _ (PySem.Expr.Slice none none none _) (Value.ref _) (Value.ref _)) _ _ _); k_dflt (refine' slice_all ?zr503F ?zr503N ?zr503l ?zr503z ?_ ?zr503s ?zr503t; (case zr503F => k_asm); (case zr503N => k_asm); (case zr503l => k_mem); (case zr503z => omega); (case zr503s => with_unfolding_all rfl); (case zr503t => (intro _; with_unfolding_all rfl))); intro _ _ _ _ zl1; (try k_lt zl1); (try k_sweep))
  k_with "mine off" => ((simp only [List.forall_mem_cons, List.not_mem_nil, false_implies, implies_true, and_true]); (repeat' apply And.intro) <;> k_ne)
  k_with "call builtin:list.pop" => (k_here; (with_reducible show wpAny _ _ (call (Value.builtin _) [Value.ref _, Value.int _ _]) _ _ _); k_dflt (refine' pop_at ?zr505F ?zr505N ?zr505U ?zr505i ?zr505a ?zr505b ?zr505c ?_; (case zr505F => k_asm); (case zr505N => k_asm); (case zr505U => k_updF); (case zr505i => l_ints); (case zr505a => walk_at "mine bnd"); (case zr505b => walk_at "mine bnd"); (case zr505c => walk_at "mine bnd")); intro _ _ _ zN' _; (try dsimp only at zN'); (try k_sweep))
  k_with "inplaceOp Add ref" => (k_here; (with_reducible show wpAny _ _ (inplaceOp Operator.Add (Value.ref _) (Value.ref _)) _ _ _); k_dflt (refine' iadd_lists ?zr506F ?zr506N ?zr506U ?zr506b ?zr506z ?_; (case zr506F => k_asm); (case zr506N => k_asm); (case zr506U => k_updF); (case zr506b => k_mem); (case zr506z => first | assumption | omega)); intro _ _ _ zN'; (try dsimp only at zN'); (try k_sweep))
  k_with "mine enterC" => (refine' def_enterC ?zr507k1 ?zr507k2 ?zr507k3 ?zr507k4 ?zr507k5 ?zr507kA ?zr507kF ?zr507kK ?zr507k6 ?zr507k7 ?zr507k8 ?zr507k9 ?zr507kB ?zr507kD ?_ ?zr507c2 ?zr507c3 ?zr507c4; (case zr507kA => exact rfl); (case zr507kF => exact rfl); (case zr507kK => assumption); (case zr507k1 => k_asm); (case zr507k2 => k_asm); (case zr507k3 => k_asm); (case zr507k4 => k_asm); (case zr507k5 => k_asm); (case zr507k6 => k_is); (case zr507k7 => k_is); (case zr507k8 => ktr_room); (case zr507k9 => exact BindsTo.of_eq rfl); (case zr507kB => exact rfl); (case zr507kD => decide +kernel); (case zr507c2 => exact rfl); (case zr507c3 => exact rfl); (case zr507c4 => exact rfl); k_whole)
  k_with "ite" => first | (with_reducible refine c_ff ?_) | (with_reducible refine c_tt ?_) | (with_reducible refine ct_yes (by assumption) ?_) | (with_reducible refine ct_no (by assumption) ?_) | (with_reducible refine cb_yes (by assumption) ?_) | (with_reducible refine cb_no (by assumption) ?_) | (with_reducible refine cn_yes (by assumption) ?_) | (with_reducible refine cn_no (by assumption) ?_)
  k_with "subscriptTail Name Slice ref ref" => (k_here; (with_reducible show wpAny _ _ (subscriptTail _ (PySem.Expr.Slice (some _) none (some _) _) (Value.ref _) (Value.ref _)) _ _ _); k_dflt (refine' slice_step ?zr509F ?zr509N ?zr509l ?zr509i ?zr509p ?zr509z ?_ ?zr509s ?zr509t; (case zr509F => k_asm); (case zr509N => k_asm); (case zr509l => assumption); (case zr509i => assumption); (case zr509p => omega); (case zr509z => omega); (case zr509s => with_unfolding_all rfl); (case zr509t => (intro _; with_unfolding_all rfl))); intro _ _ _ _ _ _ zl1 _; (try k_lt zl1); (try k_sweep))
  k_with "subscriptTail Name Slice ref ref" => (k_here; (with_reducible show wpAny _ _ (subscriptTail _ (PySem.Expr.Slice (some _) (some _) none _) (Value.ref _) (Value.ref _)) _ _ _); k_dflt (refine' slice_run9 ?zr510scF ?zr510scN ?zr510scM ?zr510scI ?zr510scA ?zr510scB ?zr510scC ?zr510scZ ?_ ?zr510scS ?zr510scT; (case zr510scF => k_asm); (case zr510scN => k_asm); (case zr510scM => k_mem); (case zr510scI => l_ints); (case zr510scA => omega); (case zr510scB => omega); (case zr510scC => omega); (case zr510scZ => omega); (case zr510scS => with_unfolding_all rfl); (case zr510scT => (intro _; with_unfolding_all rfl))); intro _ _ _ _ _ _ zl1 _ _; (try k_lt zl1); (try k_sweep))
  k_with "subscriptTail Name Slice ref ref" => (k_here; (with_reducible show wpAny _ _ (subscriptTail _ (PySem.Expr.Slice none (some _) none _) (Value.ref _) (Value.ref _)) _ _ _); k_dflt (refine' slice_upto9 ?zr511scF ?zr511scN ?zr511scM ?zr511scI ?zr511scA ?zr511scB ?zr511scZ ?_ ?zr511scS ?zr511scT; (case zr511scF => k_asm); (case zr511scN => k_asm); (case zr511scM => k_mem); (case zr511scI => l_ints); (case zr511scA => omega); (case zr511scB => omega); (case zr511scZ => omega); (case zr511scS => with_unfolding_all rfl); (case zr511scT => (intro _; with_unfolding_all rfl))); intro _ _ _ _ _ _ zl1 _ _; (try k_lt zl1); (try k_sweep))
  k_with "subscriptTail Name Slice ref ref" => (k_here; (with_reducible show wpAny _ _ (subscriptTail _ (PySem.Expr.Slice (some _) none none _) (Value.ref _) (Value.ref _)) _ _ _); k_dflt (refine' slice_from9 ?zr512scF ?zr512scN ?zr512scM ?zr512scI ?zr512scA ?zr512scB ?zr512scZ ?_ ?zr512scS ?zr512scT; (case zr512scF => k_asm); (case zr512scN => k_asm); (case zr512scM => k_mem); (case zr512scI => l_ints); (case zr512scA => omega); (case zr512scB => omega); (case zr512scZ => omega); (case zr512scS => with_unfolding_all rfl); (case zr512scT => (intro _; with_unfolding_all rfl))); intro _ _ _ _ _ _ zl1 _ _; (try k_lt zl1); (try k_sweep))
  k_with "CompSrc" => ((with_reducible show LCg.CompSrc _ _ _ _ _ _ _ (PySem.Expr.BinOp _ _ _ _) _ _ _ _ _ _); k_dflt ((refine LCg.CompSrc.range (by rfl) (by k_asm) (by k_asm) (by assumption) (by exact small_one (by omega) (by omega) (by omega) (by omega)) (by exact rangeSize_nat _ _) (by rw [PySem.sizeLine_eq]; omega) ?_; intro _; refine' comp_intsR (fun _ _ _ _ _ _ _ _ _ _ _ _ _ _ _ _ _ _ _ => ?_) (fun _ _ _ _ => ?_))); kcf_last)
  k_with "CompEnd" => ((first | refine LCg.CompEnd.intro (by assumption) (by assumption) _ ?zr514ceB ?zr514ceO ?zr514ceS ⟨rfl, _, _, rfl⟩ | refine LCg.CompEnd.intro (by assumption) (by assumption) _ ?zr514ceB ?zr514ceO ?zr514ceS ⟨rfl, _, rfl⟩); (case zr514ceB => (intro zp zhp; first | (exact SubL.mem (by k_subL) zp zhp) | kst_mem)); (case zr514ceO => first | assumption | (simp only [LCg.Off3, and_true]; assumption)); (case zr514ceS => first | exact True.intro | lcg_src | assumption))
  k_with "eval ListComp" => (k_here; (with_reducible show wpAny _ _ (eval (PySem.Expr.ListComp _ [⟨PySem.Expr.Tuple _ _ _, _, _, _⟩] _ _) _) _ _ _); k_dflt (refine ListComp_En (_F₀ := by k_asm) (by with_unfolding_all rfl) (by decide) (by rfl) (by decide) (by rfl) (by rfl) (by decide) ?_))
  k_with "call type:enumerate" => ((with_reducible show wpAny _ _ (call (Value.type _) [Value.ref _]) (EnSrc _ _ _ _ _ _ _ _ _ _ _ _ _) _ _); k_dflt (refine' enSrc_call (fun i z => 32 * (z % 40) + i) (by rfl) ?zr516enF ?zr516enN ?zr516enM ?zr516enI ?zr516enZ (fun _ _ _ _ _ _ _ _ _ _ _ _ zD' _ zys' _ zh' ztk' _ _ _ _ _ zF' zN' _ _ => ?_) (fun zD' zh' ztk' zys' _ zF' zN' zo' _ _ _ => ?_); (case zr516enF => k_asm); (case zr516enN => k_asm); (case zr516enM => k_mem); (case zr516enI => l_ints); (case zr516enZ => (rw [PySem.sizeLine_eq]; (refine Nat.le_trans (Nat.le_of_eq (IntsAre.length (by assumption))) ?_); omega))); rotate_left; (simp only [List.forall_mem_cons, List.not_mem_nil, false_implies, implies_true, and_true] at zo'); rotate_right)
  k_with "call ref" => ((with_reducible show wpAny _ _ (call (Value.ref 103) _) _ _ _); refine stop_of ?_)
  k_with "call ref" => ((with_reducible show wpAny _ _ (call (Value.ref 117) _) _ _ _); refine stop_of ?_)
  k_with "call ref" => ((with_reducible show wpAny _ _ (call (Value.ref 136) _) _ _ _); refine stop_of ?_)
  k_with "CompSrc" => ((with_reducible show LCg.CompSrc _ _ _ _ _ _ _ (PySem.Expr.Tuple _ _ _) _ _ _ _ _ _); refine stop_of ?_)
  k_with "subscriptTail Name BinOp ref int" => (k_here; (with_reducible show wpAny _ _ (subscriptTail _ _ (Value.ref _) (Value.int _ _)) _ _ _); k_dflt (refine' ksa_sub ?zr521sbA ?zr521sbB ?zr521sbC ?zr521sbD ?zr521sbE ?zr521sbG ?_ ?zr521sbH; (case zr521sbA => k_asm); (case zr521sbB => k_mem); (case zr521sbC => l_ints); (case zr521sbD => first | assumption | omega); (case zr521sbE => first | assumption | omega); (case zr521sbG => first | assumption | omega); (case zr521sbH => with_unfolding_all rfl); k_whole); intro _)
  k_go0
  (all_goals try k_fold)
  (rename IntsAre _ _ => hI)
  have hvl := hI.length
  rename List Int => ns0
  walk_at "mine go"
  unfold Stop
  rename _ = enumMap _ _ _ => hns
  rename List.Pairwise _ _ => hpw
  rename ((List.length _ : Nat) : Int) = 6 + _ => hsz
  obtain ⟨hsl, hs32, hnl⟩ := enum_sorted hns (by omega) (by assumption) hpw
  rename List.length _ = Int.toNat _ => hl9
  have hl9i := toNat_len hl9 (by omega)
  clear hl9
  obtain ⟨J1, hJ1, hJ2⟩ := PL.heap _ (by omega) hsl
  refine' new2r_use (lheap_c _ _ _ _ ?lp1 ?lp2 J1 hJ1) ?lk1 ?lk2 ?lk3 ?lk4 ?lk5 ?lkK ?lkd ?lku ?lm1 ?lm2 ?lne ?li1 ?li2 ?_
  case lk2 => k_asm
  case lk1 => k_asm
  case lk3 => k_asm
  case lk4 => k_asm
  case lk5 => k_asm
  case lkK => first | exact rfl | assumption
  case lkd => ktr_room
  case lku => ktr_units
  case lm1 => k_mem
  case lm2 => k_mem
  case lne => k_ne
  case li1 => l_ints
  case li2 => l_ints
  case lp1 => omega
  case lp2 => omega
  intro h' tk' r9 vs9 n9 row9 F' N' l9 hir9 ho'
  obtain ⟨free9, hJ9⟩ := ho'
  obtain ⟨hHp, hPm⟩ := hJ2 _ _ hJ9
  have hrow := row_len hPm.length_eq hnl hsz
  have hnd9 := nodup_of_lt hsl hPm
  simp only [List.forall_mem_cons, List.not_mem_nil, false_implies, implies_true, and_true] at l9
  walk_at "mine go"
  unfold Stop
  rename List Int => P9
  rename ((List.length P9 : Nat) : Int) = _ => hpl
  have hpl9 := picks_len hpl hrow
  refine' new2c_use (apart_c _ _ _ _ ?mp1 ?mp2) ?mk1 ?mk2 ?mk3 ?mk4 ?mk5 ?mkK ?mkd ?mku ?mm1 ?mm2 ?mne ?mi1 ?mi2 ?_
  case mk2 => k_asm
  case mk1 => k_asm
  case mk3 => k_asm
  case mk4 => k_asm
  case mk5 => k_asm
  case mkK => first | exact rfl | assumption
  case mkd => ktr_room
  case mku => ktr_units
  case mm1 => k_mem
  case mm2 => k_mem
  case mne => k_ne
  case mi1 => l_ints
  case mi2 => l_ints
  case mp1 => omega
  case mp2 => omega
  intro h' tk' r8 vs8 n8 F' N' l8 hir8
  simp only [List.forall_mem_cons, List.not_mem_nil, false_implies, implies_true, and_true] at l8
  walk_at "mine go"
  unfold Stop
  rename List Int => R9
  rename ((List.length R9 : Nat) : Int) = _ => hlr
  have hR9 := rest_len hlr hl9i
  k_dflt (refine LCg.CompSrc.range (by rfl) (by k_asm) (by k_asm) (by assumption) (by exact small_one (by omega) (by omega) (by omega) (by omega)) (by exact rangeSize_nat _ _) (by rw [PySem.sizeLine_eq]; omega) ?_)
  intro g9
  refine comp_pairsR (fun i => R9.getD (2 * (i : Int)).toNat 0 % 4) (fun i => 32 * (R9.getD (2 * (i : Int) + 1).toNat 0 % 40) + 12 + (i : Int)) ?_ ?_
  · intro i t I oI C oC D m₂ ys h tk E' T9 hin hC hx F9 N9 off9 ne9
    have off8 := off9
    simp only [List.cons_append, List.nil_append] at N9 off9
    simp only [LCg.Off3] at off9
    have hin2 := lt_toNat hin
    clear hin
    have hb1 : 0 ≤ 2 * (i : Int) := by omega
    have hb2 : 2 * (i : Int) < R9.length := by omega
    have hb3 : 0 ≤ 2 * (i : Int) + 1 := by omega
    have hb4 : 2 * (i : Int) + 1 < R9.length := by omega
    have hb5 : 2 * (i : Int) + 1 < 2 ^ 63 := by omega
    have hb6 : 2 * (i : Int) < 2 ^ 63 := by omega
    walk_at "mine go"
    exact pairs_end (fun _ => trivial) (by assumption) (by assumption) off8 (by assumption) (by assumption) (by assumption)
  · intro ys9 T9 hp9
    obtain ⟨es9, hp9, he1, he2, he3⟩ := steps_facts hp9 (toNat_le6 (by omega)) hs32 hPm
    walk_at "mine go"
    rename LCg.Off1 _ _ => ho1
    have hne1 := off_one ho1 (r9, listOf vs9.toArray n9) (List.mem_append_left _ (by k_mem))
    have hne2 := off_one ho1 (r8, listOf vs8.toArray n8) (List.mem_append_left _ (by k_mem))
    have hne3 := off_tail ho1
    unfold Stop
    obtain ⟨paJ, pahJ⟩ := PL.tab 1 row9 P9 es9 (by decide) hHp hnd9 (by omega) (by omega) hpl9 he1 he2 he3
    refine' tab_use (ltab_c _ _ _ _ rfl pahJ) ?pak1 ?pak2 ?pak3 ?pak4 ?pak5 ?pakK ?pakd ?paku ?pam0 ?pam1 ?pam2 ?pan1 ?pan2 ?pai1 ?pai2 ?past ?_
    case pak2 => k_asm
    case pak1 => k_asm
    case pak3 => k_asm
    case pak4 => k_asm
    case pak5 => k_asm
    case pakK => first | exact rfl | assumption
    case pakd => ktr_room
    case paku => ktr_units
    case pam0 => k_mem
    case pam1 => k_mem
    case pam2 => k_mem
    case pan1 => exact hne1
    case pan2 => exact hne2
    case pai1 => assumption
    case pai2 => assumption
    case past => exact pairs_pre (by assumption) hp9 (fun p hp => by kst_mem) hne3
    intro h' tk' F' N'
    walk_at "mine go"
    unfold Stop
    obtain ⟨pbJ, pbhJ⟩ := PL.tab (-1) row9 P9 es9 (by decide) hHp hnd9 (by omega) (by omega) hpl9 he1 he2 he3
    refine' tab_use (ltabx_c _ _ _ _ rfl pbhJ) ?pbk1 ?pbk2 ?pbk3 ?pbk4 ?pbk5 ?pbkK ?pbkd ?pbku ?pbm0 ?pbm1 ?pbm2 ?pbn1 ?pbn2 ?pbi1 ?pbi2 ?pbst ?_
    case pbk2 => k_asm
    case pbk1 => k_asm
    case pbk3 => k_asm
    case pbk4 => k_asm
    case pbk5 => k_asm
    case pbkK => first | exact rfl | assumption
    case pbkd => ktr_room
    case pbku => ktr_units
    case pbm0 => k_mem
    case pbm1 => k_mem
    case pbm2 => k_mem
    case pbn1 => exact hne1
    case pbn2 => exact hne2
    case pbi1 => assumption
    case pbi2 => assumption
    case pbst => exact pairs_pre (by assumption) hp9 (fun p hp => by kst_mem) hne3
    intro h' tk' F' N'
    walk_at "mine go"
    all_goals k_steps

structure SO (lt : Int → Int → Bool) : Prop where
  irr : ∀ a, lt a a = false
  tr : ∀ a b c, lt a b = true → lt b c = true → lt a c = true
  tot : ∀ a b, a ≠ b → lt a b = true ∨ lt b a = true
theorem SO.asym {lt : Int → Int → Bool} (S : SO lt) {a b : Int} (h : lt a b = true) : lt b a = false := by
  cases q : lt b a with
  | false => rfl
  | true =>
    have := S.tr _ _ _ h q
    rw [S.irr] at this
    cases this
theorem SO.ne {lt : Int → Int → Bool} (S : SO lt) {a b : Int} (h : lt a b = true) : a ≠ b := by
  intro e
  rw [e, S.irr] at h
  cases h
theorem SO.of_not {lt : Int → Int → Bool} (S : SO lt) {a b : Int} (h : lt a b = false) (e : a ≠ b) : lt b a = true := by
  rcases S.tot a b e with q | q
  · rw [h] at q; cases q
  · exact q
theorem soA : SO ltA := ⟨fun a => decide_eq_false (by omega), fun a b c h1 h2 => by
  have h1 := of_decide_eq_true h1
  have h2 := of_decide_eq_true h2
  exact decide_eq_true (by omega), fun a b h => by
  rcases Int.lt_or_gt_of_ne h with q | q
  · exact .inl (decide_eq_true q)
  · exact .inr (decide_eq_true q)⟩
theorem soB : SO ltB := ⟨fun a => decide_eq_false (by omega), fun a b c h1 h2 => by
  have h1 := of_decide_eq_true h1
  have h2 := of_decide_eq_true h2
  exact decide_eq_true (by omega), fun a b h => by
  rcases Int.lt_or_gt_of_ne h with q | q
  · exact .inr (decide_eq_true q)
  · exact .inl (decide_eq_true q)⟩

theorem gD_lt {hs : List Int} {k : Nat} (h : k < hs.length) : hs.getD k 0 = hs[k] := by
  simp [List.getD_eq_getElem?_getD, h]
theorem gD_same (hs : List Int) {i : Nat} (x : Int) (h : i < hs.length) : (hs.set i x).getD i 0 = x := by
  rw [gD_lt (by rw [List.length_set]; exact h), List.getElem_set_self]
theorem gD_ne (hs : List Int) {i k : Nat} (x : Int) (h : k ≠ i) : (hs.set i x).getD k 0 = hs.getD k 0 := by
  rw [List.getD_eq_getElem?_getD, List.getElem?_set_ne (Ne.symm h), ← List.getD_eq_getElem?_getD]
theorem gD_mem {hs : List Int} {k : Nat} (h : k < hs.length) : hs.getD k 0 ∈ hs := by
  rw [gD_lt h]; exact List.getElem_mem _
theorem gD_of_mem {hs : List Int} {x : Int} (h : x ∈ hs) : ∃ k, k < hs.length ∧ hs.getD k 0 = x := by
  obtain ⟨k, hk, e⟩ := List.getElem_of_mem h
  exact ⟨k, hk, by rw [gD_lt hk]; exact e⟩
theorem gD_ext {a b : List Int} (hl : a.length = b.length) (h : ∀ k, k < a.length → a.getD k 0 = b.getD k 0) : a = b := by
  refine List.ext_getElem hl fun k h1 h2 => ?_
  rw [← gD_lt h1, ← gD_lt h2]
  exact h k h1
theorem set_gD (hs : List Int) (i : Nat) : hs.set i (hs.getD i 0) = hs := by
  refine gD_ext (by rw [List.length_set]) fun k hk => ?_
  rw [List.length_set] at hk
  by_cases e : k = i
  · subst e; rw [gD_same _ _ hk]
  · rw [gD_ne _ _ e]
theorem gD_inj {hs : List Int} (h : hs.Nodup) {i j : Nat} (hi : i < hs.length) (hj : j < hs.length) (e : hs.getD i 0 = hs.getD j 0) : i = j := by
  rw [gD_lt hi, gD_lt hj] at e
  exact (List.getElem_inj h).mp e
theorem idx_gD {hs : List Int} (h : hs.Nodup) {i : Nat} (hi : i < hs.length) : hs.idxOf (hs.getD i 0) = i := by
  rw [gD_lt hi]
  exact List.Nodup.idxOf_getElem h i hi
theorem swap_perm {hs : List Int} {i j : Nat} (hi : i < hs.length) (hj : j < hs.length) (hne : i ≠ j) (x : Int) : ((hs.set i (hs.getD j 0)).set j x).Perm (hs.set i x) := by
  have q := List.set_set_perm (as := hs.set i x) (i := j) (j := i) (by rw [List.length_set]; exact hj) (by rw [List.length_set]; exact hi)
  have e1 : (hs.set i x)[i]'(by rw [List.length_set]; exact hi) = x := by rw [List.getElem_set_self]
  have e2 : (hs.set i x)[j]'(by rw [List.length_set]; exact hj) = hs.getD j 0 := by rw [List.getElem_set_ne hne, gD_lt hj]
  rw [e1, e2] at q
  have e : ((hs.set i x).set j x).set i (hs.getD j 0) = (hs.set i (hs.getD j 0)).set j x := by
    rw [List.set_comm _ _ (Ne.symm hne), List.set_set]
  rw [e] at q
  exact q

/-- every number of a place is greater than its parent -/
def Hp (lt : Int → Int → Bool) (hs : List Int) : Prop := ∀ k, 1 ≤ k → k < hs.length → lt (hs.getD ((k - 1) / 2) 0) (hs.getD k 0) = true
/-- the same of parents from i on -/
def HpF (lt : Int → Int → Bool) (i : Nat) (hs : List Int) : Prop := ∀ k, 1 ≤ k → k < hs.length → i ≤ (k - 1) / 2 → lt (hs.getD ((k - 1) / 2) 0) (hs.getD k 0) = true
theorem HpF.zero {lt : Int → Int → Bool} {hs : List Int} (h : HpF lt 0 hs) : Hp lt hs := fun k h1 h2 => h k h1 h2 (Nat.zero_le _)
theorem Hp.at_ {lt : Int → Int → Bool} {hs : List Int} (h : Hp lt hs) (i : Nat) : HpF lt i hs := fun k h1 h2 _ => h k h1 h2
theorem HpF.mono {lt : Int → Int → Bool} {hs : List Int} {i j : Nat} (h : HpF lt i hs) (hij : i ≤ j) : HpF lt j hs := fun k h1 h2 h3 => h k h1 h2 (Nat.le_trans hij h3)
theorem hp_root {lt : Int → Int → Bool} (S : SO lt) {hs : List Int} (h : Hp lt hs) : ∀ k, 1 ≤ k → k < hs.length → lt (hs.getD 0 0) (hs.getD k 0) = true := by
  intro k
  induction k using Nat.strongRecOn with
  | ind k ih =>
    intro h1 h2
    have q := h k h1 h2
    by_cases e : (k - 1) / 2 = 0
    · rw [e] at q; exact q
    · exact S.tr _ _ _ (ih _ (by omega) (by omega) (by omega)) q
theorem hp_dropLast {lt : Int → Int → Bool} {hs : List Int} (h : Hp lt hs) : Hp lt hs.dropLast := by
  intro k h1 h2
  rw [List.length_dropLast] at h2
  have e : ∀ j, j < hs.length - 1 → hs.dropLast.getD j 0 = hs.getD j 0 := by
    intro j hj
    rw [gD_lt (by rw [List.length_dropLast]; exact hj), gD_lt (by omega), List.getElem_dropLast]
  rw [e _ (by omega), e _ h2]
  exact h k h1 (by omega)

-- a child
theorem ch_cases (lt : Int → Int → Bool) (hs : List Int) (pos : Nat) : chN lt hs pos = 2 * pos + 1 ∨ chN lt hs pos = 2 * pos + 2 := by
  unfold chN; split
  · exact .inr rfl
  · exact .inl rfl
theorem ch_par (lt : Int → Int → Bool) (hs : List Int) (pos : Nat) : (chN lt hs pos - 1) / 2 = pos := by
  rcases ch_cases lt hs pos with e | e <;> rw [e] <;> omega
/-- the chosen child is the lesser one -/
theorem ch_min {lt : Int → Int → Bool} (S : SO lt) {hs : List Int} {pos k : Nat} (hc : 2 * pos + 1 < hs.length) (hk : k < hs.length) (hk1 : 1 ≤ k) (hp : (k - 1) / 2 = pos) (hne : k ≠ chN lt hs pos) (hd : hs.getD (2 * pos + 1) 0 ≠ hs.getD (2 * pos + 2) 0) : lt (hs.getD (chN lt hs pos) 0) (hs.getD k 0) = true := by
  have hk' : k = 2 * pos + 1 ∨ k = 2 * pos + 2 := by omega
  unfold chN at hne ⊢
  split
  · rename_i q
    rw [if_pos q] at hne
    have e : k = 2 * pos + 1 := by omega
    rw [e]
    exact S.of_not q.2 hd
  · rename_i q
    rw [if_neg q] at hne
    have e : k = 2 * pos + 2 := by omega
    subst e
    cases z : lt (hs.getD (2 * pos + 1) 0) (hs.getD (2 * pos + 2) 0) with
    | true => rfl
    | false => exact absurd ⟨hk, z⟩ q

/-- down from pos, as far as the lesser child is less than x -/
def dnN (lt : Int → Int → Bool) (x : Int) (hs : List Int) (pos : Nat) : List Int :=
  if 2 * pos + 1 < hs.length ∧ lt (hs.getD (chN lt hs pos) 0) x = true then dnN lt x (hs.set pos (hs.getD (chN lt hs pos) 0)) (chN lt hs pos) else hs.set pos x
termination_by hs.length - pos
decreasing_by
  have := chN_lt lt hs pos
  rw [List.length_set]
  omega
theorem sdN_any (lt : Int → Int → Bool) (x y : Int) (i : Nat) (hs : List Int) (j : Nat) : sdN lt x i (hs.set j y) j = sdN lt x i hs j := by
  conv => lhs; rw [sdN]
  conv => rhs; rw [sdN]
  by_cases h : i < j
  · have e : (j - 1) / 2 ≠ j := by omega
    rw [if_pos h, if_pos h, gD_ne _ _ e]
    simp only [List.set_set]
  · rw [if_neg h, if_neg h, List.set_set]
theorem dn_any (lt : Int → Int → Bool) (x y : Int) (hs : List Int) (pos : Nat) : dnN lt x (hs.set pos y) pos = dnN lt x hs pos := by
  have h1 : pos ≠ 2 * pos + 1 := by omega
  have h2 : pos ≠ 2 * pos + 2 := by omega
  have e : chN lt (hs.set pos y) pos = chN lt hs pos := by
    unfold chN
    rw [List.length_set, gD_ne _ _ (Ne.symm h1), gD_ne _ _ (Ne.symm h2)]
  have e2 : chN lt hs pos ≠ pos := Nat.ne_of_gt (chN_lt lt hs pos)
  conv => lhs; rw [dnN]
  conv => rhs; rw [dnN]
  rw [e, List.length_set, gD_ne _ _ e2]
  simp only [List.set_set]
theorem sdN_stop {lt : Int → Int → Bool} {x : Int} {i : Nat} {hs : List Int} {j : Nat} (h : j ≤ i ∨ lt x (hs.getD ((j - 1) / 2) 0) = false) : sdN lt x i hs j = hs.set j x := by
  rw [sdN]
  by_cases h1 : i < j
  · rw [if_pos h1, if_neg]
    rcases h with h | h
    · omega
    · rw [h]; decide
  · rw [if_neg h1]

theorem su_dn {lt : Int → Int → Bool} (S : SO lt) (x : Int) (start : Nat) : ∀ (n : Nat) (hs : List Int) (pos : Nat), hs.length - pos ≤ n → start ≤ pos → HpF lt (pos + 1) hs → (∀ k, pos < k → k < hs.length → hs.getD k 0 ≠ x) → (pos = start ∨ lt (hs.getD ((pos - 1) / 2) 0) x = true) →
    sdN lt x start (suDn lt hs pos).1 (suDn lt hs pos).2 = dnN lt x hs pos := by
  -- first: the way to the leaf and back to where D stops
  have key : ∀ (n : Nat) (hs : List Int) (pos : Nat), hs.length - pos ≤ n → start ≤ pos → HpF lt (pos + 1) hs → (∀ k, pos < k → k < hs.length → hs.getD k 0 ≠ x) → (2 * pos + 1 < hs.length → lt (hs.getD (chN lt hs pos) 0) x = false) →
      sdN lt x start (suDn lt hs pos).1 (suDn lt hs pos).2 = sdN lt x start hs pos := by
    intro n
    induction n with
    | zero =>
      intro hs pos hn hsp hh hx hc
      rw [suDn, if_neg (by omega)]
    | succ n ih =>
      intro hs pos hn hsp hh hx hc
      by_cases h1 : 2 * pos + 1 < hs.length
      · have c1 := chN_lt lt hs pos
        have c2 := chN_len lt hs pos h1
        have c3 := ch_par lt hs pos
        rw [suDn, if_pos h1]
        have hl : (hs.set pos (hs.getD (chN lt hs pos) 0)).length = hs.length := List.length_set
        rw [ih _ _ (by omega) (by omega) ?_ ?_ ?_]
        · -- back up one place
          have e1 : lt x (hs.getD (chN lt hs pos) 0) = true := S.of_not (hc h1) (hx _ c1 c2)
          have e2 : (hs.set pos (hs.getD (chN lt hs pos) 0)).getD ((chN lt hs pos - 1) / 2) 0 = hs.getD (chN lt hs pos) 0 := by rw [c3, gD_same _ _ (by omega)]
          rw [sdN, if_pos (by omega), e2, if_pos e1, c3]
          have e3 : (hs.set pos (hs.getD (chN lt hs pos) 0)).set (chN lt hs pos) (hs.getD (chN lt hs pos) 0) = hs.set pos (hs.getD (chN lt hs pos) 0) := by
            have := set_gD (hs.set pos (hs.getD (chN lt hs pos) 0)) (chN lt hs pos)
            rw [gD_ne _ _ (Nat.ne_of_gt c1)] at this
            exact this
          rw [e3, sdN_any]
        · intro k k1 k2 k3
          rw [hl] at k2
          rw [gD_ne _ _ (by omega), gD_ne _ _ (by omega)]
          exact hh k k1 k2 (by omega)
        · intro k k1 k2
          rw [hl] at k2
          rw [gD_ne _ _ (by omega)]
          exact hx k (by omega) k2
        · intro h2
          rw [hl] at h2
          have d1 := chN_lt lt (hs.set pos (hs.getD (chN lt hs pos) 0)) (chN lt hs pos)
          have d2 := chN_len lt (hs.set pos (hs.getD (chN lt hs pos) 0)) (chN lt hs pos) (by omega)
          have d3 := ch_par lt (hs.set pos (hs.getD (chN lt hs pos) 0)) (chN lt hs pos)
          rw [gD_ne _ _ (by omega)]
          have q := hh _ (by omega) (by omega : chN lt (hs.set pos (hs.getD (chN lt hs pos) 0)) (chN lt hs pos) < hs.length) (by omega)
          rw [d3] at q
          exact S.asym (S.tr _ _ _ (S.of_not (hc h1) (hx _ c1 c2)) q)
      · rw [suDn, if_neg h1]
  intro n
  induction n with
  | zero =>
    intro hs pos hn hsp hh hx hp
    rw [suDn, if_neg (by omega), dnN, if_neg (by omega)]
    refine sdN_stop ?_
    rcases hp with e | e
    · exact .inl (by omega)
    · exact .inr (S.asym e)
  | succ n ih =>
    intro hs pos hn hsp hh hx hp
    by_cases h1 : 2 * pos + 1 < hs.length
    · by_cases h2 : lt (hs.getD (chN lt hs pos) 0) x = true
      · have c1 := chN_lt lt hs pos
        have c2 := chN_len lt hs pos h1
        have c3 := ch_par lt hs pos
        have hl : (hs.set pos (hs.getD (chN lt hs pos) 0)).length = hs.length := List.length_set
        rw [suDn, if_pos h1, dnN, if_pos ⟨h1, h2⟩]
        refine ih _ _ (by omega) (by omega) ?_ ?_ (.inr ?_)
        · intro k k1 k2 k3
          rw [hl] at k2
          rw [gD_ne _ _ (by omega), gD_ne _ _ (by omega)]
          exact hh k k1 k2 (by omega)
        · intro k k1 k2
          rw [hl] at k2
          rw [gD_ne _ _ (by omega)]
          exact hx k (by omega) k2
        · rw [c3, gD_same _ _ (by omega)]
          exact h2
      · rw [key (n + 1) hs pos hn hsp hh hx (fun _ => by simpa using h2), dnN, if_neg (by rintro ⟨_, q⟩; exact h2 q)]
        refine sdN_stop ?_
        rcases hp with e | e
        · exact .inl (by omega)
        · exact .inr (S.asym e)
    · rw [suDn, if_neg h1, dnN, if_neg (by rintro ⟨q, _⟩; exact h1 q)]
      refine sdN_stop ?_
      rcases hp with e | e
      · exact .inl (by omega)
      · exact .inr (S.asym e)
/-- _siftup is the walk down that stops -/
theorem suN_dn {lt : Int → Int → Bool} (S : SO lt) {hs : List Int} {pos : Nat} (hp : pos < hs.length) (hh : HpF lt (pos + 1) hs) (hx : ∀ k, pos < k → k < hs.length → hs.getD k 0 ≠ hs.getD pos 0) : suN lt hs pos = dnN lt (hs.getD pos 0) hs pos := by
  have hd : (suDn lt hs pos).2 < (suDn lt hs pos).1.length := by
    rw [suDn_length lt _ hs pos (Nat.le_refl _)]
    have : ∀ (n : Nat) (hs : List Int) (pos : Nat), hs.length - pos ≤ n → pos < hs.length → (suDn lt hs pos).2 < hs.length := by
      intro n
      induction n with
      | zero => intro hs pos h1 h2; omega
      | succ n ih =>
        intro hs pos h1 h2
        rw [suDn]
        split
        · rename_i h3
          have c1 := chN_lt lt hs pos
          have c2 := chN_len lt hs pos h3
          have q := ih (hs.set pos (hs.getD (chN lt hs pos) 0)) (chN lt hs pos) (by rw [List.length_set]; omega) (by rw [List.length_set]; exact c2)
          rw [List.length_set] at q
          exact q
        · exact h2
    exact this _ hs pos (Nat.le_refl _) hp
  unfold suN
  rw [gD_same _ _ hd, sdN_any]
  exact su_dn S _ _ _ hs pos (Nat.le_refl _) (Nat.le_refl _) hh hx (.inl rfl)

/-- s lies under p, or is p -/
inductive Sub : Nat → Nat → Prop
  | refl (p : Nat) : Sub p p
  | step (p c s : Nat) : 1 ≤ c → (c - 1) / 2 = p → Sub c s → Sub p s
theorem Sub.le {p s : Nat} (h : Sub p s) : p ≤ s := by
  induction h with
  | refl p => exact Nat.le_refl _
  | step p c s h1 h2 _ ih => omega
theorem Sub.up {c s : Nat} (h : Sub c s) : s = c ∨ (c < s ∧ Sub c ((s - 1) / 2)) := by
  induction h with
  | refl p => exact .inl rfl
  | step p c s h1 h2 h ih =>
    right
    refine ⟨by have := h.le; omega, ?_⟩
    rcases ih with e | ⟨_, q⟩
    · rw [e, h2]; exact .refl p
    · exact .step p c _ h1 h2 q
theorem not_sub_sib {c k p : Nat} (hc : (c - 1) / 2 = p) (hc1 : 1 ≤ c) (hk : (k - 1) / 2 = p) (hne : k ≠ c) : ¬ Sub c k := by
  intro h
  rcases h.up with e | ⟨_, q⟩
  · exact hne e
  · rw [hk] at q
    have := q.le
    omega
theorem lf_keep {place k : Nat} (hk : k ≤ place) : ∀ (s : Nat) (hs : List Int), (lfDn hs s place).getD k 0 = hs.getD k 0 := by
  intro s
  induction s using Nat.strongRecOn with
  | ind s ih =>
    intro hs
    rw [lfDn]
    split
    · rw [ih _ (by omega), gD_ne _ _ (by omega)]
    · rfl
theorem lf_off {c k : Nat} (hk : ¬ Sub c k) : ∀ (s : Nat) (hs : List Int), Sub c s → (lfDn hs s c).getD k 0 = hs.getD k 0 := by
  intro s
  induction s using Nat.strongRecOn with
  | ind s ih =>
    intro hs h
    rw [lfDn]
    rcases h.up with e | ⟨q1, q2⟩
    · rw [if_neg (by omega)]
    · rw [if_pos q1, ih _ (by omega) _ q2, gD_ne _ _ (by rintro rfl; exact hk h)]
theorem lf_top {c p : Nat} (hc1 : 1 ≤ c) (hc : (c - 1) / 2 = p) : ∀ (s : Nat) (hs : List Int), Sub c s → lfDn hs s p = (lfDn hs s c).set c (hs.getD p 0) := by
  intro s
  induction s using Nat.strongRecOn with
  | ind s ih =>
    intro hs h
    rcases h.up with e | ⟨q1, q2⟩
    · subst e
      rw [lfDn, if_pos (by omega), hc]
      rw [lfDn, if_neg (by omega)]
      rw [lfDn, if_neg (by omega)]
    · rw [lfDn, if_pos (by omega), ih _ (by omega) _ q2, gD_ne _ _ (by omega)]
      conv => rhs; rw [lfDn, if_pos q1]
theorem lift_refl (hs : List Int) (p : Nat) : liftN hs p p = hs := by
  unfold liftN
  rw [lfDn, if_neg (by omega), set_gD]
theorem lift_at {hs : List Int} {s p : Nat} (hp : p < hs.length) : (liftN hs s p).getD p 0 = hs.getD s 0 := by
  unfold liftN
  rw [gD_same _ _ (by rw [lfDn_length]; exact hp)]
theorem lift_below {hs : List Int} {s p k : Nat} (hk : k < p) : (liftN hs s p).getD k 0 = hs.getD k 0 := by
  unfold liftN
  rw [gD_ne _ _ (by omega), lf_keep (by omega)]
theorem lift_off {hs : List Int} {s p k : Nat} (h : Sub p s) (hk : ¬ Sub p k) : (liftN hs s p).getD k 0 = hs.getD k 0 := by
  unfold liftN
  rw [gD_ne _ _ (by rintro rfl; exact hk (.refl _)), lf_off hk _ _ h]
/-- one turn at the top -/
theorem lift_top {hs : List Int} {s p c : Nat} (hc1 : 1 ≤ c) (hc : (c - 1) / 2 = p) (h : Sub c s) : liftN hs s p = ((liftN hs s c).set c (hs.getD p 0)).set p (hs.getD s 0) := by
  unfold liftN
  rw [lf_top hc1 hc _ _ h, List.set_set]
theorem sub_lt {lt : Int → Int → Bool} (S : SO lt) {hs : List Int} {p s : Nat} (h : Sub p s) (hl : s < hs.length) (hh : HpF lt p hs) : s = p ∨ lt (hs.getD p 0) (hs.getD s 0) = true := by
  induction h with
  | refl p => exact .inl rfl
  | step p c s h1 h2 h ih =>
    right
    have hc := h.le
    have q := hh c h1 (by omega) (by omega)
    rw [h2] at q
    rcases ih hl (hh.mono (by omega)) with e | e
    · rw [e]; exact q
    · exact S.tr _ _ _ q e
theorem lift_perm {hs : List Int} {p s : Nat} (h : Sub p s) (hl : s < hs.length) : (liftN hs s p).Perm hs := by
  induction h with
  | refl p => rw [lift_refl]
  | step p c s h1 h2 h ih =>
    have hc := h.le
    rw [lift_top h1 h2 h]
    have e1 : (liftN hs s c).getD p 0 = hs.getD p 0 := lift_below (by omega)
    have e2 : (liftN hs s c).getD c 0 = hs.getD s 0 := lift_at (by omega)
    rw [← e1, ← e2]
    refine (swap_perm (hs := liftN hs s c) (i := c) (j := p) (by rw [liftN_length]; omega) (by rw [liftN_length]; omega) (by omega) _).trans ?_
    rw [set_gD]
    exact ih hl
theorem lift_child {hs : List Int} {p s k : Nat} (h : Sub p s) (hl : s < hs.length) (hk1 : 1 ≤ k) (hk : (k - 1) / 2 = p) (hkl : k < hs.length) : (liftN hs s p).getD k 0 = hs.getD k 0 ∨ (liftN hs s p).getD k 0 = hs.getD p 0 := by
  cases h with
  | refl p => rw [lift_refl]; exact .inl rfl
  | step _ c _ h1 h2 h =>
    rw [lift_top h1 h2 h, gD_ne _ _ (by omega)]
    by_cases e : k = c
    · subst e
      right
      rw [gD_same _ _ (by rw [liftN_length]; exact hkl)]
    · left
      rw [gD_ne _ _ e, lift_off h (not_sub_sib h2 h1 hk e)]
theorem lift_hp {lt : Int → Int → Bool} (S : SO lt) {hs : List Int} {p s : Nat} (h : Sub p s) (hl : s < hs.length) (hh : HpF lt p hs) : HpF lt (p + 1) (liftN hs s p) := by
  induction h with
  | refl p => rw [lift_refl]; exact hh.mono (by omega)
  | step p c s h1 h2 h ih =>
    have hc := h.le
    have ih := ih hl (hh.mono (by omega))
    intro k k1 k2 k3
    rw [liftN_length] at k2
    have kc : k ≠ c := by rintro rfl; omega
    rw [lift_top h1 h2 h, gD_ne (i := p) (k := (k - 1) / 2) _ _ (by omega), gD_ne (i := p) (k := k) _ _ (by omega), gD_ne (i := c) (k := k) _ _ kc]
    by_cases qc : (k - 1) / 2 = c
    · rw [qc, gD_same _ _ (by rw [liftN_length]; omega)]
      have a1 := hh c h1 (by omega) (by omega)
      rw [h2] at a1
      rcases lift_child h hl k1 qc k2 with e | e
      · rw [e]
        have a2 := hh k k1 k2 (by omega)
        rw [qc] at a2
        exact S.tr _ _ _ a1 a2
      · rw [e]; exact a1
    · rw [gD_ne _ _ qc]
      by_cases q2 : c + 1 ≤ (k - 1) / 2
      · exact ih k k1 (by rw [liftN_length]; exact k2) q2
      · have n1 : ¬ Sub c ((k - 1) / 2) := fun z => by have := z.le; omega
        have n2 : ¬ Sub c k := fun z => by
          rcases z.up with e | ⟨_, e⟩
          · exact kc e
          · exact n1 e
        rw [lift_off h n1, lift_off h n2]
        exact hh k k1 k2 (by omega)
/-- the walk down undoes the lift -/
theorem dn_lift_inv {lt : Int → Int → Bool} (S : SO lt) {p s : Nat} (h : Sub p s) : ∀ {hs : List Int}, s < hs.length → HpF lt p hs → dnN lt (hs.getD s 0) (liftN hs s p) p = hs := by
  induction h with
  | refl p =>
    intro hs hl hh
    rw [lift_refl, dnN, if_neg, set_gD]
    rintro ⟨q1, q2⟩
    have c1 := chN_lt lt hs p
    have c2 := chN_len lt hs p q1
    have q := hh (chN lt hs p) (by omega) c2 (by rw [ch_par]; exact Nat.le_refl _)
    rw [ch_par, S.asym q2] at q
    cases q
  | step p c s h1 h2 h ih =>
    intro hs hl hh
    have hc := h.le
    have hB : (liftN hs s c).length = hs.length := liftN_length _ _ _
    have eA := lift_top (hs := hs) h1 h2 h
    generalize hAdef : liftN hs s p = A at eA
    have hA : A.length = hs.length := by rw [eA, List.length_set, List.length_set, hB]
    have aC : A.getD c 0 = hs.getD p 0 := by
      rw [eA, gD_ne _ _ (by omega), gD_same _ _ (by omega)]
    have aK : ∀ k, 1 ≤ k → (k - 1) / 2 = p → k ≠ c → A.getD k 0 = hs.getD k 0 := by
      intro k k1 kp kne
      rw [eA, gD_ne _ _ (by omega), gD_ne _ _ kne, lift_off h (not_sub_sib h2 h1 kp kne)]
    have lK : ∀ k, 1 ≤ k → k < hs.length → (k - 1) / 2 = p → k ≠ c → lt (A.getD c 0) (A.getD k 0) = true := by
      intro k k1 k2 kp kne
      rw [aC, aK k k1 kp kne]
      have q := hh k k1 k2 (by omega)
      rw [kp] at q
      exact q
    have ech : chN lt A p = c := by
      have c12 : c = 2 * p + 1 ∨ c = 2 * p + 2 := by omega
      unfold chN
      rcases c12 with e | e
      · rw [if_neg]
        · exact e.symm
        · rintro ⟨q1, q2⟩
          have q := lK (2 * p + 2) (by omega) (by omega) (by omega) (by omega)
          rw [e, q2] at q
          cases q
      · rw [if_pos]
        · exact e.symm
        · refine ⟨by omega, ?_⟩
          have q := lK (2 * p + 1) (by omega) (by omega) (by omega) (by omega)
          rw [e] at q
          exact S.asym q
    have lx : lt (A.getD c 0) (hs.getD s 0) = true := by
      rw [aC]
      have q := hh c h1 (by omega) (by omega)
      rw [h2] at q
      rcases sub_lt S h hl (hh.mono (by omega)) with e | e
      · rw [e]; exact q
      · exact S.tr _ _ _ q e
    rw [dnN, ech, if_pos ⟨by omega, lx⟩, aC, eA, List.set_set]
    have e1 : ((liftN hs s c).set c (hs.getD p 0)).set p (hs.getD p 0) = (liftN hs s c).set c (hs.getD p 0) := by
      rw [List.set_comm _ _ (by omega)]
      congr 1
      have := set_gD (liftN hs s c) p
      rw [lift_below (by omega)] at this
      exact this
    rw [e1, dn_any]
    exact ih hl (hh.mono (by omega))
theorem walk_sub : ∀ (t i n : Nat), i < n → Sub i (walkN n i t) ∧ walkN n i t < n := by
  intro t
  induction t using Nat.strongRecOn with
  | ind t ih =>
    intro i n hi
    rw [walkN]
    split
    · rename_i q
      obtain ⟨a, b⟩ := ih ((t - 1) / 2) (by omega) (2 * i + 1 + (t - 1) % 2) n q.2
      exact ⟨.step _ _ _ (by omega) (by omega) a, b⟩
    · exact ⟨.refl _, hi⟩
theorem apartN_length : ∀ (ps : List Int) (i : Nat) (hs : List Int), (apartN i ps hs).length = hs.length
  | [], i, hs => by rw [apartN]
  | p :: ps, i, hs => by rw [apartN, apartN_length ps, liftN_length]
theorem apart_perm : ∀ (ps : List Int) (i : Nat) (hs : List Int), i + ps.length ≤ hs.length → (apartN i ps hs).Perm hs
  | [], i, hs, _ => by rw [apartN]
  | p :: ps, i, hs, h => by
    rw [List.length_cons] at h
    rw [apartN]
    obtain ⟨a, b⟩ := walk_sub (p % 15).toNat i hs.length (by omega)
    exact (apart_perm ps (i + 1) _ (by rw [liftN_length]; omega)).trans (lift_perm a b)
theorem hpf_apart {lt : Int → Int → Bool} (S : SO lt) : ∀ (ps : List Int) (i : Nat) (hs : List Int), i + ps.length ≤ hs.length → hs.Nodup → HpF lt i hs → hpfN lt (i + ps.length) (apartN i ps hs) = hpfN lt i hs
  | [], i, hs, _, _, _ => by rw [apartN]; rfl
  | p :: ps, i, hs, h, nd, hh => by
    rw [List.length_cons] at h
    obtain ⟨a, b⟩ := walk_sub (p % 15).toNat i hs.length (by omega)
    rw [apartN, List.length_cons]
    have e : i + (ps.length + 1) = (i + 1) + ps.length := by omega
    have nd' : (liftN hs (walkN hs.length i (p % 15).toNat) i).Nodup := (lift_perm a b).nodup_iff.mpr nd
    have hh' := lift_hp S a b hh
    rw [e, hpf_apart S ps (i + 1) _ (by rw [liftN_length]; omega) nd' hh']
    show hpfN lt i (suN lt _ i) = _
    congr 1
    have il : i < (liftN hs (walkN hs.length i (p % 15).toNat) i).length := by rw [liftN_length]; omega
    rw [suN_dn S il hh' (fun k k1 k2 e => by have := gD_inj nd' k2 il e; omega), lift_at (by omega)]
    exact dn_lift_inv S a b hh

theorem dn_length (lt : Int → Int → Bool) (x : Int) : ∀ (n : Nat) (hs : List Int) (pos : Nat), hs.length - pos ≤ n → (dnN lt x hs pos).length = hs.length := by
  intro n
  induction n with
  | zero =>
    intro hs pos h
    rw [dnN, if_neg (by rintro ⟨q, _⟩; omega), List.length_set]
  | succ n ih =>
    intro hs pos h
    rw [dnN]
    split
    · have := chN_lt lt hs pos
      rw [ih _ _ (by rw [List.length_set]; omega), List.length_set]
    · rw [List.length_set]
theorem dn_below (lt : Int → Int → Bool) (x : Int) {k : Nat} : ∀ (n : Nat) (hs : List Int) (pos : Nat), hs.length - pos ≤ n → k < pos → (dnN lt x hs pos).getD k 0 = hs.getD k 0 := by
  intro n
  induction n with
  | zero =>
    intro hs pos h hk
    rw [dnN, if_neg (by rintro ⟨q, _⟩; omega), gD_ne _ _ (by omega)]
  | succ n ih =>
    intro hs pos h hk
    rw [dnN]
    split
    · have := chN_lt lt hs pos
      rw [ih _ _ (by rw [List.length_set]; omega) (by omega), gD_ne _ _ (by omega)]
    · rw [gD_ne _ _ (by omega)]
theorem dn_perm (lt : Int → Int → Bool) (x : Int) : ∀ (n : Nat) (hs : List Int) (pos : Nat), hs.length - pos ≤ n → pos < hs.length → (dnN lt x hs pos).Perm (hs.set pos x) := by
  intro n
  induction n with
  | zero => intro hs pos h hp; omega
  | succ n ih =>
    intro hs pos h hp
    rw [dnN]
    split
    · rename_i q
      have c1 := chN_lt lt hs pos
      have c2 := chN_len lt hs pos q.1
      exact (ih _ _ (by rw [List.length_set]; omega) (by rw [List.length_set]; exact c2)).trans (swap_perm hp c2 (by omega) x)
    · exact List.Perm.refl _
/-- where x comes to lie, and how the list was ahead of the walk -/
theorem dn_lift (lt : Int → Int → Bool) (x : Int) : ∀ (n : Nat) (hs : List Int) (pos : Nat), hs.length - pos ≤ n → pos < hs.length → ∃ s, Sub pos s ∧ s < hs.length ∧ (dnN lt x hs pos).getD s 0 = x ∧ liftN (dnN lt x hs pos) s pos = hs.set pos x := by
  intro n
  induction n with
  | zero => intro hs pos h hp; omega
  | succ n ih =>
    intro hs pos h hp
    rw [dnN]
    split
    · rename_i q
      have c1 := chN_lt lt hs pos
      have c2 := chN_len lt hs pos q.1
      have c3 := ch_par lt hs pos
      generalize hc : chN lt hs pos = c at c1 c2 c3
      have hl : (hs.set pos (hs.getD c 0)).length = hs.length := List.length_set
      obtain ⟨s, a1, a2, a3, a4⟩ := ih (hs.set pos (hs.getD c 0)) c (by omega) (by omega)
      rw [hl] at a2
      refine ⟨s, .step pos c s (by omega) c3 a1, a2, a3, ?_⟩
      rw [lift_top (by omega) c3 a1, a4, a3, dn_below lt x _ _ _ (Nat.le_refl _) c1, gD_same _ _ hp, List.set_set]
      have e : (hs.set pos (hs.getD c 0)).set c (hs.getD c 0) = hs.set pos (hs.getD c 0) := by
        have := set_gD (hs.set pos (hs.getD c 0)) c
        rw [gD_ne _ _ (by omega)] at this
        exact this
      rw [e, List.set_set]
    · exact ⟨pos, .refl _, hp, gD_same _ _ hp, lift_refl _ _⟩
theorem dn_heap {lt : Int → Int → Bool} (S : SO lt) (x : Int) : ∀ (n : Nat) (hs : List Int) (pos : Nat), hs.length - pos ≤ n → pos < hs.length → (hs.set pos x).Nodup →
    (∀ k, 1 ≤ k → k < hs.length → k ≠ pos → (k - 1) / 2 ≠ pos → lt (hs.getD ((k - 1) / 2) 0) (hs.getD k 0) = true) →
    (1 ≤ pos → lt (hs.getD ((pos - 1) / 2) 0) x = true ∧ ∀ k, 1 ≤ k → k < hs.length → (k - 1) / 2 = pos → lt (hs.getD ((pos - 1) / 2) 0) (hs.getD k 0) = true) → Hp lt (dnN lt x hs pos) := by
  intro n
  induction n with
  | zero => intro hs pos h hp; omega
  | succ n ih =>
    intro hs pos h hp nd E U
    have dx : ∀ k, k < hs.length → k ≠ pos → hs.getD k 0 ≠ x := by
      intro k hk hne e
      have q := gD_inj nd (i := k) (j := pos) (by rw [List.length_set]; exact hk) (by rw [List.length_set]; exact hp) (by rw [gD_ne _ _ hne, gD_same _ _ hp]; exact e)
      exact hne q
    have dd : ∀ j k, j < hs.length → k < hs.length → j ≠ pos → k ≠ pos → j ≠ k → hs.getD j 0 ≠ hs.getD k 0 := by
      intro j k hj hk h1 h2 h3 e
      exact h3 (gD_inj nd (i := j) (j := k) (by rw [List.length_set]; exact hj) (by rw [List.length_set]; exact hk) (by rw [gD_ne _ _ h1, gD_ne _ _ h2]; exact e))
    rw [dnN]
    split
    · rename_i q
      obtain ⟨q1, q2⟩ := q
      have c1 := chN_lt lt hs pos
      have c2 := chN_len lt hs pos q1
      have c3 := ch_par lt hs pos
      have cm : ∀ k, 1 ≤ k → k < hs.length → (k - 1) / 2 = pos → k ≠ chN lt hs pos → lt (hs.getD (chN lt hs pos) 0) (hs.getD k 0) = true := by
        intro k k1 k2 kp kne
        have cc := ch_cases lt hs pos
        by_cases z : 2 * pos + 2 < hs.length
        · exact ch_min S q1 k2 k1 kp kne (dd _ _ q1 z (by omega) (by omega) (by omega))
        · have : chN lt hs pos = 2 * pos + 1 := by
            rcases cc with e | e
            · exact e
            · omega
          omega
      generalize hc : chN lt hs pos = c at c1 c2 c3 cm q2
      have hl : (hs.set pos (hs.getD c 0)).length = hs.length := List.length_set
      refine ih _ _ (by omega) (by omega) ?_ ?_ ?_
      · exact (swap_perm hp c2 (by omega) x).nodup_iff.mpr nd
      · intro k k1 k2 kc kpc
        rw [hl] at k2
        by_cases e1 : (k - 1) / 2 = pos
        · have ekp : k ≠ pos := by omega
          rw [e1, gD_same _ _ hp, gD_ne _ _ ekp]
          exact cm k k1 k2 e1 kc
        · rw [gD_ne _ _ e1]
          by_cases e2 : k = pos
          · subst e2
            rw [gD_same _ _ hp]
            exact (U k1).2 c (by omega) c2 c3
          · rw [gD_ne _ _ e2]
            exact E k k1 k2 e2 e1
      · intro hc1
        rw [c3, gD_same _ _ hp]
        refine ⟨q2, fun k k1 k2 kp => ?_⟩
        rw [hl] at k2
        rw [gD_ne _ _ (by omega)]
        have := E k k1 k2 (by omega) (by omega)
        rw [kp] at this
        exact this
    · rename_i q
      intro k k1 k2
      rw [List.length_set] at k2
      by_cases e1 : k = pos
      · subst e1
        rw [gD_same _ _ hp, gD_ne _ _ (by omega)]
        exact (U k1).1
      · rw [gD_ne (k := k) _ _ e1]
        by_cases e2 : (k - 1) / 2 = pos
        · rw [e2, gD_same _ _ hp]
          have q1 : 2 * pos + 1 < hs.length := by omega
          have c1 := chN_lt lt hs pos
          have c2 := chN_len lt hs pos q1
          have nl : lt (hs.getD (chN lt hs pos) 0) x = false := by
            cases z : lt (hs.getD (chN lt hs pos) 0) x with
            | false => rfl
            | true => exact absurd ⟨q1, z⟩ q
          have lx : lt x (hs.getD (chN lt hs pos) 0) = true := S.of_not nl (dx _ c2 (by omega))
          by_cases e3 : k = chN lt hs pos
          · rw [e3]; exact lx
          · refine S.tr _ _ _ lx ?_
            have cc := ch_cases lt hs pos
            by_cases z : 2 * pos + 2 < hs.length
            · exact ch_min S q1 k2 k1 e2 e3 (dd _ _ q1 z (by omega) (by omega) (by omega))
            · have : chN lt hs pos = 2 * pos + 1 := by
                rcases cc with e | e
                · exact e
                · omega
              omega
        · rw [gD_ne _ _ e2]
          exact E k k1 k2 e1 e2
/-- a new number at the root of a heap, sifted -/
theorem root_su {lt : Int → Int → Bool} (S : SO lt) {hs : List Int} {x : Int} (hh : Hp lt hs) (h0 : 0 < hs.length) (nd : (hs.set 0 x).Nodup) :
    Hp lt (suN lt (hs.set 0 x) 0) ∧ (suN lt (hs.set 0 x) 0).Perm (hs.set 0 x) ∧ liftN (suN lt (hs.set 0 x) 0) ((suN lt (hs.set 0 x) 0).idxOf x) 0 = hs.set 0 x ∧ (suN lt (hs.set 0 x) 0).length = hs.length := by
  have hl : (hs.set 0 x).length = hs.length := List.length_set
  have e : suN lt (hs.set 0 x) 0 = dnN lt x hs 0 := by
    rw [suN_dn S (by omega) (fun k k1 k2 k3 => ?_) (fun k k1 k2 q => ?_), gD_same _ _ h0, dn_any]
    · rw [hl] at k2
      rw [gD_ne _ _ (by omega), gD_ne _ _ (by omega)]
      exact hh k k1 k2
    · have := gD_inj nd k2 (by omega) q
      omega
  rw [e]
  obtain ⟨s, a1, a2, a3, a4⟩ := dn_lift lt x hs.length hs 0 (by omega) h0
  have pm := dn_perm lt x hs.length hs 0 (by omega) h0
  refine ⟨dn_heap S x hs.length hs 0 (by omega) h0 nd (fun k k1 k2 _ _ => hh k k1 k2) (fun h => by omega), pm, ?_, dn_length lt x hs.length hs 0 (by omega)⟩
  have nd' := pm.nodup_iff.mpr nd
  have q := idx_gD nd' (i := s) (by rw [dn_length lt x hs.length hs 0 (by omega)]; exact a2)
  rw [a3] at q
  rw [q]
  exact a4

theorem sd_perm (lt : Int → Int → Bool) (x : Int) : ∀ (j : Nat) (hs : List Int), j < hs.length → (sdN lt x 0 hs j).Perm (hs.set j x) := by
  intro j
  induction j using Nat.strongRecOn with
  | ind j ih =>
    intro hs hj
    rw [sdN]
    split
    · split
      · exact (ih _ (by omega) _ (by rw [List.length_set]; omega)).trans (swap_perm hj (by omega) (by omega) x)
      · exact List.Perm.refl _
    · exact List.Perm.refl _
theorem sd_above (lt : Int → Int → Bool) (x : Int) {k : Nat} : ∀ (j : Nat) (hs : List Int), j < k → (sdN lt x 0 hs j).getD k 0 = hs.getD k 0 := by
  intro j
  induction j using Nat.strongRecOn with
  | ind j ih =>
    intro hs hk
    rw [sdN]
    split
    · split
      · rw [ih _ (by omega) _ (by omega), gD_ne _ _ (by omega)]
      · rw [gD_ne _ _ (by omega)]
    · rw [gD_ne _ _ (by omega)]
theorem sd_heap {lt : Int → Int → Bool} (S : SO lt) (x : Int) : ∀ (j : Nat) (hs : List Int), j < hs.length → (hs.set j x).Nodup →
    (∀ k, 1 ≤ k → k < hs.length → k ≠ j → (k - 1) / 2 ≠ j → lt (hs.getD ((k - 1) / 2) 0) (hs.getD k 0) = true) →
    (∀ k, 1 ≤ k → k < hs.length → (k - 1) / 2 = j → k ≠ j → lt x (hs.getD k 0) = true ∧ (1 ≤ j → lt (hs.getD ((j - 1) / 2) 0) (hs.getD k 0) = true)) → Hp lt (sdN lt x 0 hs j) := by
  intro j
  induction j using Nat.strongRecOn with
  | ind j ih =>
    intro hs hj nd E U
    have stop : (1 ≤ j → lt (hs.getD ((j - 1) / 2) 0) x = true) → Hp lt (hs.set j x) := by
      intro hp k k1 k2
      rw [List.length_set] at k2
      by_cases e1 : k = j
      · subst e1
        rw [gD_same _ _ hj, gD_ne _ _ (by omega)]
        exact hp k1
      · rw [gD_ne (k := k) _ _ e1]
        by_cases e2 : (k - 1) / 2 = j
        · rw [e2, gD_same _ _ hj]
          exact (U k k1 k2 e2 e1).1
        · rw [gD_ne _ _ e2]
          exact E k k1 k2 e1 e2
    rw [sdN]
    split
    · rename_i h0
      split
      · rename_i hlt
        have hl : (hs.set j (hs.getD ((j - 1) / 2) 0)).length = hs.length := List.length_set
        refine ih ((j - 1) / 2) (by omega) _ (by omega) ((swap_perm hj (by omega) (by omega) x).nodup_iff.mpr nd) ?_ ?_
        · intro k k1 k2 kne kpne
          rw [hl] at k2
          have ekj : k ≠ j := by rintro rfl; exact kpne rfl
          rw [gD_ne (k := k) _ _ ekj]
          by_cases e2 : (k - 1) / 2 = j
          · rw [e2, gD_same _ _ hj]
            exact (U k k1 k2 e2 ekj).2 (by omega)
          · rw [gD_ne _ _ e2]
            exact E k k1 k2 ekj e2
        · intro k k1 k2 kp kne
          rw [hl] at k2
          by_cases ekj : k = j
          · subst ekj
            rw [gD_same _ _ hj]
            refine ⟨hlt, fun hp1 => ?_⟩
            rw [gD_ne _ _ (by omega)]
            exact E ((k - 1) / 2) hp1 (by omega) (by omega) (by omega)
          · rw [gD_ne (k := k) _ _ ekj]
            have q := E k k1 k2 ekj (by omega)
            rw [kp] at q
            refine ⟨S.tr _ _ _ hlt q, fun hp1 => ?_⟩
            rw [gD_ne _ _ (by omega)]
            exact S.tr _ _ _ (E ((j - 1) / 2) hp1 (by omega) (by omega) (by omega)) q
      · rename_i hlt
        refine stop fun _ => ?_
        have hlt' : lt x (hs.getD ((j - 1) / 2) 0) = false := by
          cases z : lt x (hs.getD ((j - 1) / 2) 0) with
          | false => rfl
          | true => exact absurd z hlt
        refine S.of_not hlt' fun e => ?_
        have q := gD_inj nd (i := (j - 1) / 2) (j := j) (by rw [List.length_set]; omega) (by rw [List.length_set]; exact hj) (by rw [gD_ne _ _ (by omega), gD_same _ _ hj]; exact e.symm)
        omega
    · exact stop fun h => by omega
theorem wayL_ne (row : List Int) (item : Int) (w : Nat) : wayL row item w ≠ [] := by
  rw [wayL]; split <;> simp
theorem wayL_head (row : List Int) (item : Int) (w : Nat) : (wayL row item w).getD 0 0 = (w : Int) := by
  rw [wayL]; split <;> simp
theorem wayL_le (row : List Int) (item : Int) : ∀ (w : Nat), ∀ x ∈ wayL row item w, 0 ≤ x ∧ x ≤ (w : Int) := by
  intro w
  induction w using Nat.strongRecOn with
  | ind w ih =>
    intro x hx
    rw [wayL] at hx
    split at hx
    · rcases List.mem_cons.mp hx with rfl | hx
      · omega
      · have := ih _ (by omega) x hx
        omega
    · rw [List.mem_singleton.mp hx]; omega
theorem shL_off {k : Nat} : ∀ (m : Nat) (way row : List Int), (∀ x ∈ way, x.toNat < k) → m < way.length → (shL way m row).getD k 0 = row.getD k 0 := by
  intro m
  induction m with
  | zero => intro way row _ _; rw [shL]
  | succ m ih =>
    intro way row h hm
    rw [shL, ih _ _ h (by omega), gD_ne]
    have q := h _ (gD_mem hm)
    omega
theorem shL_length : ∀ (m : Nat) (way row : List Int), (shL way m row).length = row.length := by
  intro m
  induction m with
  | zero => intro way row; rw [shL]
  | succ m ih => intro way row; rw [shL, ih, List.length_set]
theorem shL_cons (w : Int) : ∀ (k : Nat) (way row : List Int), shL (w :: way) (k + 1) row = (shL way k row).set (way.getD 0 0).toNat ((shL way k row).getD w.toNat 0) := by
  intro k
  induction k with
  | zero =>
    intro way row
    rw [shL, shL, shL]
    simp
  | succ k ih =>
    intro way row
    rw [shL, ih]
    conv => rhs; rw [shL]
    simp
theorem sd_at_ne {lt : Int → Int → Bool} (S : SO lt) {x : Int} {hs : List Int} {j : Nat} (hj : j < hs.length) (h0 : 0 < j) (hlt : lt x (hs.getD ((j - 1) / 2) 0) = true) : (sdN lt x 0 hs j).getD j 0 = hs.getD ((j - 1) / 2) 0 ∧ (sdN lt x 0 hs j).getD j 0 ≠ x := by
  have e : (sdN lt x 0 hs j).getD j 0 = hs.getD ((j - 1) / 2) 0 := by
    rw [sdN, if_pos h0, if_pos hlt, sd_above lt x _ _ (by omega), gD_same _ _ hj]
  refine ⟨e, ?_⟩
  rw [e]
  exact (S.ne hlt).symm
/-- what went up comes down again -/
theorem sd_back {lt : Int → Int → Bool} (S : SO lt) (x : Int) : ∀ (j : Nat) (hs : List Int), j < hs.length →
    (∃ y, shL (wayL (sdN lt x 0 hs j) x j) ((wayL (sdN lt x 0 hs j) x j).length - 1) (sdN lt x 0 hs j) = hs.set j y) ∧ (sdN lt x 0 hs j).getD ((wayL (sdN lt x 0 hs j) x j).getLastD 0).toNat 0 = x := by
  intro j
  induction j using Nat.strongRecOn with
  | ind j ih =>
    intro hs hj
    by_cases h0 : 0 < j
    · by_cases hlt : lt x (hs.getD ((j - 1) / 2) 0) = true
      · obtain ⟨e1, e2⟩ := sd_at_ne S hj h0 hlt
        have er : sdN lt x 0 hs j = sdN lt x 0 (hs.set j (hs.getD ((j - 1) / 2) 0)) ((j - 1) / 2) := by
          conv => lhs; rw [sdN]
          rw [if_pos h0, if_pos hlt]
        have hl : (hs.set j (hs.getD ((j - 1) / 2) 0)).length = hs.length := List.length_set
        obtain ⟨⟨y, a1⟩, a2⟩ := ih ((j - 1) / 2) (by omega) (hs.set j (hs.getD ((j - 1) / 2) 0)) (by omega)
        rw [← er] at a1 a2
        generalize hR : sdN lt x 0 hs j = R at *
        have hRl : R.length = hs.length := by rw [← hR, sdN_length]
        have ew : wayL R x j = (j : Int) :: wayL R x ((j - 1) / 2) := by
          rw [wayL, if_pos ⟨e2, h0⟩]
        have hwn := wayL_ne R x ((j - 1) / 2)
        have hwl : 0 < (wayL R x ((j - 1) / 2)).length := List.length_pos_iff.mpr hwn
        refine ⟨⟨hs.getD ((j - 1) / 2) 0, ?_⟩, ?_⟩
        · rw [ew, List.length_cons]
          obtain ⟨k, hk⟩ : ∃ k, (wayL R x ((j - 1) / 2)).length = k + 1 := ⟨_, (Nat.succ_pred_eq_of_pos hwl).symm⟩
          rw [hk] at a1 ⊢
          rw [Nat.add_sub_cancel] at a1 ⊢
          rw [shL_cons, a1, wayL_head]
          have e3 : ((((j - 1) / 2 : Nat) : Int)).toNat = (j - 1) / 2 := by omega
          have e4 : ((j : Int)).toNat = j := by omega
          rw [e3, e4, gD_ne _ _ (by omega), gD_same _ _ hj, List.set_set]
          have := set_gD (hs.set j (hs.getD ((j - 1) / 2) 0)) ((j - 1) / 2)
          rw [gD_ne _ _ (by omega)] at this
          exact this
        · rw [ew]
          have e5 : ((j : Int) :: wayL R x ((j - 1) / 2)).getLastD 0 = (wayL R x ((j - 1) / 2)).getLastD 0 := by
            rw [List.getLastD_cons, List.getLastD_eq_getLast?, List.getLastD_eq_getLast?, List.getLast?_eq_some_getLast hwn]
            rfl
          rw [e5]
          exact a2
      · have er : sdN lt x 0 hs j = hs.set j x := by rw [sdN, if_pos h0, if_neg hlt]
        have ew : wayL (hs.set j x) x j = [(j : Int)] := by
          rw [wayL, if_neg]
          rintro ⟨q, _⟩
          exact q (gD_same _ _ hj)
        rw [er, ew]
        refine ⟨⟨x, by rw [List.length_singleton]; rfl⟩, ?_⟩
        have e4 : ((j : Int)).toNat = j := by omega
        show (hs.set j x).getD ((j : Int)).toNat 0 = x
        rw [e4, gD_same _ _ hj]
    · have er : sdN lt x 0 hs j = hs.set j x := by rw [sdN, if_neg h0]
      have ew : wayL (hs.set j x) x j = [(j : Int)] := by
        rw [wayL, if_neg (by rintro ⟨_, q⟩; exact h0 q)]
      rw [er, ew]
      refine ⟨⟨x, by rw [List.length_singleton]; rfl⟩, ?_⟩
      have e4 : ((j : Int)).toNat = j := by omega
      show (hs.set j x).getD ((j : Int)).toNat 0 = x
      rw [e4, gD_same _ _ hj]
/-- heappush -/
theorem push_all {lt : Int → Int → Bool} (S : SO lt) {hs : List Int} {x : Int} (hh : Hp lt hs) (nd : (hs ++ [x]).Nodup) :
    Hp lt (pushN lt hs x) ∧ (pushN lt hs x).Perm (hs ++ [x]) ∧ (pushN lt hs x).length = hs.length + 1 ∧ unpushN (pushN lt hs x) x = hs ∧
    (pushN lt hs x).getD ((wayL (pushN lt hs x) x ((pushN lt hs x).length - 1)).getLastD 0).toNat 0 = x := by
  have hl : (hs ++ [x]).length = hs.length + 1 := by rw [List.length_append]; rfl
  have hx : (hs ++ [x]).getD hs.length 0 = x := by simp
  have hset : (hs ++ [x]).set hs.length x = hs ++ [x] := by
    have := set_gD (hs ++ [x]) hs.length
    rw [hx] at this
    exact this
  have hi : ∀ k, k < hs.length → (hs ++ [x]).getD k 0 = hs.getD k 0 := by
    intro k hk
    rw [List.getD_eq_getElem?_getD, List.getElem?_append_left hk, ← List.getD_eq_getElem?_getD]
  have hlen : (pushN lt hs x).length = hs.length + 1 := by unfold pushN; rw [sdN_length, hl]
  have b := sd_back S x hs.length (hs ++ [x]) (by omega)
  obtain ⟨⟨y, b1⟩, b2⟩ := b
  refine ⟨?_, ?_, hlen, ?_, ?_⟩
  · unfold pushN
    refine sd_heap S x hs.length (hs ++ [x]) (by omega) (by rw [hset]; exact nd) (fun k k1 k2 k3 k4 => ?_) (fun k k1 k2 k3 k4 => by omega)
    rw [hi _ (by omega), hi _ (by omega)]
    exact hh k k1 (by omega)
  · unfold pushN
    have := sd_perm lt x hs.length (hs ++ [x]) (by omega)
    rw [hset] at this
    exact this
  · unfold unpushN
    rw [hlen, Nat.add_sub_cancel]
    have b1' : shL (wayL (pushN lt hs x) x hs.length) ((wayL (pushN lt hs x) x hs.length).length - 1) (pushN lt hs x) = (hs ++ [x]).set hs.length y := b1
    rw [b1']
    rw [List.set_append_right _ _ (Nat.le_refl _), Nat.sub_self, List.set_cons_zero, List.dropLast_concat]
  · rw [hlen, Nat.add_sub_cancel]
    exact b2

structure StepOk (lt : Int → Int → Bool) (row : List Int) (kd item : Int) (r : List Int) (out : Option Int) : Prop where
  hp : Hp lt r
  nd : r.Nodup
  le1 : r.length ≤ row.length + 1
  le2 : row.length ≤ r.length + 1
  mem : ∀ y ∈ r, y ∈ row ∨ y = item
  bk : BackOk r (kd, item, out)
  un : backStep r (kd, item, out) = row
  ok0 : kd = 0 → out = none
  ok1 : kd ≠ 0 → ∃ o, out = some o ∧ (kd ≠ 2 → ∀ y ∈ r, lt o y = true)
theorem nodup_snoc {hs : List Int} {x : Int} (nd : hs.Nodup) (hx : x ∉ hs) : (hs ++ [x]).Nodup := by
  rw [List.nodup_append]
  refine ⟨nd, by simp, ?_⟩
  intro a ha b hb e
  rw [List.mem_singleton.mp hb] at e
  exact hx (e ▸ ha)
theorem step_push {lt : Int → Int → Bool} (S : SO lt) {row : List Int} {item : Int} (hh : Hp lt row) (nd : row.Nodup) (hx : item ∉ row) (hl : row.length < 2 ^ 18) : StepOk lt row 0 item (pushN lt row item) none := by
  have nd' := nodup_snoc nd hx
  obtain ⟨a1, a2, a3, a4, a5⟩ := push_all S hh nd'
  refine ⟨a1, a2.nodup_iff.mpr nd', by omega, by omega, fun y hy => ?_, ⟨by omega, fun _ => ⟨by omega, a5⟩, fun h => absurd rfl h⟩, ?_, fun _ => rfl, fun h => absurd rfl h⟩
  · rcases List.mem_append.mp (a2.mem_iff.mp hy) with h | h
    · exact .inl h
    · exact .inr (List.mem_singleton.mp h)
  · unfold backStep
    dsimp only
    rw [if_pos rfl]
    exact a4
theorem nodup_set0 {row : List Int} {x : Int} (nd : row.Nodup) (hx : ∀ k, 1 ≤ k → k < row.length → row.getD k 0 ≠ x) : (row.set 0 x).Nodup := by
  refine nodup_of_mod fun i j hi hj e => ?_
  rw [List.length_set] at hi hj
  by_cases h1 : i = 0
  · by_cases h2 : j = 0
    · omega
    · subst h1
      rw [gD_same _ _ hi, gD_ne _ _ h2] at e
      exact absurd e.symm (hx j (by omega) hj)
  · by_cases h2 : j = 0
    · subst h2
      rw [gD_same _ _ hj, gD_ne _ _ h1] at e
      exact absurd e (hx i (by omega) hi)
    · rw [gD_ne _ _ h1, gD_ne _ _ h2] at e
      exact gD_inj nd hi hj e
theorem mem_set0 {row : List Int} {x y : Int} (h : y ∈ row.set 0 x) (_h0 : 0 < row.length) : y = x ∨ ∃ k, 1 ≤ k ∧ k < row.length ∧ row.getD k 0 = y := by
  obtain ⟨k, hk, e⟩ := gD_of_mem h
  rw [List.length_set] at hk
  by_cases h1 : k = 0
  · subst h1
    rw [gD_same _ _ hk] at e
    exact .inl e.symm
  · rw [gD_ne _ _ h1] at e
    exact .inr ⟨k, by omega, hk, e⟩
theorem mem_set0_self {row : List Int} {x : Int} (h0 : 0 < row.length) : x ∈ row.set 0 x := by
  have := gD_mem (hs := row.set 0 x) (k := 0) (by rw [List.length_set]; exact h0)
  rw [gD_same _ _ h0] at this
  exact this
/-- the newcomer at the root, what was there given out -/
theorem step_root {lt : Int → Int → Bool} (S : SO lt) {row : List Int} {kd item : Int} (h0 : kd ≠ 0) (h1 : kd ≠ 1) (hh : Hp lt row) (nd : row.Nodup) (hx : item ∉ row) (hp0 : 0 < row.length) (hl : row.length < 2 ^ 18) (h2 : kd = 2 ∨ lt (row.getD 0 0) item = true) :
    StepOk lt row kd item (suN lt (row.set 0 item) 0) (some (row.getD 0 0)) := by
  have hne : row.getD 0 0 ≠ item := fun e => hx (e ▸ gD_mem hp0)
  have nd' := nodup_set0 nd (x := item) fun k _ hk e => hx (e ▸ gD_mem hk)
  obtain ⟨a1, a2, a3, a4⟩ := root_su S hh hp0 nd'
  refine ⟨a1, a2.nodup_iff.mpr nd', by omega, by omega, fun y hy => ?_, ⟨by omega, fun h => absurd h h0, fun _ => ⟨_, rfl, fun _ => a2.mem_iff.mpr (mem_set0_self hp0)⟩⟩, ?_, fun h => absurd h h0, fun _ => ⟨_, rfl, fun hk y hy => ?_⟩⟩
  · rcases mem_set0 (a2.mem_iff.mp hy) hp0 with e | ⟨k, _, k2, e⟩
    · exact .inr e
    · exact .inl (e ▸ gD_mem k2)
  · unfold backStep
    dsimp only [Option.getD]
    rw [if_neg h0, if_neg h1, if_pos (.inr hne), a3, List.set_set, set_gD]
  · rcases mem_set0 (a2.mem_iff.mp hy) hp0 with e | ⟨k, k1, k2, e⟩
    · rcases h2 with q | q
      · exact absurd q hk
      · rw [e]; exact q
    · rw [← e]
      exact hp_root S hh k k1 k2
theorem dropLast_gD {row : List Int} {k : Nat} (h : k < row.length - 1) : row.dropLast.getD k 0 = row.getD k 0 := by
  rw [gD_lt (by rw [List.length_dropLast]; exact h), gD_lt (by omega), List.getElem_dropLast]
theorem lastI_gD {row : List Int} (h : 0 < row.length) : lastI row = row.getD (row.length - 1) 0 := by
  show row.getD ((-1 : Int) + (row.length : Nat)).toNat 0 = _
  congr 1
  omega
theorem getLastD_gD {row : List Int} (h : 0 < row.length) : row.getLastD 0 = row.getD (row.length - 1) 0 := by
  have hne : row ≠ [] := List.ne_nil_of_length_pos h
  rw [List.getLastD_eq_getLast?, List.getLast?_eq_getElem?, ← List.getD_eq_getElem?_getD]
theorem snoc_last {row : List Int} (h : 0 < row.length) : row.dropLast ++ [row.getD (row.length - 1) 0] = row := by
  have := dropLast_last (way := row) h
  rw [lastI_gD h] at this
  exact this
theorem step_pop {lt : Int → Int → Bool} (S : SO lt) {row : List Int} (hh : Hp lt row) (nd : row.Nodup) (hp0 : 0 < row.length) (hl : row.length < 2 ^ 18) : StepOk lt row 1 (lastI row) (popN lt row) (some (popV row)) := by
  rw [lastI_gD hp0]
  unfold popN popV
  rw [getLastD_gD hp0]
  by_cases h1 : 1 < row.length
  · rw [if_pos h1, if_pos h1]
    have dl : row.dropLast.length = row.length - 1 := List.length_dropLast
    have d0 : 0 < row.dropLast.length := by omega
    have ndd : row.dropLast.Nodup := nd.sublist (List.dropLast_sublist _)
    have nd' := nodup_set0 ndd (x := row.getD (row.length - 1) 0) fun k k1 k2 e => by
      rw [dl] at k2
      rw [dropLast_gD k2] at e
      have := gD_inj nd (by omega) (by omega) e
      omega
    obtain ⟨a1, a2, a3, a4⟩ := root_su S (hp_dropLast hh) d0 nd'
    have hne : row.getD 0 0 ≠ row.getD (row.length - 1) 0 := fun e => by
      have := gD_inj nd hp0 (by omega) e
      omega
    rw [dropLast_gD (by omega)]
    refine ⟨a1, a2.nodup_iff.mpr nd', by omega, by omega, fun y hy => ?_, ⟨by omega, fun h => by dsimp only at h; omega, fun _ => ⟨_, rfl, fun _ => a2.mem_iff.mpr (mem_set0_self d0)⟩⟩, ?_, fun h => absurd h (by decide), fun _ => ⟨_, rfl, fun _ y hy => ?_⟩⟩
    · rcases mem_set0 (a2.mem_iff.mp hy) d0 with e | ⟨k, _, k2, e⟩
      · exact .inr e
      · rw [dl] at k2
        rw [dropLast_gD k2] at e
        exact .inl (e ▸ gD_mem (by omega))
    · unfold backStep
      dsimp only [Option.getD]
      rw [if_neg (by decide), if_pos rfl, if_pos (.inr hne), a3, List.set_set]
      have e := set_gD row.dropLast 0
      rw [dropLast_gD (by omega)] at e
      rw [e, snoc_last hp0]
    · rcases mem_set0 (a2.mem_iff.mp hy) d0 with e | ⟨k, k1, k2, e⟩
      · rw [e]
        exact hp_root S hh _ (by omega) (by omega)
      · rw [dl] at k2
        rw [dropLast_gD k2] at e
        rw [← e]
        exact hp_root S hh k k1 (by omega)
  · rw [if_neg h1, if_neg h1]
    have l1 : row.length = 1 := by omega
    refine ⟨fun k k1 k2 => by simp at k2, List.nodup_nil, by simp, by simp; omega, fun y hy => by simp at hy, ⟨by simp, fun h => by dsimp only at h; omega, fun _ => ⟨_, rfl, fun h => ?_⟩⟩, ?_, fun h => absurd h (by decide), fun _ => ⟨_, rfl, fun _ y hy => by simp at hy⟩⟩
    · rcases h with h | h
      · dsimp only at h; omega
      · exact absurd rfl h
    · unfold backStep
      dsimp only [Option.getD]
      rw [if_neg (by decide), if_pos rfl, if_neg (by rintro (h | h); exact absurd h (by decide); exact h rfl)]
      have := snoc_last hp0
      have e : row.dropLast = [] := List.eq_nil_of_length_eq_zero (by rw [List.length_dropLast]; omega)
      rw [e] at this
      exact this
theorem step_pushpop {row : List Int} {kd item : Int} (h0 : kd ≠ 0) (h1 : kd ≠ 1) (h2 : kd ≠ 2) (hh : Hp ltA row) (nd : row.Nodup) (hx : item ∉ row) (hp0 : 0 < row.length) (hl : row.length < 2 ^ 18) : StepOk ltA row kd item (pushpopN ltA row item) (some (pushpopV row item)) := by
  unfold pushpopN pushpopV
  by_cases h : row.getD 0 0 < item
  · rw [if_pos h, if_pos h]
    exact step_root soA h0 h1 hh nd hx hp0 hl (.inr (decide_eq_true h))
  · rw [if_neg h, if_neg h]
    have hne : row.getD 0 0 ≠ item := fun e => hx (e ▸ gD_mem hp0)
    have hlt : ltA item (row.getD 0 0) = true := decide_eq_true (by omega)
    refine ⟨hh, nd, by omega, by omega, fun y hy => .inl hy, ⟨by omega, fun h => absurd h h0, fun _ => ⟨_, rfl, fun h => ?_⟩⟩, ?_, fun h => absurd h h0, fun _ => ⟨_, rfl, fun _ y hy => ?_⟩⟩
    · rcases h with h | h
      · exact absurd h h2
      · exact absurd rfl h
    · unfold backStep
      dsimp only [Option.getD]
      rw [if_neg h0, if_neg h1, if_neg (by rintro (h | h); exact h2 h; exact h rfl)]
    · obtain ⟨k, hk, e⟩ := gD_of_mem hy
      by_cases hk0 : k = 0
      · subst hk0
        rw [← e]; exact hlt
      · rw [← e]
        exact soA.tr _ _ _ hlt (hp_root soA hh k (by omega) hk)
abbrev ltS (sg : Int) : Int → Int → Bool := if sg < 0 then ltB else ltA
theorem soS (sg : Int) : SO (ltS sg) := by
  unfold ltS
  split
  · exact soB
  · exact soA
theorem ltS_iff {sg : Int} (h : sg = 1 ∨ sg = -1) (a b : Int) : ltS sg a b = true ↔ sg * a < sg * b := by
  rcases h with rfl | rfl
  · show decide (a < b) = true ↔ _
    rw [decide_eq_true_eq]
    omega
  · show decide (b < a) = true ↔ _
    rw [decide_eq_true_eq]
    omega
theorem step_all {sg : Int} (hsg : sg = 1 ∨ sg = -1) {row : List Int} {k num kd item : Int} (hh : Hp (ltS sg) row) (nd : row.Nodup) (hp0 : 0 < row.length) (hl : row.length < 2 ^ 18) (hx : sg * num ∉ row)
    (hkd : kd = (if sg < 0 then 1 + k % 2 else k)) (hit : item = (if kd = 1 then lastI row else sg * num)) : StepOk (ltS sg) row kd item (callN (decide (sg < 0)) kd row item).1 (callN (decide (sg < 0)) kd row item).2 := by
  rcases hsg with rfl | rfl
  · have e : ltS 1 = ltA := rfl
    rw [e] at hh ⊢
    by_cases h1 : kd = 1
    · rw [if_pos h1] at hit
      subst hit
      rw [callN_1 (by decide) (by omega) h1, h1]
      exact step_pop soA hh nd hp0 hl
    · rw [if_neg h1] at hit
      rw [← hit] at hx
      by_cases h0 : kd = 0
      · rw [callN_0 (by decide) h0, h0]
        exact step_push soA hh nd hx hl
      · by_cases h2 : kd = 2
        · rw [callN_2 (by decide) h0 h1 h2]
          exact step_root soA h0 h1 hh nd hx hp0 hl (.inl h2)
        · rw [callN_3 (by decide) h0 h1 h2]
          exact step_pushpop h0 h1 h2 hh nd hx hp0 hl
  · have e : ltS (-1) = ltB := rfl
    rw [e] at hh ⊢
    rw [if_pos (by decide)] at hkd
    by_cases h1 : kd = 1
    · rw [if_pos h1] at hit
      subst hit
      rw [callN_x1 (by decide) h1, h1]
      exact step_pop soB hh nd hp0 hl
    · rw [if_neg h1] at hit
      rw [← hit] at hx
      rw [callN_x2 (by decide) h1]
      exact step_root soB (by omega) h1 hh nd hx hp0 hl (.inl (by omega))

theorem gD_map {f : Int → Int} (f0 : f 0 = 0) (hs : List Int) (k : Nat) : (hs.map f).getD k 0 = f (hs.getD k 0) := by
  rw [List.getD_eq_getElem?_getD, List.getElem?_map, List.getD_eq_getElem?_getD]
  cases hs[k]? with
  | none => exact f0.symm
  | some x => rfl
theorem lf_map {f : Int → Int} (f0 : f 0 = 0) (p : Nat) : ∀ (s : Nat) (hs : List Int), (lfDn hs s p).map f = lfDn (hs.map f) s p := by
  intro s
  induction s using Nat.strongRecOn with
  | ind s ih =>
    intro hs
    conv => lhs; rw [lfDn]
    conv => rhs; rw [lfDn]
    split
    · rw [ih _ (by omega), List.map_set, gD_map f0]
    · rfl
theorem lift_map {f : Int → Int} (f0 : f 0 = 0) (hs : List Int) (s p : Nat) : (liftN hs s p).map f = liftN (hs.map f) s p := by
  unfold liftN
  rw [List.map_set, lf_map f0, gD_map f0]
theorem apart_map {f : Int → Int} (f0 : f 0 = 0) : ∀ (ps : List Int) (i : Nat) (hs : List Int), (apartN i ps hs).map f = apartN i ps (hs.map f)
  | [], i, hs => by rw [apartN, apartN]
  | p :: ps, i, hs => by rw [apartN, apartN, apart_map f0 ps, lift_map f0, List.length_map]
theorem mul_sg {sg : Int} (h : sg = 1 ∨ sg = -1) {a b : Int} (e : sg * a = sg * b) : a = b := by
  rcases h with rfl | rfl <;> omega
theorem nodup_map_sg {sg : Int} (h : sg = 1 ∨ sg = -1) {hs : List Int} (nd : hs.Nodup) : (hs.map (sg * ·)).Nodup := by
  refine nodup_of_mod fun i j hi hj e => ?_
  rw [List.length_map] at hi hj
  rw [gD_map (Int.mul_zero sg), gD_map (Int.mul_zero sg)] at e
  exact gD_inj nd hi hj (mul_sg h e)
def TJ (sg : Int) (heap : List Int) (es : List (Int × Int)) (i : Nat) (row : List Int) (told : List Ent) : Prop :=
  told.length = i ∧ i ≤ es.length ∧ row.length ≤ heap.length + i ∧ heap.length ≤ row.length + i ∧ Hp (ltS sg) row ∧ row.Nodup ∧ (∀ (j : Nat) (k num : Int), i ≤ j → es[j]? = some (k, num) → sg * num ∉ row) ∧
  BacksOk told.reverse row ∧ backN told.reverse row = heap.map (sg * ·) ∧
  ∀ told' e, told = told' ++ [e] → (e.1 = 0 → e.2.2 = none) ∧ (e.1 ≠ 0 → ∃ o, e.2.2 = some o ∧ (e.1 ≠ 2 → ∀ x ∈ row, sg * o < sg * x))
theorem tab_plain {sg : Int} {heap picks : List Int} {es : List (Int × Int)} (hsg : sg = 1 ∨ sg = -1) (hh : ∀ k, 1 ≤ k → k < heap.length → heap.getD ((k - 1) / 2) 0 < heap.getD k 0) (nd : heap.Nodup) (h12 : heap.length ≤ 12) (h6 : 6 ≤ heap.length) (hp : picks.length = heap.length / 2)
    (he : es.length ≤ 6) (hnd : (es.map (·.2)).Nodup) (hni : ∀ e ∈ es, e.2 ∉ heap) : TabJ sg heap (apartN 0 picks heap) es (TJ sg heap es) := by
  have S := soS sg
  have f0 : (fun x : Int => sg * x) 0 = 0 := Int.mul_zero sg
  have hH : Hp (ltS sg) (heap.map (sg * ·)) := by
    intro k k1 k2
    rw [List.length_map] at k2
    rw [gD_map f0, gD_map f0, ltS_iff hsg]
    have := hh k k1 k2
    rcases hsg with rfl | rfl
    · omega
    · have e : ∀ a : Int, (-1 : Int) * (-1 * a) = a := fun a => by omega
      rw [e, e]
      exact this
  have hN := nodup_map_sg hsg nd
  have hNot : ∀ (k num : Int) (j : Nat), es[j]? = some (k, num) → sg * num ∉ heap.map (sg * ·) := by
    intro k num j hj hm
    obtain ⟨x, hx, e⟩ := List.mem_map.mp hm
    have := mul_sg hsg e
    subst this
    exact hni _ (List.mem_of_getElem? hj) hx
  refine ⟨by omega, by rw [apartN_length]; omega, by omega, ?_, ?_, ?_, ?_, ?_, ?_⟩
  · rw [apartN_length, apart_map f0]
    have q := hpf_apart S picks 0 (heap.map (sg * ·)) (by rw [List.length_map]; omega) hN (hH.at_ 0)
    rw [Nat.zero_add, hp] at q
    exact q
  · exact ⟨rfl, Nat.zero_le _, by rw [List.length_map]; omega, by rw [List.length_map]; omega, hH, hN, fun j k num _ hj => hNot k num j hj, trivial, rfl, fun told' e h => by simp at h⟩
  · rintro i row told ⟨a1, a2, a3, a4, _⟩
    exact ⟨a1, by omega, fun h => by omega⟩
  · rintro i row told k num ⟨a1, a2, a3, a4, a5, a6, a7, a8, a9, a10⟩ hek kd item hkd hit
    have hi : i < es.length := by
      rcases Nat.lt_or_ge i es.length with q | q
      · exact q
      · rw [List.getElem?_eq_none q] at hek; cases hek
    have hp0 : 0 < row.length := by omega
    have st := step_all hsg a5 a6 hp0 (by omega) (a7 i k num (Nat.le_refl _) hek) hkd hit
    generalize hr : (callN (decide (sg < 0)) kd row item).1 = r at *
    generalize hO : (callN (decide (sg < 0)) kd row item).2 = out at *
    have l1 := st.le1
    have l2 := st.le2
    refine ⟨by rw [List.length_append, a1]; rfl, hi, by omega, by omega, st.hp, st.nd, ?_, ?_, ?_, ?_⟩
    · intro j k' num' hj hej hm
      rcases st.mem _ hm with q | q
      · exact a7 j k' num' (by omega) hej q
      · by_cases h1 : kd = 1
        · rw [if_pos h1] at hit
          refine a7 j k' num' (by omega) hej ?_
          rw [q, hit, lastI_gD hp0]
          exact gD_mem (by omega)
        · rw [if_neg h1] at hit
          rw [hit] at q
          have e := mul_sg hsg q
          have e1 : (es.map (·.2))[j]? = some num' := by rw [List.getElem?_map, hej]; rfl
          have e2 : (es.map (·.2))[i]? = some num := by rw [List.getElem?_map, hek]; rfl
          have hjl : j < (es.map (·.2)).length := by
            rcases Nat.lt_or_ge j (es.map (·.2)).length with z | z
            · exact z
            · rw [List.getElem?_eq_none z] at e1; cases e1
          have hil : i < (es.map (·.2)).length := by rw [List.length_map]; exact hi
          have q2 := gD_inj hnd hjl hil (by rw [List.getD_eq_getElem?_getD, List.getD_eq_getElem?_getD, e1, e2]; exact e)
          omega
    · rw [List.reverse_append]
      refine ⟨st.bk, ?_⟩
      rw [st.un]
      exact a8
    · rw [List.reverse_append]
      show backN told.reverse (backStep r (kd, item, out)) = _
      rw [st.un]
      exact a9
    · intro told' e h
      have e2 : e = (kd, item, out) := by
        have := congrArg List.getLast? h
        rw [List.getLast?_concat, List.getLast?_concat] at this
        exact (Option.some.inj this).symm
      subst e2
      refine ⟨st.ok0, fun hk => ?_⟩
      obtain ⟨o, q1, q2⟩ := st.ok1 hk
      exact ⟨o, q1, fun h2 x hx => (ltS_iff hsg _ _).mp (q2 h2 x hx)⟩
  · rintro i row told e ⟨a1, a2, a3, a4, a5, a6, a7, a8, a9, a10⟩
    obtain ⟨b1, b2⟩ := a10 told e rfl
    exact ⟨fun at' h1 h2 => (ltS_iff hsg _ _).mp (a5 at' h1 h2), b1, b2⟩
  · rintro row told ⟨a1, a2, a3, a4, a5, a6, a7, a8, a9, a10⟩
    exact ⟨a8, a9⟩

def rangeI (n : Nat) : List Int := (List.range n).map fun (k : Nat) => (k : Int)
theorem rangeI_length (n : Nat) : (rangeI n).length = n := by unfold rangeI; rw [List.length_map, List.length_range]
theorem rangeI_mem {n : Nat} {x : Int} : x ∈ rangeI n ↔ 0 ≤ x ∧ x < n := by
  unfold rangeI
  rw [List.mem_map]
  constructor
  · rintro ⟨k, hk, rfl⟩
    have := List.mem_range.mp hk
    omega
  · rintro ⟨h1, h2⟩
    exact ⟨x.toNat, List.mem_range.mpr (by omega), by omega⟩
theorem rangeI_nodup (n : Nat) : (rangeI n).Nodup := by
  refine nodup_of_mod fun i j hi hj e => ?_
  rw [rangeI_length] at hi hj
  unfold rangeI at e
  simp only [List.getD_eq_getElem?_getD, List.getElem?_map, List.getElem?_range hi, List.getElem?_range hj, Option.map_some, Option.getD_some] at e
  omega
/-- the places taken so far, in their order -/
structure HJ (ns : List Int) (i : Nat) (row free pl : List Int) : Prop where
  pi : pl.length = i
  rowLen : row.length = ns.length
  freeLen : free.length ≤ i + 1
  fb : ∀ x ∈ free, 0 ≤ x ∧ x < ns.length
  fnd : free.Nodup
  dis : ∀ p ∈ pl, p ∉ free
  pnd : pl.Nodup
  pb : ∀ p ∈ pl, 0 ≤ p ∧ p < ns.length
  F : ∀ k : Nat, k < ns.length → (k = 0 ∨ ((((k - 1) / 2 : Nat)) : Int) ∈ pl) → (k : Int) ∈ pl ∨ (k : Int) ∈ free
  G : ∀ x ∈ free, x = 0 ∨ (1 ≤ x ∧ (x - 1) / 2 ∈ pl)
  V : ∀ t, t < i → row.getD (pl.getD t 0).toNat 0 = ns.getD t 0
  P : ∀ t, t < i → pl.getD t 0 = 0 ∨ (1 ≤ pl.getD t 0 ∧ ∃ s, s < t ∧ pl.getD s 0 = (pl.getD t 0 - 1) / 2)
theorem HJ.inv {ns : List Int} {i : Nat} {row free pl : List Int} (h : HJ ns i row free pl) : LhInv ns i row free := by
  refine ⟨h.rowLen, h.freeLen, fun hi => ?_, fun k hk => h.fb _ (gD_mem hk)⟩
  rcases Nat.eq_zero_or_pos free.length with e | e
  · exfalso
    have e0 : free = [] := List.eq_nil_of_length_eq_zero e
    have all : ∀ k : Nat, k < ns.length → (k : Int) ∈ pl := by
      intro k
      induction k using Nat.strongRecOn with
      | ind k ih =>
        intro hk
        have q := h.F k hk (by
          by_cases hk0 : k = 0
          · exact .inl hk0
          · exact .inr (ih _ (by omega) (by omega)))
        rcases q with q | q
        · exact q
        · rw [e0] at q; cases q
    have := List.Nodup.length_le_of_subset (rangeI_nodup ns.length) (l₂ := pl) fun x hx => by
      obtain ⟨h1, h2⟩ := rangeI_mem.mp hx
      have := all x.toNat (by omega)
      have e2 : ((x.toNat : Nat) : Int) = x := by omega
      rw [e2] at this
      exact this
    rw [rangeI_length, h.pi] at this
    omega
  · exact e
theorem kids_mem {n : Nat} {p x : Int} : x ∈ kids n p ↔ (x = 2 * p + 1 ∨ x = 2 * p + 2) ∧ x < n := by
  unfold kids
  rw [List.mem_filter]
  simp
theorem kids_len (n : Nat) (p : Int) : (kids n p).length ≤ 2 := by
  unfold kids
  exact List.length_filter_le _ _
theorem kids_nodup (n : Nat) (p : Int) : (kids n p).Nodup := by
  unfold kids
  refine List.Nodup.sublist List.filter_sublist ?_
  rw [List.nodup_cons]
  refine ⟨?_, by simp⟩
  intro h
  rw [List.mem_singleton] at h
  omega
theorem HJ.step {ns : List Int} {i : Nat} {row free pl : List Int} {k : Nat} (h : HJ ns i row free pl) (hi : i < ns.length) (hk : k < free.length) :
    HJ ns (i + 1) (row.set (free.getD k 0).toNat (ns.getD i 0)) (free.eraseIdx k ++ kids ns.length (free.getD k 0)) (pl ++ [free.getD k 0]) := by
  have hp := gD_mem hk
  have hpk : free[k] = free.getD k 0 := (gD_lt hk).symm
  generalize hq : free.getD k 0 = p at *
  have hb := h.fb _ hp
  have hnp : p ∉ pl := fun z => h.dis _ z hp
  have er : ∀ x, x ∈ free.eraseIdx k ↔ x ∈ free ∧ x ≠ p := by
    intro x
    rw [List.mem_eraseIdx_iff_getElem]
    constructor
    · rintro ⟨j, hj, hne, rfl⟩
      refine ⟨List.getElem_mem _, fun e => hne ?_⟩
      rw [← hpk] at e
      exact (List.getElem_inj h.fnd).mp e
    · rintro ⟨hx, hne⟩
      obtain ⟨j, hj, e⟩ := List.getElem_of_mem hx
      exact ⟨j, hj, fun z => hne (by subst z; rw [← e, hpk]), e⟩
  have parK : ∀ x, x ∈ kids ns.length p → 1 ≤ x ∧ (x - 1) / 2 = p := by
    intro x hx
    obtain ⟨a, _⟩ := kids_mem.mp hx
    omega
  have glast : (pl ++ [p]).getD i 0 = p := by
    rw [List.getD_eq_getElem?_getD, List.getElem?_append_right (by rw [h.pi]; exact Nat.le_refl _), h.pi, Nat.sub_self]
    rfl
  have gpre : ∀ t, t < i → (pl ++ [p]).getD t 0 = pl.getD t 0 := by
    intro t ht
    rw [List.getD_eq_getElem?_getD, List.getElem?_append_left (by rw [h.pi]; exact ht), ← List.getD_eq_getElem?_getD]
  have kl := kids_len ns.length p
  refine ⟨by rw [List.length_append, h.pi]; rfl, by rw [List.length_set]; exact h.rowLen, ?_, ?_, ?_, ?_, ?_, ?_, ?_, ?_, ?_, ?_⟩
  · have := h.freeLen
    rw [List.length_append, List.length_eraseIdx_of_lt hk]
    omega
  · intro x hx
    rcases List.mem_append.mp hx with hx | hx
    · exact h.fb _ ((er x).mp hx).1
    · obtain ⟨a, b⟩ := kids_mem.mp hx
      omega
  · rw [List.nodup_append]
    refine ⟨h.fnd.eraseIdx k, kids_nodup _ _, ?_⟩
    intro a ha b hb' e
    subst e
    obtain ⟨x1, x2⟩ := parK a hb'
    rcases h.G a ((er a).mp ha).1 with z | ⟨_, z⟩
    · omega
    · rw [x2] at z
      exact hnp z
  · intro x hx hm
    rcases List.mem_append.mp hx with hx | hx
    · rcases List.mem_append.mp hm with hm | hm
      · exact h.dis x hx ((er x).mp hm).1
      · obtain ⟨x1, x2⟩ := parK x hm
        obtain ⟨t, ht, e⟩ := gD_of_mem hx
        rw [h.pi] at ht
        rcases h.P t ht with z | ⟨_, s, hs, z⟩
        · rw [e] at z; omega
        · rw [e, x2] at z
          exact hnp (z ▸ gD_mem (by rw [h.pi]; omega))
    · rw [List.mem_singleton.mp hx] at hm
      rcases List.mem_append.mp hm with hm | hm
      · exact ((er p).mp hm).2 rfl
      · obtain ⟨a, _⟩ := kids_mem.mp hm
        omega
  · exact nodup_snoc h.pnd hnp
  · intro x hx
    rcases List.mem_append.mp hx with hx | hx
    · exact h.pb x hx
    · rw [List.mem_singleton.mp hx]; exact hb
  · intro j hj hc
    have old : (j = 0 ∨ ((((j - 1) / 2 : Nat)) : Int) ∈ pl) → (j : Int) ∈ pl ++ [p] ∨ (j : Int) ∈ free.eraseIdx k ++ kids ns.length p := by
      intro hc
      rcases h.F j hj hc with z | z
      · exact .inl (List.mem_append_left _ z)
      · by_cases e : (j : Int) = p
        · exact .inl (List.mem_append_right _ (by rw [e]; exact List.mem_singleton.mpr rfl))
        · exact .inr (List.mem_append_left _ ((er _).mpr ⟨z, e⟩))
    by_cases hj0 : j = 0
    · exact old (.inl hj0)
    · rcases hc with z | z
      · exact absurd z hj0
      · rcases List.mem_append.mp z with z | z
        · exact old (.inr z)
        · have e := List.mem_singleton.mp z
          refine .inr (List.mem_append_right _ (kids_mem.mpr ⟨?_, by omega⟩))
          omega
  · intro x hx
    rcases List.mem_append.mp hx with hx | hx
    · rcases h.G x ((er x).mp hx).1 with z | ⟨z1, z2⟩
      · exact .inl z
      · exact .inr ⟨z1, List.mem_append_left _ z2⟩
    · obtain ⟨x1, x2⟩ := parK x hx
      exact .inr ⟨x1, List.mem_append_right _ (by rw [x2]; exact List.mem_singleton.mpr rfl)⟩
  · intro t ht
    by_cases e : t = i
    · subst e
      rw [glast, gD_same _ _ (by rw [h.rowLen]; omega)]
    · have ht' : t < i := by omega
      rw [gpre t ht', gD_ne, h.V t ht']
      intro z
      have hm : pl.getD t 0 ∈ pl := gD_mem (by rw [h.pi]; exact ht')
      have b := h.pb _ hm
      have : pl.getD t 0 = p := by omega
      exact hnp (this ▸ hm)
  · intro t ht
    by_cases e : t = i
    · subst e
      rw [glast]
      rcases h.G p hp with z | ⟨z1, z2⟩
      · exact .inl z
      · obtain ⟨s, hs, e⟩ := gD_of_mem z2
        rw [h.pi] at hs
        exact .inr ⟨z1, s, hs, by rw [gpre s hs]; exact e⟩
    · have ht' : t < i := by omega
      rw [gpre t ht']
      rcases h.P t ht' with z | ⟨z1, s, hs, z⟩
      · exact .inl z
      · exact .inr ⟨z1, s, hs, by rw [gpre s (by omega)]; exact z⟩
theorem HJ.fin {ns row free pl : List Int} (hs : ns.Pairwise (· < ·)) (h : HJ ns ns.length row free pl) : (∀ k, 1 ≤ k → k < row.length → row.getD ((k - 1) / 2) 0 < row.getD k 0) ∧ row.Perm ns := by
  have all : ∀ k : Nat, k < ns.length → ∃ t, t < ns.length ∧ pl.getD t 0 = (k : Int) := by
    intro k hk
    by_cases hm : (k : Int) ∈ pl
    · obtain ⟨t, ht, e⟩ := gD_of_mem hm
      rw [h.pi] at ht
      exact ⟨t, ht, e⟩
    · exfalso
      have := List.Nodup.length_le_of_subset (l₁ := (k : Int) :: pl) (l₂ := rangeI ns.length) (List.nodup_cons.mpr ⟨hm, h.pnd⟩) fun x hx => by
        rcases List.mem_cons.mp hx with rfl | hx
        · exact rangeI_mem.mpr (by omega)
        · exact rangeI_mem.mpr (h.pb x hx)
      rw [List.length_cons, rangeI_length, h.pi] at this
      omega
  have val : ∀ k : Nat, k < ns.length → ∃ t, t < ns.length ∧ pl.getD t 0 = (k : Int) ∧ row.getD k 0 = ns.getD t 0 := by
    intro k hk
    obtain ⟨t, ht, e⟩ := all k hk
    refine ⟨t, ht, e, ?_⟩
    have := h.V t ht
    rw [e] at this
    have e2 : ((k : Int)).toNat = k := by omega
    rw [e2] at this
    exact this
  have lt : ∀ s t, s < t → t < ns.length → ns.getD s 0 < ns.getD t 0 := by
    intro s t h1 h2
    rw [gD_lt h2, gD_lt (by omega)]
    exact List.pairwise_iff_getElem.mp hs s t (by omega) h2 h1
  have inj : ∀ s t, s < ns.length → t < ns.length → ns.getD s 0 = ns.getD t 0 → s = t := by
    intro s t h1 h2 e
    rcases Nat.lt_trichotomy s t with q | q | q
    · have := lt s t q h2; omega
    · exact q
    · have := lt t s q h1; omega
  refine ⟨?_, ?_⟩
  · intro k k1 k2
    rw [h.rowLen] at k2
    obtain ⟨t, ht, e, ev⟩ := val k k2
    rcases h.P t ht with z | ⟨_, s, hst, z⟩
    · rw [e] at z; omega
    · have hv := h.V s (by omega)
      rw [z, e] at hv
      have e2 : (((k : Int) - 1) / 2).toNat = (k - 1) / 2 := by omega
      rw [e2] at hv
      rw [hv, ev]
      exact lt s t hst ht
  · refine (List.perm_ext_iff_of_nodup ?_ ?_).mpr fun a => ?_
    · refine nodup_of_mod fun i j hi hj e => ?_
      rw [h.rowLen] at hi hj
      obtain ⟨t, ht, e1, ev⟩ := val i hi
      obtain ⟨t', ht', e1', ev'⟩ := val j hj
      have := inj t t' ht ht' (by rw [← ev, ← ev']; exact e)
      subst this
      rw [e1] at e1'
      omega
    · exact nodup_of_mod fun i j hi hj e => inj i j hi hj e
    · constructor
      · intro ha
        obtain ⟨k, hk, e⟩ := gD_of_mem ha
        rw [h.rowLen] at hk
        obtain ⟨t, ht, _, ev⟩ := val k hk
        rw [← e, ev]
        exact gD_mem ht
      · intro ha
        obtain ⟨t, ht, e⟩ := gD_of_mem ha
        rw [← e, ← h.V t ht]
        have hm : pl.getD t 0 ∈ pl := gD_mem (by rw [h.pi]; exact ht)
        have b := h.pb _ hm
        exact gD_mem (by rw [h.rowLen]; omega)
theorem heap_plain (xs : List Int) (h0 : 0 < xs.length) (hs : xs.Pairwise (· < ·)) : ∃ J, LhStep xs J ∧ ∀ row free, J xs.length row free → (∀ k, 1 ≤ k → k < row.length → row.getD ((k - 1) / 2) 0 < row.getD k 0) ∧ row.Perm xs := by
  refine ⟨fun i row free => ∃ pl, HJ xs i row free pl, ⟨?_, ?_, ?_⟩, ?_⟩
  · rintro i row free ⟨pl, h⟩
    exact h.inv
  · refine ⟨[], rfl, rfl, by simp, ?_, by simp, by simp, List.nodup_nil, by simp, ?_, ?_, fun t ht => by omega, fun t ht => by omega⟩
    · intro x hx
      rw [List.mem_singleton.mp hx]
      omega
    · intro k hk hc
      rcases hc with z | z
      · exact .inr (by rw [z]; exact List.mem_singleton.mpr rfl)
      · cases z
    · intro x hx
      exact .inl (List.mem_singleton.mp hx)
  · rintro i row free k ⟨pl, h⟩ hi hk
    exact ⟨_, h.step hi hk⟩
  · rintro row free ⟨pl, h⟩
    exact h.fin hs

end Mine
set_option maxRecDepth 100000 in
set_option maxHeartbeats 8000000 in
theorem PySem.Challenge.cw_sc0015_01_holds : PySem.Challenge.rw_sc0015_01.Holds := by
  exact Mine.law_w ⟨Mine.heap_plain, fun _ _ _ _ h1 h2 h3 h4 h5 h6 h7 h8 h9 => ⟨_, Mine.tab_plain h1 h2 h3 h4 h5 h6 h7 h8 h9⟩⟩
#print axioms PySem.Challenge.cw_sc0015_01_holds

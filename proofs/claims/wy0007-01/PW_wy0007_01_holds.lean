import PyProof.Rows.All
import Wide.All
import OpenK.AllK
import Wide.FinOn
import Lean
import PySem.Challenge.RW_wy0007_01
open PySem PySem.W PyProof.Rows PySem.Calls
set_option Elab.async false
set_option maxRecDepth 100000
set_option maxHeartbeats 8000000
set_option pp.deepTerms false
set_option pp.deepTerms.threshold 4
set_option compiler.extract_closed false

-- Hd
namespace Mine
noncomputable def PW : Program := PySem.Challenge.rw_wy0007_01.row.toRowW.prog
/-- the text with its functions but nsmallest and nlargest -/
noncomputable def view : Program := { PW with main := { PW.main with body := [1,2,3,4,5,6,7,8,9,10,11,15,16,17].map (fun i => PW.main.body.getD i (.Pass ⟨0,0,0,0⟩)) } }
noncomputable def topSeen (s : Shared) : Bool := xlAt view [] s && recOk (RowW.records PySem.Challenge.rw_wy0007_01.row.toRowW) s
theorem topSeen_xl (s : Shared) (e : topSeen s = true) : XL view [] (s.heap.nsMap mainGlobals) s.heap := by
  unfold topSeen at e; rw [Bool.and_eq_true] at e; exact xl_of s e.1
theorem topSeen_rec (s : Shared) (e : topSeen s = true) : RecFacts (RowW.records PySem.Challenge.rw_wy0007_01.row.toRowW) s.heap := by
  unfold topSeen at e; rw [Bool.and_eq_true] at e; exact recFacts_of e.2
/-- the head: the top's run is one evaluation in the kernel -/
local macro_rules | `(tactic| o_head $H) => `(tactic| (
  refine holds_open (q := view) (loose := ["nsmallest", "nlargest"]) (Xt := topSeen) (XP := XL view []) (Yf := Hook.obs $H) (N := 1148) ?run (Hook.of $H) (Hook.keeps $H) topSeen_xl XL.keeps (by rfl) (by rfl) (by rfl) topSeen_rec (by rfl) (by assumption) ?looks ?bare ?hw ?hc
  case run => (intro w; kernel_rfl)
  case looks => decide +kernel
  case bare => exact ⟨rfl, rfl, rfl, rfl, rfl, by decide +kernel⟩))
theorem law_look : PySem.Challenge.rw_wy0007_01.wellSaid = true := by
  unfold OpenLaw.wellSaid OpenRow.wellSaid OpenRow.partSaid looksOpen
  repeat' with_reducible refine look_both ?_ ?_
  all_goals decide +kernel
local macro_rules | `(tactic| o_law) => `(tactic| refine holds_law law_look fun said => ?_)
open_top hd for PySem.Challenge.rw_wy0007_01
end Mine

-- B1
namespace Mine

noncomputable abbrev PG : Program := PySem.Challenge.rw_wy0007_01.row.toRowW.prog

theorem code_list {prog : Program} {w : World} {A : Around} {s : Shared} {K : Frag} {news : List (Addr × Obj)} {p : Program} {loose : List Str} {mg mb : Str → Option Value}
    {name qual : Str} {params : Arguments} {body : List Stmt} {scope : Scope} {dV kV doc pm cdv ct oc : Value} {an od : Option Addr} {osl : Array (Option Value)} {f : Addr} {args : Args} {binds : List (Str × Value)} {R : Result → Shared → Prop}
    (X : K.In (hideAll s.heap (news.map (·.1)))) (T : TopRead p loose mg mb (hideAll s.heap (news.map (·.1))))
    (N : ∀ q ∈ news, s.heap.get? q.1 = some q.2)
    (ho : K.lookup f = some ⟨oc, od, .func (fnOf name qual params body scope dV kV doc pm an cdv ct), osl⟩) (hcd : codeIn K cdv qual = true) (hroom : A.depth < recursionLimit)
    (hbind : BindsTo s (fnOf name qual params body scope dV kV doc pm an cdv ct) args binds) (hloc : ∀ y ∈ binds, scope.names.lookup y.1 = some .local)
    (h : ∀ L' h₁, Fr (hideAll s.heap (news.map (·.1))) L' h₁ (fun y => binds.reverse.lookup y) → News (hideAll s.heap (news.map (·.1))) L' h₁ news →
      wpAny (model prog w) (A.deeper (envOf qual scope L' f cdv)) (execs body (envOf qual scope L' f cdv))
        (fun fl s' => R (.ok (.ret (match fl with | .ret v => v | _ => .none))) s') (fun _ _ => False)
        { s with heap := h₁, toks := s.toks + binds.length })
    (hco : scope.isCoroutine = false := by rfl) (hgen : scope.isGenerator = false := by rfl) (hk : scope.kind = .function := by rfl)
    (hcell : ∀ x ∈ scope.names, x.2 ≠ .cell := by decide) : codeAny (model prog w) A (.call (.ref f) args) R s := by
  have st : ∀ b o, (hideAll s.heap (news.map (·.1))).get? b = some o → s.heap.get? b = some o := fun b o e => of_hideAll _ e
  refine codeAny_call_def (fd := fnOf name qual params body scope dV kV doc pm an cdv ct) (body := body) (binds := binds) hroom ((X.keeps st) _ _ ho) rfl (T.nolimit.keeps st) (codeRec_of (X.keeps st) hcd) rfl hbind hcell hloc (fun h₁ hns hk₁ => ?_) hco hgen hk
  refine wpAny_mono (h s.heap.objs.size h₁ ⟨hns, fun b o e => hk₁ b o (of_hideAll _ e), Nat.le_of_eq (hideAll_size _ _)⟩
    (fun p hp => ⟨hk₁ _ _ (N p hp), Nat.ne_of_lt (Heap.lt_size (N p hp)), hideAll_none _ (List.mem_map_of_mem hp)⟩)) (fun fl s' hl => hl) fun _ _ y => y.elim

/-- comparing two values of a domain by < -/
noncomputable def CmpOk (prog : Program) (w : World) (g : Heap) (Dom : Value → Prop) (lt : Value → Value → Bool) : Prop :=
  ∀ (x y : Value), Dom x → Dom y → ∀ (A : Around) (E : Value → Shared → Prop) (s : Shared) (Q : Value → Shared → Prop), A.units < 9500 → (∀ b o, g.get? b = some o → s.heap.get? b = some o) →
    Q (.bool (lt x y)) s → wpAny (model prog w) A (compareOp .Lt x y) Q E s

noncomputable def sdn (lt : Value → Value → Bool) (start : Nat) (x : Value) (vs : List Value) (pos : Nat) : List Value :=
  if start < pos then
    if lt x (vs.getD ((pos - 1) / 2) x) then sdn lt start x (vs.set pos (vs.getD ((pos - 1) / 2) x)) ((pos - 1) / 2) else vs.set pos x
  else vs.set pos x
termination_by pos
decreasing_by omega

theorem set_any {prog : Program} {w : World} {A : Around} {E : Value → Shared → Prop} {s : Shared} {h₀ : Heap} {L D : Addr} {m : Str → Option Value} {vs : List Value} {n : Nat} {k : Int} {t : Tok} {v : Value} {Q : Unit → Shared → Prop}
    (F : Fr h₀ L s.heap m) (N : News h₀ L s.heap [(D, listOf vs.toArray n)]) (h0 : 0 ≤ k) (h1 : k < vs.length) (hfit : k < 2 ^ 63)
    (h : ∀ h', Fr h₀ L h' m → News h₀ L h' [(D, listOf (vs.set k.toNat v).toArray n)] → Q () { s with heap := h' }) :
    wpAny (model prog w) A (setItem (.ref D) (.int k t) v) Q E s := by
  have z := N (D, listOf vs.toArray n) (.head _)
  refine ki_setAt z.1 h0 hfit (by simpa using h1) (h _ (F.change (Heap.SameBut.update ..) z.2.1 z.2.2) (ki_turn (pre := []) (post := []) _ N (fun _ h => nomatch h) (fun _ h => nomatch h) ?_ ?_))
  · show vs.toArray.setIfInBounds k.toNat v = (vs.set k.toNat v).toArray
    apply Array.toList_inj.mp
    simp
  · simp
theorem item_any {prog : Program} {w : World} {A : Around} {E : Value → Shared → Prop} {s : Shared} {h₀ : Heap} {L D : Addr} {vs : List Value} {n : Nat} {k : Int} {t : Tok} {d : Value} {value slice : PySem.Expr} {Q : Value → Shared → Prop}
    (N : News h₀ L s.heap [(D, listOf vs.toArray n)]) (h0 : 0 ≤ k) (h1 : k < vs.length) (hfit : k < 2 ^ 63) (h : Q (vs.getD k.toNat d) s)
    (hs : subscripted slice false (.ref D) (.int k t) = operate [.ref D, .int k t] (getItem (.ref D) (.int k t)) := by with_unfolding_all rfl) :
    wpAny (model prog w) A (subscriptTail value slice (.ref D) (.int k t)) Q E s := by
  have hl : s.heap.IsList D vs.toArray := PySem.IsL.isList (n := n) (N _ (.head _)).1
  have hk : k.toNat < vs.length := by omega
  refine tail_any hl.typeIs slot_list_getitem.lookup (wpAny_getItem_list hl h0 hfit (x := vs.getD k.toNat d) ?_ h) hs
  simp [List.getD_eq_getElem?_getD, hk]


theorem shr_half {prog : Program} {w : World} {A : Around} {E : Value → Shared → Prop} {s : Shared} {Q : Value → Shared → Prop} {q : Nat} {t u : Tok} (hq : 0 < q)
    (h : Q (.int (((q - 1) / 2 : Nat) : Int) s.toks) { s with toks := s.toks + 1 }) : wpAny (model prog w) A (binaryOp .RShift (.int ((q : Int) - 1) t) (.int 1 u)) Q E s := by
  refine rshift_int (by decide) ?_
  have e : ((q : Int) - 1).fdiv (2 ^ (1 : Int).toNat) = (((q - 1) / 2 : Nat) : Int) := by
    show ((q : Int) - 1).fdiv 2 = _
    rw [Int.fdiv_eq_ediv_of_nonneg _ (by decide)]
    cases q with
    | zero => exact absurd hq (by decide)
    | succ m => rw [Int.natCast_succ, Int.add_sub_cancel]; rfl
  rw [e]; exact h
theorem sdn_stop {lt : Value → Value → Bool} {start pos : Nat} {x : Value} {vs : List Value} (h : ¬ start < pos) : sdn lt start x vs pos = vs.set pos x := by
  unfold sdn; rw [if_neg h]
theorem sdn_no {lt : Value → Value → Bool} {start pos : Nat} {x : Value} {vs : List Value} (h : start < pos) (hl : lt x (vs.getD ((pos - 1) / 2) .none) = false) (hp : pos < vs.length) : sdn lt start x vs pos = vs.set pos x := by
  have e : vs.getD ((pos - 1) / 2) x = vs.getD ((pos - 1) / 2) .none := by
    have : (pos - 1) / 2 < vs.length := by omega
    simp [List.getD_eq_getElem?_getD, this]
  unfold sdn; rw [if_pos h, e, hl]; simp
theorem sdn_go {lt : Value → Value → Bool} {start pos : Nat} {x : Value} {vs : List Value} (h : start < pos) (hl : lt x (vs.getD ((pos - 1) / 2) .none) = true) (hp : pos < vs.length) :
    sdn lt start x vs pos = sdn lt start x (vs.set pos (vs.getD ((pos - 1) / 2) .none)) ((pos - 1) / 2) := by
  have e : vs.getD ((pos - 1) / 2) x = vs.getD ((pos - 1) / 2) .none := by
    have : (pos - 1) / 2 < vs.length := by omega
    simp [List.getD_eq_getElem?_getD, this]
  conv => lhs; unfold sdn
  rw [if_pos h, e, hl]; simp
theorem getD_mem {vs : List Value} {k : Nat} (h : k < vs.length) : vs.getD k .none ∈ vs := by
  simp [List.getD_eq_getElem?_getD, h]
theorem dom_at {Dom : Value → Prop} {vs : List Value} {k : Nat} (h : ∀ v ∈ vs, Dom v) (hk : k < vs.length) : Dom (vs.getD k .none) := h _ (getD_mem hk)
theorem dom_set {Dom : Value → Prop} {vs : List Value} {k : Nat} {x : Value} (h : ∀ v ∈ vs, Dom v) (hx : Dom x) : ∀ v ∈ vs.set k x, Dom v := fun v hv => by
  rcases List.mem_or_eq_of_mem_set hv with h' | rfl
  · exact h v h'
  · exact hx

local macro_rules | `(tactic| walk_at "binaryOp RShift int int") => `(tactic| (k_here; k_dflt (refine' shr_half ?k1 ?_; (case k1 => omega); k_whole)))
theorem kst_out {rest : Str → Option Value} {z : Str} : ∀ {ps : List (Str × Value)}, (∀ p ∈ ps, z ≠ p.1) → kstB rest ps z = rest z
  | [], _ => rfl
  | p :: r, h => by
    show (if z = p.1 then some p.2 else kstB rest r z) = rest z
    rw [if_neg (h p (.head _))]
    exact kst_out fun q hq => h q (.tail _ hq)
theorem kst_same {stored : List Str} {ps ps' : List (Str × Value)} {m₀ u m' : Str → Option Value} (names pn : List Str) (hp : ps.map (·.1) = pn) (hp' : ps'.map (·.1) = pn)
    (hsub : (names.all fun n => stored.contains n || pn.contains n) = true) (hn : ∀ z, z ∉ names → m' z = kstB (fun z => if stored.contains z then u z else m₀ z) ps z) :
    ∀ z, (∀ p ∈ ps', z ≠ p.1) → stored.contains z = false → m' z = m₀ z := by
  subst hp'
  intro z h2 h3
  have hz : z ∉ names := by
    intro hm
    have := List.all_eq_true.mp hsub z hm
    rw [h3, Bool.false_or] at this
    obtain ⟨p, hp, e⟩ := List.mem_map.mp (List.contains_iff_mem.mp this)
    exact h2 p hp e.symm
  rw [hn z hz, kst_out]
  · show (if stored.contains z = true then u z else m₀ z) = m₀ z
    rw [h3]; rfl
  · intro p hpm e
    have : z ∈ ps'.map (·.1) := hp ▸ List.mem_map.mpr ⟨p, hpm, e.symm⟩
    obtain ⟨p', hp', e'⟩ := List.mem_map.mp this
    exact h2 p' hp' e'.symm
theorem names_not {z : Str} {n : Str} {r : List Str} (h : z ∉ n :: r) : z ≠ n ∧ z ∉ r := ⟨fun e => h (e ▸ .head _), fun e => h (.tail _ e)⟩

local macro_rules | `(tactic| walk_at "subscriptTail") => `(tactic| (k_here; (with_reducible show wpAny _ _ (subscriptTail _ _ (Value.ref _) (Value.int _ _)) _ _ _); k_dflt (refine' item_any (d := Value.none) ?k1 ?k2 ?k3 ?k4 ?_ ?k6; (case k1 => k_asm); (case k2 => omega); (case k3 => omega); (case k4 => omega); (case k6 => with_unfolding_all rfl); k_whole)))
local macro_rules | `(tactic| walk_at "setItem ref int") => `(tactic| (k_here; (with_reducible show wpAny _ _ (setItem (Value.ref _) (Value.int _ _) _) _ _ _); k_dflt (refine' set_any ?k1 ?k2 ?k3 ?k4 ?k5 ?_; (case k1 => k_asm); (case k2 => k_asm); (case k3 => omega); (case k4 => omega); (case k5 => omega); k_whole); intro h' F' N'))
local macro_rules | `(tactic| walk_at "compareOp Lt") => `(tactic| (k_here; (with_reducible show wpAny _ _ (compareOp CmpOp.Lt _ _) _ _ _); (rename CmpOk _ _ _ _ _ => hc'); (rename Fr _ _ _ _ => lF'); (refine' hc' _ _ ?k1 ?k2 _ _ _ _ ?k3 lF'.keep ?_; (case k1 => exact dom_at (by assumption) (by omega)); (case k2 => exact dom_at (by assumption) (by omega)); (case k3 => (simp only [units_in1, units_deeper]; omega)); k_whole)))
theorem siftdown_code {w : World} {A : Around} {s : Shared} {mg mb : Str → Option Value} {p : Program} {loose : List Str} {a : Addr} {vs : List Value} {n start pos : Nat} {t1 t2 : Tok} {R : Result → Shared → Prop} {Dom : Value → Prop} {lt : Value → Value → Bool} 
    (X : (hd.heap_1 w.params).In (hideAll s.heap [a])) (T : TopRead p loose mg mb (hideAll s.heap [a])) (ha : s.heap.get? a = some (listOf vs.toArray n))
    (hd : A.depth < 900) (hu : A.units < 9000) (hc : CmpOk PG w (hideAll s.heap [a]) Dom lt) (hv : ∀ v ∈ vs, Dom v) (hp : pos < vs.length) (hlen : vs.length < 2 ^ 20)
    (h : ∀ h' tk n', (∀ b o, (hideAll s.heap [a]).get? b = some o → h'.get? b = some o) → h'.get? a = some (listOf (sdn lt start (vs.getD pos .none) vs pos).toArray n') → R (.ok (.ret .none)) { s with heap := h', toks := tk }) :
    codeAny (model PG w) A (.call (.ref 70) ⟨[.ref a, .int start t1, .int pos t2], []⟩) R s := by
  refine code_list (binds := [(Str.ofString "heap", Value.ref a), (Str.ofString "startpos", Value.int start t1), (Str.ofString "pos", Value.int pos t2)]) (news := [(a, listOf vs.toArray n)]) X T (by simpa using ha) (by k_is) (by k_is) (by rw [show recursionLimit = 1000 from rfl]; omega) (BindsTo.of_eq rfl) (locs rfl) ?_
  intro L' h₁ F N
  simp only [List.map_cons, List.map_nil] at F N
  (all_goals try k_fold)
  (repeat' (first | (k_unfold; (try dsimp only)) | ((fail_if_success (with_reducible show wpAny _ _ (PySem.exec (PySem.Stmt.While _ _ _ _) _) _ _ _)); (fail_if_success (with_reducible show KswEnd _ _ _ _ _ _ _ _ _ _ _ _)); first | walk1 | (dsimp only; walk1))))
  rename Fr _ _ _ _ => F1
  rename News _ _ _ _ => N1
  refine' ksw_while (σ := List Value × Nat × Tok) (fun c => [(a, W.listOf c.1.toArray n)]) (fun c => [(Str.ofString "pos", .int (c.2.1 : Nat) c.2.2)]) (fun _ => True) [Str.ofString "parentpos", Str.ofString "parent"]
    (fun c => sdn lt start (vs.getD pos .none) c.1 c.2.1 = sdn lt start (vs.getD pos .none) vs pos ∧ c.1.length = vs.length ∧ c.2.1 < vs.length ∧ ∀ v ∈ c.1, Dom v) (fun c => c.2.1) (vs, pos, t2) F1 N1 trivial ?_ ⟨rfl, rfl, hp, hv⟩ ?_ ?_
  · intro p hp; simp only [List.mem_singleton] at hp; subst hp; rfl
  · rintro ⟨us, q, tq⟩ u hh tkk _ ⟨hres, hl, hq, hdom⟩ F2 N2
    dsimp only at hres hl hq hdom F2 N2
    clear F1 N1
    (all_goals try k_fold)
    (repeat' (first | (k_unfold; (try dsimp only)) | ((fail_if_success (with_reducible show wpAny _ _ (PySem.exec (PySem.Stmt.While _ _ _ _) _) _ _ _)); (fail_if_success (with_reducible show KswEnd _ _ _ _ _ _ _ _ _ _ _ _)); first | walk1 | (dsimp only; walk1))))
    · rename Fr _ _ _ _ => F9
      rename News _ _ _ _ => N9
      rename lt _ _ = _ => hlt
      simp only [Int.toNat_natCast] at hlt N9
      refine ksw_end (us.set q (us.getD ((q - 1) / 2) .none), (q - 1) / 2, _) F9 N9 (fun p hp => hp) trivial (by intro p hp; simp only [List.mem_singleton] at hp; subst hp; rfl) (kst_same (u := u) (ps := [(Str.ofString "pos", .int (q : Nat) tq)]) [Str.ofString "pos", Str.ofString "parentpos", Str.ofString "parent"] [Str.ofString "pos"] rfl rfl (by decide) (by intro z hz; simp only [List.mem_cons, List.not_mem_nil, or_false, not_or] at hz; simp only [hz, if_false])) ?_ (by dsimp only; omega)
      exact ⟨(sdn_go (by omega) hlt (by omega)).symm.trans hres, by simpa using hl, by dsimp only; omega, dom_set hdom (dom_at hdom (by omega))⟩
    · rename Fr _ _ _ _ => F9
      rename News _ _ _ _ => N9
      rename lt _ _ = _ => hlt
      simp only [Int.toNat_natCast] at hlt N9
      refine h _ _ n F9.keep ?_
      rw [(N9 _ (.head _)).1, ← hres, sdn_no (by omega) hlt (by omega)]
    · rename Fr _ _ _ _ => F9
      rename News _ _ _ _ => N9
      simp only [Int.toNat_natCast] at N9
      refine h _ _ n F9.keep ?_
      rw [(N9 _ (.head _)).1, ← hres, sdn_stop (by omega)]
  · intro v s' hf; exact hf.elim

-- B2
section

theorem CmpOk.up {prog : Program} {w : World} {g g' : Heap} {Dom : Value → Prop} {lt : Value → Value → Bool} (h : CmpOk prog w g Dom lt) (st : ∀ b o, g.get? b = some o → g'.get? b = some o) : CmpOk prog w g' Dom lt :=
  fun x y hx hy A E s Q hu hs hq => h x y hx hy A E s Q hu (fun b o e => hs b o (st b o e)) hq

theorem hide1 {g h : Heap} {L a : Addr} {m : Str → Option Value} (F : Fr g L h m) (ha : g.get? a = none) : ∀ b o, g.get? b = some o → (hideAll h [a]).get? b = some o := fun b o e =>
  hideAll_get _ (F.keep b o e) fun hm => by
    rw [List.mem_singleton.mp hm, ha] at e
    cases e

theorem back1 {g h h' : Heap} {L a : Addr} {m : Str → Option Value} {o o' : Obj} (F : Fr g L h m) (N : News g L h [(a, o)]) (st : ∀ b x, (hideAll h [a]).get? b = some x → h'.get? b = some x) (ho : h'.get? a = some o') :
    Fr g L h' m ∧ News g L h' [(a, o')] := by
  have z := N _ (.head _)
  have hk : ∀ b x, b ≠ a → h.get? b = some x → h'.get? b = some x := fun b x hb e => st b x (hideAll_get _ e (by simpa using hb))
  obtain ⟨oL, es, ep, hL, hLd, hLk, hLf⟩ := F.ns
  refine ⟨⟨⟨oL, es, ep, hk _ _ (Ne.symm z.2.1) hL, hLd, hLk, hLf⟩, fun b x e => hk _ _ (fun q => by rw [q, z.2.2] at e; cases e) (F.keep b x e), F.above⟩, fun p hp => ?_⟩
  rw [List.mem_singleton.mp hp]
  exact ⟨ho, z.2⟩

theorem sdn_length {lt : Value → Value → Bool} {start : Nat} {x : Value} : ∀ (pos : Nat) (vs : List Value), (sdn lt start x vs pos).length = vs.length := by
  intro pos
  induction pos using Nat.strongRecOn with
  | ind pos ih =>
    intro vs
    unfold sdn
    split
    · split
      · rw [ih _ (by omega)]; simp
      · simp
    · simp
theorem sdn_dom {lt : Value → Value → Bool} {start : Nat} {x : Value} {Dom : Value → Prop} (hx : Dom x) : ∀ (pos : Nat) (vs : List Value), (∀ v ∈ vs, Dom v) → ∀ v ∈ sdn lt start x vs pos, Dom v := by
  intro pos
  induction pos using Nat.strongRecOn with
  | ind pos ih =>
    intro vs hv
    unfold sdn
    have hg : Dom (vs.getD ((pos - 1) / 2) x) := by
      by_cases h : (pos - 1) / 2 < vs.length
      · simp [List.getD_eq_getElem?_getD, h, hv]
      · simp [List.getD_eq_getElem?_getD, h, hx]
    split
    · split
      · exact ih _ (by omega) _ (dom_set hv hg)
      · exact dom_set hv hx
    · exact dom_set hv hx

theorem siftdown_call {w : World} {A : Around} {E : Value → Shared → Prop} {s : Shared} {mg mb : Str → Option Value} {p : Program} {loose : List Str} {g : Heap} {L : Addr} {m : Str → Option Value} {a : Addr} {vs : List Value} {n start pos : Nat} {t1 t2 : Tok} {Dom : Value → Prop} {lt : Value → Value → Bool} {Q : Value → Shared → Prop}
    (F : Fr g L s.heap m) (N : News g L s.heap [(a, W.listOf vs.toArray n)]) (X : (hd.heap_1 w.params).In g) (T : TopRead p loose mg mb g)
    (hd : A.depth < 900) (hu : A.units < 9000) (hc : CmpOk PG w g Dom lt) (hv : ∀ v ∈ vs, Dom v) (hp : pos < vs.length) (hlen : vs.length < 2 ^ 20)
    (h : ∀ h' tk n', Fr g L h' m → News g L h' [(a, W.listOf (sdn lt start (vs.getD pos .none) vs pos).toArray n')] → Q .none { s with heap := h', toks := tk }) :
    wpAny (model PG w) A (call (.ref 70) [.ref a, .int start t1, .int pos t2]) Q E s := by
  have z := N _ (.head _)
  have st := hide1 F z.2.2
  refine wpAny_call (siftdown_code (X.keeps st) (T.keeps st) z.1 hd hu (hc.up st) hv hp hlen fun h' tk n' st' ho => ?_)
  obtain ⟨F', N'⟩ := back1 F N st' ho
  exact h h' tk n' F' N'

noncomputable def sup (lt : Value → Value → Bool) (vs : List Value) (pos : Nat) : List Value × Nat :=
  if h : 2 * pos + 1 < vs.length then
    if 2 * pos + 2 < vs.length ∧ lt (vs.getD (2 * pos + 1) .none) (vs.getD (2 * pos + 2) .none) = false then
      sup lt (vs.set pos (vs.getD (2 * pos + 2) .none)) (2 * pos + 2)
    else sup lt (vs.set pos (vs.getD (2 * pos + 1) .none)) (2 * pos + 1)
  else (vs, pos)
termination_by vs.length - pos
decreasing_by all_goals (simp only [List.length_set]; omega)

theorem sup_left {lt : Value → Value → Bool} {vs : List Value} {q : Nat} (h1 : 2 * q + 1 < vs.length) (hl : lt (vs.getD (2 * q + 1) .none) (vs.getD (2 * q + 2) .none) = true) :
    sup lt vs q = sup lt (vs.set q (vs.getD (2 * q + 1) .none)) (2 * q + 1) := by
  conv => lhs; unfold sup
  rw [dif_pos h1, if_neg (by rw [hl]; simp)]
theorem sup_only {lt : Value → Value → Bool} {vs : List Value} {q : Nat} (h1 : 2 * q + 1 < vs.length) (h2 : ¬ 2 * q + 2 < vs.length) :
    sup lt vs q = sup lt (vs.set q (vs.getD (2 * q + 1) .none)) (2 * q + 1) := by
  conv => lhs; unfold sup
  rw [dif_pos h1, if_neg (fun h => h2 h.1)]
theorem sup_right {lt : Value → Value → Bool} {vs : List Value} {q : Nat} (h1 : 2 * q + 2 < vs.length) (hl : lt (vs.getD (2 * q + 1) .none) (vs.getD (2 * q + 2) .none) = false) :
    sup lt vs q = sup lt (vs.set q (vs.getD (2 * q + 2) .none)) (2 * q + 2) := by
  conv => lhs; unfold sup
  rw [dif_pos (by omega), if_pos ⟨h1, hl⟩]
theorem sup_end {lt : Value → Value → Bool} {vs : List Value} {q : Nat} (h1 : ¬ 2 * q + 1 < vs.length) : sup lt vs q = (vs, q) := by
  unfold sup; rw [dif_neg h1]

noncomputable def siftup (lt : Value → Value → Bool) (vs : List Value) (pos : Nat) : List Value :=
  sdn lt pos (vs.getD pos .none) ((sup lt vs pos).1.set (sup lt vs pos).2 (vs.getD pos .none)) (sup lt vs pos).2

theorem len_any {prog : Program} {w : World} {A : Around} {E : Value → Shared → Prop} {s : Shared} {h₀ : Heap} {L D : Addr} {vs : List Value} {n : Nat} {Q : Value → Shared → Prop}
    (N : News h₀ L s.heap [(D, W.listOf vs.toArray n)]) (hlen : vs.length < 2 ^ 20) (h : Q (.int (vs.length : Nat) (s.toks + 1)) { s with toks := s.toks + 1 + 1 }) :
    wpAny (model prog w) A (call (.builtin "len") [.ref D]) Q E s := by
  have hl : s.heap.IsList D vs.toArray := PySem.IsL.isList (n := n) (N _ (.head _)).1
  refine Calls.call_len_list hl (by simp only [List.size_toArray]; omega) ?_
  simpa only [List.size_toArray] using h


local macro_rules | `(tactic| walk_at "call builtin:len") => `(tactic| (k_here; (with_reducible show wpAny _ _ (call (Value.builtin "len") [Value.ref _]) _ _ _); k_dflt (refine' len_any ?k1 ?k2 ?_; (case k1 => k_asm); (case k2 => omega); k_whole)))

theorem int_some {a b : Int} {t : Tok} (h : a = b) : some (Value.int a t) = some (Value.int b t) := by rw [h]
theorem siftup_code {w : World} {A : Around} {s : Shared} {mg mb : Str → Option Value} {p : Program} {loose : List Str} {a : Addr} {vs : List Value} {n pos : Nat} {t2 : Tok} {R : Result → Shared → Prop} {Dom : Value → Prop} {lt : Value → Value → Bool}
    (X : (hd.heap_1 w.params).In (hideAll s.heap [a])) (T : TopRead p loose mg mb (hideAll s.heap [a])) (ha : s.heap.get? a = some (W.listOf vs.toArray n))
    (hd : A.depth < 890) (hu : A.units < 8900) (hc : CmpOk PG w (hideAll s.heap [a]) Dom lt) (hv : ∀ v ∈ vs, Dom v) (hp : pos < vs.length) (hlen : vs.length < 2 ^ 20)
    (h : ∀ h' tk n', (∀ b o, (hideAll s.heap [a]).get? b = some o → h'.get? b = some o) → h'.get? a = some (W.listOf (siftup lt vs pos).toArray n') → R (.ok (.ret .none)) { s with heap := h', toks := tk }) :
    codeAny (model PG w) A (.call (.ref 77) ⟨[.ref a, .int pos t2], []⟩) R s := by
  refine code_list (binds := [(Str.ofString "heap", Value.ref a), (Str.ofString "pos", Value.int pos t2)]) (news := [(a, W.listOf vs.toArray n)]) X T (by simpa using ha) (by k_is) (by k_is) (by rw [show recursionLimit = 1000 from rfl]; omega) (BindsTo.of_eq rfl) (locs rfl) ?_
  intro L' h₁ F N
  simp only [List.map_cons, List.map_nil] at F N
  (all_goals try k_fold)
  (repeat' (first | (k_unfold; (try dsimp only)) | ((fail_if_success (with_reducible show wpAny _ _ (PySem.exec (PySem.Stmt.While _ _ _ _) _) _ _ _)); (fail_if_success (with_reducible show KswEnd _ _ _ _ _ _ _ _ _ _ _ _)); first | walk1 | (dsimp only; walk1))))
  rename Fr _ _ _ _ => F1
  rename News _ _ _ _ => N1
  refine' ksw_while (σ := List Value × Nat × Tok × Tok) (fun c => [(a, W.listOf c.1.toArray n)]) (fun c => [(Str.ofString "pos", .int (c.2.1 : Nat) c.2.2.1), (Str.ofString "childpos", .int (2 * (c.2.1 : Nat) + 1) c.2.2.2)]) (fun _ => True) [Str.ofString "rightpos"]
    (fun c => sup lt c.1 c.2.1 = sup lt vs pos ∧ c.1.length = vs.length ∧ c.2.1 < vs.length ∧ ∀ v ∈ c.1, Dom v) (fun c => vs.length - c.2.1) (vs, pos, t2, ?tk0) F1 N1 trivial ?hk ⟨rfl, rfl, hp, hv⟩ ?turn ?hE
  case hk => intro p hp; simp only [List.mem_cons, List.not_mem_nil, or_false] at hp; rcases hp with rfl | rfl <;> rfl
  case turn =>
    rintro ⟨us, q, tq, tc⟩ u hh tkk _ ⟨hres, hl, hq, hdom⟩ F2 N2
    dsimp only at hres hl hq hdom F2 N2
    have e1 : (2 * (q : Int) + 1).toNat = 2 * q + 1 := by omega
    have e2 : (2 * (q : Int) + 1 + 1).toNat = 2 * q + 2 := by omega
    clear F1 N1
    (all_goals try k_fold)
    (repeat' (first | (k_unfold; (try dsimp only)) | ((fail_if_success (with_reducible show wpAny _ _ (PySem.exec (PySem.Stmt.While _ _ _ _) _) _ _ _)); (fail_if_success (with_reducible show KswEnd _ _ _ _ _ _ _ _ _ _ _ _)); first | walk1 | (dsimp only; walk1))))
    · rename Fr _ _ _ _ => F9
      rename News _ _ _ _ => N9
      rename lt _ _ = _ => hlt
      simp only [e1, e2, Int.toNat_natCast] at hlt N9
      refine ksw_end (us.set q (us.getD (2 * q + 1) .none), 2 * q + 1, _, _) F9 N9 (fun p hp => hp) trivial (by intro p hp; simp only [List.mem_cons, List.not_mem_nil, or_false] at hp; rcases hp with rfl | rfl <;> first | rfl | exact int_some (by omega)) (kst_same (u := u) (ps := [(Str.ofString "pos", .int (q : Nat) tq), (Str.ofString "childpos", .int (2 * (q : Nat) + 1) tc)]) [Str.ofString "pos", Str.ofString "childpos", Str.ofString "rightpos"] [Str.ofString "pos", Str.ofString "childpos"] rfl rfl (by decide) (by intro z hz; simp only [List.mem_cons, List.not_mem_nil, or_false, not_or] at hz; simp only [hz, if_false])) ?_ (by dsimp only; omega)
      exact ⟨(sup_left (by omega) hlt).symm.trans hres, by simpa using hl, by dsimp only; omega, dom_set hdom (dom_at hdom (by omega))⟩
    · rename Fr _ _ _ _ => F9
      rename News _ _ _ _ => N9
      rename lt _ _ = _ => hlt
      simp only [e1, e2, Int.toNat_natCast] at hlt N9
      refine ksw_end (us.set q (us.getD (2 * q + 2) .none), 2 * q + 2, _, _) F9 N9 (fun p hp => hp) trivial (by intro p hp; simp only [List.mem_cons, List.not_mem_nil, or_false] at hp; rcases hp with rfl | rfl <;> first | rfl | exact int_some (by omega)) (kst_same (u := u) (ps := [(Str.ofString "pos", .int (q : Nat) tq), (Str.ofString "childpos", .int (2 * (q : Nat) + 1) tc)]) [Str.ofString "pos", Str.ofString "childpos", Str.ofString "rightpos"] [Str.ofString "pos", Str.ofString "childpos"] rfl rfl (by decide) (by intro z hz; simp only [List.mem_cons, List.not_mem_nil, or_false, not_or] at hz; simp only [hz, if_false])) ?_ (by dsimp only; omega)
      exact ⟨(sup_right (by omega) hlt).symm.trans hres, by simpa using hl, by dsimp only; omega, dom_set hdom (dom_at hdom (by omega))⟩
    · rename Fr _ _ _ _ => F9
      rename News _ _ _ _ => N9
      simp only [e1, Int.toNat_natCast] at N9
      refine ksw_end (us.set q (us.getD (2 * q + 1) .none), 2 * q + 1, _, _) F9 N9 (fun p hp => hp) trivial (by intro p hp; simp only [List.mem_cons, List.not_mem_nil, or_false] at hp; rcases hp with rfl | rfl <;> first | rfl | exact int_some (by omega)) (kst_same (u := u) (ps := [(Str.ofString "pos", .int (q : Nat) tq), (Str.ofString "childpos", .int (2 * (q : Nat) + 1) tc)]) [Str.ofString "pos", Str.ofString "childpos", Str.ofString "rightpos"] [Str.ofString "pos", Str.ofString "childpos"] rfl rfl (by decide) (by intro z hz; simp only [List.mem_cons, List.not_mem_nil, or_false, not_or] at hz; simp only [hz, if_false])) ?_ (by dsimp only; omega)
      exact ⟨(sup_only (by omega) (by omega)).symm.trans hres, by simpa using hl, by dsimp only; omega, dom_set hdom (dom_at hdom (by omega))⟩
    · rename Fr _ _ _ _ => F9
      rename News _ _ _ _ => N9
      rename CmpOk _ _ _ _ _ => hc
      simp only [Int.toNat_natCast] at N9
      refine siftdown_call F9 N9 X T (by simp only [depth_deeper]; omega) (by simp only [units_deeper]; omega) hc (dom_set hdom (dom_at hv hp)) (by simpa only [List.length_set, hl] using hq) (by simpa only [List.length_set, hl] using hlen) ?_
      intro h' tk n' F' N'
      clear F9 N9
      (repeat' (first | (k_unfold; (try dsimp only)) | ((fail_if_success (with_reducible show wpAny _ _ (PySem.exec (PySem.Stmt.While _ _ _ _) _) _ _ _)); (fail_if_success (with_reducible show KswEnd _ _ _ _ _ _ _ _ _ _ _ _)); first | walk1 | (dsimp only; walk1))))
      rename Fr _ _ _ _ => F9
      rename News _ _ _ _ => N9
      refine h _ _ n' F9.keep ?_
      have e4 : (us.set q (vs.getD pos Value.none)).getD q .none = vs.getD pos .none := by
        have : q < us.length := by omega
        simp [List.getD_eq_getElem?_getD, this]
      rw [(N9 _ (.head _)).1, e4, siftup, ← hres, sup_end (by omega)]
  case hE => intro v s' hf; exact hf.elim
end

-- B3
section


local macro_rules | `(tactic| walk_at "call builtin:len") => `(tactic| (k_here; (with_reducible show wpAny _ _ (call (Value.builtin "len") [Value.ref _]) _ _ _); k_dflt (refine' len_any ?k1 ?k2 ?_; (case k1 => k_asm); (case k2 => omega); k_whole)))

theorem siftdownmax_code {w : World} {A : Around} {s : Shared} {mg mb : Str → Option Value} {p : Program} {loose : List Str} {a : Addr} {vs : List Value} {n start pos : Nat} {t1 t2 : Tok} {R : Result → Shared → Prop} {Dom : Value → Prop} {lt : Value → Value → Bool} 
    (X : (hd.heap_1 w.params).In (hideAll s.heap [a])) (T : TopRead p loose mg mb (hideAll s.heap [a])) (ha : s.heap.get? a = some (listOf vs.toArray n))
    (hd : A.depth < 900) (hu : A.units < 9000) (hc : CmpOk PG w (hideAll s.heap [a]) Dom lt) (hv : ∀ v ∈ vs, Dom v) (hp : pos < vs.length) (hlen : vs.length < 2 ^ 20)
    (h : ∀ h' tk n', (∀ b o, (hideAll s.heap [a]).get? b = some o → h'.get? b = some o) → h'.get? a = some (listOf (sdn (fun x y => lt y x) start (vs.getD pos .none) vs pos).toArray n') → R (.ok (.ret .none)) { s with heap := h', toks := tk }) :
    codeAny (model PG w) A (.call (.ref 84) ⟨[.ref a, .int start t1, .int pos t2], []⟩) R s := by
  refine code_list (binds := [(Str.ofString "heap", Value.ref a), (Str.ofString "startpos", Value.int start t1), (Str.ofString "pos", Value.int pos t2)]) (news := [(a, listOf vs.toArray n)]) X T (by simpa using ha) (by k_is) (by k_is) (by rw [show recursionLimit = 1000 from rfl]; omega) (BindsTo.of_eq rfl) (locs rfl) ?_
  intro L' h₁ F N
  simp only [List.map_cons, List.map_nil] at F N
  (all_goals try k_fold)
  (repeat' (first | (k_unfold; (try dsimp only)) | ((fail_if_success (with_reducible show wpAny _ _ (PySem.exec (PySem.Stmt.While _ _ _ _) _) _ _ _)); (fail_if_success (with_reducible show KswEnd _ _ _ _ _ _ _ _ _ _ _ _)); first | walk1 | (dsimp only; walk1))))
  rename Fr _ _ _ _ => F1
  rename News _ _ _ _ => N1
  refine' ksw_while (σ := List Value × Nat × Tok) (fun c => [(a, W.listOf c.1.toArray n)]) (fun c => [(Str.ofString "pos", .int (c.2.1 : Nat) c.2.2)]) (fun _ => True) [Str.ofString "parentpos", Str.ofString "parent"]
    (fun c => sdn (fun x y => lt y x) start (vs.getD pos .none) c.1 c.2.1 = sdn (fun x y => lt y x) start (vs.getD pos .none) vs pos ∧ c.1.length = vs.length ∧ c.2.1 < vs.length ∧ ∀ v ∈ c.1, Dom v) (fun c => c.2.1) (vs, pos, t2) F1 N1 trivial ?_ ⟨rfl, rfl, hp, hv⟩ ?_ ?_
  · intro p hp; simp only [List.mem_singleton] at hp; subst hp; rfl
  · rintro ⟨us, q, tq⟩ u hh tkk _ ⟨hres, hl, hq, hdom⟩ F2 N2
    dsimp only at hres hl hq hdom F2 N2
    clear F1 N1
    (all_goals try k_fold)
    (repeat' (first | (k_unfold; (try dsimp only)) | ((fail_if_success (with_reducible show wpAny _ _ (PySem.exec (PySem.Stmt.While _ _ _ _) _) _ _ _)); (fail_if_success (with_reducible show KswEnd _ _ _ _ _ _ _ _ _ _ _ _)); first | walk1 | (dsimp only; walk1))))
    · rename Fr _ _ _ _ => F9
      rename News _ _ _ _ => N9
      rename lt _ _ = _ => hlt
      simp only [Int.toNat_natCast] at hlt N9
      refine ksw_end (us.set q (us.getD ((q - 1) / 2) .none), (q - 1) / 2, _) F9 N9 (fun p hp => hp) trivial (by intro p hp; simp only [List.mem_singleton] at hp; subst hp; rfl) (kst_same (u := u) (ps := [(Str.ofString "pos", .int (q : Nat) tq)]) [Str.ofString "pos", Str.ofString "parentpos", Str.ofString "parent"] [Str.ofString "pos"] rfl rfl (by decide) (by intro z hz; simp only [List.mem_cons, List.not_mem_nil, or_false, not_or] at hz; simp only [hz, if_false])) ?_ (by dsimp only; omega)
      exact ⟨(sdn_go (lt := fun x y => lt y x) (by omega) hlt (by omega)).symm.trans hres, by simpa using hl, by dsimp only; omega, dom_set hdom (dom_at hdom (by omega))⟩
    · rename Fr _ _ _ _ => F9
      rename News _ _ _ _ => N9
      rename lt _ _ = _ => hlt
      simp only [Int.toNat_natCast] at hlt N9
      refine h _ _ n F9.keep ?_
      rw [(N9 _ (.head _)).1, ← hres, sdn_no (lt := fun x y => lt y x) (by omega) hlt (by omega)]
    · rename Fr _ _ _ _ => F9
      rename News _ _ _ _ => N9
      simp only [Int.toNat_natCast] at N9
      refine h _ _ n F9.keep ?_
      rw [(N9 _ (.head _)).1, ← hres, sdn_stop (by omega)]
  · intro v s' hf; exact hf.elim
theorem siftdownmax_call {w : World} {A : Around} {E : Value → Shared → Prop} {s : Shared} {mg mb : Str → Option Value} {p : Program} {loose : List Str} {g : Heap} {L : Addr} {m : Str → Option Value} {a : Addr} {vs : List Value} {n start pos : Nat} {t1 t2 : Tok} {Dom : Value → Prop} {lt : Value → Value → Bool} {Q : Value → Shared → Prop}
    (F : Fr g L s.heap m) (N : News g L s.heap [(a, W.listOf vs.toArray n)]) (X : (hd.heap_1 w.params).In g) (T : TopRead p loose mg mb g)
    (hd : A.depth < 900) (hu : A.units < 9000) (hc : CmpOk PG w g Dom lt) (hv : ∀ v ∈ vs, Dom v) (hp : pos < vs.length) (hlen : vs.length < 2 ^ 20)
    (h : ∀ h' tk n', Fr g L h' m → News g L h' [(a, W.listOf (sdn (fun x y => lt y x) start (vs.getD pos .none) vs pos).toArray n')] → Q .none { s with heap := h', toks := tk }) :
    wpAny (model PG w) A (call (.ref 84) [.ref a, .int start t1, .int pos t2]) Q E s := by
  have z := N _ (.head _)
  have st := hide1 F z.2.2
  refine wpAny_call (siftdownmax_code (X.keeps st) (T.keeps st) z.1 hd hu (hc.up st) hv hp hlen fun h' tk n' st' ho => ?_)
  obtain ⟨F', N'⟩ := back1 F N st' ho
  exact h h' tk n' F' N'

theorem siftupmax_code {w : World} {A : Around} {s : Shared} {mg mb : Str → Option Value} {p : Program} {loose : List Str} {a : Addr} {vs : List Value} {n pos : Nat} {t2 : Tok} {R : Result → Shared → Prop} {Dom : Value → Prop} {lt : Value → Value → Bool}
    (X : (hd.heap_1 w.params).In (hideAll s.heap [a])) (T : TopRead p loose mg mb (hideAll s.heap [a])) (ha : s.heap.get? a = some (W.listOf vs.toArray n))
    (hd : A.depth < 890) (hu : A.units < 8900) (hc : CmpOk PG w (hideAll s.heap [a]) Dom lt) (hv : ∀ v ∈ vs, Dom v) (hp : pos < vs.length) (hlen : vs.length < 2 ^ 20)
    (h : ∀ h' tk n', (∀ b o, (hideAll s.heap [a]).get? b = some o → h'.get? b = some o) → h'.get? a = some (W.listOf (siftup (fun x y => lt y x) vs pos).toArray n') → R (.ok (.ret .none)) { s with heap := h', toks := tk }) :
    codeAny (model PG w) A (.call (.ref 91) ⟨[.ref a, .int pos t2], []⟩) R s := by
  refine code_list (binds := [(Str.ofString "heap", Value.ref a), (Str.ofString "pos", Value.int pos t2)]) (news := [(a, W.listOf vs.toArray n)]) X T (by simpa using ha) (by k_is) (by k_is) (by rw [show recursionLimit = 1000 from rfl]; omega) (BindsTo.of_eq rfl) (locs rfl) ?_
  intro L' h₁ F N
  simp only [List.map_cons, List.map_nil] at F N
  (all_goals try k_fold)
  (repeat' (first | (k_unfold; (try dsimp only)) | ((fail_if_success (with_reducible show wpAny _ _ (PySem.exec (PySem.Stmt.While _ _ _ _) _) _ _ _)); (fail_if_success (with_reducible show KswEnd _ _ _ _ _ _ _ _ _ _ _ _)); first | walk1 | (dsimp only; walk1))))
  rename Fr _ _ _ _ => F1
  rename News _ _ _ _ => N1
  refine' ksw_while (σ := List Value × Nat × Tok × Tok) (fun c => [(a, W.listOf c.1.toArray n)]) (fun c => [(Str.ofString "pos", .int (c.2.1 : Nat) c.2.2.1), (Str.ofString "childpos", .int (2 * (c.2.1 : Nat) + 1) c.2.2.2)]) (fun _ => True) [Str.ofString "rightpos"]
    (fun c => sup (fun x y => lt y x) c.1 c.2.1 = sup (fun x y => lt y x) vs pos ∧ c.1.length = vs.length ∧ c.2.1 < vs.length ∧ ∀ v ∈ c.1, Dom v) (fun c => vs.length - c.2.1) (vs, pos, t2, ?tk0) F1 N1 trivial ?hk ⟨rfl, rfl, hp, hv⟩ ?turn ?hE
  case hk => intro p hp; simp only [List.mem_cons, List.not_mem_nil, or_false] at hp; rcases hp with rfl | rfl <;> rfl
  case turn =>
    rintro ⟨us, q, tq, tc⟩ u hh tkk _ ⟨hres, hl, hq, hdom⟩ F2 N2
    dsimp only at hres hl hq hdom F2 N2
    have e1 : (2 * (q : Int) + 1).toNat = 2 * q + 1 := by omega
    have e2 : (2 * (q : Int) + 1 + 1).toNat = 2 * q + 2 := by omega
    clear F1 N1
    (all_goals try k_fold)
    (repeat' (first | (k_unfold; (try dsimp only)) | ((fail_if_success (with_reducible show wpAny _ _ (PySem.exec (PySem.Stmt.While _ _ _ _) _) _ _ _)); (fail_if_success (with_reducible show KswEnd _ _ _ _ _ _ _ _ _ _ _ _)); first | walk1 | (dsimp only; walk1))))
    · rename Fr _ _ _ _ => F9
      rename News _ _ _ _ => N9
      rename lt _ _ = _ => hlt
      simp only [e1, e2, Int.toNat_natCast] at hlt N9
      refine ksw_end (us.set q (us.getD (2 * q + 1) .none), 2 * q + 1, _, _) F9 N9 (fun p hp => hp) trivial (by intro p hp; simp only [List.mem_cons, List.not_mem_nil, or_false] at hp; rcases hp with rfl | rfl <;> first | rfl | exact int_some (by omega)) (kst_same (u := u) (ps := [(Str.ofString "pos", .int (q : Nat) tq), (Str.ofString "childpos", .int (2 * (q : Nat) + 1) tc)]) [Str.ofString "pos", Str.ofString "childpos", Str.ofString "rightpos"] [Str.ofString "pos", Str.ofString "childpos"] rfl rfl (by decide) (by intro z hz; simp only [List.mem_cons, List.not_mem_nil, or_false, not_or] at hz; simp only [hz, if_false])) ?_ (by dsimp only; omega)
      exact ⟨(sup_left (lt := fun x y => lt y x) (by omega) hlt).symm.trans hres, by simpa using hl, by dsimp only; omega, dom_set hdom (dom_at hdom (by omega))⟩
    · rename Fr _ _ _ _ => F9
      rename News _ _ _ _ => N9
      rename lt _ _ = _ => hlt
      simp only [e1, e2, Int.toNat_natCast] at hlt N9
      refine ksw_end (us.set q (us.getD (2 * q + 2) .none), 2 * q + 2, _, _) F9 N9 (fun p hp => hp) trivial (by intro p hp; simp only [List.mem_cons, List.not_mem_nil, or_false] at hp; rcases hp with rfl | rfl <;> first | rfl | exact int_some (by omega)) (kst_same (u := u) (ps := [(Str.ofString "pos", .int (q : Nat) tq), (Str.ofString "childpos", .int (2 * (q : Nat) + 1) tc)]) [Str.ofString "pos", Str.ofString "childpos", Str.ofString "rightpos"] [Str.ofString "pos", Str.ofString "childpos"] rfl rfl (by decide) (by intro z hz; simp only [List.mem_cons, List.not_mem_nil, or_false, not_or] at hz; simp only [hz, if_false])) ?_ (by dsimp only; omega)
      exact ⟨(sup_right (lt := fun x y => lt y x) (by omega) hlt).symm.trans hres, by simpa using hl, by dsimp only; omega, dom_set hdom (dom_at hdom (by omega))⟩
    · rename Fr _ _ _ _ => F9
      rename News _ _ _ _ => N9
      simp only [e1, Int.toNat_natCast] at N9
      refine ksw_end (us.set q (us.getD (2 * q + 1) .none), 2 * q + 1, _, _) F9 N9 (fun p hp => hp) trivial (by intro p hp; simp only [List.mem_cons, List.not_mem_nil, or_false] at hp; rcases hp with rfl | rfl <;> first | rfl | exact int_some (by omega)) (kst_same (u := u) (ps := [(Str.ofString "pos", .int (q : Nat) tq), (Str.ofString "childpos", .int (2 * (q : Nat) + 1) tc)]) [Str.ofString "pos", Str.ofString "childpos", Str.ofString "rightpos"] [Str.ofString "pos", Str.ofString "childpos"] rfl rfl (by decide) (by intro z hz; simp only [List.mem_cons, List.not_mem_nil, or_false, not_or] at hz; simp only [hz, if_false])) ?_ (by dsimp only; omega)
      exact ⟨(sup_only (by omega) (by omega)).symm.trans hres, by simpa using hl, by dsimp only; omega, dom_set hdom (dom_at hdom (by omega))⟩
    · rename Fr _ _ _ _ => F9
      rename News _ _ _ _ => N9
      rename CmpOk _ _ _ _ _ => hc
      simp only [Int.toNat_natCast] at N9
      refine siftdownmax_call F9 N9 X T (by simp only [depth_deeper]; omega) (by simp only [units_deeper]; omega) hc (dom_set hdom (dom_at hv hp)) (by simpa only [List.length_set, hl] using hq) (by simpa only [List.length_set, hl] using hlen) ?_
      intro h' tk n' F' N'
      clear F9 N9
      (repeat' (first | (k_unfold; (try dsimp only)) | ((fail_if_success (with_reducible show wpAny _ _ (PySem.exec (PySem.Stmt.While _ _ _ _) _) _ _ _)); (fail_if_success (with_reducible show KswEnd _ _ _ _ _ _ _ _ _ _ _ _)); first | walk1 | (dsimp only; walk1))))
      rename Fr _ _ _ _ => F9
      rename News _ _ _ _ => N9
      refine h _ _ n' F9.keep ?_
      have e4 : (us.set q (vs.getD pos Value.none)).getD q .none = vs.getD pos .none := by
        have : q < us.length := by omega
        simp [List.getD_eq_getElem?_getD, this]
      rw [(N9 _ (.head _)).1, e4, siftup, ← hres, sup_end (by omega)]
  case hE => intro v s' hf; exact hf.elim
end
end Mine

-- B4
namespace Mine


section
variable {prog : Program} {w : World} {A : Around} {E : Value → Shared → Prop} {s : Shared} {h₀ : Heap} {L D : Addr} {m : Str → Option Value} {news : List (Addr × Obj)} {gg : Obj → List (Addr × Obj)} {vs : List Value} {n : Nat}

theorem updF_mem {d : Addr} {o : Obj} (U : UpdF d o news gg) : (d, o) ∈ news := by
  obtain ⟨pre, post, rfl, _, _, _⟩ := U.split
  exact List.mem_append_right _ (.head _)
theorem item_g {k : Int} {t : Tok} {value slice : PySem.Expr} {Q : Value → Shared → Prop}
    (N : News h₀ L s.heap news) (hm : (D, W.listOf vs.toArray n) ∈ news) (h0 : 0 ≤ k) (h1 : k < vs.length) (hfit : k < 2 ^ 63) (h : Q (vs.getD k.toNat .none) s)
    (hs : subscripted slice false (.ref D) (.int k t) = operate [.ref D, .int k t] (getItem (.ref D) (.int k t)) := by with_unfolding_all rfl) :
    wpAny (model prog w) A (subscriptTail value slice (.ref D) (.int k t)) Q E s := by
  have hl : s.heap.IsList D vs.toArray := PySem.IsL.isList (n := n) (N _ hm).1
  have hk : k.toNat < vs.length := by omega
  refine tail_any hl.typeIs slot_list_getitem.lookup (wpAny_getItem_list hl h0 hfit (x := vs.getD k.toNat .none) ?_ h) hs
  simp [List.getD_eq_getElem?_getD, hk]
theorem set_g {k : Int} {t : Tok} {v : Value} {Q : Unit → Shared → Prop}
    (F : Fr h₀ L s.heap m) (N : News h₀ L s.heap news) (U : UpdF D (W.listOf vs.toArray n) news gg) (h0 : 0 ≤ k) (h1 : k < vs.length) (hfit : k < 2 ^ 63)
    (h : ∀ h', Fr h₀ L h' m → News h₀ L h' (gg (W.listOf (vs.set k.toNat v).toArray n)) → Q () { s with heap := h' }) :
    wpAny (model prog w) A (setItem (.ref D) (.int k t) v) Q E s := by
  obtain ⟨pre, post, rfl, hg, a, b⟩ := U.split
  have z := N (D, W.listOf vs.toArray n) (List.mem_append_right _ (.head _))
  refine ki_setAt z.1 h0 hfit (by simpa using h1) (h _ (F.change (Heap.SameBut.update ..) z.2.1 z.2.2) (hg _ ▸ ki_turn _ N a b ?_ ?_))
  · show vs.toArray.setIfInBounds k.toNat v = (vs.set k.toNat v).toArray
    apply Array.toList_inj.mp
    simp
  · simp
theorem len_g {Q : Value → Shared → Prop}
    (N : News h₀ L s.heap news) (hm : (D, W.listOf vs.toArray n) ∈ news) (hlen : vs.length < 2 ^ 20) (h : Q (.int (vs.length : Nat) (s.toks + 1)) { s with toks := s.toks + 1 + 1 }) :
    wpAny (model prog w) A (call (.builtin "len") [.ref D]) Q E s := by
  have hl : s.heap.IsList D vs.toArray := PySem.IsL.isList (n := n) (N _ hm).1
  refine Calls.call_len_list hl (by simp only [List.size_toArray]; omega) ?_
  simpa only [List.size_toArray] using h
theorem truthy_g {Q : Bool → Shared → Prop}
    (N : News h₀ L s.heap news) (hm : (D, W.listOf vs.toArray n) ∈ news) (hlen : vs.length < 2 ^ 20) (h : Q (decide (0 < vs.length)) { s with toks := s.toks + 1 + 1 }) :
    wpAny (model prog w) A (truthy (.ref D)) Q E s := by
  have hl : s.heap.IsList D vs.toArray := PySem.IsL.isList (n := n) (N _ hm).1
  refine wpAny_truthy_list hl (by simp only [List.size_toArray]; omega) ?_
  have e : (!vs.toArray.isEmpty) = decide (0 < vs.length) := by cases vs <;> simp
  rw [e]; exact h
theorem append_g {x : Value} {Q : Value → Shared → Prop} (F : Fr h₀ L s.heap m) (N : News h₀ L s.heap news) (U : UpdF D (W.listOf vs.toArray n) news gg) (hlen : vs.length < 2 ^ 20)
    (h : ∀ h', Fr h₀ L h' m → News h₀ L h' (gg (W.listOf (vs ++ [x]).toArray (n + 1))) → Q .none { s with heap := h' }) : wpAny (model prog w) A (call (.builtin "list.append") [.ref D, x]) Q E s := by
  obtain ⟨pre, post, rfl, hg, a, b⟩ := U.split
  have z := N (D, W.listOf vs.toArray n) (List.mem_append_right _ (.head _))
  refine append_at (hsz := by rw [PySem.sizeLine_eq, List.size_toArray]; omega) z.1 fun h' hs ho' => h h' (F.change hs z.2.1 z.2.2) (hg _ ▸ news_set N a b hs ?_)
  rw [ho']; simp
theorem updF_upd {d : Addr} {o : Obj} (U : UpdF d o news gg) (o' : Obj) : Upd d o o' news (gg o') := by
  induction U with
  | head h => exact .head h
  | tail h _ ih => exact .tail h ih
theorem pop_g {us : List Value} {y : Value} {Q : Value → Shared → Prop} (F : Fr h₀ L s.heap m) (N : News h₀ L s.heap news) (U : UpdF D (W.listOf (us ++ [y]).toArray n) news gg) (hlen : us.length < 2 ^ 20)
    (h : ∀ h', Fr h₀ L h' m → News h₀ L h' (gg (W.listOf us.toArray (n + 1))) → Q y { s with heap := h' }) : wpAny (model prog w) A (call (.builtin "list.pop") [.ref D]) Q E s :=
  kl_pop F N (p := us) (y := y) (by simpa using kpa_last y us) (updF_upd U _) (by rw [PySem.sizeLine_eq]; simp; omega) h

theorem back_g {g h h' : Heap} {a : Addr} {o o' : Obj} (F : Fr g L h m) (N : News g L h news) (U : UpdF a o news gg) (st : ∀ b x, (hideAll h [a]).get? b = some x → h'.get? b = some x) (ho : h'.get? a = some o') :
    Fr g L h' m ∧ News g L h' (gg o') := by
  obtain ⟨pre, post, rfl, hg, ha, hb⟩ := U.split
  have z := N (a, o) (List.mem_append_right _ (.head _))
  have hk : ∀ b x, b ≠ a → h.get? b = some x → h'.get? b = some x := fun b x hb e => st b x (hideAll_get _ e (by simpa using hb))
  obtain ⟨oL, es, ep, hL, hLd, hLk, hLf⟩ := F.ns
  refine ⟨⟨⟨oL, es, ep, hk _ _ (Ne.symm z.2.1) hL, hLd, hLk, hLf⟩, fun b x e => hk _ _ (fun q => by rw [q, z.2.2] at e; cases e) (F.keep b x e), F.above⟩, ?_⟩
  rw [hg]
  intro p hp
  rcases List.mem_append.mp hp with hp | hp
  · exact ⟨hk _ _ (ha p hp) (N p (List.mem_append_left _ hp)).1, (N p (List.mem_append_left _ hp)).2⟩
  · rcases List.mem_cons.mp hp with rfl | hp
    · exact ⟨ho, z.2⟩
    · exact ⟨hk _ _ (hb p hp) (N p (List.mem_append_right _ (.tail _ hp))).1, (N p (List.mem_append_right _ (.tail _ hp))).2⟩
end

theorem siftdown_g {w : World} {A : Around} {E : Value → Shared → Prop} {s : Shared} {mg mb : Str → Option Value} {p : Program} {loose : List Str} {g : Heap} {L : Addr} {m : Str → Option Value} {news : List (Addr × Obj)} {gg : Obj → List (Addr × Obj)} {a : Addr} {vs : List Value} {n : Nat} {start pos : Nat} {t1 t2 : Tok} {Dom : Value → Prop} {lt : Value → Value → Bool} {Q : Value → Shared → Prop}
    (F : Fr g L s.heap m) (N : News g L s.heap news) (U : UpdF a (W.listOf (vs).toArray n) news gg) (X : (hd.heap_1 w.params).In g) (T : TopRead p loose mg mb g)
    (hd : A.depth < 900) (hu : A.units < 9000) (hc : CmpOk PG w g Dom lt) (hv : ∀ v ∈ vs, Dom v) (hp : pos < vs.length) (hlen : vs.length < 2 ^ 20)
    (h : ∀ h' tk n', Fr g L h' m → News g L h' (gg (W.listOf (sdn lt start (vs.getD pos .none) vs pos).toArray n')) → Q .none { s with heap := h', toks := tk }) :
    wpAny (model PG w) A (call (.ref 70) [.ref a, .int start t1, .int pos t2]) Q E s := by
  have z := N _ (updF_mem U)
  have st := hide1 F z.2.2
  refine wpAny_call (siftdown_code (X.keeps st) (T.keeps st) z.1 hd hu (hc.up st) hv hp hlen fun h' tk n' st' ho => ?_)
  obtain ⟨F', N'⟩ := back_g F N U st' ho
  exact h h' tk n' F' N'

theorem siftup_g {w : World} {A : Around} {E : Value → Shared → Prop} {s : Shared} {mg mb : Str → Option Value} {p : Program} {loose : List Str} {g : Heap} {L : Addr} {m : Str → Option Value} {news : List (Addr × Obj)} {gg : Obj → List (Addr × Obj)} {a : Addr} {vs : List Value} {n : Nat} {pos : Nat} {t2 : Tok} {Dom : Value → Prop} {lt : Value → Value → Bool} {Q : Value → Shared → Prop}
    (F : Fr g L s.heap m) (N : News g L s.heap news) (U : UpdF a (W.listOf (vs).toArray n) news gg) (X : (hd.heap_1 w.params).In g) (T : TopRead p loose mg mb g)
    (hd : A.depth < 890) (hu : A.units < 8900) (hc : CmpOk PG w g Dom lt) (hv : ∀ v ∈ vs, Dom v) (hp : pos < vs.length) (hlen : vs.length < 2 ^ 20)
    (h : ∀ h' tk n', Fr g L h' m → News g L h' (gg (W.listOf (siftup lt vs pos).toArray n')) → Q .none { s with heap := h', toks := tk }) :
    wpAny (model PG w) A (call (.ref 77) [.ref a, .int pos t2]) Q E s := by
  have z := N _ (updF_mem U)
  have st := hide1 F z.2.2
  refine wpAny_call (siftup_code (X.keeps st) (T.keeps st) z.1 hd hu (hc.up st) hv hp hlen fun h' tk n' st' ho => ?_)
  obtain ⟨F', N'⟩ := back_g F N U st' ho
  exact h h' tk n' F' N'

theorem siftupmax_g {w : World} {A : Around} {E : Value → Shared → Prop} {s : Shared} {mg mb : Str → Option Value} {p : Program} {loose : List Str} {g : Heap} {L : Addr} {m : Str → Option Value} {news : List (Addr × Obj)} {gg : Obj → List (Addr × Obj)} {a : Addr} {vs : List Value} {n : Nat} {pos : Nat} {t2 : Tok} {Dom : Value → Prop} {lt : Value → Value → Bool} {Q : Value → Shared → Prop}
    (F : Fr g L s.heap m) (N : News g L s.heap news) (U : UpdF a (W.listOf (vs).toArray n) news gg) (X : (hd.heap_1 w.params).In g) (T : TopRead p loose mg mb g)
    (hd : A.depth < 890) (hu : A.units < 8900) (hc : CmpOk PG w g Dom lt) (hv : ∀ v ∈ vs, Dom v) (hp : pos < vs.length) (hlen : vs.length < 2 ^ 20)
    (h : ∀ h' tk n', Fr g L h' m → News g L h' (gg (W.listOf (siftup (fun x y => lt y x) vs pos).toArray n')) → Q .none { s with heap := h', toks := tk }) :
    wpAny (model PG w) A (call (.ref 91) [.ref a, .int pos t2]) Q E s := by
  have z := N _ (updF_mem U)
  have st := hide1 F z.2.2
  refine wpAny_call (siftupmax_code (X.keeps st) (T.keeps st) z.1 hd hu (hc.up st) hv hp hlen fun h' tk n' st' ho => ?_)
  obtain ⟨F', N'⟩ := back_g F N U st' ho
  exact h h' tk n' F' N'

theorem dom_app {Dom : Value → Prop} {vs : List Value} {x : Value} (h : ∀ v ∈ vs, Dom v) (hx : Dom x) : ∀ v ∈ vs ++ [x], Dom v := fun v hv => by
  rcases List.mem_append.mp hv with h' | h'
  · exact h v h'
  · rw [List.mem_singleton.mp h']; exact hx

local macro_rules | `(tactic| walk_at "own len") => `(tactic| ((try simp only [List.length_set, List.length_append, List.length_cons, List.length_nil]); omega))
local macro_rules | `(tactic| walk_at "own heap") => `(tactic| (k_here; first | ((with_reducible show wpAny _ _ (subscriptTail _ _ (Value.ref _) (Value.int _ _)) _ _ _); k_dflt (refine' item_g ?k1 ?km ?k2 ?k3 ?k4 ?_ ?k6; (case k1 => k_asm); (case km => k_mem); (case k2 => omega); (case k3 => walk_at "own len"); (case k4 => omega); (case k6 => with_unfolding_all rfl); k_whole)) | ((with_reducible show wpAny _ _ (setItem (Value.ref _) (Value.int _ _) _) _ _ _); k_dflt (refine' set_g ?k1 ?k2 ?ku ?k3 ?k4 ?k5 ?_; (case k1 => k_asm); (case k2 => k_asm); (case ku => k_updF); (case k3 => omega); (case k4 => walk_at "own len"); (case k5 => omega); k_whole); intro h' F' N') | ((with_reducible show wpAny _ _ (compareOp CmpOp.Lt _ _) _ _ _); (rename CmpOk _ _ _ _ _ => hc'); (rename Fr _ _ _ _ => lF'); (refine' hc' _ _ ?k1 ?k2 _ _ _ _ ?k3 lF'.keep ?_; (case k1 => first | assumption | exact dom_at (by assumption) (by walk_at "own len")); (case k2 => first | assumption | exact dom_at (by assumption) (by walk_at "own len")); (case k3 => (simp only [units_in1, units_deeper]; omega)); k_whole)) | ((with_reducible show wpAny _ _ (binaryOp Operator.RShift _ _) _ _ _); k_dflt (refine' shr_half ?k1 ?_; (case k1 => omega); k_whole)) | ((with_reducible show wpAny _ _ (call (Value.builtin "len") [Value.ref _]) _ _ _); k_dflt (refine' len_g ?k1 ?km ?k2 ?_; (case k1 => k_asm); (case km => k_mem); (case k2 => walk_at "own len"); k_whole)) | ((with_reducible show wpAny _ _ (truthy (Value.ref _)) _ _ _); k_dflt (refine' truthy_g ?k1 ?km ?k2 ?_; (case k1 => k_asm); (case km => k_mem); (case k2 => walk_at "own len"); k_whole)) | ((with_reducible show wpAny _ _ (call (Value.builtin "list.append") _) _ _ _); k_dflt (refine' append_g ?k1 ?k2 ?ku ?k3 ?_; (case k1 => k_asm); (case k2 => k_asm); (case ku => k_updF); (case k3 => walk_at "own len"); k_whole); intro h' F' N') | ((with_reducible show wpAny _ _ (call (Value.builtin "list.pop") [Value.ref _]) _ _ _); k_dflt (refine' pop_g ?k1 ?k2 ?ku ?k3 ?_; (case k1 => k_asm); (case k2 => k_asm); (case ku => k_updF); (case k3 => walk_at "own len"); k_whole); intro h' F' N') | ((with_reducible show wpAny _ _ (call (Value.ref _) _) _ _ _); (rename CmpOk _ _ _ _ _ => hc'); k_dflt ((first | refine' siftdown_g ?F ?N ?U ?X ?T ?d ?u hc' ?v ?p ?l ?_ | refine' siftup_g ?F ?N ?U ?X ?T ?d ?u hc' ?v ?p ?l ?_ | refine' siftupmax_g ?F ?N ?U ?X ?T ?d ?u hc' ?v ?p ?l ?_); (case F => k_asm); (case N => k_asm); (case U => k_updF); (case X => k_asm); (case T => k_asm); (case d => (simp only [depth_deeper]; omega)); (case u => (simp only [units_deeper]; omega)); (case v => first | assumption | exact dom_at (by assumption) (by walk_at "own len") | exact dom_set (by assumption) (by first | assumption | exact dom_at (by assumption) (by walk_at "own len")) | exact dom_app (by assumption) (by assumption)); (case p => walk_at "own len"); (case l => walk_at "own len"); k_whole); intro h' tk' n' F' N') | ((with_reducible show wpAny _ _ (assign (PySem.Expr.Tuple _ _ _) _ (Value.ref _)) _ _ _); k_dflt (refine' unpackN_ ?k1 ?k2 ?k3 ?k4 ?k5 ?k6 ?_; (case k1 => k_asm); (case k2 => k_asm); (case k3 => kun_tup); (case k4 => assumption); (case k5 => exact rfl); (case k6 => exact rfl); k_whole); intro h' F' N')))
local macro_rules | `(tactic| walk_at "subscriptTail") => `(tactic| walk_at "own heap")
local macro_rules | `(tactic| walk_at "setItem ref int") => `(tactic| walk_at "own heap")
local macro_rules | `(tactic| walk_at "compareOp Lt") => `(tactic| walk_at "own heap")
local macro_rules | `(tactic| walk_at "binaryOp RShift int int") => `(tactic| walk_at "own heap")
local macro_rules | `(tactic| walk_at "call builtin:len") => `(tactic| walk_at "own heap")
local macro_rules | `(tactic| walk_at "truthy ref") => `(tactic| walk_at "own heap")
local macro_rules | `(tactic| walk_at "call builtin:list.append") => `(tactic| walk_at "own heap")
local macro_rules | `(tactic| walk_at "call builtin:list.pop") => `(tactic| walk_at "own heap")
local macro_rules | `(tactic| walk_at "call ref") => `(tactic| walk_at "own heap")
local macro_rules | `(tactic| walk_at "assign Tuple") => `(tactic| walk_at "own heap")

theorem heappush_code {w : World} {A : Around} {s : Shared} {mg mb : Str → Option Value} {p : Program} {loose : List Str} {a : Addr} {vs : List Value} {n : Nat} {x : Value} {R : Result → Shared → Prop} {Dom : Value → Prop} {lt : Value → Value → Bool}
    (X : (hd.heap_1 w.params).In (hideAll s.heap [a])) (T : TopRead p loose mg mb (hideAll s.heap [a])) (ha : s.heap.get? a = some (W.listOf (vs).toArray n))
    (hd : A.depth < 880) (hu : A.units < 8800) (hh : A.handled = none) (hc : CmpOk PG w (hideAll s.heap [a]) Dom lt) (hv : ∀ v ∈ vs, Dom v) (hx : Dom x) (hlen : vs.length + 1 < 2 ^ 20)
    (h : ∀ h' tk n', (∀ b o, (hideAll s.heap [a]).get? b = some o → h'.get? b = some o) → h'.get? a = some (W.listOf (sdn lt 0 x (vs ++ [x]) vs.length).toArray n') → R (.ok (.ret .none)) { s with heap := h', toks := tk }) :
    codeAny (model PG w) A (.call (.ref 21) ⟨[.ref a, x], []⟩) R s := by
  refine code_list (binds := [(Str.ofString "heap", Value.ref a), (Str.ofString "item", x)]) (news := [(a, W.listOf (vs).toArray n)]) X T (by simpa using ha) (by k_is) (by k_is) (by rw [show recursionLimit = 1000 from rfl]; omega) (BindsTo.of_eq rfl) (locs rfl) ?_
  intro L' h₁ F N
  simp only [List.map_cons, List.map_nil] at F N
  (all_goals try k_fold)
  (repeat' (first | (k_unfold; (try dsimp only)) | ((fail_if_success (with_reducible show wpAny _ _ (PySem.exec (PySem.Stmt.While _ _ _ _) _) _ _ _)); (fail_if_success (with_reducible show KswEnd _ _ _ _ _ _ _ _ _ _ _ _)); first | walk1 | (dsimp only; walk1))))
  rw [show (((vs ++ [x]).length : Nat) : Int) - 1 = ((vs.length : Nat) : Int) by simp]
  (repeat' (first | (k_unfold; (try dsimp only)) | ((fail_if_success (with_reducible show wpAny _ _ (PySem.exec (PySem.Stmt.While _ _ _ _) _) _ _ _)); (fail_if_success (with_reducible show KswEnd _ _ _ _ _ _ _ _ _ _ _ _)); first | walk1 | (dsimp only; walk1))))
  · rename Fr _ _ _ _ => F9
    rename News _ _ _ _ => N9
    have e : (vs ++ [x]).getD vs.length Value.none = x := by simp
    rw [e] at N9
    refine' h _ _ _ F9.keep ?k9
    case k9 => first | exact (N9 _ (.head _)).1 | exact (N9 _ (.tail _ (.head _))).1

theorem heappop_code {w : World} {A : Around} {s : Shared} {mg mb : Str → Option Value} {p : Program} {loose : List Str} {a : Addr} {vs : List Value} {n : Nat} {x : Value} {R : Result → Shared → Prop} {Dom : Value → Prop} {lt : Value → Value → Bool}
    (X : (hd.heap_1 w.params).In (hideAll s.heap [a])) (T : TopRead p loose mg mb (hideAll s.heap [a])) (ha : s.heap.get? a = some (W.listOf (vs ++ [x]).toArray n))
    (hd : A.depth < 880) (hu : A.units < 8800) (hh : A.handled = none) (hc : CmpOk PG w (hideAll s.heap [a]) Dom lt) (hv : ∀ v ∈ vs, Dom v) (hx : Dom x) (hlen : vs.length + 1 < 2 ^ 20)
    (h : ∀ h' tk n', (∀ b o, (hideAll s.heap [a]).get? b = some o → h'.get? b = some o) → h'.get? a = some (W.listOf (if 0 < vs.length then siftup lt (vs.set 0 x) 0 else []).toArray n') → R (.ok (.ret (if 0 < vs.length then vs.getD 0 .none else x))) { s with heap := h', toks := tk }) :
    codeAny (model PG w) A (.call (.ref 28) ⟨[.ref a], []⟩) R s := by
  refine code_list (binds := [(Str.ofString "heap", Value.ref a)]) (news := [(a, W.listOf (vs ++ [x]).toArray n)]) X T (by simpa using ha) (by k_is) (by k_is) (by rw [show recursionLimit = 1000 from rfl]; omega) (BindsTo.of_eq rfl) (locs rfl) ?_
  intro L' h₁ F N
  simp only [List.map_cons, List.map_nil] at F N
  (all_goals try k_fold)
  (repeat' (first | (k_unfold; (try dsimp only)) | ((fail_if_success (with_reducible show wpAny _ _ (PySem.exec (PySem.Stmt.While _ _ _ _) _) _ _ _)); (fail_if_success (with_reducible show KswEnd _ _ _ _ _ _ _ _ _ _ _ _)); first | walk1 | (dsimp only; walk1))))
  · rename Fr _ _ _ _ => F9
    rename News _ _ _ _ => N9
    rename 0 < vs.length => hp; rw [if_pos hp, if_pos hp] at h
    refine' h _ _ _ F9.keep ?k9
    case k9 => first | exact (N9 _ (.head _)).1 | exact (N9 _ (.tail _ (.head _))).1
  · rename Fr _ _ _ _ => F9
    rename News _ _ _ _ => N9
    rename ¬ 0 < vs.length => hp; rw [if_neg hp, if_neg hp] at h; have e := List.length_eq_zero_iff.mp (Nat.eq_zero_of_not_pos hp); subst e
    refine' h _ _ _ F9.keep ?k9
    case k9 => first | exact (N9 _ (.head _)).1 | exact (N9 _ (.tail _ (.head _))).1

theorem heapreplace_code {w : World} {A : Around} {s : Shared} {mg mb : Str → Option Value} {p : Program} {loose : List Str} {a : Addr} {vs : List Value} {n : Nat} {x : Value} {R : Result → Shared → Prop} {Dom : Value → Prop} {lt : Value → Value → Bool}
    (X : (hd.heap_1 w.params).In (hideAll s.heap [a])) (T : TopRead p loose mg mb (hideAll s.heap [a])) (ha : s.heap.get? a = some (W.listOf (vs).toArray n))
    (hd : A.depth < 880) (hu : A.units < 8800) (hh : A.handled = none) (hc : CmpOk PG w (hideAll s.heap [a]) Dom lt) (hv : ∀ v ∈ vs, Dom v) (hx : Dom x) (hne : 0 < vs.length) (hlen : vs.length + 1 < 2 ^ 20)
    (h : ∀ h' tk n', (∀ b o, (hideAll s.heap [a]).get? b = some o → h'.get? b = some o) → h'.get? a = some (W.listOf (siftup lt (vs.set 0 x) 0).toArray n') → R (.ok (.ret (vs.getD 0 .none))) { s with heap := h', toks := tk }) :
    codeAny (model PG w) A (.call (.ref 35) ⟨[.ref a, x], []⟩) R s := by
  refine code_list (binds := [(Str.ofString "heap", Value.ref a), (Str.ofString "item", x)]) (news := [(a, W.listOf (vs).toArray n)]) X T (by simpa using ha) (by k_is) (by k_is) (by rw [show recursionLimit = 1000 from rfl]; omega) (BindsTo.of_eq rfl) (locs rfl) ?_
  intro L' h₁ F N
  simp only [List.map_cons, List.map_nil] at F N
  (all_goals try k_fold)
  (repeat' (first | (k_unfold; (try dsimp only)) | ((fail_if_success (with_reducible show wpAny _ _ (PySem.exec (PySem.Stmt.While _ _ _ _) _) _ _ _)); (fail_if_success (with_reducible show KswEnd _ _ _ _ _ _ _ _ _ _ _ _)); first | walk1 | (dsimp only; walk1))))
  · rename Fr _ _ _ _ => F9
    rename News _ _ _ _ => N9
    skip
    refine' h _ _ _ F9.keep ?k9
    case k9 => first | exact (N9 _ (.head _)).1 | exact (N9 _ (.tail _ (.head _))).1

theorem heappushpop_code {w : World} {A : Around} {s : Shared} {mg mb : Str → Option Value} {p : Program} {loose : List Str} {a : Addr} {vs : List Value} {n : Nat} {x : Value} {R : Result → Shared → Prop} {Dom : Value → Prop} {lt : Value → Value → Bool}
    (X : (hd.heap_1 w.params).In (hideAll s.heap [a])) (T : TopRead p loose mg mb (hideAll s.heap [a])) (ha : s.heap.get? a = some (W.listOf (vs).toArray n))
    (hd : A.depth < 880) (hu : A.units < 8800) (hh : A.handled = none) (hc : CmpOk PG w (hideAll s.heap [a]) Dom lt) (hv : ∀ v ∈ vs, Dom v) (hx : Dom x) (hlen : vs.length + 1 < 2 ^ 20)
    (h : ∀ h' tk n', (∀ b o, (hideAll s.heap [a]).get? b = some o → h'.get? b = some o) → h'.get? a = some (W.listOf (if 0 < vs.length ∧ lt (vs.getD 0 .none) x = true then siftup lt (vs.set 0 x) 0 else vs).toArray n') → R (.ok (.ret (if 0 < vs.length ∧ lt (vs.getD 0 .none) x = true then vs.getD 0 .none else x))) { s with heap := h', toks := tk }) :
    codeAny (model PG w) A (.call (.ref 42) ⟨[.ref a, x], []⟩) R s := by
  refine code_list (binds := [(Str.ofString "heap", Value.ref a), (Str.ofString "item", x)]) (news := [(a, W.listOf (vs).toArray n)]) X T (by simpa using ha) (by k_is) (by k_is) (by rw [show recursionLimit = 1000 from rfl]; omega) (BindsTo.of_eq rfl) (locs rfl) ?_
  intro L' h₁ F N
  simp only [List.map_cons, List.map_nil] at F N
  (all_goals try k_fold)
  (repeat' (first | (k_unfold; (try dsimp only)) | ((fail_if_success (with_reducible show wpAny _ _ (PySem.exec (PySem.Stmt.While _ _ _ _) _) _ _ _)); (fail_if_success (with_reducible show KswEnd _ _ _ _ _ _ _ _ _ _ _ _)); first | walk1 | (dsimp only; walk1))))
  · rename Fr _ _ _ _ => F9
    rename News _ _ _ _ => N9
    rename 0 < vs.length => hp; rename lt _ _ = _ => hl; rw [if_pos ⟨hp, hl⟩, if_pos ⟨hp, hl⟩] at h
    refine' h _ _ _ F9.keep ?k9
    case k9 => first | exact (N9 _ (.head _)).1 | exact (N9 _ (.tail _ (.head _))).1
  · rename Fr _ _ _ _ => F9
    rename News _ _ _ _ => N9
    rename lt _ _ = _ => hl; have hn : ¬ (0 < vs.length ∧ lt (vs.getD 0 .none) x = true) := fun q => by { have h2 := q.2; rw [show lt (vs.getD 0 .none) x = false from hl] at h2; cases h2 }; rw [if_neg hn, if_neg hn] at h
    refine' h _ _ _ F9.keep ?k9
    case k9 => first | exact (N9 _ (.head _)).1 | exact (N9 _ (.tail _ (.head _))).1
  · rename Fr _ _ _ _ => F9
    rename News _ _ _ _ => N9
    rename ¬ 0 < vs.length => hp; rw [if_neg (fun q => hp q.1), if_neg (fun q => hp q.1)] at h
    refine' h _ _ _ F9.keep ?k9
    case k9 => first | exact (N9 _ (.head _)).1 | exact (N9 _ (.tail _ (.head _))).1

theorem heapreplacemax_code {w : World} {A : Around} {s : Shared} {mg mb : Str → Option Value} {p : Program} {loose : List Str} {a : Addr} {vs : List Value} {n : Nat} {x : Value} {R : Result → Shared → Prop} {Dom : Value → Prop} {lt : Value → Value → Bool}
    (X : (hd.heap_1 w.params).In (hideAll s.heap [a])) (T : TopRead p loose mg mb (hideAll s.heap [a])) (ha : s.heap.get? a = some (W.listOf (vs).toArray n))
    (hd : A.depth < 880) (hu : A.units < 8800) (hh : A.handled = none) (hc : CmpOk PG w (hideAll s.heap [a]) Dom lt) (hv : ∀ v ∈ vs, Dom v) (hx : Dom x) (hne : 0 < vs.length) (hlen : vs.length + 1 < 2 ^ 20)
    (h : ∀ h' tk n', (∀ b o, (hideAll s.heap [a]).get? b = some o → h'.get? b = some o) → h'.get? a = some (W.listOf (siftup (fun x y => lt y x) (vs.set 0 x) 0).toArray n') → R (.ok (.ret (vs.getD 0 .none))) { s with heap := h', toks := tk }) :
    codeAny (model PG w) A (.call (.ref 56) ⟨[.ref a, x], []⟩) R s := by
  refine code_list (binds := [(Str.ofString "heap", Value.ref a), (Str.ofString "item", x)]) (news := [(a, W.listOf (vs).toArray n)]) X T (by simpa using ha) (by k_is) (by k_is) (by rw [show recursionLimit = 1000 from rfl]; omega) (BindsTo.of_eq rfl) (locs rfl) ?_
  intro L' h₁ F N
  simp only [List.map_cons, List.map_nil] at F N
  (all_goals try k_fold)
  (repeat' (first | (k_unfold; (try dsimp only)) | ((fail_if_success (with_reducible show wpAny _ _ (PySem.exec (PySem.Stmt.While _ _ _ _) _) _ _ _)); (fail_if_success (with_reducible show KswEnd _ _ _ _ _ _ _ _ _ _ _ _)); first | walk1 | (dsimp only; walk1))))
  · rename Fr _ _ _ _ => F9
    rename News _ _ _ _ => N9
    skip
    refine' h _ _ _ F9.keep ?k9
    case k9 => first | exact (N9 _ (.head _)).1 | exact (N9 _ (.tail _ (.head _))).1

-- B5
section


section
variable {prog : Program} {w : World} {A : Around} {E : Value → Shared → Prop} {s : Shared} {r : Addr} {a b c : Int} {t u v : Tok}
theorem sub_ri_reversed : isSubtype (.type "range_iterator") (.type "reversed") = pure false := by rw [isSubtype_type]; kernel_rfl
noncomputable abbrev revRange (a b c : Int) : Obj := { cls := .type "range_iterator", data := .fields #[rawInt (a + (Builtin.Range.rangeSize a b c - 1) * c), rawInt (Builtin.Range.rangeSize a b c), rawInt (-c)] }
noncomputable def revSmall (a b c : Int) : Bool := Builtin.Range.rangeFitsLong a && Builtin.Range.rangeFitsLong b && Builtin.Range.rangeFitsLong c && Builtin.Range.rangeFitsLong (-c) && Builtin.Range.rangeFitsLong (a - c) && Builtin.Range.rangeFitsLong (Builtin.Range.rangeSize a b c)
theorem call_range_reversed {Q : Value → Shared → Prop} (hr : IsRange s.heap r a b c t u v) (hsm : revSmall a b c = true)
    (h : Q (.ref s.heap.objs.size) { s with heap := s.heap.push (revRange a b c) }) : wpAny (model prog w) A (call (.builtin "range.__reversed__") [.ref r]) Q E s := by
  have hT : s.TypeIs (.ref r) "range" := ⟨_, hr, rfl⟩
  refine wpAny_call_entry F.slot_range_reversed hT F.entry_range_reversed ?_ (F.args_range_reversed_1 _)
  unfold Builtin.«range.__reversed__»
  refine wpAny_bind (wpAny_of_eq (a := Value.ref r) rfl ?_)
  show wpAny _ _ (Builtin.Range.rangeFields (.ref r) >>= _) _ _ _
  unfold Builtin.Range.rangeFields
  refine wpAny_bind ?_
  refine wpAny_bind (wpAny_field hr rfl (x := .int a t) rfl ?_)
  refine wpAny_bind (wpAny_of_eq (a := some a) rfl ?_)
  refine wpAny_bind (wpAny_field hr rfl (x := .int b u) rfl ?_)
  refine wpAny_bind (wpAny_of_eq (a := some b) rfl ?_)
  refine wpAny_bind (wpAny_field hr rfl (x := .int c v) rfl ?_)
  refine wpAny_bind (wpAny_of_eq (a := some c) rfl ?_)
  refine wpAny_pure ?_
  dsimp only
  unfold revSmall at hsm
  simp only [hsm, Bool.not_true, Bool.false_eq_true, if_false, if_true]
  simp only [newFields]
  refine wpAny_bind (wpAny_newObj_type ?_ (by size_fits))
  exact wpAny_pure ⟨_, rfl, h⟩

theorem code_reversed_range {Q₁ : Value → Shared → Prop} (hr : IsRange s.heap r a b c t u v) (hsm : revSmall a b c = true)
    (h : Q₁ (.ref s.heap.objs.size) { s with heap := s.heap.push (revRange a b c) }) :
    codeAny (model prog w) A (.call (.builtin "reversed.__new__") ⟨[.type "reversed", .ref r], []⟩) (wants Q₁ E) s := by
  have hT : s.TypeIs (.ref r) "range" := ⟨_, hr, rfl⟩
  refine codeAny_of_tree ?_
  show wpAny _ A.in1 (do checkBuiltinCall "reversed.__new__" ⟨[.type "reversed", .ref r], []⟩; again (.builtin "reversed.__new__" ⟨[.type "reversed", .ref r], []⟩)) _ _ s
  refine wpAny_bind (wpAny_of_eq (F.newCall_reversed_1 _) (wpAny_pure ⟨plainId_quiet F.plain_reversed_new _, codeAny_builtin F.entry_reversed_new ?_⟩))
  rw [Around.under_plainId F.plain_reversed_new _]
  unfold Builtin.«reversed.__new__»
  refine wpAny_bind (wpAny_of_eq (newClass_reversed _) ?_)
  try dsimp only
  refine wpAny_bind (wpAny_of_eq (a := ()) (by first | rfl | kernel_rfl) ?_)
  refine wpAny_bind (wpAny_of_eq (a := ()) (by first | rfl | kernel_rfl) ?_)
  try dsimp only
  refine wpAny_bind (wpAny_specialOf hT F.slot_range_reversed.lookup ?_)
  try dsimp only
  refine wpAny_bind (wpAny_of_eq (F.slot_range_reversed.bind _) ?_)
  try dsimp only
  first
  | rw [if_neg (show ¬ ((Value.builtin "range.__reversed__" == Value.none) = true) from Bool.false_ne_true)]
  | (show wpAny _ _ (if (Value.builtin "range.__reversed__" == Value.none) = true then _ else _) _ _ _; rw [if_neg (show ¬ ((Value.builtin "range.__reversed__" == Value.none) = true) from Bool.false_ne_true)])
  refine wpAny_bind (wpAny_rule ?_)
  refine wpAny_bind (m := runValue (.call (.builtin "range.__reversed__") ⟨[.ref r], []⟩)) (show wpAny _ _ (call (.builtin "range.__reversed__") [.ref r]) _ _ _ from call_range_reversed hr hsm ?_)
  first
  | exact wpAny_pure h
  | exact wpAny_bind (wpAny_pure (wpAny_pure h))

theorem call_reversed_range {Q : Value → Shared → Prop} (hr : IsRange s.heap r a b c t u v) (hsm : revSmall a b c = true)
    (h : Q (.ref s.heap.objs.size) { s with heap := s.heap.push (revRange a b c) }) : wpAny (model prog w) A (call (.type "reversed") [.ref r]) Q E s := by
  refine callType_other (U := "range_iterator") (Q₁ := fun obj s₁ => obj = .ref s.heap.objs.size ∧ s₁ = { s with heap := s.heap.push (revRange a b c) }) (by decide +kernel) F.create_reversed ⟨_, _, F.mro_reversed⟩ F.made_reversed sub_ri_reversed (F.typeCall_reversed_1 _) (code_reversed_range hr hsm ⟨rfl, rfl⟩) ?_
  rintro obj s₁ ⟨rfl, rfl⟩
  exact ⟨⟨_, Heap.get?_push_size _ rfl, rfl⟩, h⟩

theorem rev_range_g {h₀ : Heap} {L : Addr} {m : Str → Option Value} {news : List (Addr × Obj)} {n : Nat} {Q : Value → Shared → Prop} (F : Fr h₀ L s.heap m) (N : News h₀ L s.heap news) (hr : IsRange s.heap r 0 (n : Int) 1 t u v) (hn : n < 2 ^ 30)
    (h : ∀ D h', Fr h₀ L h' m → News h₀ L h' ((D, revRange 0 n 1) :: news) → (∀ p ∈ news, p.1 < D) → Q (.ref D) { s with heap := h' }) : wpAny (model prog w) A (call (.type "reversed") [.ref r]) Q E s := by
  refine call_reversed_range hr ?_ (h _ _ (F.push _) (News.push F N _) fun p hp => Heap.lt_size (N p hp).1)
  unfold revSmall Builtin.Range.rangeFitsLong Builtin.Range.rangeSize
  have h2 : (n : Int) < 2 ^ 30 := by exact_mod_cast hn
  have h3 : ((n : Int) - 0 - 1) / 1 = n - 1 := by omega
  by_cases hz : (0 : Int) < n
  · simp only [gt_iff_lt, Int.zero_lt_one, if_true, if_pos hz, h3]
    simp only [Bool.and_eq_true, decide_eq_true_eq]
    omega
  · simp only [gt_iff_lt, Int.zero_lt_one, if_true, if_neg hz]
    simp only [Bool.and_eq_true, decide_eq_true_eq]
    omega
end

section
variable {prog : Program} {w : World} {A : Around} {E : Value → Shared → Prop} {s : Shared} {env : Env} {h₀ : Heap} {x : Str} {body : List Stmt} {Q : Flow → Shared → Prop}

noncomputable def TurnEnd (h₀ : Heap) (L I : Addr) (o : Obj) (J : (Str → Option Value) → List (Addr × Obj) → Prop) (s₁ s₂ : Shared) : Prop :=
  ∃ h' tk m' nx, s₂ = { s₁ with heap := h', toks := tk } ∧ Fr h₀ L h' m' ∧ News h₀ L h' ((I, o) :: nx) ∧ (∀ p ∈ nx, p.1 ≠ I) ∧ J m' nx
noncomputable def TurnPost (h₀ : Heap) (L I : Addr) (o : Obj) (J : (Str → Option Value) → List (Addr × Obj) → Prop) (s₁ : Shared) (Q : Flow → Shared → Prop) (f : Flow) (s₂ : Shared) : Prop :=
  match f with
  | .ret v => Q (.ret v) s₂
  | .brk => Q .next s₂
  | _ => TurnEnd h₀ L I o J s₁ s₂

theorem loop_one {I : Addr} {fp : List Addr} {n : Nat} {P : Nat → Value → Prop} {St : Nat → Heap → Prop} {m₀ : Str → Option Value} {news : List (Addr × Obj)} (J : Nat → (Str → Option Value) → List (Addr × Obj) → Prop)
    (W : Walks prog w A I fp [I] n P St) (hfp : ∀ b ∈ fp, b ≠ I → ∃ o, h₀.get? b = some o) (hLf : env.locals ∉ fp) (hI0 : h₀.get? I = none) (hSI : ∀ i h, St i h → ∃ o, h.get? I = some o)
    (hnI : ∀ p ∈ news, p.1 ≠ I) (hst : St 0 s.heap) (F : Fr h₀ env.locals s.heap m₀) (N : News h₀ env.locals s.heap news) (hj : J 0 m₀ news)
    (turn : ∀ i v m₁ news₁ h tk o, i < n → P i v → J i m₁ news₁ → (∀ p ∈ news₁, p.1 ≠ I) → Fr h₀ env.locals h (fun y => if y = x then some v else m₁ y) → News h₀ env.locals h ((I, o) :: news₁) →
      wpAny (model prog w) A (execs body env) (TurnPost h₀ env.locals I o (J (i + 1)) { s with heap := h, toks := tk } Q) E { s with heap := h, toks := tk })
    (done : ∀ m₁ news₁ h tk, J n m₁ news₁ → (∀ p ∈ news₁, p.1 ≠ I) → Fr h₀ env.locals h m₁ → News h₀ env.locals h news₁ → Q .next { s with heap := h, toks := tk }) :
    LoopAtV prog w A h₀ env x body Q E (.ref I) s := by
  have hIf : I ∈ fp := W.sub I (.head _)
  refine ⟨I, fp, [I], n, P, St, m₀, news, J, rfl, W, hLf, ?_, ?_, hst, F, N, hj, ?_, ?_⟩
  · intro b hb; rw [List.mem_singleton.mp hb]; exact hI0
  · intro p hp hb; exact hnI p hp (List.mem_singleton.mp hb)
  · rintro i v m₁ news₁ s₁ own ⟨hh', tk', rfl⟩ hin hP hJ hoff hown hget hin2 hst₁ F₁ N₁
    obtain ⟨o, ho⟩ := hSI _ _ hst₁
    have hm : (I, o) ∈ own := hin2 I hIf hI0 o ho
    have hoff' : ∀ p ∈ news₁, p.1 ≠ I := fun p hp e => hoff p hp (List.mem_singleton.mpr e)
    have hall : ∀ p ∈ own, p = (I, o) := fun p hp => by
      by_cases e : p.1 = I
      · have := hget p hp
        rw [e] at this
        rw [show ({ s with heap := hh', toks := tk' } : Shared).heap.get? I = some o from ho] at this
        obtain ⟨p1, p2⟩ := p
        cases this
        cases e
        rfl
      · obtain ⟨o', ho'⟩ := hfp _ (hown p hp) e
        have := (N₁ p (List.mem_append_left _ hp)).2.2
        rw [ho'] at this
        cases this
    refine wpAny_mono (turn i v m₁ news₁ hh' tk' o hin hP hJ hoff' F₁ (fun p hp => ?_)) (fun f s₂ p => ?_) fun _ _ e => e
    · rcases List.mem_cons.mp hp with rfl | hp
      · exact N₁ _ (List.mem_append_left _ hm)
      · exact N₁ _ (List.mem_append_right _ hp)
    have fin : TurnEnd h₀ env.locals I o (J (i + 1)) { s with heap := hh', toks := tk' } s₂ → LoopStepU h₀ env.locals [I] own (J (i + 1)) { s with heap := hh', toks := tk' } .next s₂ := by
      rintro ⟨h', tk, m', nx, e, F', N', hn, hj'⟩
      refine ⟨rfl, h', tk, m', nx, e, F', fun p hp => ?_, fun p hp hq => hn p hp (List.mem_singleton.mp hq), hj'⟩
      rcases List.mem_append.mp hp with hp | hp
      · rw [hall p hp]; exact N' _ (.head _)
      · exact N' _ (.tail _ hp)
    cases f with
    | ret v => exact .ret p
    | brk => exact .brk p
    | next => exact .next (fin p)
    | cont => exact .cont (fin p)
  · rintro h' tk m' news' F' N' hoff hJ
    exact done m' news' h' tk hJ (fun p hp e => hoff p hp (List.mem_singleton.mpr e)) F' N'

/-- a for over a made range_iterator -/
theorem iter_rangeIter {I : Addr} {a₀ c : Int} {n : Nat} {m₀ : Str → Option Value} {news : List (Addr × Obj)} (J : Nat → (Str → Option Value) → List (Addr × Obj) → Prop)
    (hh : A.handled = none) (hI : IsRangeIter s.heap I a₀ (n : Int) c) (hI0 : h₀.get? I = none) (hIL : env.locals ≠ I) (hnI : ∀ p ∈ news, p.1 ≠ I)
    (F : Fr h₀ env.locals s.heap m₀) (N : News h₀ env.locals s.heap news) (hj : J 0 m₀ news)
    (turn : ∀ i t m₁ news₁ h tk o, i < n → J i m₁ news₁ → (∀ p ∈ news₁, p.1 ≠ I) → Fr h₀ env.locals h (fun y => if y = x then some (.int (a₀ + (i : Nat) * c) t) else m₁ y) → News h₀ env.locals h ((I, o) :: news₁) →
      wpAny (model prog w) A (execs body env) (TurnPost h₀ env.locals I o (J (i + 1)) { s with heap := h, toks := tk } Q) E { s with heap := h, toks := tk })
    (done : ∀ m₁ news₁ h tk, J n m₁ news₁ → (∀ p ∈ news₁, p.1 ≠ I) → Fr h₀ env.locals h m₁ → News h₀ env.locals h news₁ → Q .next { s with heap := h, toks := tk }) :
    wpAny (model prog w) A (pyIter (.ref I)) (fun it s₂ => LoopAtV prog w A h₀ env x body Q E it s₂) E s := by
  have W : Walks prog w A I [I] [I] n (fun i v => i < n ∧ ∃ t, v = .int (a₀ + i * c) t) (fun i h => IsRangeIter h I (a₀ + (i : Nat) * c) ((n : Int) - (i : Nat)) c) := (Walks.range hh _ a₀ c n).bound
  have h0 : IsRangeIter s.heap I (a₀ + ((0 : Nat) : Int) * c) ((n : Int) - ((0 : Nat) : Int)) c := by simpa using hI
  refine W.self 0 _ _ _ h0 ?_
  refine loop_one J W (fun b hb hne => absurd (List.mem_singleton.mp hb) hne) (fun hm => hIL (List.mem_singleton.mp hm)) hI0 (fun i h hs => ⟨_, hs⟩) hnI h0 F N hj ?_ done
  rintro i v m₁ news₁ h tk o hi ⟨_, t, rfl⟩ hJ hoff F₁ N₁
  exact turn i t m₁ news₁ h tk o hi hJ hoff F₁ N₁
end
end

-- B6
section


local macro_rules | `(tactic| walk_at "call type:reversed") => `(tactic| (k_here; (with_reducible show wpAny _ _ (call (Value.type _) [Value.ref _]) _ _ _); (rename IsRange _ _ _ _ _ _ _ _ => rgX'); k_dflt (refine' rev_range_g ?F ?N rgX' ?l ?_; (case F => k_asm); (case N => k_asm); (case l => omega)); intro D' h' F' N' l1; (try k_lt l1)))
local macro_rules | `(tactic| walk_at "TurnPost") => `(tactic| dsimp only [TurnPost])

noncomputable def hpf (lt : Value → Value → Bool) : Nat → List Value → List Value
  | 0, vs => vs
  | k + 1, vs => hpf lt k (siftup lt vs k)
theorem hpf_step {lt : Value → Value → Bool} {k i j : Nat} {ws : List Value} (hi : i < k) (hj : j = k - 1 - i) : hpf lt (k - i) ws = hpf lt (k - (i + 1)) (siftup lt ws j) := by
  subst hj
  have e : k - i = (k - 1 - i) + 1 := by omega
  rw [e, show k - (i + 1) = k - 1 - i by omega]
  rfl
theorem fr_self (x : Str) (m : Str → Option Value) : m = fun y => if y = x then m x else m y := by
  funext y; split
  · rename_i h; rw [h]
  · rfl
theorem fr_again (x : Str) (m : Str → Option Value) (u v : Option Value) : (fun y => if y = x then u else if y = x then v else m y) = fun y => if y = x then u else m y := by
  funext y; split <;> rfl
theorem sup_facts {lt : Value → Value → Bool} {Dom : Value → Prop} : ∀ (k : Nat) (vs : List Value) (q : Nat), vs.length - q = k → q < vs.length → (∀ v ∈ vs, Dom v) → (sup lt vs q).1.length = vs.length ∧ (sup lt vs q).2 < vs.length ∧ ∀ v ∈ (sup lt vs q).1, Dom v := by
  intro k
  induction k using Nat.strongRecOn with
  | ind k ih =>
    intro vs q hk hq hd
    unfold sup
    split
    · rename_i h1
      split
      · rename_i h2
        have := ih (vs.length - (2 * q + 2)) (by omega) (vs.set q (vs.getD (2 * q + 2) .none)) (2 * q + 2) (by simp) (by simp; omega) (dom_set hd (dom_at hd (by omega)))
        simpa using this
      · have := ih (vs.length - (2 * q + 1)) (by omega) (vs.set q (vs.getD (2 * q + 1) .none)) (2 * q + 1) (by simp) (by simp; omega) (dom_set hd (dom_at hd (by omega)))
        simpa using this
    · exact ⟨rfl, hq, hd⟩
theorem siftup_length' {lt : Value → Value → Bool} {vs : List Value} {q : Nat} (hq : q < vs.length) : (siftup lt vs q).length = vs.length := by
  unfold siftup
  rw [sdn_length, List.length_set]
  exact (sup_facts (Dom := fun _ => True) _ vs q rfl hq (fun _ _ => trivial)).1
theorem siftup_dom {lt : Value → Value → Bool} {Dom : Value → Prop} {vs : List Value} {q : Nat} (hq : q < vs.length) (hd : ∀ v ∈ vs, Dom v) : ∀ v ∈ siftup lt vs q, Dom v :=
  sdn_dom (dom_at hd hq) _ _ (dom_set (sup_facts _ vs q rfl hq hd).2.2 (dom_at hd hq))
theorem revRange_eq {k : Nat} : revRange 0 (k : Int) 1 = { cls := .type "range_iterator", dict := none, data := .fields #[rawInt ((k : Int) - 1), rawInt (k : Int), rawInt (-1)], slots := #[] } := by
  have e : Builtin.Range.rangeSize 0 (k : Int) 1 = k := by
    unfold Builtin.Range.rangeSize
    simp only [gt_iff_lt, Int.zero_lt_one, if_true]
    split <;> omega
  unfold revRange
  rw [e]
  have e1 : 0 + ((k : Int) - 1) * 1 = (k : Int) - 1 := by omega
  rw [e1]
theorem heapify_code {w : World} {A : Around} {s : Shared} {mg mb : Str → Option Value} {p : Program} {loose : List Str} {a : Addr} {vs : List Value} {n : Nat}  {R : Result → Shared → Prop} {Dom : Value → Prop} {lt : Value → Value → Bool}
    (X : (hd.heap_1 w.params).In (hideAll s.heap [a])) (T : TopRead p loose mg mb (hideAll s.heap [a])) (ha : s.heap.get? a = some (W.listOf (vs).toArray n))
    (hd : A.depth < 880) (hu : A.units < 8800) (hh : A.handled = none) (hc : CmpOk PG w (hideAll s.heap [a]) Dom lt) (hv : ∀ v ∈ vs, Dom v) (hlen : vs.length < 2 ^ 20)
    (h : ∀ h' tk n', (∀ b o, (hideAll s.heap [a]).get? b = some o → h'.get? b = some o) → h'.get? a = some (W.listOf (hpf lt (vs.length / 2) vs).toArray n') → R (.ok (.ret .none)) { s with heap := h', toks := tk }) :
    codeAny (model PG w) A (.call (.ref 49) ⟨[.ref a], []⟩) R s := by
  refine code_list (binds := [(Str.ofString "x", Value.ref a)]) (news := [(a, W.listOf (vs).toArray n)]) X T (by simpa using ha) (by k_is) (by k_is) (by rw [show recursionLimit = 1000 from rfl]; omega) (BindsTo.of_eq rfl) (locs rfl) ?_
  intro L' h₁ F N
  simp only [List.map_cons, List.map_nil] at F N
  (all_goals try k_fold)
  (repeat' (first | (k_unfold; (try dsimp only)) | ((fail_if_success (with_reducible show wpAny _ _ (PySem.exec (PySem.Stmt.While _ _ _ _) _) _ _ _)); (fail_if_success (with_reducible show KswEnd _ _ _ _ _ _ _ _ _ _ _ _)); (fail_if_success (with_reducible show wpAny _ _ (pyIter (Value.ref _)) (fun it s₂ => LoopAtV _ _ _ _ _ _ _ _ _ it s₂) _ _)); (fail_if_success (with_reducible show TurnEnd _ _ _ _ _ _ _)); first | walk1 | (dsimp only; walk1))))
  have e2 : ((vs.length : Nat) : Int).fdiv 2 = ((vs.length / 2 : Nat) : Int) := by
    rw [Int.fdiv_eq_ediv_of_nonneg _ (by decide)]; omega
  rename IsRange _ _ _ _ _ _ _ _ => hr
  rename Fr _ _ _ _ => F8
  rename News _ _ _ _ => N8
  rw [e2] at hr
  refine rev_range_g F8 N8 hr (by omega) ?_
  intro I h2 F3 N3 l3
  have hI := (N3 _ (.head _))
  have hIo := hI.1
  have l4 : a < I := l3 _ (.head _)
  rw [revRange_eq] at hIo
  refine' iter_rangeIter (I := I) (m₀ := ?m0) (a₀ := ((vs.length / 2 : Nat) : Int) - 1) (c := -1) (n := vs.length / 2)
    (fun i m nx => ∃ u ws n', nx = [(a, W.listOf ws.toArray n')] ∧ m = (fun y => if y = Str.ofString "i" then u else ?m0 y) ∧ hpf lt (vs.length / 2 - i) ws = hpf lt (vs.length / 2) vs ∧ ws.length = vs.length ∧ ∀ v ∈ ws, Dom v)
    hh hIo hI.2.2 (Ne.symm hI.2.1) (by intro p hp; rw [List.mem_singleton.mp hp]; exact Nat.ne_of_lt l4) F3 (fun p hp => N3 p (.tail _ hp)) ?_ ?_ ?_
  · exact ⟨_, vs, n, rfl, fr_self _ _, rfl, rfl, hv⟩
  · rintro i t m₁ news₁ h4 tk4 o hi ⟨u, ws, n', rfl, rfl, hres, hl, hdom⟩ hoff F4 N4
    dsimp only at F4 N4
    have e3 : ((vs.length / 2 : Nat) : Int) - 1 + (i : Int) * (-1) = ((vs.length / 2 - 1 - i : Nat) : Int) := by omega
    rw [e3] at F4
    clear F3 N3 F8 N8 hr
    have l5 : @LT.lt Nat _ a I := l4
    (repeat' (first | (k_unfold; (try dsimp only)) | ((fail_if_success (with_reducible show wpAny _ _ (PySem.exec (PySem.Stmt.While _ _ _ _) _) _ _ _)); (fail_if_success (with_reducible show KswEnd _ _ _ _ _ _ _ _ _ _ _ _)); (fail_if_success (with_reducible show wpAny _ _ (pyIter (Value.ref _)) (fun it s₂ => LoopAtV _ _ _ _ _ _ _ _ _ it s₂) _ _)); (fail_if_success (with_reducible show TurnEnd _ _ _ _ _ _ _)); first | walk1 | (dsimp only; walk1))))
    rename Fr _ _ _ _ => F9
    rename News _ _ _ _ => N9
    refine ⟨_, _, _, [(a, _)], rfl, F9, N9, ?_, ⟨_, _, _, rfl, fr_again _ _ _ _, ?_, ?_, ?_⟩⟩
    · intro p hp; rw [List.mem_singleton.mp hp]; exact Nat.ne_of_lt l4
    · exact (hpf_step (lt := lt) hi rfl).symm.trans hres
    · rw [siftup_length' (by omega)]; exact hl
    · exact siftup_dom (lt := lt) (by omega) hdom
  · rintro m₁ news₁ h4 tk4 ⟨u, ws, n', rfl, rfl, hres, hl, hdom⟩ hoff F4 N4
    (repeat' (first | (k_unfold; (try dsimp only)) | ((fail_if_success (with_reducible show wpAny _ _ (PySem.exec (PySem.Stmt.While _ _ _ _) _) _ _ _)); (fail_if_success (with_reducible show KswEnd _ _ _ _ _ _ _ _ _ _ _ _)); (fail_if_success (with_reducible show wpAny _ _ (pyIter (Value.ref _)) (fun it s₂ => LoopAtV _ _ _ _ _ _ _ _ _ it s₂) _ _)); (fail_if_success (with_reducible show TurnEnd _ _ _ _ _ _ _)); first | walk1 | (dsimp only; walk1))))
    rename Fr _ _ _ _ => F9
    rename News _ _ _ _ => N9
    rw [Nat.sub_self] at hres
    refine' h _ _ _ F9.keep ?k9
    case k9 => rw [← hres]; exact (N9 _ (.head _)).1

theorem heapifymax_code {w : World} {A : Around} {s : Shared} {mg mb : Str → Option Value} {p : Program} {loose : List Str} {a : Addr} {vs : List Value} {n : Nat}  {R : Result → Shared → Prop} {Dom : Value → Prop} {lt : Value → Value → Bool}
    (X : (hd.heap_1 w.params).In (hideAll s.heap [a])) (T : TopRead p loose mg mb (hideAll s.heap [a])) (ha : s.heap.get? a = some (W.listOf (vs).toArray n))
    (hd : A.depth < 880) (hu : A.units < 8800) (hh : A.handled = none) (hc : CmpOk PG w (hideAll s.heap [a]) Dom lt) (hv : ∀ v ∈ vs, Dom v) (hlen : vs.length < 2 ^ 20)
    (h : ∀ h' tk n', (∀ b o, (hideAll s.heap [a]).get? b = some o → h'.get? b = some o) → h'.get? a = some (W.listOf (hpf (fun x y => lt y x) (vs.length / 2) vs).toArray n') → R (.ok (.ret .none)) { s with heap := h', toks := tk }) :
    codeAny (model PG w) A (.call (.ref 63) ⟨[.ref a], []⟩) R s := by
  refine code_list (binds := [(Str.ofString "x", Value.ref a)]) (news := [(a, W.listOf (vs).toArray n)]) X T (by simpa using ha) (by k_is) (by k_is) (by rw [show recursionLimit = 1000 from rfl]; omega) (BindsTo.of_eq rfl) (locs rfl) ?_
  intro L' h₁ F N
  simp only [List.map_cons, List.map_nil] at F N
  (all_goals try k_fold)
  (repeat' (first | (k_unfold; (try dsimp only)) | ((fail_if_success (with_reducible show wpAny _ _ (PySem.exec (PySem.Stmt.While _ _ _ _) _) _ _ _)); (fail_if_success (with_reducible show KswEnd _ _ _ _ _ _ _ _ _ _ _ _)); (fail_if_success (with_reducible show wpAny _ _ (pyIter (Value.ref _)) (fun it s₂ => LoopAtV _ _ _ _ _ _ _ _ _ it s₂) _ _)); (fail_if_success (with_reducible show TurnEnd _ _ _ _ _ _ _)); first | walk1 | (dsimp only; walk1))))
  have e2 : ((vs.length : Nat) : Int).fdiv 2 = ((vs.length / 2 : Nat) : Int) := by
    rw [Int.fdiv_eq_ediv_of_nonneg _ (by decide)]; omega
  rename IsRange _ _ _ _ _ _ _ _ => hr
  rename Fr _ _ _ _ => F8
  rename News _ _ _ _ => N8
  rw [e2] at hr
  refine rev_range_g F8 N8 hr (by omega) ?_
  intro I h2 F3 N3 l3
  have hI := (N3 _ (.head _))
  have hIo := hI.1
  have l4 : a < I := l3 _ (.head _)
  rw [revRange_eq] at hIo
  refine' iter_rangeIter (I := I) (m₀ := ?m0) (a₀ := ((vs.length / 2 : Nat) : Int) - 1) (c := -1) (n := vs.length / 2)
    (fun i m nx => ∃ u ws n', nx = [(a, W.listOf ws.toArray n')] ∧ m = (fun y => if y = Str.ofString "i" then u else ?m0 y) ∧ hpf (fun x y => lt y x) (vs.length / 2 - i) ws = hpf (fun x y => lt y x) (vs.length / 2) vs ∧ ws.length = vs.length ∧ ∀ v ∈ ws, Dom v)
    hh hIo hI.2.2 (Ne.symm hI.2.1) (by intro p hp; rw [List.mem_singleton.mp hp]; exact Nat.ne_of_lt l4) F3 (fun p hp => N3 p (.tail _ hp)) ?_ ?_ ?_
  · exact ⟨_, vs, n, rfl, fr_self _ _, rfl, rfl, hv⟩
  · rintro i t m₁ news₁ h4 tk4 o hi ⟨u, ws, n', rfl, rfl, hres, hl, hdom⟩ hoff F4 N4
    dsimp only at F4 N4
    have e3 : ((vs.length / 2 : Nat) : Int) - 1 + (i : Int) * (-1) = ((vs.length / 2 - 1 - i : Nat) : Int) := by omega
    rw [e3] at F4
    clear F3 N3 F8 N8 hr
    have l5 : @LT.lt Nat _ a I := l4
    (repeat' (first | (k_unfold; (try dsimp only)) | ((fail_if_success (with_reducible show wpAny _ _ (PySem.exec (PySem.Stmt.While _ _ _ _) _) _ _ _)); (fail_if_success (with_reducible show KswEnd _ _ _ _ _ _ _ _ _ _ _ _)); (fail_if_success (with_reducible show wpAny _ _ (pyIter (Value.ref _)) (fun it s₂ => LoopAtV _ _ _ _ _ _ _ _ _ it s₂) _ _)); (fail_if_success (with_reducible show TurnEnd _ _ _ _ _ _ _)); first | walk1 | (dsimp only; walk1))))
    rename Fr _ _ _ _ => F9
    rename News _ _ _ _ => N9
    refine ⟨_, _, _, [(a, _)], rfl, F9, N9, ?_, ⟨_, _, _, rfl, fr_again _ _ _ _, ?_, ?_, ?_⟩⟩
    · intro p hp; rw [List.mem_singleton.mp hp]; exact Nat.ne_of_lt l4
    · exact (hpf_step (lt := (fun x y => lt y x)) hi rfl).symm.trans hres
    · rw [siftup_length' (by omega)]; exact hl
    · exact siftup_dom (lt := (fun x y => lt y x)) (by omega) hdom
  · rintro m₁ news₁ h4 tk4 ⟨u, ws, n', rfl, rfl, hres, hl, hdom⟩ hoff F4 N4
    (repeat' (first | (k_unfold; (try dsimp only)) | ((fail_if_success (with_reducible show wpAny _ _ (PySem.exec (PySem.Stmt.While _ _ _ _) _) _ _ _)); (fail_if_success (with_reducible show KswEnd _ _ _ _ _ _ _ _ _ _ _ _)); (fail_if_success (with_reducible show wpAny _ _ (pyIter (Value.ref _)) (fun it s₂ => LoopAtV _ _ _ _ _ _ _ _ _ it s₂) _ _)); (fail_if_success (with_reducible show TurnEnd _ _ _ _ _ _ _)); first | walk1 | (dsimp only; walk1))))
    rename Fr _ _ _ _ => F9
    rename News _ _ _ _ => N9
    rw [Nat.sub_self] at hres
    refine' h _ _ _ F9.keep ?k9
    case k9 => rw [← hres]; exact (N9 _ (.head _)).1
end
end Mine

-- B7
namespace Mine


section
variable {prog : Program} {w : World} {A : Around} {E : Value → Shared → Prop} {s : Shared} {env : Env} {h₀ : Heap} {x : Str} {body : List Stmt} {Q : Flow → Shared → Prop}
/-- a for over range(n) -/
theorem iter_range_g {r : Addr} {n : Nat} {t₀ u₀ v₀ : Tok} {m₀ : Str → Option Value} {news : List (Addr × Obj)} (J : Nat → (Str → Option Value) → List (Addr × Obj) → Prop)
    (hh : A.handled = none) (hr : IsRange s.heap r 0 (n : Int) 1 t₀ u₀ v₀) (hn : n < 2 ^ 30) (F : Fr h₀ env.locals s.heap m₀) (N : News h₀ env.locals s.heap news) (hj : J 0 m₀ news)
    (turn : ∀ i t m₁ news₁ h tk I o, i < n → J i m₁ news₁ → (∀ p ∈ news₁, p.1 ≠ I) → (∀ p ∈ news, p.1 < I) → Fr h₀ env.locals h (fun y => if y = x then some (.int (i : Nat) t) else m₁ y) → News h₀ env.locals h ((I, o) :: news₁) →
      wpAny (model prog w) A (execs body env) (TurnPost h₀ env.locals I o (J (i + 1)) { s with heap := h, toks := tk } Q) E { s with heap := h, toks := tk })
    (done : ∀ m₁ news₁ h tk, J n m₁ news₁ → Fr h₀ env.locals h m₁ → News h₀ env.locals h news₁ → Q .next { s with heap := h, toks := tk }) :
    wpAny (model prog w) A (pyIter (.ref r)) (fun it s₂ => LoopAtV prog w A h₀ env x body Q E it s₂) E s := by
  have hz : Builtin.Range.rangeSize 0 (n : Int) 1 = n := by
    unfold Builtin.Range.rangeSize
    simp only [gt_iff_lt, Int.zero_lt_one, if_true]
    split <;> omega
  have h2 : (n : Int) < 2 ^ 30 := by exact_mod_cast hn
  have hsm : Builtin.Range.small 0 (n : Int) 1 = true := by
    unfold Builtin.Range.small Builtin.Range.rangeFitsLong
    rw [hz]
    simp only [gt_iff_lt, Int.zero_lt_one, if_true]
    have e1 : (1 : Int) - 1 = 0 := by omega
    simp only [e1, Bool.and_eq_true, Bool.or_eq_true, decide_eq_true_eq]
    omega
  refine wpAny_pyIter_range hr hsm ?_
  have W : Walks prog w A s.heap.objs.size [s.heap.objs.size] [s.heap.objs.size] n (fun i v => i < n ∧ ∃ t, v = .int (0 + i * 1) t)
      (fun i h => IsRangeIter h s.heap.objs.size (0 + (i : Nat) * 1) ((n : Int) - (i : Nat)) 1) := (Walks.range hh _ 0 1 n).bound
  have h0 : IsRangeIter (s.heap.push { cls := .type "range_iterator", data := .fields #[rawInt 0, rawInt (Builtin.Range.rangeSize 0 (n : Int) 1), rawInt 1] }) s.heap.objs.size (0 + ((0 : Nat) : Int) * 1) ((n : Int) - ((0 : Nat) : Int)) 1 := by
    show IsRangeIter _ _ _ _ _; rw [hz]; simpa using Heap.get?_push_size _ rfl
  refine loop_one J W (fun b hb hne => absurd (List.mem_singleton.mp hb) hne) (fun hm => absurd F.ns.lt ((List.mem_singleton.mp hm) ▸ Nat.lt_irrefl _)) (next_is_new F) (fun i h hs => ⟨_, hs⟩) (fun p hp => Nat.ne_of_lt (Heap.lt_size (N p hp).1)) h0 (F.push _) (fun p hp => ⟨Heap.get?_push_of_some _ (N p hp).1, (N p hp).2⟩) hj ?_ (fun m₁ news₁ h tk hJ _ F₁ N₁ => done m₁ news₁ h tk hJ F₁ N₁)
  rintro i v m₁ news₁ h tk o hi ⟨_, t, rfl⟩ hJ hoff F₁ N₁
  have e : 0 + (i : Int) * 1 = (i : Nat) := by omega
  rw [e] at F₁
  exact turn i t m₁ news₁ h tk _ o hi hJ hoff (fun p hp => Heap.lt_size (N p hp).1) F₁ N₁
end
end Mine

-- M1
namespace Mine

structure Pre (Dom : Value → Prop) (lt : Value → Value → Bool) : Prop where
  asym : ∀ x y, Dom x → Dom y → lt x y = true → lt y x = false
  trans : ∀ x y z, Dom x → Dom y → Dom z → lt y x = false → lt z y = false → lt z x = false

noncomputable abbrev at' (us : List Value) (j : Nat) : Value := us.getD j .none
/-- heap order at all pairs whose parent is at s or behind -/
noncomputable def HF (lt : Value → Value → Bool) (s : Nat) (us : List Value) : Prop := ∀ j, 0 < j → j < us.length → s ≤ (j - 1) / 2 → lt (at' us j) (at' us ((j - 1) / 2)) = false
/-- the same but for the pairs that touch q -/
noncomputable def HH (lt : Value → Value → Bool) (s q : Nat) (us : List Value) : Prop := ∀ j, 0 < j → j < us.length → s ≤ (j - 1) / 2 → j ≠ q → (j - 1) / 2 ≠ q → lt (at' us j) (at' us ((j - 1) / 2)) = false
noncomputable def HB (lt : Value → Value → Bool) (s q : Nat) (us : List Value) : Prop := s < q → ∀ j, 0 < j → j < us.length → (j - 1) / 2 = q → lt (at' us j) (at' us ((q - 1) / 2)) = false
inductive Desc (s : Nat) : Nat → Prop where
  | self : Desc s s
  | child {q : Nat} : Desc s ((q - 1) / 2) → s < q → Desc s q
theorem Desc.le {s q : Nat} (h : Desc s q) : s ≤ q := by
  cases h with
  | self => exact Nat.le_refl _
  | child _ h => exact Nat.le_of_lt h
theorem Desc.up {s q : Nat} (h : Desc s q) (hq : s < q) : Desc s ((q - 1) / 2) := by
  cases h with
  | self => exact absurd hq (Nat.lt_irrefl _)
  | child h _ => exact h

theorem at_set_eq {us : List Value} {q : Nat} {x : Value} (h : q < us.length) : at' (us.set q x) q = x := by
  simp [at', List.getD_eq_getElem?_getD, h]
theorem at_set_ne {us : List Value} {q j : Nat} {x : Value} (h : j ≠ q) : at' (us.set q x) j = at' us j := by
  simp [at', List.getD_eq_getElem?_getD, List.getElem?_set_ne (Ne.symm h)]
theorem half_lt {q : Nat} (h : 0 < q) : (q - 1) / 2 < q := by omega
theorem half_ne {q : Nat} (h : 0 < q) : (q - 1) / 2 ≠ q := Nat.ne_of_lt (half_lt h)
theorem half_le (q : Nat) : (q - 1) / 2 ≤ q := Nat.le_trans (Nat.div_le_self _ _) (Nat.sub_le _ _)
theorem half_half_ne {q : Nat} (h : 0 < q) : ((q - 1) / 2 - 1) / 2 ≠ q := Nat.ne_of_lt (Nat.lt_of_le_of_lt (half_le _) (half_lt h))
theorem kid_gt {c q : Nat} (h0 : 0 < c) (h : (c - 1) / 2 = q) : q < c := h ▸ half_lt h0
theorem lt_of_half {s j : Nat} (h0 : 0 < j) (h : s ≤ (j - 1) / 2) : s < j := Nat.lt_of_le_of_lt h (half_lt h0)
theorem set_swap_perm {us : List Value} {q c : Nat} {x : Value} (hq : q < us.length) (hc : c < us.length) (hne : q ≠ c) : ((us.set q (at' us c)).set c x).Perm (us.set q x) := by
  have h := List.set_set_perm (as := us.set q x) (i := q) (j := c) (by simpa using hq) (by simpa using hc)
  have e1 : (us.set q x)[c]'(by simpa using hc) = at' us c := by
    rw [List.getElem_set_ne hne]; simp [at', List.getD_eq_getElem?_getD, hc]
  have e2 : (us.set q x)[q]'(by simpa using hq) = x := by simp
  rw [e1, e2, List.set_set] at h
  exact h

section
variable {Dom : Value → Prop} {lt : Value → Value → Bool} (O : Pre Dom lt)
include O
theorem sdn_heap {s : Nat} {x : Value} (hx : Dom x) : ∀ (q : Nat) (us : List Value), q < us.length → (∀ v ∈ us, Dom v) → Desc s q → HH lt s q us → HB lt s q us →
    (∀ j, 0 < j → j < us.length → (j - 1) / 2 = q → lt (at' us j) x = false) → HF lt s (sdn lt s x us q) ∧ (sdn lt s x us q).Perm (us.set q x) := by
  intro q
  induction q using Nat.strongRecOn with
  | ind q ih =>
    intro us hq hd hds hh hb hc
    have stop : (s < q → lt x (at' us ((q - 1) / 2)) = false) → HF lt s (us.set q x) := by
      intro hp j h0 hj hs
      rw [List.length_set] at hj
      by_cases e1 : j = q
      · subst e1
        rw [at_set_eq hj, at_set_ne (half_ne h0)]
        exact hp (lt_of_half h0 hs)
      · rw [at_set_ne e1]
        by_cases e2 : (j - 1) / 2 = q
        · rw [e2, at_set_eq hq]; exact hc j h0 hj e2
        · rw [at_set_ne e2]; exact hh j h0 hj hs e1 e2
    by_cases hsq : s < q
    · cases hl : lt x (at' us ((q - 1) / 2)) with
      | false =>
        rw [sdn_no hsq hl hq]
        exact ⟨stop fun _ => hl, List.Perm.refl _⟩
      | true =>
        rw [sdn_go hsq hl hq]
        have h0q : 0 < q := Nat.zero_lt_of_lt hsq
        have hp : (q - 1) / 2 < us.length := Nat.lt_trans (half_lt h0q) hq
        have hdp : Dom (at' us ((q - 1) / 2)) := dom_at hd hp
        have hne : (q - 1) / 2 ≠ q := half_ne h0q
        have hds' := hds.up hsq
        have hle := hds'.le
        have key := ih ((q - 1) / 2) (half_lt h0q) (us.set q (at' us ((q - 1) / 2))) (by simpa using hp) (dom_set hd hdp) hds'
        replace key := key (by
            intro j h0 hj hs e1 e2
            rw [List.length_set] at hj
            by_cases e3 : j = q
            · subst e3; exact absurd rfl e2
            · rw [at_set_ne e3]
              by_cases e4 : (j - 1) / 2 = q
              · rw [e4, at_set_eq hq]; exact hb hsq j h0 hj e4
              · rw [at_set_ne e4]; exact hh j h0 hj hs e3 e4)
        replace key := key (by
            intro hsp j h0 hj e1
            rw [List.length_set] at hj
            have hpp : ((q - 1) / 2 - 1) / 2 ≠ q := half_half_ne h0q
            rw [at_set_ne hpp]
            have hle2 := (hds'.up hsp).le
            have h1 : lt (at' us ((q - 1) / 2)) (at' us (((q - 1) / 2 - 1) / 2)) = false := hh _ (Nat.zero_lt_of_lt hsp) hp hle2 hne hpp
            by_cases e3 : j = q
            · subst e3; rw [at_set_eq hq]; exact h1
            · rw [at_set_ne e3]
              refine O.trans _ _ _ (dom_at hd (Nat.lt_of_le_of_lt (half_le _) hp)) hdp (dom_at hd hj) h1 ?_
              have := hh j h0 hj (by rw [e1]; exact hle) e3 (by rw [e1]; exact hne)
              rw [e1] at this; exact this)
        replace key := key (by
            intro j h0 hj e1
            rw [List.length_set] at hj
            by_cases e3 : j = q
            · subst e3; rw [at_set_eq hq]; exact O.asym _ _ hx hdp hl
            · rw [at_set_ne e3]
              refine O.trans _ _ _ hx hdp (dom_at hd hj) (O.asym _ _ hx hdp hl) ?_
              have := hh j h0 hj (by rw [e1]; exact hle) e3 (by rw [e1]; exact hne)
              rw [e1] at this; exact this)
        obtain ⟨a, b⟩ := key
        · exact ⟨a, b.trans (set_swap_perm hq hp (Ne.symm hne))⟩
    · rw [sdn_stop hsq]
      exact ⟨stop fun h => absurd h hsq, List.Perm.refl _⟩

theorem sup_heap {s : Nat} {x : Value} (hx : Dom x) : ∀ (k : Nat) (us : List Value) (q : Nat), us.length - q = k → q < us.length → (∀ v ∈ us, Dom v) → Desc s q → HH lt s q us → HB lt s q us →
    Desc s (sup lt us q).2 ∧ HH lt s (sup lt us q).2 (sup lt us q).1 ∧ HB lt s (sup lt us q).2 (sup lt us q).1 ∧ ¬ 2 * (sup lt us q).2 + 1 < (sup lt us q).1.length ∧ ((sup lt us q).1.set (sup lt us q).2 x).Perm (us.set q x) := by
  intro k
  induction k using Nat.strongRecOn with
  | ind k ih =>
    intro us q hk hq hd hds hh hb
    have step : ∀ c, c < us.length → 0 < c → (c - 1) / 2 = q → (∀ j, 0 < j → j < us.length → (j - 1) / 2 = q → j ≠ c → lt (at' us j) (at' us c) = false) → sup lt us q = sup lt (us.set q (at' us c)) c →
        Desc s (sup lt us q).2 ∧ HH lt s (sup lt us q).2 (sup lt us q).1 ∧ HB lt s (sup lt us q).2 (sup lt us q).1 ∧ ¬ 2 * (sup lt us q).2 + 1 < (sup lt us q).1.length ∧ ((sup lt us q).1.set (sup lt us q).2 x).Perm (us.set q x) := by
      intro c hc h0c hcq hmin e
      rw [e]
      have hle := hds.le
      have hqc : q < c := kid_gt h0c hcq
      have hdc : Dom (at' us c) := dom_at hd hc
      have key := ih (us.length - c) (by rw [← hk]; exact Nat.sub_lt_sub_left hq hqc) (us.set q (at' us c)) c (by simp) (by simpa using hc) (dom_set hd hdc) (.child (by rw [hcq]; exact hds) (by omega))
      replace key := key (by
          intro j h0 hj hs e1 e2
          rw [List.length_set] at hj
          by_cases e3 : j = q
          · subst e3
            rw [at_set_eq hq, at_set_ne (half_ne h0)]
            exact hb (lt_of_half h0 hs) c h0c hc hcq
          · rw [at_set_ne e3]
            by_cases e4 : (j - 1) / 2 = q
            · rw [e4, at_set_eq hq]; exact hmin j h0 hj e4 e1
            · rw [at_set_ne e4]; exact hh j h0 hj hs e3 e4)
      replace key := key (by
          intro _ j h0 hj e1
          rw [List.length_set] at hj
          rw [hcq, at_set_eq hq, at_set_ne (Nat.ne_of_gt (Nat.lt_trans hqc (kid_gt h0 e1)))]
          have := hh j h0 hj (by rw [e1]; exact Nat.le_trans hle (Nat.le_of_lt hqc)) (Nat.ne_of_gt (Nat.lt_trans hqc (kid_gt h0 e1))) (by rw [e1]; exact Nat.ne_of_gt hqc)
          rw [e1] at this; exact this)
      obtain ⟨a1, a2, a3, a4, a5⟩ := key
      · exact ⟨a1, a2, a3, a4, a5.trans (set_swap_perm hq hc (Nat.ne_of_lt hqc))⟩
    by_cases h1 : 2 * q + 1 < us.length
    · by_cases h2 : 2 * q + 2 < us.length
      · cases hl : lt (at' us (2 * q + 1)) (at' us (2 * q + 2)) with
        | true =>
          refine step (2 * q + 1) h1 (by omega) (by omega) (fun j h0 hj e1 e2 => ?_) (sup_left h1 hl)
          have : j = 2 * q + 2 := by omega
          subst this
          exact O.asym _ _ (dom_at hd h1) (dom_at hd h2) hl
        | false =>
          refine step (2 * q + 2) h2 (by omega) (by omega) (fun j h0 hj e1 e2 => ?_) (sup_right h2 hl)
          have : j = 2 * q + 1 := by omega
          subst this
          exact hl
      · refine step (2 * q + 1) h1 (by omega) (by omega) (fun j h0 hj e1 e2 => ?_) (sup_only h1 h2)
        omega
    · rw [sup_end h1]
      exact ⟨hds, hh, hb, h1, List.Perm.refl _⟩

theorem siftup_heap {us : List Value} {s : Nat} (hs : s < us.length) (hd : ∀ v ∈ us, Dom v) (hf : HF lt (s + 1) us) : HF lt s (siftup lt us s) ∧ (siftup lt us s).Perm us := by
  have hx : Dom (at' us s) := dom_at hd hs
  obtain ⟨a1, a2, a3, a4, a5⟩ := sup_heap O hx _ us s rfl hs hd .self (fun j h0 hj h1 h2 h3 => hf j h0 hj (by omega)) (fun h => absurd h (Nat.lt_irrefl _))
  obtain ⟨b1, b2, b3⟩ := sup_facts (lt := lt) _ us s rfl hs hd
  have e0 : us.set s (at' us s) = us := by
    apply List.ext_getElem?
    intro i
    by_cases h : i = s
    · subst h; simp [at', List.getD_eq_getElem?_getD, hs]
    · rw [List.getElem?_set_ne (Ne.symm h)]
  rw [e0] at a5
  unfold siftup
  generalize hus : sup lt us s = p at *
  obtain ⟨ws, q⟩ := p
  dsimp only at *
  have hq : q < ws.length := by omega
  have key := sdn_heap O hx q (ws.set q (at' us s)) (by simpa using hq) (dom_set b3 hx) a1
  replace key := key (by
      intro j h0 hj h1 h2 h3
      rw [List.length_set] at hj
      rw [at_set_ne h2, at_set_ne h3]; exact a2 j h0 hj h1 h2 h3)
  replace key := key (by
      intro hsq j h0 hj h1
      rw [List.length_set] at hj
      omega)
  replace key := key (by
      intro j h0 hj h1
      rw [List.length_set] at hj
      omega)
  obtain ⟨c1, c2⟩ := key
  · rw [List.set_set] at c2
    exact ⟨c1, c2.trans a5⟩

theorem push_heap {us : List Value} {x : Value} (hd : ∀ v ∈ us, Dom v) (hx : Dom x) (hf : HF lt 0 us) : HF lt 0 (sdn lt 0 x (us ++ [x]) us.length) ∧ (sdn lt 0 x (us ++ [x]) us.length).Perm (us ++ [x]) := by
  have hds : ∀ q, Desc 0 q := by
    intro q
    induction q using Nat.strongRecOn with
    | ind q ih =>
      by_cases h : q = 0
      · subst h; exact .self
      · exact .child (ih _ (by omega)) (by omega)
  have hat : ∀ j, j < us.length → at' (us ++ [x]) j = at' us j := fun j hj => by simp [at', List.getD_eq_getElem?_getD, List.getElem?_append_left hj]
  have key := sdn_heap O hx us.length (us ++ [x]) (by simp) (dom_app hd hx) (hds _)
  replace key := key (by
      intro j h0 hj h1 h2 h3
      simp only [List.length_append, List.length_cons, List.length_nil] at hj
      rw [hat j (by omega), hat _ (by omega)]
      exact hf j h0 (by omega) h1)
  replace key := key (by
      intro _ j h0 hj e
      simp only [List.length_append, List.length_cons, List.length_nil] at hj
      omega)
  replace key := key (by
      intro j h0 hj e
      simp only [List.length_append, List.length_cons, List.length_nil] at hj
      omega)
  obtain ⟨a, b⟩ := key
  · have e : (us ++ [x]).set us.length x = us ++ [x] := by simp
    rw [e] at b
    exact ⟨a, b⟩

theorem hpf_heap : ∀ (k : Nat) (us : List Value), k ≤ us.length → (∀ v ∈ us, Dom v) → HF lt k us → HF lt 0 (hpf lt k us) ∧ (hpf lt k us).Perm us := by
  intro k
  induction k with
  | zero => intro us _ _ hf; exact ⟨hf, List.Perm.refl _⟩
  | succ k ih =>
    intro us hk hd hf
    obtain ⟨a, b⟩ := siftup_heap O (s := k) (by omega) hd hf
    obtain ⟨c, d⟩ := ih (siftup lt us k) (by rw [siftup_length' (by omega)]; omega) (siftup_dom (by omega) hd) a
    exact ⟨c, d.trans b⟩
theorem heapify_heap {us : List Value} (hd : ∀ v ∈ us, Dom v) : HF lt 0 (hpf lt (us.length / 2) us) ∧ (hpf lt (us.length / 2) us).Perm us :=
  hpf_heap O _ us (by omega) hd fun j h0 hj h1 => by omega

theorem root_least {us : List Value} (hd : ∀ v ∈ us, Dom v) (hf : HF lt 0 us) : ∀ j, j < us.length → lt (at' us j) (at' us 0) = false := by
  intro j
  induction j using Nat.strongRecOn with
  | ind j ih =>
    intro hj
    by_cases h : j = 0
    · subst h
      cases e : lt (at' us 0) (at' us 0) with
      | false => rfl
      | true => have := O.asym _ _ (dom_at hd hj) (dom_at hd hj) e; rw [e] at this; cases this
    · exact O.trans _ _ _ (dom_at hd (by omega)) (dom_at hd (by omega)) (dom_at hd hj) (ih _ (by omega) (by omega)) (hf j (by omega) hj (Nat.zero_le _))
theorem replace_heap {us : List Value} {x : Value} (h0 : 0 < us.length) (hd : ∀ v ∈ us, Dom v) (hx : Dom x) (hf : HF lt 0 us) : HF lt 0 (siftup lt (us.set 0 x) 0) ∧ (siftup lt (us.set 0 x) 0).Perm (us.set 0 x) :=
  siftup_heap O (by simpa using h0) (dom_set hd hx) fun j h1 hj h2 => by
    rw [List.length_set] at hj
    rw [at_set_ne (by omega), at_set_ne (by omega)]
    exact hf j h1 hj (by omega)
end
end Mine

-- B8
namespace Mine

noncomputable def HeapOk (hs : List Int) : Prop := ∀ j, 0 < j → j < hs.length → hs.getD ((j - 1) / 2) 0 ≤ hs.getD j 0

noncomputable def keyI : Value → Int
  | .int n _ => n
  | _ => 0
noncomputable def IsI (v : Value) : Prop := ∃ n t, v = .int n t
noncomputable def ltI (a b : Value) : Bool := decide (keyI a < keyI b)
theorem preI : Pre IsI ltI where
  asym := fun x y _ _ h => by simp only [ltI, decide_eq_true_eq, decide_eq_false_iff_not] at *; omega
  trans := fun x y z _ _ _ h1 h2 => by simp only [ltI, decide_eq_false_iff_not] at *; omega
theorem cmpI {prog : Program} {w : World} {g : Heap} : CmpOk prog w g IsI ltI := by
  rintro x y ⟨n, t, rfl⟩ ⟨k, u, rfl⟩ A E s Q _ _ h
  exact PyProof.Rows.lt_int h
theorem ints_isI {vs : List Value} {ns : List Int} (h : IntsAre vs ns) : ∀ v ∈ vs, IsI v := by
  induction h with
  | nil => intro v hv; cases hv
  | cons n t _ ih =>
    intro v hv
    rcases List.mem_cons.mp hv with rfl | hv
    · exact ⟨n, t, rfl⟩
    · exact ih v hv
theorem ints_key {vs : List Value} {ns : List Int} (h : IntsAre vs ns) : ns = vs.map keyI := by
  induction h with
  | nil => rfl
  | cons n t _ ih => rw [List.map_cons, ← ih]; rfl
theorem ints_of {vs : List Value} (h : ∀ v ∈ vs, IsI v) : IntsAre vs (vs.map keyI) := by
  induction vs with
  | nil => exact .nil
  | cons v r ih =>
    obtain ⟨n, t, rfl⟩ := h v (.head _)
    exact .cons n t (ih fun v hv => h v (.tail _ hv))
theorem key_at {vs : List Value} {j : Nat} (h : j < vs.length) : (vs.map keyI).getD j 0 = keyI (at' vs j) := by
  simp [at', List.getD_eq_getElem?_getD, h]
theorem heapOk_iff {vs : List Value} : HeapOk (vs.map keyI) ↔ HF ltI 0 vs := by
  constructor
  · intro h j h0 hj _
    have := h j h0 (by simpa using hj)
    rw [key_at hj, key_at (by omega)] at this
    simp only [ltI, decide_eq_false_iff_not]; omega
  · intro h j h0 hj
    rw [List.length_map] at hj
    have := h j h0 hj (Nat.zero_le _)
    rw [key_at hj, key_at (by omega)]
    simp only [ltI, decide_eq_false_iff_not] at this; omega
theorem isI_at {vs : List Value} {j : Nat} (h : ∀ v ∈ vs, IsI v) (hj : j < vs.length) : ∃ t, at' vs j = .int ((vs.map keyI).getD j 0) t := by
  obtain ⟨n, t, e⟩ := dom_at h hj
  refine ⟨t, ?_⟩
  have e' : at' vs j = .int n t := e
  rw [key_at hj, e']
  rfl
theorem perm_isI {vs ws : List Value} (h : ws.Perm vs) (hv : ∀ v ∈ vs, IsI v) : ∀ v ∈ ws, IsI v := fun v hm => hv v (h.mem_iff.mp hm)
theorem root_min {vs : List Value} (hv : ∀ v ∈ vs, IsI v) (hf : HF ltI 0 vs) : ∀ y ∈ vs.map keyI, (vs.map keyI).getD 0 0 ≤ y := by
  intro y hy
  obtain ⟨v, hm, rfl⟩ := List.mem_map.mp hy
  obtain ⟨j, hj, rfl⟩ := List.getElem_of_mem hm
  have := root_least preI hv hf j hj
  have e : at' vs j = vs[j] := by simp [at', List.getD_eq_getElem?_getD, hj]
  rw [key_at (by omega)]
  rw [e] at this
  simp only [ltI, decide_eq_false_iff_not] at this; omega
theorem set0_perm {vs : List Value} {x : Value} (h : 0 < vs.length) : (at' vs 0 :: vs.set 0 x).Perm (x :: vs) := by
  cases vs with
  | nil => exact absurd h (Nat.lt_irrefl _)
  | cons a r => exact List.Perm.swap _ _ _

section
variable {w : World} {A : Around} {E : Value → Shared → Prop} {s : Shared} {mg mb : Str → Option Value} {p : Program} {loose : List Str} {g : Heap} {L : Addr} {m : Str → Option Value} {news : List (Addr × Obj)} {gg : Obj → List (Addr × Obj)} {a : Addr} {vs : List Value} {hs : List Int} {n : Nat} {Q : Value → Shared → Prop} {x : Int} {t : Tok}
theorem heappush_i (F : Fr g L s.heap m) (N : News g L s.heap news) (U : UpdF a (W.listOf vs.toArray n) news gg) (X : (hd.heap_1 w.params).In g) (T : TopRead p loose mg mb g)
    (hd : A.depth < 880) (hu : A.units < 8800) (hh : A.handled = none) (hi : IntsAre vs hs) (ok : HeapOk hs) (hlen : hs.length < 2 ^ 19)
    (h : ∀ h' tk n' ws gs, Fr g L h' m → News g L h' (gg (W.listOf ws.toArray n')) → IntsAre ws gs → gs.Perm (hs ++ [x]) → HeapOk gs → Q .none { s with heap := h', toks := tk }) :
    wpAny (model PG w) A (call (.ref 21) [.ref a, .int x t]) Q E s := by
  have z := N _ (updF_mem U)
  have st := hide1 F z.2.2
  have hv := ints_isI hi
  have e := ints_key hi
  subst e
  have hx : IsI (.int x t) := ⟨x, t, rfl⟩
  obtain ⟨c1, c2⟩ := push_heap preI hv hx (heapOk_iff.mp ok)
  rw [List.length_map] at hlen
  refine wpAny_call (heappush_code (X.keeps st) (T.keeps st) z.1 hd hu hh (cmpI (g := _)) hv hx (by omega) fun h' tk n' st' ho => ?_)
  obtain ⟨F', N'⟩ := back_g F N U st' ho
  refine h h' tk n' _ _ F' N' (ints_of (perm_isI c2 (dom_app hv hx))) ?_ (heapOk_iff.mpr c1)
  have := c2.map keyI
  rw [List.map_append] at this
  exact this

theorem heappushpop_i (F : Fr g L s.heap m) (N : News g L s.heap news) (U : UpdF a (W.listOf vs.toArray n) news gg) (X : (hd.heap_1 w.params).In g) (T : TopRead p loose mg mb g)
    (hd : A.depth < 880) (hu : A.units < 8800) (hh : A.handled = none) (hi : IntsAre vs hs) (ok : HeapOk hs) (hlen : hs.length < 2 ^ 19)
    (h : ∀ h' tk n' ws gs k tv, Fr g L h' m → News g L h' (gg (W.listOf ws.toArray n')) → IntsAre ws gs → (k :: gs).Perm (hs ++ [x]) → (∀ y ∈ hs ++ [x], k ≤ y) → HeapOk gs → Q (.int k tv) { s with heap := h', toks := tk }) :
    wpAny (model PG w) A (call (.ref 42) [.ref a, .int x t]) Q E s := by
  have z := N _ (updF_mem U)
  have st := hide1 F z.2.2
  have hv := ints_isI hi
  have e := ints_key hi
  subst e
  have hx : IsI (.int x t) := ⟨x, t, rfl⟩
  have hf := heapOk_iff.mp ok
  have hr := root_min hv hf
  rw [List.length_map] at hlen
  refine wpAny_call (heappushpop_code (X.keeps st) (T.keeps st) z.1 hd hu hh (cmpI (g := _)) hv hx (by omega) fun h' tk n' st' ho => ?_)
  obtain ⟨F', N'⟩ := back_g F N U st' ho
  by_cases hc : 0 < vs.length ∧ ltI (vs.getD 0 .none) (.int x t) = true
  · rw [if_pos hc] at N' ⊢
    obtain ⟨c1, c2⟩ := replace_heap preI hc.1 hv hx hf
    obtain ⟨tv, et⟩ := isI_at hv hc.1
    have et' : vs.getD 0 .none = .int ((vs.map keyI).getD 0 0) tv := et
    rw [et']
    have hlt : (vs.map keyI).getD 0 0 < x := by
      have := hc.2
      rw [et'] at this
      simpa [ltI, keyI] using this
    refine h h' tk n' _ _ _ _ F' N' (ints_of (perm_isI c2 (dom_set hv hx))) ?_ ?_ (heapOk_iff.mpr c1)
    · have h1 := ((c2.cons (at' vs 0)).trans (set0_perm hc.1)).map keyI
      rw [List.map_cons, List.map_cons, ← key_at hc.1] at h1
      exact h1.trans (List.perm_append_comm (l₁ := [x]) (l₂ := vs.map keyI))
    · intro y hy
      rcases List.mem_append.mp hy with hy | hy
      · exact hr y hy
      · rw [List.mem_singleton.mp hy]; omega
  · rw [if_neg hc] at N' ⊢
    refine h h' tk n' _ _ _ _ F' N' (ints_of hv) (List.perm_append_comm (l₁ := [x]) (l₂ := vs.map keyI)) ?_ ok
    intro y hy
    rcases List.mem_append.mp hy with hy | hy
    · have hpos : 0 < vs.length := by
        cases vs with
        | nil => cases hy
        | cons => simp
      have h1 : ¬ ltI (vs.getD 0 .none) (.int x t) = true := fun q => hc ⟨hpos, q⟩
      obtain ⟨tv, et⟩ := isI_at hv hpos
      have et' : vs.getD 0 .none = .int ((vs.map keyI).getD 0 0) tv := et
      rw [et'] at h1
      have h2 := hr y hy
      have h3 : ¬ (vs.map keyI).getD 0 0 < x := fun q => h1 (by simpa [ltI, keyI] using q)
      omega
    · rw [List.mem_singleton.mp hy]; exact Int.le_refl _

theorem heappop_i (F : Fr g L s.heap m) (N : News g L s.heap news) (U : UpdF a (W.listOf vs.toArray n) news gg) (X : (hd.heap_1 w.params).In g) (T : TopRead p loose mg mb g)
    (hd : A.depth < 880) (hu : A.units < 8800) (hh : A.handled = none) (hi : IntsAre vs hs) (ok : HeapOk hs) (hlen : hs.length < 2 ^ 19) (hne : 0 < hs.length)
    (h : ∀ h' tk n' ws gs k tv, Fr g L h' m → News g L h' (gg (W.listOf ws.toArray n')) → IntsAre ws gs → (k :: gs).Perm hs → (∀ y ∈ hs, k ≤ y) → HeapOk gs → Q (.int k tv) { s with heap := h', toks := tk }) :
    wpAny (model PG w) A (call (.ref 28) [.ref a]) Q E s := by
  have z := N _ (updF_mem U)
  have st := hide1 F z.2.2
  have hv := ints_isI hi
  have e := ints_key hi
  subst e
  have hf := heapOk_iff.mp ok
  have hr := root_min hv hf
  rw [List.length_map] at hlen hne
  obtain ⟨us, y, rfl⟩ : ∃ us y, vs = us ++ [y] := ⟨vs.dropLast, vs.getLast (List.ne_nil_of_length_pos hne), (List.dropLast_concat_getLast _).symm⟩
  have hvu : ∀ v ∈ us, IsI v := fun v hm => hv v (List.mem_append_left _ hm)
  have hy : IsI y := hv y (List.mem_append_right _ (.head _))
  rw [List.length_append] at hlen
  refine wpAny_call (heappop_code (X.keeps st) (T.keeps st) z.1 hd hu hh (cmpI (g := _)) hvu hy (by simpa using (by omega : us.length + 1 < 2 ^ 20)) fun h' tk n' st' ho => ?_)
  obtain ⟨F', N'⟩ := back_g F N U st' ho
  by_cases hc : 0 < us.length
  · rw [if_pos hc] at N' ⊢
    have hfu : HF ltI 0 us := fun j h0 hj hs => by
      have := hf j h0 (by simp; omega) hs
      have e1 : at' (us ++ [y]) j = at' us j := by simp [at', List.getD_eq_getElem?_getD, List.getElem?_append_left hj]
      have e2 : at' (us ++ [y]) ((j - 1) / 2) = at' us ((j - 1) / 2) := by simp [at', List.getD_eq_getElem?_getD, List.getElem?_append_left (show (j - 1) / 2 < us.length by omega)]
      rw [e1, e2] at this; exact this
    obtain ⟨c1, c2⟩ := replace_heap preI hc hvu hy hfu
    obtain ⟨tv, et⟩ := isI_at hvu hc
    have et' : us.getD 0 .none = .int ((us.map keyI).getD 0 0) tv := et
    rw [et']
    have e0 : ((us ++ [y]).map keyI).getD 0 0 = (us.map keyI).getD 0 0 := by
      cases us with
      | nil => exact absurd hc (Nat.lt_irrefl _)
      | cons => rfl
    rw [e0] at hr
    refine h h' tk n' _ _ _ _ F' N' (ints_of (perm_isI c2 (dom_set hvu hy))) ?_ hr (heapOk_iff.mpr c1)
    have h1 := ((c2.cons (at' us 0)).trans (set0_perm hc)).map keyI
    rw [List.map_cons, List.map_cons, ← key_at hc] at h1
    rw [List.map_append]
    exact h1.trans (List.perm_append_comm (l₁ := [keyI y]) (l₂ := us.map keyI))
  · rw [if_neg hc] at N' ⊢
    have eu : us = [] := List.length_eq_zero_iff.mp (Nat.eq_zero_of_not_pos hc)
    subst eu
    obtain ⟨k, tv, rfl⟩ := hy
    refine h h' tk n' [] [] k tv F' N' .nil (List.Perm.refl _) ?_ (fun j _ hj => absurd hj (Nat.not_lt_zero _))
    intro y hy
    exact hr y hy

theorem heapreplace_i (F : Fr g L s.heap m) (N : News g L s.heap news) (U : UpdF a (W.listOf vs.toArray n) news gg) (X : (hd.heap_1 w.params).In g) (T : TopRead p loose mg mb g)
    (hd : A.depth < 880) (hu : A.units < 8800) (hh : A.handled = none) (hi : IntsAre vs hs) (ok : HeapOk hs) (hlen : hs.length < 2 ^ 19) (hne : 0 < hs.length)
    (h : ∀ h' tk n' ws gs k tv, Fr g L h' m → News g L h' (gg (W.listOf ws.toArray n')) → IntsAre ws gs → (k :: gs).Perm (x :: hs) → k ∈ hs → (∀ y ∈ hs, k ≤ y) → HeapOk gs → Q (.int k tv) { s with heap := h', toks := tk }) :
    wpAny (model PG w) A (call (.ref 35) [.ref a, .int x t]) Q E s := by
  have z := N _ (updF_mem U)
  have st := hide1 F z.2.2
  have hv := ints_isI hi
  have e := ints_key hi
  subst e
  have hx : IsI (.int x t) := ⟨x, t, rfl⟩
  have hf := heapOk_iff.mp ok
  have hr := root_min hv hf
  rw [List.length_map] at hlen hne
  refine wpAny_call (heapreplace_code (X.keeps st) (T.keeps st) z.1 hd hu hh (cmpI (g := _)) hv hx hne (by omega) fun h' tk n' st' ho => ?_)
  obtain ⟨F', N'⟩ := back_g F N U st' ho
  obtain ⟨c1, c2⟩ := replace_heap preI hne hv hx hf
  obtain ⟨tv, et⟩ := isI_at hv hne
  have et' : vs.getD 0 .none = .int ((vs.map keyI).getD 0 0) tv := et
  rw [et']
  refine h h' tk n' _ _ _ _ F' N' (ints_of (perm_isI c2 (dom_set hv hx))) ?_ ?_ hr (heapOk_iff.mpr c1)
  · have h1 := ((c2.cons (at' vs 0)).trans (set0_perm hne)).map keyI
    rw [List.map_cons, List.map_cons, ← key_at hne] at h1
    exact h1
  · rw [key_at hne]
    exact List.mem_map.mpr ⟨_, getD_mem hne, rfl⟩

theorem heapify_i (F : Fr g L s.heap m) (N : News g L s.heap news) (U : UpdF a (W.listOf vs.toArray n) news gg) (X : (hd.heap_1 w.params).In g) (T : TopRead p loose mg mb g)
    (hd : A.depth < 880) (hu : A.units < 8800) (hh : A.handled = none) (hi : IntsAre vs hs) (hlen : hs.length < 2 ^ 19)
    (h : ∀ h' tk n' ws gs, Fr g L h' m → News g L h' (gg (W.listOf ws.toArray n')) → IntsAre ws gs → gs.Perm hs → HeapOk gs → Q .none { s with heap := h', toks := tk }) :
    wpAny (model PG w) A (call (.ref 49) [.ref a]) Q E s := by
  have z := N _ (updF_mem U)
  have st := hide1 F z.2.2
  have hv := ints_isI hi
  have e := ints_key hi
  subst e
  rw [List.length_map] at hlen
  obtain ⟨c1, c2⟩ := heapify_heap preI hv
  refine wpAny_call (heapify_code (X.keeps st) (T.keeps st) z.1 hd hu hh (cmpI (g := _)) hv (by omega) fun h' tk n' st' ho => ?_)
  obtain ⟨F', N'⟩ := back_g F N U st' ho
  exact h h' tk n' _ _ F' N' (ints_of (perm_isI c2 hv)) (c2.map keyI) (heapOk_iff.mpr c1)
end
end Mine

-- B9
namespace Mine


theorem fr_obj {h₀ h : Heap} {L : Addr} {m : Str → Option Value} (F : Fr h₀ L h m) : ∃ oL es ep, h.get? L = some oL ∧ oL.data = .dict es ep := by
  obtain ⟨oL, es, ep, h1, h2, _⟩ := F.ns
  exact ⟨oL, es, ep, h1, h2⟩
theorem fr_old_none {h₀ h : Heap} {L : Addr} {m : Str → Option Value} (F : Fr h₀ L h m) : h₀.get? L = none := by
  cases q : h₀.get? L with
  | none => rfl
  | some o => exact absurd (Heap.lt_size q) (Nat.not_lt.mpr F.above)

/-- entering a def from a frame: the caller's own frame object goes onto the ledger -/
theorem enter_def {prog : Program} {w : World} {A : Around} {s : Shared} {K : Frag} {h₀ : Heap} {L : Addr} {m : Str → Option Value} {news : List (Addr × Obj)} {p : Program} {loose : List Str} {mg mb : Str → Option Value}
    {name qual : Str} {params : Arguments} {body : List Stmt} {scope : Scope} {dV kV doc pm cdv ct oc : Value} {an od : Option Addr} {osl : Array (Option Value)} {f : Addr} {args : Args} {binds : List (Str × Value)} {R : Result → Shared → Prop}
    (F : Fr h₀ L s.heap m) (N : News h₀ L s.heap news) (X : K.In h₀) (T : TopRead p loose mg mb h₀)
    (ho : K.lookup f = some ⟨oc, od, .func (fnOf name qual params body scope dV kV doc pm an cdv ct), osl⟩) (hcd : codeIn K cdv qual = true) (hroom : A.depth < recursionLimit)
    (hbind : BindsTo s (fnOf name qual params body scope dV kV doc pm an cdv ct) args binds) (hloc : ∀ y ∈ binds, scope.names.lookup y.1 = some .local)
    (h : ∀ h₁ L' oL es ep, s.heap.get? L = some oL → oL.data = .dict es ep → (∀ b o, s.heap.get? b = some o → h₁.get? b = some o) → @LT.lt Nat _ L L' → (∀ b o, s.heap.get? b = some o → @LT.lt Nat _ b L') →
      Fr h₀ L' h₁ (fun y => binds.reverse.lookup y) → News h₀ L' h₁ ((L, oL) :: news) →
      wpAny (model prog w) (A.deeper (envOf qual scope L' f cdv)) (execs body (envOf qual scope L' f cdv))
        (fun fl s' => R (.ok (.ret (match fl with | .ret v => v | _ => .none))) s')
        (fun e s' => wpAny (model prog w) (A.deeper (envOf qual scope L' f cdv)) (leaving (envOf qual scope L' f cdv) e) (fun _ s'' => R (.error e) s'') (fun e' s'' => R (.error e') s'') s')
        { s with heap := h₁, toks := s.toks + binds.length })
    (hco : scope.isCoroutine = false := by rfl) (hgen : scope.isGenerator = false := by rfl) (hk : scope.kind = .function := by rfl)
    (hcell : ∀ x ∈ scope.names, x.2 ≠ .cell := by decide) : codeAny (model prog w) A (.call (.ref f) args) R s := by
  have Xs := X.keeps F.keep
  refine codeAny_call_def (fd := fnOf name qual params body scope dV kV doc pm an cdv ct) (body := body) (binds := binds) hroom (Xs _ _ ho) rfl (T.nolimit.keeps F.keep) (codeRec_of Xs hcd) rfl hbind hcell hloc (fun h₁ hns hk₁ => ?_) hco hgen hk
  obtain ⟨oL, es, ep, hoL, hdL⟩ := fr_obj F
  have hlt : L < s.heap.objs.size := F.ns.lt
  refine h h₁ s.heap.objs.size oL es ep hoL hdL hk₁ hlt (fun b o e => Heap.lt_size e) ⟨hns, fun b o e => hk₁ b o (F.keep b o e), Nat.le_trans F.above (Nat.le_of_lt hlt)⟩ (fun q hq => ?_)
  rcases List.mem_cons.mp hq with rfl | hq
  · exact ⟨hk₁ _ _ hoL, Nat.ne_of_lt hlt, fr_old_none F⟩
  · exact ⟨hk₁ _ _ (N q hq).1, Nat.ne_of_lt (Heap.lt_size (N q hq).1), (N q hq).2.2⟩

theorem enter_lam {prog : Program} {w : World} {A : Around} {s : Shared} {h₀ : Heap} {L : Addr} {m : Str → Option Value} {news : List (Addr × Obj)} {p : Program} {loose : List Str} {mg mb : Str → Option Value}
    {name qual : Str} {params : Arguments} {body : PySem.Expr} {scope : Scope} {cl : List (Str × Addr)} {pm ctv : Value} {c' : Addr} {f : Addr} {args : Args} {binds : List (Str × Value)} {R : Result → Shared → Prop}
    (F : Fr h₀ L s.heap m) (N : News h₀ L s.heap news) (T : TopRead p loose mg mb h₀)
    (ho : (f, kla_obj name qual params body scope cl pm c' ctv) ∈ news) (hcd : s.heap.CodeRec (.ref c') qual) (hroom : A.depth < recursionLimit)
    (hbind : bindArgs (kla_fn name qual params body scope cl pm (.ref c') ctv) args = pure binds) (hloc : ∀ y ∈ binds, scope.names.lookup y.1 = some .local)
    (h : ∀ h₁ L' oL es ep, s.heap.get? L = some oL → oL.data = .dict es ep → (∀ b o, s.heap.get? b = some o → h₁.get? b = some o) → @LT.lt Nat _ L L' → (∀ b o, s.heap.get? b = some o → @LT.lt Nat _ b L') →
      Fr h₀ L' h₁ (fun y => binds.reverse.lookup y) → News h₀ L' h₁ ((L, oL) :: news) →
      wpAny (model prog w) (A.deeper (envX qual scope L' f (.ref c') cl)) (eval body (envX qual scope L' f (.ref c') cl))
        (fun v s' => R (.ok (.ret v)) s')
        (fun e s' => wpAny (model prog w) (A.deeper (envX qual scope L' f (.ref c') cl)) (leaving (envX qual scope L' f (.ref c') cl) e) (fun _ s'' => R (.error e) s'') (fun e' s'' => R (.error e') s'') s')
        { s with heap := h₁, toks := s.toks + binds.length })
    (hco : scope.isCoroutine = false := by rfl) (hgen : scope.isGenerator = false := by rfl) (hk : scope.kind = .function := by rfl)
    (hcell : ∀ x ∈ scope.names, x.2 ≠ .cell := by decide) : codeAny (model prog w) A (.call (.ref f) args) R s := by
  refine kla_callFunE hroom (N _ ho).1 rfl hco hgen rfl hcd ?_
  rw [hbind]
  refine wpAny_pure (wpAny_newFunctionEnv hcell hloc (fun h₁ hns hsb => ⟨((T.nolimit).keeps F.keep).fresh _ hsb, ?_⟩) hk)
  show codeAny _ _ (.expr body (envX qual scope s.heap.objs.size f (.ref c') cl)) _ _
  have hk₁ : ∀ b o, s.heap.get? b = some o → h₁.get? b = some o := fun b o e => hsb.extBut b o (Nat.ne_of_lt (Heap.lt_size e)) (Heap.get?_push_of_some _ e)
  obtain ⟨oL, es, ep, hoL, hdL⟩ := fr_obj F
  have hlt : L < s.heap.objs.size := F.ns.lt
  refine kla_codeExpr (h h₁ s.heap.objs.size oL es ep hoL hdL hk₁ hlt (fun b o e => Heap.lt_size e) ⟨hns, fun b o e => hk₁ b o (F.keep b o e), Nat.le_trans F.above (Nat.le_of_lt hlt)⟩ (fun q hq => ?_))
  rcases List.mem_cons.mp hq with rfl | hq
  · exact ⟨hk₁ _ _ hoL, Nat.ne_of_lt hlt, fr_old_none F⟩
  · exact ⟨hk₁ _ _ (N q hq).1, Nat.ne_of_lt (Heap.lt_size (N q hq).1), (N q hq).2.2⟩

theorem leave_fr {h₀ h h' : Heap} {L L1 : Addr} {m m1 : Str → Option Value} {oL : Obj} {news : List (Addr × Obj)} (F : Fr h₀ L h m) (hoL : h.get? L = some oL) (F1 : Fr h₀ L1 h' m1) (N1 : News h₀ L1 h' ((L, oL) :: news)) (hne : ∀ q ∈ news, q.1 ≠ L) :
    Fr h₀ L h' m ∧ News h₀ L h' news := by
  obtain ⟨o, es, ep, h1, h2, h3, h4⟩ := F.ns
  rw [hoL] at h1
  cases h1
  exact ⟨⟨⟨oL, es, ep, (N1 _ (.head _)).1, h2, h3, h4⟩, F1.keep, F.above⟩, fun q hq => ⟨(N1 _ (.tail _ hq)).1, hne q hq, (N1 _ (.tail _ hq)).2.2⟩⟩

section
variable {prog : Program} {w : World} {A : Around} {E : Value → Shared → Prop} {s : Shared}
theorem pop_empty {D : Addr} {n : Nat} {Q : Value → Shared → Prop} (hA : A.handled = none) (hl : s.heap.get? D = some (W.listOf #[] n))
    (hE : ∀ h' tk e, Heap.NewExc s.heap h' e "IndexError" → E (.ref e) { s with heap := h', toks := tk }) : wpAny (model prog w) A (call (.builtin "list.pop") [.ref D]) Q E s := by
  have hT : s.TypeIs (.ref D) "list" := ⟨_, hl, rfl⟩
  exact call_meets F.slot_list_pop hT F.entry_list_pop (F.args_list_pop_1 _) (PySem.AutoListH.list_pop_list_0 D #[] n rfl) ⟨hl, hA, hE⟩
theorem item_empty {D : Addr} {n : Nat} {t : Tok} {value slice : PySem.Expr} {Q : Value → Shared → Prop} (hA : A.handled = none) (hl : s.heap.get? D = some (W.listOf #[] n))
    (hE : ∀ h' tk e, Heap.NewExc s.heap h' e "IndexError" → E (.ref e) { s with heap := h', toks := tk })
    (hs : subscripted slice false (.ref D) (.int 0 t) = operate [.ref D, .int 0 t] (getItem (.ref D) (.int 0 t)) := by with_unfolding_all rfl) :
    wpAny (model prog w) A (subscriptTail value slice (.ref D) (.int 0 t)) Q E s := by
  have hL : s.heap.IsList D #[] := PySem.IsL.isList (n := n) hl
  exact tail_any hL.typeIs slot_list_getitem.lookup (wpAny_getItem_list_out hA hL (.inr (by simp)) (by decide) (by decide) hE) hs
end

section
variable {M : Model} {A : Around} {E : Value → Shared → Prop} {s : Shared}
theorem leaves_newW {base h : Heap} {env : Env} {outer : List Env} {L e : Addr} {cls : String} {Q : Unit → Shared → Prop}
    (hfr : A.frames = some (env :: outer)) (hf : env.frame = some L) (hkb : base.StaysIn h) (hl : h.FunFrames base (env :: outer)) (hx : Heap.NewExc h s.heap e cls)
    (hQ : ∀ h' a0, Heap.FlyingW base outer e (.type cls) a0 h' → h.UpToSlots h' → Q () { s with heap := h' }) : wpAny M A (leaving env (.ref e)) Q E s := by
  obtain ⟨ob, tp, he, hcls, hd⟩ := hx.there
  have hen : base.get? e = none := by
    cases hq : base.get? e with
    | none => rfl
    | some o' => have := hkb e o' hq; rw [hx.new] at this; cases this
  refine wpAny_leaving_firstW (a0 := tp) hfr (hl.of_keeps fun b o hb _ => ⟨o, hx.keeps b o hb, rfl⟩) hf he (fun b o hb => hx.keeps b o (hkb b o hb)) hen hd rfl rfl fun h' hL => ?_
  obtain ⟨k1, ⟨_, _, k2⟩, k3, k4⟩ := hL
  rw [hcls] at k3
  exact hQ h' tp ⟨k1, hen, k2, k3⟩ ((Heap.UpToSlots.of_keeps hx.keeps).trans k4)
end
theorem ns_with {h h' : Heap} {L : Addr} {m : Str → Option Value} {oL : Obj} (hn : h.Ns L m) (h1 : h.get? L = some oL) (h2 : h'.get? L = some oL) : h'.Ns L m :=
  hn.at' fun o e => by rw [h1] at e; cases e; exact h2
/-- the frame and the ledger behind a raise that was caught -/
theorem after_raise {h₀ h h' : Heap} {L : Addr} {m : Str → Option Value} {ls : List Addr} {news : List (Addr × Obj)} (st : (hideAll h ls).StaysIn h') (sm : h.UpToSlots h') (hn : h.Ns L m)
    (keep : ∀ b o, h₀.get? b = some o → h.get? b = some o) (hfr : ∀ b ∈ ls, h₀.get? b = none) (above : h₀.objs.size ≤ L) (hL : L ∈ ls)
    (hw : ∀ q ∈ news, h.get? q.1 = some q.2 ∧ q.1 ∉ ls ∧ h₀.get? q.1 = none) : Fr h₀ L h' m ∧ News h₀ L h' news := by
  refine ⟨⟨sm.ns hn, fun b o e => st b o (hideAll_get ls (keep b o e) fun hb => by rw [hfr b hb] at e; cases e), above⟩, fun q hq => ?_⟩
  obtain ⟨a1, a2, a3⟩ := hw q hq
  exact ⟨st _ _ (hideAll_get ls a1 a2), fun e => a2 (by rw [e]; exact hL), a3⟩
theorem post_gen {α : Type} {prog : Model} {A : Around} {c : Sem α} {Q : α → Shared → Prop} {E : Value → Shared → Prop} {s : Shared} (h : ∀ P, P = Q → wpAny prog A c P E s) : wpAny prog A c Q E s := h Q rfl
end Mine

-- B10
namespace Mine
local macro_rules | `(tactic| walk_at "callWith ref") => `(tactic| (k_here; k_dflt (refine' callWith_K ?k1 ?k2 ?_; (case k1 => k_asm); (case k2 => k_is); k_whole)))


noncomputable def lawParts : List Stmt × Scope := match PySem.Challenge.pw_wy0007_01.main.body.getLast? with
  | some (.FunctionDef _ _ b _ _ _ sc _ _ _) => (b, sc)
  | _ => ([], { kind := .function, names := [], isGenerator := false, isCoroutine := false, more := [] })
noncomputable def forBody : Stmt → List Stmt
  | .For _ _ b _ _ => b
  | _ => []
noncomputable def turnStmts : List Stmt := forBody (lawParts.1.getD 2 (.Pass ⟨0,0,0,0⟩))
noncomputable abbrev lawEnv (L fa : Addr) : Env := envOfC (Str.ofString "law") lawParts.2 L fa (.ref 121)


noncomputable def lamQual : Str := (lawEnv 0 0).qual ++ Str.ofString "<lambda>"
/-- what has been made of the code table -/
noncomputable def TabOk (ps : Array Value) (codes : List (Addr × Obj)) : Prop :=
  TriplesOk ps.toList ∧ ∀ pos v, codeAmong pos ps.toList = some v → ∃ c' oc vs t, v = .ref c' ∧ (c', oc) ∈ codes ∧ oc.data = .fields vs ∧ vs[1]? = some (.str lamQual t)

noncomputable abbrev lawLed (L a r : Addr) (vs us : List Value) (n1 n2 : Nat) (ov oh orr : Obj) (ps : Array Value) (codes : List (Addr × Obj)) : List (Addr × Obj) :=
  (r, W.listOf us.toArray n2) :: (a, W.listOf vs.toArray n1) :: (L + 1 + 1 + 1, ov) :: (L + 1 + 1, oh) :: (L + 1, orr) :: (119, tabObj ps) :: codes
noncomputable abbrev lawMap (sl : Addr) (u2 u3 u4 : Option Value) : Str → Option Value := fun y =>
  if y = Str.ofString "sort" then u2 else if y = Str.ofString "due" then u3 else if y = Str.ofString "told" then u4 else if y = Str.ofString "script" then some (.ref sl) else none
noncomputable def OffC (L a r : Addr) (codes : List (Addr × Obj)) : Prop := ∀ p ∈ codes, @Ne Nat p.1 a ∧ @Ne Nat p.1 r ∧ @LT.lt Nat _ (L + 1 + 1 + 1) p.1
structure LawFacts (L a r : Addr) (vs us : List Value) (hs rs : List Int) (ov oh orr : Obj) (ps : Array Value) (codes : List (Addr × Obj)) : Prop where
  oh : oh.data = .cell (some (.ref a))
  orr : orr.data = .cell (some (.ref r))
  ov : ∃ v, ov.data = .cell v
  hi : IntsAre vs hs
  ri : IntsAre us rs
  ok : HeapOk hs
  la : @Ne Nat a (L + 1 + 1 + 1) ∧ @Ne Nat a (L + 1 + 1) ∧ @Ne Nat a (L + 1) ∧ @Ne Nat a 119
  lr : @LT.lt Nat _ (L + 1 + 1 + 1) r
  ne : @Ne Nat a r
  l0 : @LT.lt Nat _ 119 L
  tab : TabOk ps codes
  off : OffC L a r codes

noncomputable def stmtsThen : Stmt → List Stmt
  | .If _ b _ _ => b
  | _ => []
noncomputable def stmtsElse : Stmt → List Stmt
  | .If _ _ e _ => e
  | _ => []
noncomputable def assignRhs : Stmt → PySem.Expr
  | .Assign _ e _ => e
  | _ => .Constant .none 0 ⟨0,0,0,0⟩
noncomputable def tupleFst : PySem.Expr → PySem.Expr
  | .Tuple (e :: _) _ _ => e
  | e => e
noncomputable def nopS : Stmt := .Pass ⟨0,0,0,0⟩
/-- the elif sort < 5 .. -/
noncomputable def elif1 : Stmt := (stmtsElse (turnStmts.getD 2 nopS)).getD 0 nopS
noncomputable def elif2 : Stmt := (stmtsElse elif1).getD 0 nopS
noncomputable def told1 : PySem.Expr := tupleFst (assignRhs ((stmtsThen elif1).getD 0 nopS))
noncomputable def told2 : PySem.Expr := tupleFst (assignRhs ((stmtsThen elif2).getD 0 nopS))

noncomputable def lamOf : PySem.Expr → Arguments × PySem.Expr × Scope
  | .Call _ [.Lambda a b sc _] _ _ => (a, b, sc)
  | _ => (⟨[], [], none, [], [], none, []⟩, .Constant .none 0 ⟨0,0,0,0⟩, { kind := .function, names := [], isGenerator := false, isCoroutine := false, more := [] })
noncomputable def lam1 : Arguments × PySem.Expr × Scope := lamOf told1
noncomputable def lam2 : Arguments × PySem.Expr × Scope := lamOf told2
local macro_rules | `(tactic| walk_at "TurnPost") => `(tactic| dsimp only [TurnPost])
local macro_rules | `(tactic| k_ne) => `(tactic| first | assumption | (refine Ne.symm ?_; assumption))
local macro_rules | `(tactic| k_all) => `(tactic| first | exact List.forall_mem_nil _ | (refine' List.forall_mem_cons.mpr ⟨?a, ?b⟩; (case a => k_ne); (case b => k_all)) | ((with_reducible rename OffC _ _ _ _ => hofc); intro p9 hp9; have hq9 := hofc p9 hp9; refine neN ?_; omega))
theorem told_core1 {w : World} {s : Shared} {E : Value → Shared → Prop} {Q : Value → Shared → Prop} {mg mb : Str → Option Value} {p : Program} {loose : List Str} {h₀ : Heap} {L fa a r I D f c' : Addr} {o od oc : Obj} {vs us : List Value} {hs rs : List Int} {n1 n2 : Nat} {ov oh orr : Obj} {ps vs' : Array Value} {codes : List (Addr × Obj)} {m : Str → Option Value} {t' : Tok} {pm ctv : Value} 
    (X : (hd.heap_1 w.params).In h₀) (T5 : TopRead p loose mg mb h₀) (C : CodeHd h₀ 121 119)
    (LF : LawFacts L a r vs us hs rs ov oh orr ps codes) (hlen : hs.length < 2 ^ 19) 
    (F5 : Fr h₀ L s.heap m) (N5 : News h₀ L s.heap ((f, kla_obj (Str.ofString "<lambda>") lamQual lam1.1 lam1.2.1 lam1.2.2 [(Str.ofString "heap", L + 1 + 1)] pm c' ctv) :: (c', oc) :: (D, od) :: (I, o) :: lawLed L a r vs us n1 n2 ov oh orr ps codes))
    (hIa : @Ne Nat a I) (hDa : @Ne Nat a D) (hca : @Ne Nat c' a) (hfa : @Ne Nat f a) (hv2 : oc.data = .fields vs') (hv1 : vs'[1]? = some (.str lamQual t'))
    (h : ∀ h' tk n1' ws gs v, Fr h₀ L h' m → News h₀ L h' ((D, od) :: (I, o) :: lawLed L a r ws us n1' n2 ov oh orr ps codes) → IntsAre ws gs → HeapOk gs → ((hs = [] ∧ gs = [] ∧ ∃ t, v = .str (Str.ofString "bare") t) ∨ (0 < hs.length ∧ ∃ k t, v = .int k t ∧ (k :: gs).Perm hs ∧ ∀ y ∈ hs, k ≤ y)) → Q v { s with heap := h', toks := tk }) :
    wpAny (model PG w) (callerA.deeper (lawEnv L fa)) (call (.ref 110) [.ref f]) Q E s := by
  obtain ⟨oh_, or_, ⟨v0, ov_⟩, hi_, ri_, ok, la, lr, ne, l0, tab, off⟩ := LF
  have la1 : @Ne Nat a (L + 1 + 1 + 1) := la.1
  have la2 : @Ne Nat a (L + 1 + 1) := la.2.1
  have la3 : @Ne Nat a (L + 1) := la.2.2.1
  have la4 : @Ne Nat a 119 := la.2.2.2
  skip
  conv at N5 in (occs := *) lam1 => all_goals whnf
  dsimp only [lawEnv, lawMap, lawLed] at N5 ⊢
  conv in (occs := *) lawParts.2 => all_goals whnf
  refine wpAny_call (enter_def F5 N5 X T5 (by k_is) (by k_is) (by k_room) (BindsTo.of_eq rfl) (locs rfl) ?_)
  intro h₁ L1 oL es ep hoL hdL hk1 hlt1 hb1 F1 N1
  (all_goals try k_fold)
  (repeat' (first | (k_unfold; (try dsimp only)) | ((fail_if_success (with_reducible show wpAny _ _ (PySem.exec (PySem.Stmt.While _ _ _ _) _) _ _ _)); (fail_if_success (with_reducible show KswEnd _ _ _ _ _ _ _ _ _ _ _ _)); (fail_if_success (with_reducible show wpAny _ _ (pyIter (Value.ref _)) (fun it s₂ => LoopAtV _ _ _ _ _ _ _ _ _ it s₂) _ _)); (fail_if_success (with_reducible show TurnEnd _ _ _ _ _ _ _)); (fail_if_success (with_reducible show wpAny _ _ (PySem.call (Value.ref _) _ _) _ _ _)); first | walk1 | (dsimp only; walk1))))
  rename News _ _ _ _ => N6
  rename Fr _ L1 _ _ => F6
  refine wpAny_call (enter_lam F6 N6 T5 (by k_mem) (codeRec_news N6 (by k_mem) hv2 hv1) (by k_room) rfl (locs rfl) ?_)
  intro h₂ L2 oL1 es1 ep1 hoL1 hdL1 hk2 hlt2 hb2 F2 N2
  (all_goals try k_fold)
  (repeat' (first | (k_unfold; (try dsimp only)) | ((fail_if_success (with_reducible show wpAny _ _ (PySem.exec (PySem.Stmt.While _ _ _ _) _) _ _ _)); (fail_if_success (with_reducible show KswEnd _ _ _ _ _ _ _ _ _ _ _ _)); (fail_if_success (with_reducible show wpAny _ _ (pyIter (Value.ref _)) (fun it s₂ => LoopAtV _ _ _ _ _ _ _ _ _ it s₂) _ _)); (fail_if_success (with_reducible show TurnEnd _ _ _ _ _ _ _)); (fail_if_success (with_reducible show wpAny _ _ (PySem.call (Value.ref _) _ _) _ _ _)); first | walk1 | (dsimp only; walk1))))
  have aL1 : @LT.lt Nat _ a L1 := hb1 _ _ (N5 (a, W.listOf vs.toArray n1) (by k_mem)).1
  have aL2 : @LT.lt Nat _ a L2 := hb2 _ _ (N6 (a, W.listOf vs.toArray n1) (by k_mem)).1
  have aL : @Ne Nat a L := (N5 (a, W.listOf vs.toArray n1) (by k_mem)).2.1
  by_cases hne : 0 < hs.length
  · refine heappop_i F2 N2 (by k_updF) X T5 (by k_room) (by k_units) rfl hi_ ok hlen hne ?_
    intro h3 tk3 n3 ws gs k tv F3 N3 hi3 hp  hmin ok3
    (repeat' (first | (k_unfold; (try dsimp only)) | ((fail_if_success (with_reducible show wpAny _ _ (PySem.exec (PySem.Stmt.While _ _ _ _) _) _ _ _)); (fail_if_success (with_reducible show KswEnd _ _ _ _ _ _ _ _ _ _ _ _)); (fail_if_success (with_reducible show wpAny _ _ (pyIter (Value.ref _)) (fun it s₂ => LoopAtV _ _ _ _ _ _ _ _ _ it s₂) _ _)); (fail_if_success (with_reducible show TurnEnd _ _ _ _ _ _ _)); (fail_if_success (with_reducible show wpAny _ _ (PySem.call (Value.ref _) _ _) _ _ _)); first | walk1 | (dsimp only; walk1))))
    have N3' : News h₀ L2 h3 ((L, oL) :: (f, kla_obj (Str.ofString "<lambda>") lamQual lam1.1 lam1.2.1 lam1.2.2 [(Str.ofString "heap", L + 1 + 1)] pm c' ctv) :: (c', oc) :: (D, od) :: (I, o) :: lawLed L a r ws us n3 n2 ov oh orr ps codes) := fun q hq => N3 q (.tail _ hq)
    obtain ⟨Fz, Nz⟩ := leave_fr (news := (f, kla_obj (Str.ofString "<lambda>") lamQual lam1.1 lam1.2.1 lam1.2.2 [(Str.ofString "heap", L + 1 + 1)] pm c' ctv) :: (c', oc) :: (D, od) :: (I, o) :: lawLed L a r ws us n3 n2 ov oh orr ps codes) F5 hoL F3 N3' (by
      have ad : ∀ b, b ∈ ((f, kla_obj (Str.ofString "<lambda>") lamQual lam1.1 lam1.2.1 lam1.2.2 [(Str.ofString "heap", L + 1 + 1)] pm c' ctv) :: (c', oc) :: (D, od) :: (I, o) :: lawLed L a r ws us n3 n2 ov oh orr ps codes).map (·.1) → b ≠ L := by
        intro b hb
        have hb' : b ∈ ((f, kla_obj (Str.ofString "<lambda>") lamQual lam1.1 lam1.2.1 lam1.2.2 [(Str.ofString "heap", L + 1 + 1)] pm c' ctv) :: (c', oc) :: (D, od) :: (I, o) :: lawLed L a r vs us n1 n2 ov oh orr ps codes).map (·.1) := hb
        obtain ⟨q, hq, rfl⟩ := List.mem_map.mp hb'
        exact (N5 q hq).2.1
      intro q hq
      exact ad _ (List.mem_map_of_mem hq))
    exact h h3 tk3 n3 ws gs _ Fz (fun q hq => Nz q (.tail _ (.tail _ hq))) hi3 ok3 (.inr ⟨hne, k, tv, rfl, hp, hmin⟩)
  · refine wpAny_call (enter_def F2 N2 X T5 (by k_is) (by k_is) (by k_room) (BindsTo.of_eq rfl) (locs rfl) ?_)
    intro h₃ L3 oL2 es2 ep2 hoL2 hdL2 hk3 hlt3 hb3 F3 N3
    have e0 : hs = [] := List.length_eq_zero_iff.mp (Nat.eq_zero_of_not_pos hne)
    subst e0
    cases hi_
    (all_goals try k_fold)
    (repeat' (first | (k_unfold; (try dsimp only)) | ((fail_if_success (with_reducible show wpAny _ _ (PySem.exec (PySem.Stmt.While _ _ _ _) _) _ _ _)); (fail_if_success (with_reducible show KswEnd _ _ _ _ _ _ _ _ _ _ _ _)); (fail_if_success (with_reducible show wpAny _ _ (pyIter (Value.ref _)) (fun it s₂ => LoopAtV _ _ _ _ _ _ _ _ _ it s₂) _ _)); (fail_if_success (with_reducible show TurnEnd _ _ _ _ _ _ _)); (fail_if_success (with_reducible show wpAny _ _ (PySem.call (Value.ref _) _ _) _ _ _)); first | walk1 | (dsimp only; walk1))))
    rename Fr _ L3 _ _ => F7
    rename News _ L3 _ _ => N7
    have lst := (N7 (a, W.listOf [].toArray n1) (by k_mem)).1
    refine pop_empty rfl lst ?_
    intro h4 tk4 e hx
    have g2 := (N7 (L2, oL2) (by k_mem)).1
    have g1 := (N7 (L1, oL1) (by k_mem)).1
    have g0 := (N7 (L, oL) (by k_mem)).1
    obtain ⟨o3, es3, ep3, g3', g3d, _⟩ := F7.ns
    refine leaves_newW (base := hideAll _ [L3, L2, L1, L]) (outer := [_, _, _]) rfl rfl (fun b o e => of_hideAll _ e)
      ⟨(show ScopeKind.function ≠ ScopeKind.module by decide), ⟨L3, o3, rfl, hideAll_none _ (by simp), g3', fun vs q => by rw [g3d] at q; cases q⟩, (show ScopeKind.function ≠ ScopeKind.module by decide), ⟨L2, oL2, rfl, hideAll_none _ (by simp), g2, fun vs q => by rw [hdL2] at q; cases q⟩,
        (show ScopeKind.function ≠ ScopeKind.module by decide), ⟨L1, oL1, rfl, hideAll_none _ (by simp), g1, fun vs q => by rw [hdL1] at q; cases q⟩, (show ScopeKind.function ≠ ScopeKind.module by decide), ⟨L, oL, rfl, hideAll_none _ (by simp), g0, fun vs q => by rw [hdL] at q; cases q⟩, trivial⟩ hx ?_
    intro h5 a0 fl5 sm5
    refine wpAny_leaves_onW rfl rfl fl5 ?_
    intro h6 fl6 sm6
    refine wpAny_looks_onW rfl rfl fl6 ?_
    intro h7 hh7 sm7
    refine wpAny_landsW hh7 ?_
    intro h8 fl8 sm8
    have sm := ((sm5.trans sm6).trans sm7).trans sm8
    have hfr : ∀ b ∈ [L3, L2, L1, L], h₀.get? b = none := by
      intro b hb
      simp only [List.mem_cons, List.not_mem_nil, or_false] at hb
      rcases hb with e | e | e | e
      · rw [e]; exact fr_old_none F7
      · rw [e]; exact (N7 (L2, oL2) (by k_mem)).2.2
      · rw [e]; exact (N7 (L1, oL1) (by k_mem)).2.2
      · rw [e]; exact (N7 (L, oL) (by k_mem)).2.2
    have told := after_raise (news := []) fl8.1 sm (ns_with F6.ns hoL1 g1) F7.keep hfr F6.above (by simp) (fun q hq => nomatch hq)
    obtain ⟨ob, hob, hobc⟩ := fl8.there
    have hv : bootBuiltins (Str.ofString "IndexError") = some (.type "IndexError") := PyProof.Rows.Boot.«IndexError»
    refine wpAny_handleBy_builtin (X := "IndexError") (T := "IndexError") (b := true) PySem.F.isExc_IndexError PySem.F.notTuple_IndexError (by rw [isSubtype_type]; kernel_rfl)
      (ld_builtin_at told.1 T5.g (mg_none_of X T5.g (by k_is)) T5.b ((T5.builtins _ (by decide)).trans hv) ⟨rfl, ⟨ob, hob, hobc⟩, ?_⟩ rfl rfl (by decide))
    refine lands_againW fl8 ?_
    intro h9 fl9 sm9
    obtain ⟨Ft, Nt⟩ := after_raise (news := []) fl9.1 (sm.trans sm9) (ns_with F6.ns hoL1 g1) F7.keep hfr F6.above (by simp) (fun q hq => nomatch hq)
    obtain ⟨Fz, Nz⟩ := after_raise (news := (f, kla_obj (Str.ofString "<lambda>") lamQual lam1.1 lam1.2.1 lam1.2.2 [(Str.ofString "heap", L + 1 + 1)] pm c' ctv) :: (c', oc) :: (D, od) :: (I, o) :: lawLed L a r [] us n1 n2 ov oh orr ps codes) fl9.1 (sm.trans sm9) (ns_with F5.ns hoL g0) F7.keep hfr F5.above (by simp) (by
      intro q hq
      have hz := N5 q hq
      refine ⟨(N7 q (.tail _ (.tail _ (.tail _ hq)))).1, ?_, hz.2.2⟩
      have hq1 : @LT.lt Nat _ q.1 L1 := hb1 _ _ hz.1
      have hq2 : @Ne Nat q.1 L := hz.2.1
      simp only [List.mem_cons, List.not_mem_nil, or_false, not_or]
      refine ⟨?_, ?_, ?_, hq2⟩ <;> (refine neN ?_; omega))
    clear told F7 N7 F6 N6
    (all_goals try k_fold)
    (repeat' (first | (k_unfold; (try dsimp only)) | ((fail_if_success (with_reducible show wpAny _ _ (PySem.exec (PySem.Stmt.While _ _ _ _) _) _ _ _)); (fail_if_success (with_reducible show KswEnd _ _ _ _ _ _ _ _ _ _ _ _)); (fail_if_success (with_reducible show wpAny _ _ (pyIter (Value.ref _)) (fun it s₂ => LoopAtV _ _ _ _ _ _ _ _ _ it s₂) _ _)); (fail_if_success (with_reducible show TurnEnd _ _ _ _ _ _ _)); (fail_if_success (with_reducible show wpAny _ _ (PySem.call (Value.ref _) _ _) _ _ _)); first | walk1 | (dsimp only; walk1))))
    exact h h9 _ n1 [] [] _ Fz (fun q hq => Nz q (.tail _ (.tail _ hq))) .nil ok (.inl ⟨rfl, rfl, _, rfl⟩)
theorem told_core2 {w : World} {s : Shared} {E : Value → Shared → Prop} {Q : Value → Shared → Prop} {mg mb : Str → Option Value} {p : Program} {loose : List Str} {h₀ : Heap} {L fa a r I D f c' : Addr} {o od oc : Obj} {vs us : List Value} {hs rs : List Int} {n1 n2 : Nat} {ov oh orr : Obj} {ps vs' : Array Value} {codes : List (Addr × Obj)} {m : Str → Option Value} {t' : Tok} {pm ctv : Value} {x : Int} {tx : Tok}
    (X : (hd.heap_1 w.params).In h₀) (T5 : TopRead p loose mg mb h₀) (C : CodeHd h₀ 121 119)
    (LF : LawFacts L a r vs us hs rs ov oh orr ps codes) (hlen : hs.length < 2 ^ 19) (hov : ov.data = .cell (some (.int x tx)))
    (F5 : Fr h₀ L s.heap m) (N5 : News h₀ L s.heap ((f, kla_obj (Str.ofString "<lambda>") lamQual lam2.1 lam2.2.1 lam2.2.2 [(Str.ofString "value", L + 1 + 1 + 1), (Str.ofString "heap", L + 1 + 1)] pm c' ctv) :: (c', oc) :: (D, od) :: (I, o) :: lawLed L a r vs us n1 n2 ov oh orr ps codes))
    (hIa : @Ne Nat a I) (hDa : @Ne Nat a D) (hca : @Ne Nat c' a) (hfa : @Ne Nat f a) (hv2 : oc.data = .fields vs') (hv1 : vs'[1]? = some (.str lamQual t'))
    (h : ∀ h' tk n1' ws gs v, Fr h₀ L h' m → News h₀ L h' ((D, od) :: (I, o) :: lawLed L a r ws us n1' n2 ov oh orr ps codes) → IntsAre ws gs → HeapOk gs → ((hs = [] ∧ gs = [] ∧ ∃ t, v = .str (Str.ofString "bare") t) ∨ (0 < hs.length ∧ ∃ k t, v = .int k t ∧ (k :: gs).Perm (x :: hs) ∧ k ∈ hs ∧ ∀ y ∈ hs, k ≤ y)) → Q v { s with heap := h', toks := tk }) :
    wpAny (model PG w) (callerA.deeper (lawEnv L fa)) (call (.ref 110) [.ref f]) Q E s := by
  obtain ⟨oh_, or_, ⟨v0, ov_⟩, hi_, ri_, ok, la, lr, ne, l0, tab, off⟩ := LF
  have la1 : @Ne Nat a (L + 1 + 1 + 1) := la.1
  have la2 : @Ne Nat a (L + 1 + 1) := la.2.1
  have la3 : @Ne Nat a (L + 1) := la.2.2.1
  have la4 : @Ne Nat a 119 := la.2.2.2
  clear ov_
  conv at N5 in (occs := *) lam2 => all_goals whnf
  dsimp only [lawEnv, lawMap, lawLed] at N5 ⊢
  conv in (occs := *) lawParts.2 => all_goals whnf
  refine wpAny_call (enter_def F5 N5 X T5 (by k_is) (by k_is) (by k_room) (BindsTo.of_eq rfl) (locs rfl) ?_)
  intro h₁ L1 oL es ep hoL hdL hk1 hlt1 hb1 F1 N1
  (all_goals try k_fold)
  (repeat' (first | (k_unfold; (try dsimp only)) | ((fail_if_success (with_reducible show wpAny _ _ (PySem.exec (PySem.Stmt.While _ _ _ _) _) _ _ _)); (fail_if_success (with_reducible show KswEnd _ _ _ _ _ _ _ _ _ _ _ _)); (fail_if_success (with_reducible show wpAny _ _ (pyIter (Value.ref _)) (fun it s₂ => LoopAtV _ _ _ _ _ _ _ _ _ it s₂) _ _)); (fail_if_success (with_reducible show TurnEnd _ _ _ _ _ _ _)); (fail_if_success (with_reducible show wpAny _ _ (PySem.call (Value.ref _) _ _) _ _ _)); first | walk1 | (dsimp only; walk1))))
  rename News _ _ _ _ => N6
  rename Fr _ L1 _ _ => F6
  refine wpAny_call (enter_lam F6 N6 T5 (by k_mem) (codeRec_news N6 (by k_mem) hv2 hv1) (by k_room) rfl (locs rfl) ?_)
  intro h₂ L2 oL1 es1 ep1 hoL1 hdL1 hk2 hlt2 hb2 F2 N2
  (all_goals try k_fold)
  (repeat' (first | (k_unfold; (try dsimp only)) | ((fail_if_success (with_reducible show wpAny _ _ (PySem.exec (PySem.Stmt.While _ _ _ _) _) _ _ _)); (fail_if_success (with_reducible show KswEnd _ _ _ _ _ _ _ _ _ _ _ _)); (fail_if_success (with_reducible show wpAny _ _ (pyIter (Value.ref _)) (fun it s₂ => LoopAtV _ _ _ _ _ _ _ _ _ it s₂) _ _)); (fail_if_success (with_reducible show TurnEnd _ _ _ _ _ _ _)); (fail_if_success (with_reducible show wpAny _ _ (PySem.call (Value.ref _) _ _) _ _ _)); first | walk1 | (dsimp only; walk1))))
  have aL1 : @LT.lt Nat _ a L1 := hb1 _ _ (N5 (a, W.listOf vs.toArray n1) (by k_mem)).1
  have aL2 : @LT.lt Nat _ a L2 := hb2 _ _ (N6 (a, W.listOf vs.toArray n1) (by k_mem)).1
  have aL : @Ne Nat a L := (N5 (a, W.listOf vs.toArray n1) (by k_mem)).2.1
  by_cases hne : 0 < hs.length
  · refine heapreplace_i F2 N2 (by k_updF) X T5 (by k_room) (by k_units) rfl hi_ ok hlen hne ?_
    intro h3 tk3 n3 ws gs k tv F3 N3 hi3 hp hmk hmin ok3
    (repeat' (first | (k_unfold; (try dsimp only)) | ((fail_if_success (with_reducible show wpAny _ _ (PySem.exec (PySem.Stmt.While _ _ _ _) _) _ _ _)); (fail_if_success (with_reducible show KswEnd _ _ _ _ _ _ _ _ _ _ _ _)); (fail_if_success (with_reducible show wpAny _ _ (pyIter (Value.ref _)) (fun it s₂ => LoopAtV _ _ _ _ _ _ _ _ _ it s₂) _ _)); (fail_if_success (with_reducible show TurnEnd _ _ _ _ _ _ _)); (fail_if_success (with_reducible show wpAny _ _ (PySem.call (Value.ref _) _ _) _ _ _)); first | walk1 | (dsimp only; walk1))))
    have N3' : News h₀ L2 h3 ((L, oL) :: (f, kla_obj (Str.ofString "<lambda>") lamQual lam2.1 lam2.2.1 lam2.2.2 [(Str.ofString "value", L + 1 + 1 + 1), (Str.ofString "heap", L + 1 + 1)] pm c' ctv) :: (c', oc) :: (D, od) :: (I, o) :: lawLed L a r ws us n3 n2 ov oh orr ps codes) := fun q hq => N3 q (.tail _ hq)
    obtain ⟨Fz, Nz⟩ := leave_fr (news := (f, kla_obj (Str.ofString "<lambda>") lamQual lam2.1 lam2.2.1 lam2.2.2 [(Str.ofString "value", L + 1 + 1 + 1), (Str.ofString "heap", L + 1 + 1)] pm c' ctv) :: (c', oc) :: (D, od) :: (I, o) :: lawLed L a r ws us n3 n2 ov oh orr ps codes) F5 hoL F3 N3' (by
      have ad : ∀ b, b ∈ ((f, kla_obj (Str.ofString "<lambda>") lamQual lam2.1 lam2.2.1 lam2.2.2 [(Str.ofString "value", L + 1 + 1 + 1), (Str.ofString "heap", L + 1 + 1)] pm c' ctv) :: (c', oc) :: (D, od) :: (I, o) :: lawLed L a r ws us n3 n2 ov oh orr ps codes).map (·.1) → b ≠ L := by
        intro b hb
        have hb' : b ∈ ((f, kla_obj (Str.ofString "<lambda>") lamQual lam2.1 lam2.2.1 lam2.2.2 [(Str.ofString "value", L + 1 + 1 + 1), (Str.ofString "heap", L + 1 + 1)] pm c' ctv) :: (c', oc) :: (D, od) :: (I, o) :: lawLed L a r vs us n1 n2 ov oh orr ps codes).map (·.1) := hb
        obtain ⟨q, hq, rfl⟩ := List.mem_map.mp hb'
        exact (N5 q hq).2.1
      intro q hq
      exact ad _ (List.mem_map_of_mem hq))
    exact h h3 tk3 n3 ws gs _ Fz (fun q hq => Nz q (.tail _ (.tail _ hq))) hi3 ok3 (.inr ⟨hne, k, tv, rfl, hp, hmk, hmin⟩)
  · refine wpAny_call (enter_def F2 N2 X T5 (by k_is) (by k_is) (by k_room) (BindsTo.of_eq rfl) (locs rfl) ?_)
    intro h₃ L3 oL2 es2 ep2 hoL2 hdL2 hk3 hlt3 hb3 F3 N3
    have e0 : hs = [] := List.length_eq_zero_iff.mp (Nat.eq_zero_of_not_pos hne)
    subst e0
    cases hi_
    (all_goals try k_fold)
    (repeat' (first | (k_unfold; (try dsimp only)) | ((fail_if_success (with_reducible show wpAny _ _ (PySem.exec (PySem.Stmt.While _ _ _ _) _) _ _ _)); (fail_if_success (with_reducible show KswEnd _ _ _ _ _ _ _ _ _ _ _ _)); (fail_if_success (with_reducible show wpAny _ _ (pyIter (Value.ref _)) (fun it s₂ => LoopAtV _ _ _ _ _ _ _ _ _ it s₂) _ _)); (fail_if_success (with_reducible show TurnEnd _ _ _ _ _ _ _)); (fail_if_success (with_reducible show wpAny _ _ (PySem.call (Value.ref _) _ _) _ _ _)); first | walk1 | (dsimp only; walk1))))
    rename Fr _ L3 _ _ => F7
    rename News _ L3 _ _ => N7
    have lst := (N7 (a, W.listOf [].toArray n1) (by k_mem)).1
    rename Heap.NewExc _ _ _ _ => hx
    have g2 := (N7 (L2, oL2) (by k_mem)).1
    have g1 := (N7 (L1, oL1) (by k_mem)).1
    have g0 := (N7 (L, oL) (by k_mem)).1
    obtain ⟨o3, es3, ep3, g3', g3d, _⟩ := F7.ns
    refine leaves_newW (base := hideAll _ [L3, L2, L1, L]) (outer := [_, _, _]) rfl rfl (fun b o e => of_hideAll _ e)
      ⟨(show ScopeKind.function ≠ ScopeKind.module by decide), ⟨L3, o3, rfl, hideAll_none _ (by simp), g3', fun vs q => by rw [g3d] at q; cases q⟩, (show ScopeKind.function ≠ ScopeKind.module by decide), ⟨L2, oL2, rfl, hideAll_none _ (by simp), g2, fun vs q => by rw [hdL2] at q; cases q⟩,
        (show ScopeKind.function ≠ ScopeKind.module by decide), ⟨L1, oL1, rfl, hideAll_none _ (by simp), g1, fun vs q => by rw [hdL1] at q; cases q⟩, (show ScopeKind.function ≠ ScopeKind.module by decide), ⟨L, oL, rfl, hideAll_none _ (by simp), g0, fun vs q => by rw [hdL] at q; cases q⟩, trivial⟩ hx ?_
    intro h5 a0 fl5 sm5
    refine wpAny_leaves_onW rfl rfl fl5 ?_
    intro h6 fl6 sm6
    refine wpAny_looks_onW rfl rfl fl6 ?_
    intro h7 hh7 sm7
    refine wpAny_landsW hh7 ?_
    intro h8 fl8 sm8
    have sm := ((sm5.trans sm6).trans sm7).trans sm8
    have hfr : ∀ b ∈ [L3, L2, L1, L], h₀.get? b = none := by
      intro b hb
      simp only [List.mem_cons, List.not_mem_nil, or_false] at hb
      rcases hb with e | e | e | e
      · rw [e]; exact fr_old_none F7
      · rw [e]; exact (N7 (L2, oL2) (by k_mem)).2.2
      · rw [e]; exact (N7 (L1, oL1) (by k_mem)).2.2
      · rw [e]; exact (N7 (L, oL) (by k_mem)).2.2
    have told := after_raise (news := []) fl8.1 sm (ns_with F6.ns hoL1 g1) F7.keep hfr F6.above (by simp) (fun q hq => nomatch hq)
    obtain ⟨ob, hob, hobc⟩ := fl8.there
    have hv : bootBuiltins (Str.ofString "IndexError") = some (.type "IndexError") := PyProof.Rows.Boot.«IndexError»
    refine wpAny_handleBy_builtin (X := "IndexError") (T := "IndexError") (b := true) PySem.F.isExc_IndexError PySem.F.notTuple_IndexError (by rw [isSubtype_type]; kernel_rfl)
      (ld_builtin_at told.1 T5.g (mg_none_of X T5.g (by k_is)) T5.b ((T5.builtins _ (by decide)).trans hv) ⟨rfl, ⟨ob, hob, hobc⟩, ?_⟩ rfl rfl (by decide))
    refine lands_againW fl8 ?_
    intro h9 fl9 sm9
    obtain ⟨Ft, Nt⟩ := after_raise (news := []) fl9.1 (sm.trans sm9) (ns_with F6.ns hoL1 g1) F7.keep hfr F6.above (by simp) (fun q hq => nomatch hq)
    obtain ⟨Fz, Nz⟩ := after_raise (news := (f, kla_obj (Str.ofString "<lambda>") lamQual lam2.1 lam2.2.1 lam2.2.2 [(Str.ofString "value", L + 1 + 1 + 1), (Str.ofString "heap", L + 1 + 1)] pm c' ctv) :: (c', oc) :: (D, od) :: (I, o) :: lawLed L a r [] us n1 n2 ov oh orr ps codes) fl9.1 (sm.trans sm9) (ns_with F5.ns hoL g0) F7.keep hfr F5.above (by simp) (by
      intro q hq
      have hz := N5 q hq
      refine ⟨(N7 q (.tail _ (.tail _ (.tail _ hq)))).1, ?_, hz.2.2⟩
      have hq1 : @LT.lt Nat _ q.1 L1 := hb1 _ _ hz.1
      have hq2 : @Ne Nat q.1 L := hz.2.1
      simp only [List.mem_cons, List.not_mem_nil, or_false, not_or]
      refine ⟨?_, ?_, ?_, hq2⟩ <;> (refine neN ?_; omega))
    clear told F7 N7 F6 N6
    (all_goals try k_fold)
    (repeat' (first | (k_unfold; (try dsimp only)) | ((fail_if_success (with_reducible show wpAny _ _ (PySem.exec (PySem.Stmt.While _ _ _ _) _) _ _ _)); (fail_if_success (with_reducible show KswEnd _ _ _ _ _ _ _ _ _ _ _ _)); (fail_if_success (with_reducible show wpAny _ _ (pyIter (Value.ref _)) (fun it s₂ => LoopAtV _ _ _ _ _ _ _ _ _ it s₂) _ _)); (fail_if_success (with_reducible show TurnEnd _ _ _ _ _ _ _)); (fail_if_success (with_reducible show wpAny _ _ (PySem.call (Value.ref _) _ _) _ _ _)); first | walk1 | (dsimp only; walk1))))
    exact h h9 _ n1 [] [] _ Fz (fun q hq => Nz q (.tail _ (.tail _ hq))) .nil ok (.inl ⟨rfl, rfl, _, rfl⟩)

-- B11
section


theorem codeAmong_snoc_inv {pos q : Pos} {c v : Value} (l : List Value) (h : TriplesOk l) (hn : codeAmong q (l ++ [rawInt pos.line, rawInt pos.col, c]) = some v) : codeAmong q l = some v ∨ v = c := by
  fun_induction TriplesOk l with
  | case1 =>
    simp only [List.nil_append, codeAmong, rawInt] at hn
    split at hn
    · right; exact (Option.some.inj hn).symm
    · cases hn
  | case2 a t b u x rest ih =>
    simp only [List.cons_append, codeAmong] at hn ⊢
    split at hn
    · rename_i hc; left; rw [if_pos hc]; exact hn
    · rename_i hc; rw [if_neg hc]; exact ih h hn
  | case3 l h1 h2 => exact h.elim
theorem tabOk_snoc {ps : Array Value} {codes : List (Addr × Obj)} {pos : Pos} {c' : Addr} {oc : Obj} {vs : Array Value} {t : Tok} (h : TabOk ps codes) (hd : oc.data = .fields vs) (hv : vs[1]? = some (.str lamQual t)) :
    TabOk (ps ++ #[rawInt pos.line, rawInt pos.col, .ref c']) ((c', oc) :: codes) := by
  have e : (ps ++ #[rawInt pos.line, rawInt pos.col, Value.ref c']).toList = ps.toList ++ [rawInt pos.line, rawInt pos.col, .ref c'] := by simp
  refine ⟨by rw [e]; exact TriplesOk_snoc _ _ _ _ h.1, fun q v hq => ?_⟩
  rw [e] at hq
  rcases codeAmong_snoc_inv _ h.1 hq with hq | rfl
  · obtain ⟨c2, oc2, vs2, t2, e1, e2, e3, e4⟩ := h.2 q v hq
    exact ⟨c2, oc2, vs2, t2, e1, .tail _ e2, e3, e4⟩
  · exact ⟨c', oc, vs, t, rfl, .head _, hd, hv⟩
theorem offC_cons {L a r c' : Addr} {oc : Obj} {codes : List (Addr × Obj)} (h : OffC L a r codes) (h1 : @Ne Nat c' a) (h2 : @Ne Nat c' r) (h3 : @LT.lt Nat _ (L + 1 + 1 + 1) c') : OffC L a r ((c', oc) :: codes) := by
  intro p hp
  rcases List.mem_cons.mp hp with rfl | hp
  · exact ⟨h1, h2, h3⟩
  · exact h p hp
local macro_rules | `(tactic| walk_at "eval Lambda") => `(tactic| (k_here; k_dflt (refine' kla_eval ?d0 ?_; (case d0 => exact rfl)); first | (k_dflt (refine' kla_nest ?F ?N ?T ?C ?cd ?U ?t ?n ?cl ?_; (case F => k_asm); (case N => k_asm); (case T => k_asm); (case cd => exact rfl); (case C => k_asm); (case U => k_updF); (case t => assumption); (case n => assumption); (case cl => exact rfl); k_whole); intro f' c' oc' vs' t' ct' h' tk' F' N' d1' d2' l1 l2; (try dsimp only at N'); (try k_lt l1); (try k_lt2 l2)) | (k_dflt (refine' kla_hit ?F ?N ?T ?C ?cd ?mem ?t ?n ?cl ?_; (case F => k_asm); (case N => k_asm); (case T => k_asm); (case cd => exact rfl); (case C => k_asm); (case mem => k_mem); (case t => assumption); (case n => assumption); (case cl => exact rfl); k_whole); intro f' ct' h' tk' F' N' l1; (try dsimp only at N'); (try k_lt l1))))

theorem told1_eval {w : World} {s : Shared} {E : Value → Shared → Prop} {Q : Value → Shared → Prop} {mg mb : Str → Option Value} {p : Program} {loose : List Str} {mean : ExcName → Option Value} {h₀ : Heap} {L fa a r I D : Addr} {o od : Obj} {vs us : List Value} {hs rs : List Int} {n1 n2 : Nat} {ov oh orr : Obj} {ps : Array Value} {codes : List (Addr × Obj)} {m : Str → Option Value} 
    (X : (hd.heap_1 w.params).In h₀) (T : Top p loose mean mg mb h₀) (C : CodeHd h₀ 121 119)
    (LF : LawFacts L a r vs us hs rs ov oh orr ps codes) (hlen : hs.length < 2 ^ 19)
    (F : Fr h₀ L s.heap m) (N : News h₀ L s.heap ((D, od) :: (I, o) :: lawLed L a r vs us n1 n2 ov oh orr ps codes))
    (hIo : ∀ p ∈ lawLed L a r vs us n1 n2 ov oh orr ps codes, p.1 ≠ I)  (hDo : ∀ p ∈ lawLed L a r vs us n1 n2 ov oh orr ps codes, p.1 ≠ D)
    (h : ∀ h' tk n1' ws gs ps' codes' v, Fr h₀ L h' m → News h₀ L h' ((D, od) :: (I, o) :: lawLed L a r ws us n1' n2 ov oh orr ps' codes') → LawFacts L a r ws us gs rs ov oh orr ps' codes' → (∀ p ∈ codes', @Ne Nat p.1 I) → ((hs = [] ∧ gs = [] ∧ ∃ t, v = .str (Str.ofString "bare") t) ∨ (0 < hs.length ∧ ∃ k t, v = .int k t ∧ (k :: gs).Perm hs ∧ ∀ y ∈ hs, k ≤ y)) → Q v { s with heap := h', toks := tk }) :
    wpAny (model PG w) (callerA.deeper (lawEnv L fa)) (eval told1 (lawEnv L fa)) Q E s := by
  have n2_ : @Ne Nat a I := hIo _ (.tail _ (.head _))
  have n6_ : @Ne Nat 119 I := hIo _ (.tail _ (.tail _ (.tail _ (.tail _ (.tail _ (.head _))))))
  have m1_ : @Ne Nat r D := hDo _ (.head _)
  have m2_ : @Ne Nat a D := hDo _ (.tail _ (.head _))
  have m6_ : @Ne Nat 119 D := hDo _ (.tail _ (.tail _ (.tail _ (.tail _ (.tail _ (.head _))))))
  obtain ⟨oh_, or_, ov_, hi_, ri_, ok, la, lr, ne, l0, tab, off⟩ := LF
  have la1 : @Ne Nat a (L + 1 + 1 + 1) := la.1
  have la2 : @Ne Nat a (L + 1 + 1) := la.2.1
  have la3 : @Ne Nat a (L + 1) := la.2.2.1
  have la4 : @Ne Nat a 119 := la.2.2.2
  have hcI : ∀ p ∈ codes, @Ne Nat p.1 I := fun p hp => hIo p (.tail _ (.tail _ (.tail _ (.tail _ (.tail _ (.tail _ hp))))))
  have tr := tab.1
  have T5 := topRead_of T
  have cont : ∀ (s' : Shared) (f c' : Addr) (oc : Obj) (vs' ps' : Array Value) (codes' : List (Addr × Obj)) (t' : Tok) (pm ctv : Value), (∃ hx tx, s' = { s with heap := hx, toks := tx }) → Fr h₀ L s'.heap m → TabOk ps' codes' → OffC L a r codes' →
      News h₀ L s'.heap ((f, kla_obj (Str.ofString "<lambda>") lamQual lam1.1 lam1.2.1 lam1.2.2 [(Str.ofString "heap", L + 1 + 1)] pm c' ctv) :: (c', oc) :: (D, od) :: (I, o) :: lawLed L a r vs us n1 n2 ov oh orr ps' codes') →
      @Ne Nat c' a → @Ne Nat f a → oc.data = .fields vs' → vs'[1]? = some (.str lamQual t') → (∀ p ∈ codes', @Ne Nat p.1 I) →
      wpAny (model PG w) (callerA.deeper (lawEnv L fa)) (call (.ref 110) [.ref f]) Q E s' := by
    rintro _ f c' oc vs' ps' codes' t' pm ctv ⟨hx, tx, rfl⟩ F5 tab' off' N5 hca hfa hv2 hv1 hnI
    refine told_core1 X T5 C ⟨oh_, or_, ov_, hi_, ri_, ok, la, lr, ne, l0, tab', off'⟩ hlen F5 N5 n2_ m2_ hca hfa hv2 hv1 ?_
    intro h' tk n1' ws gs v F6 N6 hi6 ok6 P
    exact h h' tk n1' ws gs ps' codes' v F6 N6 ⟨oh_, or_, ov_, hi6, ri_, ok6, la, lr, ne, l0, tab', off'⟩ hnI P
  cases hca : codeAmong ⟨198, 35, 198, 56⟩ ps.toList with
  | none =>
    conv in (occs := *) told1 => all_goals whnf
    dsimp only [lawEnv, lawMap, lawLed] at F N ⊢
    conv in (occs := *) lawParts.2 => all_goals whnf
    (all_goals try k_fold)
    (repeat' (first | (k_unfold; (try dsimp only)) | ((fail_if_success (with_reducible show wpAny _ _ (PySem.exec (PySem.Stmt.While _ _ _ _) _) _ _ _)); (fail_if_success (with_reducible show KswEnd _ _ _ _ _ _ _ _ _ _ _ _)); (fail_if_success (with_reducible show wpAny _ _ (pyIter (Value.ref _)) (fun it s₂ => LoopAtV _ _ _ _ _ _ _ _ _ it s₂) _ _)); (fail_if_success (with_reducible show TurnEnd _ _ _ _ _ _ _)); (fail_if_success (with_reducible show wpAny _ _ (PySem.call (Value.ref _) _ _) _ _ _)); first | walk1 | (dsimp only; walk1))))
    rename Fr _ _ _ _ => F5
    rename News _ _ _ _ => N5
    rename _[1]? = some _ => hv1
    rename _ = Data.fields _ => hv2
    rename _ ∧ _ => l1
    rename (_ : Nat) < _ => l2
    rename_i f' c' oc' vs' t' ct' h9 tk9
    refine cont _ f' c' oc' vs' _ ((c', oc') :: codes) t' ((mg (Str.ofString "__name__")).getD .none) ct' ⟨_, _, rfl⟩ F5 (tabOk_snoc (pos := ⟨198, 35, 198, 56⟩) tab hv2 hv1) (by refine offC_cons off ?_ ?_ ?_ <;> omega) (fun q hq => N5 q ?_) (by omega) (by omega) hv2 hv1 (List.forall_mem_cons.mpr ⟨by show @Ne Nat c' I; omega, hcI⟩)
    rcases List.mem_cons.mp hq with e | hq
    · rw [e]; exact .head _
    · refine .tail _ ?_
      have hq2 : q ∈ ([_, _, _, _, _, _, _, _, _] : List (Addr × Obj)) ++ ((c', oc') :: codes) := hq
      rcases List.mem_append.mp hq2 with h1 | h1
      · exact List.mem_append_left codes h1
      · rcases List.mem_cons.mp h1 with h1 | h1
        · rw [h1]; exact .head _
        · exact List.mem_append_right [_, _, _, _, _, _, _, _, _] h1
  | some v =>
    obtain ⟨c', oc, vs', t', rfl, hmem, hv2, hv1⟩ := tab.2 _ _ hca
    have ho := off _ hmem
    conv in (occs := *) told1 => all_goals whnf
    dsimp only [lawEnv, lawMap, lawLed] at F N ⊢
    conv in (occs := *) lawParts.2 => all_goals whnf
    (all_goals try k_fold)
    (repeat' (first | (k_unfold; (try dsimp only)) | ((fail_if_success (with_reducible show wpAny _ _ (PySem.exec (PySem.Stmt.While _ _ _ _) _) _ _ _)); (fail_if_success (with_reducible show KswEnd _ _ _ _ _ _ _ _ _ _ _ _)); (fail_if_success (with_reducible show wpAny _ _ (pyIter (Value.ref _)) (fun it s₂ => LoopAtV _ _ _ _ _ _ _ _ _ it s₂) _ _)); (fail_if_success (with_reducible show TurnEnd _ _ _ _ _ _ _)); (fail_if_success (with_reducible show wpAny _ _ (PySem.call (Value.ref _) _ _) _ _ _)); first | walk1 | (dsimp only; walk1))))
    rename Fr _ _ _ _ => F5
    rename News _ _ _ _ => N5
    rename _ ∧ _ => l1
    rename_i f' ct' h9 tk9
    refine cont _ f' c' oc vs' ps codes t' ((mg (Str.ofString "__name__")).getD .none) ct' ⟨_, _, rfl⟩ F5 tab off (fun q hq => N5 q ?_) (by omega) (by omega) hv2 hv1 hcI
    rcases List.mem_cons.mp hq with rfl | hq
    · exact .head _
    · rcases List.mem_cons.mp hq with rfl | hq
      · exact .tail _ (.tail _ (.tail _ (.tail _ (.tail _ (.tail _ (.tail _ (.tail _ (.tail _ hmem))))))))
      · exact .tail _ hq

theorem told2_eval {w : World} {s : Shared} {E : Value → Shared → Prop} {Q : Value → Shared → Prop} {mg mb : Str → Option Value} {p : Program} {loose : List Str} {mean : ExcName → Option Value} {h₀ : Heap} {L fa a r I D : Addr} {o od : Obj} {vs us : List Value} {hs rs : List Int} {n1 n2 : Nat} {ov oh orr : Obj} {ps : Array Value} {codes : List (Addr × Obj)} {m : Str → Option Value} {x : Int} {tx : Tok} 
    (X : (hd.heap_1 w.params).In h₀) (T : Top p loose mean mg mb h₀) (C : CodeHd h₀ 121 119)
    (LF : LawFacts L a r vs us hs rs ov oh orr ps codes) (hlen : hs.length < 2 ^ 19) (hov : ov.data = .cell (some (.int x tx)))
    (F : Fr h₀ L s.heap m) (N : News h₀ L s.heap ((D, od) :: (I, o) :: lawLed L a r vs us n1 n2 ov oh orr ps codes))
    (hIo : ∀ p ∈ lawLed L a r vs us n1 n2 ov oh orr ps codes, p.1 ≠ I)  (hDo : ∀ p ∈ lawLed L a r vs us n1 n2 ov oh orr ps codes, p.1 ≠ D)
    (h : ∀ h' tk n1' ws gs ps' codes' v, Fr h₀ L h' m → News h₀ L h' ((D, od) :: (I, o) :: lawLed L a r ws us n1' n2 ov oh orr ps' codes') → LawFacts L a r ws us gs rs ov oh orr ps' codes' → (∀ p ∈ codes', @Ne Nat p.1 I) → ((hs = [] ∧ gs = [] ∧ ∃ t, v = .str (Str.ofString "bare") t) ∨ (0 < hs.length ∧ ∃ k t, v = .int k t ∧ (k :: gs).Perm (x :: hs) ∧ k ∈ hs ∧ ∀ y ∈ hs, k ≤ y)) → Q v { s with heap := h', toks := tk }) :
    wpAny (model PG w) (callerA.deeper (lawEnv L fa)) (eval told2 (lawEnv L fa)) Q E s := by
  have n2_ : @Ne Nat a I := hIo _ (.tail _ (.head _))
  have n6_ : @Ne Nat 119 I := hIo _ (.tail _ (.tail _ (.tail _ (.tail _ (.tail _ (.head _))))))
  have m1_ : @Ne Nat r D := hDo _ (.head _)
  have m2_ : @Ne Nat a D := hDo _ (.tail _ (.head _))
  have m6_ : @Ne Nat 119 D := hDo _ (.tail _ (.tail _ (.tail _ (.tail _ (.tail _ (.head _))))))
  obtain ⟨oh_, or_, ov_, hi_, ri_, ok, la, lr, ne, l0, tab, off⟩ := LF
  have la1 : @Ne Nat a (L + 1 + 1 + 1) := la.1
  have la2 : @Ne Nat a (L + 1 + 1) := la.2.1
  have la3 : @Ne Nat a (L + 1) := la.2.2.1
  have la4 : @Ne Nat a 119 := la.2.2.2
  have hcI : ∀ p ∈ codes, @Ne Nat p.1 I := fun p hp => hIo p (.tail _ (.tail _ (.tail _ (.tail _ (.tail _ (.tail _ hp))))))
  have tr := tab.1
  have T5 := topRead_of T
  have cont : ∀ (s' : Shared) (f c' : Addr) (oc : Obj) (vs' ps' : Array Value) (codes' : List (Addr × Obj)) (t' : Tok) (pm ctv : Value), (∃ hx tx, s' = { s with heap := hx, toks := tx }) → Fr h₀ L s'.heap m → TabOk ps' codes' → OffC L a r codes' →
      News h₀ L s'.heap ((f, kla_obj (Str.ofString "<lambda>") lamQual lam2.1 lam2.2.1 lam2.2.2 [(Str.ofString "value", L + 1 + 1 + 1), (Str.ofString "heap", L + 1 + 1)] pm c' ctv) :: (c', oc) :: (D, od) :: (I, o) :: lawLed L a r vs us n1 n2 ov oh orr ps' codes') →
      @Ne Nat c' a → @Ne Nat f a → oc.data = .fields vs' → vs'[1]? = some (.str lamQual t') → (∀ p ∈ codes', @Ne Nat p.1 I) →
      wpAny (model PG w) (callerA.deeper (lawEnv L fa)) (call (.ref 110) [.ref f]) Q E s' := by
    rintro _ f c' oc vs' ps' codes' t' pm ctv ⟨hx, tx, rfl⟩ F5 tab' off' N5 hca hfa hv2 hv1 hnI
    refine told_core2 X T5 C ⟨oh_, or_, ov_, hi_, ri_, ok, la, lr, ne, l0, tab', off'⟩ hlen hov F5 N5 n2_ m2_ hca hfa hv2 hv1 ?_
    intro h' tk n1' ws gs v F6 N6 hi6 ok6 P
    exact h h' tk n1' ws gs ps' codes' v F6 N6 ⟨oh_, or_, ov_, hi6, ri_, ok6, la, lr, ne, l0, tab', off'⟩ hnI P
  cases hca : codeAmong ⟨203, 35, 203, 67⟩ ps.toList with
  | none =>
    conv in (occs := *) told2 => all_goals whnf
    dsimp only [lawEnv, lawMap, lawLed] at F N ⊢
    conv in (occs := *) lawParts.2 => all_goals whnf
    (all_goals try k_fold)
    (repeat' (first | (k_unfold; (try dsimp only)) | ((fail_if_success (with_reducible show wpAny _ _ (PySem.exec (PySem.Stmt.While _ _ _ _) _) _ _ _)); (fail_if_success (with_reducible show KswEnd _ _ _ _ _ _ _ _ _ _ _ _)); (fail_if_success (with_reducible show wpAny _ _ (pyIter (Value.ref _)) (fun it s₂ => LoopAtV _ _ _ _ _ _ _ _ _ it s₂) _ _)); (fail_if_success (with_reducible show TurnEnd _ _ _ _ _ _ _)); (fail_if_success (with_reducible show wpAny _ _ (PySem.call (Value.ref _) _ _) _ _ _)); first | walk1 | (dsimp only; walk1))))
    rename Fr _ _ _ _ => F5
    rename News _ _ _ _ => N5
    rename _[1]? = some _ => hv1
    rename _ = Data.fields _ => hv2
    rename _ ∧ _ => l1
    rename (_ : Nat) < _ => l2
    rename_i f' c' oc' vs' t' ct' h9 tk9
    refine cont _ f' c' oc' vs' _ ((c', oc') :: codes) t' ((mg (Str.ofString "__name__")).getD .none) ct' ⟨_, _, rfl⟩ F5 (tabOk_snoc (pos := ⟨203, 35, 203, 67⟩) tab hv2 hv1) (by refine offC_cons off ?_ ?_ ?_ <;> omega) (fun q hq => N5 q ?_) (by omega) (by omega) hv2 hv1 (List.forall_mem_cons.mpr ⟨by show @Ne Nat c' I; omega, hcI⟩)
    rcases List.mem_cons.mp hq with e | hq
    · rw [e]; exact .head _
    · refine .tail _ ?_
      have hq2 : q ∈ ([_, _, _, _, _, _, _, _, _] : List (Addr × Obj)) ++ ((c', oc') :: codes) := hq
      rcases List.mem_append.mp hq2 with h1 | h1
      · exact List.mem_append_left codes h1
      · rcases List.mem_cons.mp h1 with h1 | h1
        · rw [h1]; exact .head _
        · exact List.mem_append_right [_, _, _, _, _, _, _, _, _] h1
  | some v =>
    obtain ⟨c', oc, vs', t', rfl, hmem, hv2, hv1⟩ := tab.2 _ _ hca
    have ho := off _ hmem
    conv in (occs := *) told2 => all_goals whnf
    dsimp only [lawEnv, lawMap, lawLed] at F N ⊢
    conv in (occs := *) lawParts.2 => all_goals whnf
    (all_goals try k_fold)
    (repeat' (first | (k_unfold; (try dsimp only)) | ((fail_if_success (with_reducible show wpAny _ _ (PySem.exec (PySem.Stmt.While _ _ _ _) _) _ _ _)); (fail_if_success (with_reducible show KswEnd _ _ _ _ _ _ _ _ _ _ _ _)); (fail_if_success (with_reducible show wpAny _ _ (pyIter (Value.ref _)) (fun it s₂ => LoopAtV _ _ _ _ _ _ _ _ _ it s₂) _ _)); (fail_if_success (with_reducible show TurnEnd _ _ _ _ _ _ _)); (fail_if_success (with_reducible show wpAny _ _ (PySem.call (Value.ref _) _ _) _ _ _)); first | walk1 | (dsimp only; walk1))))
    rename Fr _ _ _ _ => F5
    rename News _ _ _ _ => N5
    rename _ ∧ _ => l1
    rename_i f' ct' h9 tk9
    refine cont _ f' c' oc vs' ps codes t' ((mg (Str.ofString "__name__")).getD .none) ct' ⟨_, _, rfl⟩ F5 tab off (fun q hq => N5 q ?_) (by omega) (by omega) hv2 hv1 hcI
    rcases List.mem_cons.mp hq with rfl | hq
    · exact .head _
    · rcases List.mem_cons.mp hq with rfl | hq
      · exact .tail _ (.tail _ (.tail _ (.tail _ (.tail _ (.tail _ (.tail _ (.tail _ (.tail _ hmem))))))))
      · exact .tail _ hq
end
end Mine

-- B12
namespace Mine


noncomputable def Same (tv dv : Value) : Prop := (∃ k t u, tv = .int k t ∧ dv = .int k u) ∨ (tv = .none ∧ dv = .none) ∨ (∃ t u, tv = .str (Str.ofString "bare") t ∧ dv = .str (Str.ofString "bare") u)
noncomputable def midStmt : Stmt := turnStmts.getD 2 nopS
noncomputable def chkStmt : Stmt := turnStmts.getD 3 nopS
/-- behind the big if -/
noncomputable def Mid (h₀ : Heap) (L sl I : Addr) (o : Obj) (i : Nat) (s s' : Shared) : Prop := ∃ (h' : Heap) (tk : Nat) (a r : Addr) (vs us : List Value) (hs rs : List Int) (n1 n2 : Nat) (ov oh orr : Obj) (ps : Array Value) (codes : List (Addr × Obj)) (u : Str → Option Value) (tv dv : Value),
  s' = { s with heap := h', toks := tk } ∧ Fr h₀ L h' (fun y => if y = Str.ofString "told" then some tv else if y = Str.ofString "due" then some dv else if y = Str.ofString "script" then some (.ref sl) else u y) ∧
  News h₀ L h' ((I, o) :: lawLed L a r vs us n1 n2 ov oh orr ps codes) ∧ LawFacts L a r vs us hs rs ov oh orr ps codes ∧ hs.Perm rs ∧ rs.length ≤ i + 1 ∧ Same tv dv ∧ (∀ p ∈ lawLed L a r vs us n1 n2 ov oh orr ps codes, p.1 ≠ I)
theorem fr_pick {m : Str → Option Value} {x : Str} {v : Value} (h : m x = some v) : m = fun y => if y = x then some v else m y := by
  funext y
  by_cases e : y = x
  · rw [if_pos e, e, h]
  · rw [if_neg e]
local macro_rules | `(tactic| walk_at "TurnPost") => `(tactic| dsimp only [TurnPost])

theorem item_gi {prog : Program} {w : World} {A : Around} {E : Value → Shared → Prop} {s : Shared} {h₀ : Heap} {L D : Addr} {news : List (Addr × Obj)} {vs : List Value} {ns : List Int} {n : Nat} {k : Int} {t : Tok} {value slice : PySem.Expr} {Q : Value → Shared → Prop}
    (N : News h₀ L s.heap news) (hm : (D, W.listOf vs.toArray n) ∈ news) (hi : IntsAre vs ns) (h0 : 0 ≤ k) (h1 : k < ns.length) (hfit : k < 2 ^ 63) (h : ∀ u, Q (.int (ns.getD k.toNat 0) u) s)
    (hs : subscripted slice false (.ref D) (.int k t) = operate [.ref D, .int k t] (getItem (.ref D) (.int k t)) := by with_unfolding_all rfl) :
    wpAny (model prog w) A (subscriptTail value slice (.ref D) (.int k t)) Q E s := by
  have hl := hi.length
  have hk : k.toNat < vs.length := by omega
  refine item_g N hm h0 (by omega) hfit ?_ hs
  have e := ints_key hi
  obtain ⟨u, eu⟩ := isI_at (ints_isI hi) hk
  rw [← e] at eu
  have eu' : vs.getD k.toNat .none = .int (ns.getD k.toNat 0) u := eu
  rw [eu']; exact h u
noncomputable def revExpr : PySem.Expr := assignRhs ((stmtsElse elif2).getD 1 nopS)
theorem rev_map (rs : List Int) : (rangeKs 0 rs.length).map (fun k => rs.getD ((rs.length : Int) - 1 - k).toNat 0) = rs.reverse := by
  apply List.ext_getElem
  · simp [rangeKs_length]
  · intro i h1 h2
    simp only [List.length_map, rangeKs_length, List.length_reverse] at h1 h2
    simp only [rangeKs, List.getElem_map, List.getElem_range, List.getElem_reverse]
    have e : ((rs.length : Int) - 1 - (0 + (i : Int))).toNat = rs.length - 1 - i := by omega
    rw [e]
    have : rs.length - 1 - i < rs.length := by omega
    simp [List.getD_eq_getElem?_getD, this]
local macro_rules | `(tactic| walk_at "subscriptTail") => `(tactic| (k_here; (with_reducible show wpAny _ _ (subscriptTail _ _ (Value.ref _) (Value.int _ _)) _ _ _); k_dflt (refine' item_gi ?k1 ?km ?ki ?k2 ?k3 ?k4 ?_ ?k6; (case k1 => k_asm); (case km => k_mem); (case ki => with_reducible assumption); (case k2 => omega); (case k3 => omega); (case k4 => omega); (case k6 => with_unfolding_all rfl); k_whole); intro _))
local macro_rules | `(tactic| walk_at "call builtin:len") => `(tactic| (k_here; (with_reducible show wpAny _ _ (call (Value.builtin "len") [Value.ref _]) _ _ _); k_dflt (refine' len_g ?k1 ?km ?k2 ?_; (case k1 => k_asm); (case km => k_mem); (case k2 => omega); k_whole); (try rw [hlr])))
theorem off1_mem {D : Addr} : ∀ {l : List (Addr × Obj)}, LCg.Off1 D l → ∀ q ∈ l, q.1 ≠ D
  | [], _, _, h => nomatch h
  | _ :: _, x, p, h => by
    rcases List.mem_cons.mp h with rfl | h
    · exact x.1
    · exact off1_mem x.2 p h
theorem rangeSize_up (n : Nat) : Builtin.Range.rangeSize 0 (n : Int) 1 = ((n : Nat) : Int) := by
  unfold Builtin.Range.rangeSize
  simp only [gt_iff_lt, Int.zero_lt_one, if_true]
  split <;> omega
theorem rev_eval {w : World} {s : Shared} {E : Value → Shared → Prop} {Q : Value → Shared → Prop} {mg mb : Str → Option Value} {p : Program} {loose : List Str} {mean : ExcName → Option Value} {h₀ : Heap} {L fa r : Addr} {us : List Value} {rs : List Int} {n2 : Nat} {orr : Obj} {rest : List (Addr × Obj)} {m : Str → Option Value}
    (X : (hd.heap_1 w.params).In h₀) (T : Top p loose mean mg mb h₀) (or_ : orr.data = .cell (some (.ref r))) (ri_ : IntsAre us rs) (hlen : rs.length < 1000)
    (F : Fr h₀ L s.heap m) (N : News h₀ L s.heap ((r, W.listOf us.toArray n2) :: (L + 1, orr) :: rest))
    (h : ∀ D ys h' tk, Fr h₀ L h' m → News h₀ L h' ((D, W.listOf ys.toArray ys.length) :: (r, W.listOf us.toArray n2) :: (L + 1, orr) :: rest) → (∀ q ∈ (r, W.listOf us.toArray n2) :: (L + 1, orr) :: rest, q.1 ≠ D) → IntsAre ys rs.reverse → Q (.ref D) { s with heap := h', toks := tk }) :
    wpAny (model PG w) (callerA.deeper (lawEnv L fa)) (eval revExpr (lawEnv L fa)) Q E s := by
  have hlr := ri_.length
  conv in (occs := *) revExpr => all_goals whnf
  dsimp only [lawEnv] at F N ⊢
  conv in (occs := *) lawParts.2 => all_goals whnf
  refine LCg.ListComp_U (F₀ := F) (by with_unfolding_all rfl) (by decide) (by rfl) (by decide) (by rfl) ?_
  (all_goals try k_fold)
  (repeat' (first | (k_unfold; (try dsimp only)) | ((fail_if_success (with_reducible show wpAny _ _ (PySem.exec (PySem.Stmt.While _ _ _ _) _) _ _ _)); (fail_if_success (with_reducible show KswEnd _ _ _ _ _ _ _ _ _ _ _ _)); (fail_if_success (with_reducible show wpAny _ _ (pyIter (Value.ref _)) (fun it s₂ => LoopAtV _ _ _ _ _ _ _ _ _ it s₂) _ _)); (fail_if_success (with_reducible show TurnEnd _ _ _ _ _ _ _)); (fail_if_success (with_reducible show wpAny _ _ (PySem.exec (PySem.Stmt.Assign _ (PySem.Expr.ListComp _ _ _ _) _) _) _ _ _)); (fail_if_success (with_reducible show wpAny _ _ (PySem.eval (PySem.Expr.ListComp _ _ _ _) _) _ _ _)); (fail_if_success (with_reducible show LCg.CompSrc _ _ _ _ _ _ _ _ _ _ _ _ _ _)); (fail_if_success (with_reducible show LCg.CompEnd _ _ _ _ _ _ _ _ _ _ _ _ _ _)); (fail_if_success (with_reducible show wpAny _ _ (PySem.eval (PySem.Expr.Call (PySem.Expr.Name (PySem.Str.ofString "_law_told") _) _ _ _) _) _ _ _)); (fail_if_success (with_reducible show wpAny _ _ (PySem.call (Value.ref _) _ _) _ _ _)); first | walk1 | (dsimp only; walk1))))
  rename IsRange _ _ _ _ _ _ _ _ => hr
  rename Fr _ _ _ _ => F8
  rename News _ _ _ _ => N8
  try rw [hlr] at hr
  refine LCg.CompSrc.range (n := rs.length) rfl F8 N8 hr (small_one (by omega) (by omega) (by omega) (by omega)) (rangeSize_up _) (by rw [PySem.sizeLine_eq]; omega) ?_
  intro g
  refine kcf_range (fun k => rs.getD ((rs.length : Int) - 1 - k).toNat 0) (fun k t I oI C oC D m₂ ys h2 tk2 E' hlo hhi hC hx F2 N2 off ne mk => ?_) ?_
  · clear F8 N8
    (all_goals try k_fold)
    (repeat' (first | (k_unfold; (try dsimp only)) | ((fail_if_success (with_reducible show wpAny _ _ (PySem.exec (PySem.Stmt.While _ _ _ _) _) _ _ _)); (fail_if_success (with_reducible show KswEnd _ _ _ _ _ _ _ _ _ _ _ _)); (fail_if_success (with_reducible show wpAny _ _ (pyIter (Value.ref _)) (fun it s₂ => LoopAtV _ _ _ _ _ _ _ _ _ it s₂) _ _)); (fail_if_success (with_reducible show TurnEnd _ _ _ _ _ _ _)); (fail_if_success (with_reducible show wpAny _ _ (PySem.exec (PySem.Stmt.Assign _ (PySem.Expr.ListComp _ _ _ _) _) _) _ _ _)); (fail_if_success (with_reducible show wpAny _ _ (PySem.eval (PySem.Expr.ListComp _ _ _ _) _) _ _ _)); (fail_if_success (with_reducible show LCg.CompSrc _ _ _ _ _ _ _ _ _ _ _ _ _ _)); (fail_if_success (with_reducible show LCg.CompEnd _ _ _ _ _ _ _ _ _ _ _ _ _ _)); (fail_if_success (with_reducible show wpAny _ _ (PySem.eval (PySem.Expr.Call (PySem.Expr.Name (PySem.Str.ofString "_law_told") _) _ _ _) _) _ _ _)); (fail_if_success (with_reducible show wpAny _ _ (PySem.call (Value.ref _) _ _) _ _ _)); first | walk1 | (dsimp only; walk1))))
    rename News _ _ _ _ => N9
    rename Fr _ _ _ _ => F9
    exact LCg.CompEnd.intro F9 N9 _ (fun p hp => hp) off trivial ⟨rfl, _, congrArg (fun z : Int => Value.int (rs.getD z.toNat 0) _) (by omega)⟩
  · intro ys hI D h2 tk2 F2 N2 off
    rw [rev_map] at hI
    refine h D ys h2 tk2 F2 N2 (fun q hq => ?_) hI
    exact off1_mem off q hq
end Mine

-- B13
namespace Mine

local macro_rules | `(tactic| walk_at "TurnPost") => `(tactic| dsimp only [TurnPost])

theorem index_g {prog : Program} {w : World} {A : Around} {E : Value → Shared → Prop} {s : Shared} {h₀ : Heap} {L D : Addr} {news : List (Addr × Obj)} {vs : List Value} {ns : List Int} {n : Nat} {k : Int} {t : Tok} {Q : Value → Shared → Prop}
    (N : News h₀ L s.heap news) (hm : (D, W.listOf vs.toArray n) ∈ news) (hi : IntsAre vs ns) (hk : k ∈ ns) (hlen : ns.length < 64)
    (h : ∀ u tk, Q (.int ((ns.idxOf k : Nat) : Int) u) { s with toks := tk }) : wpAny (model prog w) A (call (.builtin "list.index") [.ref D, .int k t]) Q E s := by
  have hl : s.heap.IsList D vs.toArray := PySem.IsL.isList (n := n) (N _ hm).1
  have hlen' := hi.length
  have hj : ns.idxOf k < ns.length := List.idxOf_lt_length_iff.mpr hk
  have ho := (N _ hm).1
  refine call_meets PySem.F.slot_list_index ⟨_, ho, rfl⟩ PySem.F.entry_list_index (PySem.F.args_list_index_2 _ _)
    (SeqAt.list_indexAt D vs.toArray n _ _ (.int k t) (isInt k) (ns.idxOf k) (by simpa [hlen'] using hj) (by omega) ?_ ?_) ⟨ho, fun y hy => (eq_isInt k t hi y (by simpa using hy)).at _ _, h _ _⟩
  · show isInt k vs[ns.idxOf k] = true
    rw [isInt_at k hi _ (by omega) hj]
    simpa using List.getElem_idxOf hj
  · intro j hjs hlt
    show isInt k vs[j] = false
    rw [isInt_at k hi j (by simpa using hjs) (by omega)]
    exact ne_of_lt_idxOf hlt _
theorem erase_take {k : Int} : ∀ {rs : List Int}, k ∈ rs → rs.take (((rs.idxOf k : Nat) : Int)).toNat ++ rs.drop (((rs.idxOf k : Nat) : Int) + 1).toNat = rs.erase k := by
  intro rs h
  rw [show (((rs.idxOf k : Nat) : Int)).toNat = rs.idxOf k from by omega, show (((rs.idxOf k : Nat) : Int) + 1).toNat = rs.idxOf k + 1 from by omega, ← List.eraseIdx_eq_take_drop_succ]
  exact (List.erase_eq_eraseIdx_of_idxOf rfl).symm
theorem allLt_mem {d : Nat} : ∀ {l : List (Addr × Obj)}, AllLt d l → ∀ q ∈ l, @LT.lt Nat _ q.1 d
  | [], _, _, h => nomatch h
  | _ :: _, x, p, h => by
    rcases List.mem_cons.mp h with rfl | h
    · exact x.1
    · exact allLt_mem x.2 p h
theorem newsPick {h₀ h : Heap} {L : Addr} {a b c d : Addr × Obj} {rest : List (Addr × Obj)} (N : News h₀ L h (a :: b :: c :: d :: rest)) : News h₀ L h (d :: a :: rest) := by
  intro q hq
  rcases List.mem_cons.mp hq with rfl | hq
  · exact N _ (.tail _ (.tail _ (.tail _ (.head _))))
  · rcases List.mem_cons.mp hq with rfl | hq
    · exact N _ (.head _)
    · exact N _ (.tail _ (.tail _ (.tail _ (.tail _ hq))))
local macro_rules | `(tactic| walk_at "call builtin:list.index") => `(tactic| (k_here; k_dflt (refine' index_g ?k1 ?km ?ki ?kk ?kl ?_; (case k1 => k_asm); (case km => k_mem); (case ki => with_reducible assumption); (case kk => assumption); (case kl => omega); k_whole); intro _ _))
theorem cut_g {prog : Program} {w : World} {A : Around} {E : Value → Shared → Prop} {s : Shared} {h₀ : Heap} {L D : Addr} {m : Str → Option Value} {news : List (Addr × Obj)} {ws : List Value} {ms ks : List Int} {c : Nat} {x y : Value} {lo hi : Option Int} {value slice : PySem.Expr} {Q : Value → Shared → Prop}
    (F : Fr h₀ L s.heap m) (N : News h₀ L s.heap news) (hm : (D, W.listOf ws.toArray c) ∈ news) (pl : IsPart x lo) (pu : IsPart y hi) (hi' : IntsAre ws ms) (hp : IntsAre (slicePick ws.toArray lo hi none).toList ks) (hlen : ms.length < 64)
    (h : ∀ D' ws' h', Fr h₀ L h' m → News h₀ L h' ((D', listOf (List.toArray ws') 0) :: news) → (∀ p ∈ news, @LT.lt Nat _ p.1 D') → IntsAre ws' ks → Q (.ref D') { s with heap := h' })
    (hs : subscripted slice false (.ref D) (.ref s.heap.objs.size) = operate [.ref s.heap.objs.size, .ref D] (getItem (.ref D) (.ref s.heap.objs.size))) (ht : ∀ r, letTemporaryGo value (.ref D) r = pure ()) :
    wpAny (model prog w) A (subscriptTail value slice (.ref D) (.ref s.heap.objs.size)) Q E { s with heap := s.heap.push { cls := .type "slice", data := .fields #[x, y, .none] } } :=
  kmk_slice_ints (c := _) F N (PySem.IsL.isList (n := c) (N _ hm).1) pl pu hi' hp rfl (fun D' ws' h' F' N' l1 hI _ _ => h D' ws' h' F' N' l1 hI) hs ht (by rw [List.size_toArray, hi'.length, PySem.sizeLine_eq]; omega)
theorem without_g {w : World} {A : Around} {s : Shared} {E : Value → Shared → Prop} {Q : Value → Shared → Prop} {mg mb : Str → Option Value} {p : Program} {loose : List Str} {h₀ : Heap} {L r : Addr} {us : List Value} {rs : List Int} {n2 : Nat} {rest : List (Addr × Obj)} {m : Str → Option Value} {k : Int} {t : Tok}
    (X : (hd.heap_1 w.params).In h₀) (T5 : TopRead p loose mg mb h₀)  (ri_ : IntsAre us rs) (hlen : rs.length < 64) (hk : k ∈ rs) (hd : A.depth < 800) (hu : A.units < 8000) (hh : A.handled = none)
    (F : Fr h₀ L s.heap m) (N : News h₀ L s.heap ((r, W.listOf us.toArray n2) :: rest))
    (h : ∀ D ws n h' tk, Fr h₀ L h' m → News h₀ L h' ((D, W.listOf ws.toArray n) :: (r, W.listOf us.toArray n2) :: rest) → (∀ q ∈ (r, W.listOf us.toArray n2) :: rest, @LT.lt Nat _ q.1 D) → IntsAre ws (rs.erase k) → Q (.ref D) { s with heap := h', toks := tk }) :
    wpAny (model PG w) A (call (.ref 117) [.ref r, .int k t]) Q E s := by
  refine wpAny_call (enter_def F N X T5 (by k_is) (by k_is) (by rw [show recursionLimit = 1000 from rfl]; omega) (BindsTo.of_eq rfl) (locs rfl) ?_)
  intro h₁ L1 oL es ep hoL hdL hk1 hlt1 hb1 F1 N1
  have hpl := List.idxOf_lt_length_of_mem hk
  (all_goals try k_fold)
  (repeat' (first | (k_unfold; (try dsimp only)) | ((fail_if_success (with_reducible show wpAny _ _ (PySem.exec (PySem.Stmt.While _ _ _ _) _) _ _ _)); (fail_if_success (with_reducible show KswEnd _ _ _ _ _ _ _ _ _ _ _ _)); (fail_if_success (with_reducible show wpAny _ _ (pyIter (Value.ref _)) (fun it s₂ => LoopAtV _ _ _ _ _ _ _ _ _ it s₂) _ _)); (fail_if_success (with_reducible show TurnEnd _ _ _ _ _ _ _)); (fail_if_success (with_reducible show wpAny _ _ (PySem.exec (PySem.Stmt.Assign _ (PySem.Expr.ListComp _ _ _ _) _) _) _ _ _)); (fail_if_success (with_reducible show wpAny _ _ (PySem.eval (PySem.Expr.ListComp _ _ _ _) _) _ _ _)); (fail_if_success (with_reducible show LCg.CompSrc _ _ _ _ _ _ _ _ _ _ _ _ _ _)); (fail_if_success (with_reducible show LCg.CompEnd _ _ _ _ _ _ _ _ _ _ _ _ _ _)); (fail_if_success (with_reducible show wpAny _ _ (PySem.eval (PySem.Expr.Call (PySem.Expr.Name (PySem.Str.ofString "_law_told") _) _ _ _) _) _ _ _)); (fail_if_success (with_reducible show wpAny _ _ (subscriptTail _ _ (Value.ref _) (Value.ref _)) _ _ _)); (fail_if_success (with_reducible show wpAny _ _ (PySem.binaryOp Operator.Add (Value.ref _) (Value.ref _)) _ _ _)); (fail_if_success (with_reducible show wpAny _ _ (PySem.call (Value.ref _) _ _) _ _ _)); first | walk1 | (dsimp only; walk1))))
  rename Fr _ _ _ _ => F2
  rename News _ _ _ _ => N2
  refine cut_g F2 N2 (.tail _ (.head _)) IsPart.none (IsPart.int _ _) ri_ (kmk_upto ri_ (Int.natCast_nonneg _)) hlen ?_ (by with_unfolding_all rfl) (by intro _; rfl)
  intro D7 ws7 h7 F3 N3 l3 hI3
  clear F2 N2
  (repeat' (first | (k_unfold; (try dsimp only)) | ((fail_if_success (with_reducible show wpAny _ _ (PySem.exec (PySem.Stmt.While _ _ _ _) _) _ _ _)); (fail_if_success (with_reducible show KswEnd _ _ _ _ _ _ _ _ _ _ _ _)); (fail_if_success (with_reducible show wpAny _ _ (pyIter (Value.ref _)) (fun it s₂ => LoopAtV _ _ _ _ _ _ _ _ _ it s₂) _ _)); (fail_if_success (with_reducible show TurnEnd _ _ _ _ _ _ _)); (fail_if_success (with_reducible show wpAny _ _ (PySem.exec (PySem.Stmt.Assign _ (PySem.Expr.ListComp _ _ _ _) _) _) _ _ _)); (fail_if_success (with_reducible show wpAny _ _ (PySem.eval (PySem.Expr.ListComp _ _ _ _) _) _ _ _)); (fail_if_success (with_reducible show LCg.CompSrc _ _ _ _ _ _ _ _ _ _ _ _ _ _)); (fail_if_success (with_reducible show LCg.CompEnd _ _ _ _ _ _ _ _ _ _ _ _ _ _)); (fail_if_success (with_reducible show wpAny _ _ (PySem.eval (PySem.Expr.Call (PySem.Expr.Name (PySem.Str.ofString "_law_told") _) _ _ _) _) _ _ _)); (fail_if_success (with_reducible show wpAny _ _ (subscriptTail _ _ (Value.ref _) (Value.ref _)) _ _ _)); (fail_if_success (with_reducible show wpAny _ _ (PySem.binaryOp Operator.Add (Value.ref _) (Value.ref _)) _ _ _)); (fail_if_success (with_reducible show wpAny _ _ (PySem.call (Value.ref _) _ _) _ _ _)); first | walk1 | (dsimp only; walk1))))
  refine cut_g F3 N3 (.tail _ (.tail _ (.head _))) (IsPart.int _ _) IsPart.none ri_ (kmk_from ri_ (by omega)) hlen ?_ (by with_unfolding_all rfl) (by intro _; rfl)
  intro D8 ws8 h8 F4 N4 l4 hI4
  clear F3 N3
  (repeat' (first | (k_unfold; (try dsimp only)) | ((fail_if_success (with_reducible show wpAny _ _ (PySem.exec (PySem.Stmt.While _ _ _ _) _) _ _ _)); (fail_if_success (with_reducible show KswEnd _ _ _ _ _ _ _ _ _ _ _ _)); (fail_if_success (with_reducible show wpAny _ _ (pyIter (Value.ref _)) (fun it s₂ => LoopAtV _ _ _ _ _ _ _ _ _ it s₂) _ _)); (fail_if_success (with_reducible show TurnEnd _ _ _ _ _ _ _)); (fail_if_success (with_reducible show wpAny _ _ (PySem.exec (PySem.Stmt.Assign _ (PySem.Expr.ListComp _ _ _ _) _) _) _ _ _)); (fail_if_success (with_reducible show wpAny _ _ (PySem.eval (PySem.Expr.ListComp _ _ _ _) _) _ _ _)); (fail_if_success (with_reducible show LCg.CompSrc _ _ _ _ _ _ _ _ _ _ _ _ _ _)); (fail_if_success (with_reducible show LCg.CompEnd _ _ _ _ _ _ _ _ _ _ _ _ _ _)); (fail_if_success (with_reducible show wpAny _ _ (PySem.eval (PySem.Expr.Call (PySem.Expr.Name (PySem.Str.ofString "_law_told") _) _ _ _) _) _ _ _)); (fail_if_success (with_reducible show wpAny _ _ (subscriptTail _ _ (Value.ref _) (Value.ref _)) _ _ _)); (fail_if_success (with_reducible show wpAny _ _ (PySem.binaryOp Operator.Add (Value.ref _) (Value.ref _)) _ _ _)); (fail_if_success (with_reducible show wpAny _ _ (PySem.call (Value.ref _) _ _) _ _ _)); first | walk1 | (dsimp only; walk1))))
  refine kmk_add_ints F4 N4 (PySem.IsL.isList (n := 0) (N4 _ (.tail _ (.head _))).1) (PySem.IsL.isList (n := 0) (N4 _ (.head _)).1) hI3 hI4 ?_ (by rw [List.length_take, List.length_drop, PySem.sizeLine_eq]; omega)
  intro D9 us9 h9 F9 N9 l9 hI9
  (repeat' (first | (k_unfold; (try dsimp only)) | ((fail_if_success (with_reducible show wpAny _ _ (PySem.exec (PySem.Stmt.While _ _ _ _) _) _ _ _)); (fail_if_success (with_reducible show KswEnd _ _ _ _ _ _ _ _ _ _ _ _)); (fail_if_success (with_reducible show wpAny _ _ (pyIter (Value.ref _)) (fun it s₂ => LoopAtV _ _ _ _ _ _ _ _ _ it s₂) _ _)); (fail_if_success (with_reducible show TurnEnd _ _ _ _ _ _ _)); (fail_if_success (with_reducible show wpAny _ _ (PySem.exec (PySem.Stmt.Assign _ (PySem.Expr.ListComp _ _ _ _) _) _) _ _ _)); (fail_if_success (with_reducible show wpAny _ _ (PySem.eval (PySem.Expr.ListComp _ _ _ _) _) _ _ _)); (fail_if_success (with_reducible show LCg.CompSrc _ _ _ _ _ _ _ _ _ _ _ _ _ _)); (fail_if_success (with_reducible show LCg.CompEnd _ _ _ _ _ _ _ _ _ _ _ _ _ _)); (fail_if_success (with_reducible show wpAny _ _ (PySem.eval (PySem.Expr.Call (PySem.Expr.Name (PySem.Str.ofString "_law_told") _) _ _ _) _) _ _ _)); (fail_if_success (with_reducible show wpAny _ _ (subscriptTail _ _ (Value.ref _) (Value.ref _)) _ _ _)); (fail_if_success (with_reducible show wpAny _ _ (PySem.binaryOp Operator.Add (Value.ref _) (Value.ref _)) _ _ _)); (fail_if_success (with_reducible show wpAny _ _ (PySem.call (Value.ref _) _ _) _ _ _)); first | walk1 | (dsimp only; walk1))))
  rw [erase_take hk] at hI9
  have Nz : News h₀ L1 h9 ((L, oL) :: (D9, W.listOf us9.toArray 0) :: (r, W.listOf us.toArray n2) :: rest) := fun q hq => N9 q (by
    rcases List.mem_cons.mp hq with rfl | hq
    · exact .tail _ (.tail _ (.tail _ (.head _)))
    · rcases List.mem_cons.mp hq with rfl | hq
      · exact .head _
      · exact .tail _ (.tail _ (.tail _ (.tail _ hq))))
  obtain ⟨Fz, Nz⟩ := leave_fr F hoL F9 Nz (by
    intro q hq
    rcases List.mem_cons.mp hq with rfl | hq
    · exact Nat.ne_of_gt (l9 (L, oL) (.tail _ (.tail _ (.head _))))
    · exact (N _ hq).2.1)
  exact h _ _ _ _ _ Fz Nz (fun q hq => l9 q (.tail _ (.tail _ (.tail _ hq)))) hI9
end Mine

-- B14
namespace Mine
local macro_rules | `(tactic| k_ne) => `(tactic| first | assumption | (refine Ne.symm ?_; assumption))
local macro_rules | `(tactic| walk_at "callWith ref") => `(tactic| (k_here; k_dflt (refine' callWith_K ?k1 ?k2 ?_; (case k1 => k_asm); (case k2 => k_is); k_whole)))

local macro_rules | `(tactic| walk_at "TurnPost") => `(tactic| dsimp only [TurnPost])
local macro_rules | `(tactic| k_all) => `(tactic| first | exact List.forall_mem_nil _ | (refine' List.forall_mem_cons.mpr ⟨?a, ?b⟩; (case a => k_ne); (case b => k_all)) | assumption | ((with_reducible rename OffC _ _ _ _ => hofc); intro p9 hp9; have hq9 := hofc p9 hp9; refine neN ?_; omega))


theorem add_g {prog : Program} {w : World} {A : Around} {E : Value → Shared → Prop} {s : Shared} {h₀ : Heap} {L D1 D2 : Addr} {m : Str → Option Value} {news : List (Addr × Obj)} {vs us : List Value} {ns ms : List Int} {c1 c2 : Nat} {Q : Value → Shared → Prop}
    (F : Fr h₀ L s.heap m) (N : News h₀ L s.heap news) (hm : (D1, W.listOf vs.toArray c1) ∈ news) (hi : IntsAre vs ns) (hm2 : (D2, W.listOf us.toArray c2) ∈ news) (hj : IntsAre us ms) (hz : ns.length + ms.length ≤ 1000)
    (h : ∀ D ws h', Fr h₀ L h' m → News h₀ L h' ((D, listOf (List.toArray ws) 0) :: news) → (∀ p ∈ news, p.1 < D) → IntsAre ws (ns ++ ms) → Q (.ref D) { s with heap := h' }) : wpAny (model prog w) A (binaryOp .Add (.ref D1) (.ref D2)) Q E s :=
  kmk_add_ints F N (PySem.IsL.isList (n := c1) (N _ hm).1) (PySem.IsL.isList (n := c2) (N _ hm2).1) hi hj h (by rw [PySem.sizeLine_eq]; omega)
local macro_rules | `(tactic| walk_at "binaryOp Add ref ref") => `(tactic| (k_here; (with_reducible show wpAny _ _ (binaryOp _ (Value.ref _) (Value.ref _)) _ _ _); k_dflt (refine' add_g ?k1 ?k2 ?k3 ?k4 ?k5 ?k6 ?k7 ?_; (case k1 => k_asm); (case k2 => k_asm); (case k3 => k_mem); (case k4 => with_reducible assumption); (case k5 => k_mem); (case k6 => exact IntsAre.cons _ _ IntsAre.nil); (case k7 => (simp only [List.length_cons, List.length_nil]; omega)); k_whole); intro D' us' h' F' N' l1 hI'; (try k_lt l1); (try k_sweep)))
theorem mid_intro {h₀ h' : Heap} {L sl I a r : Addr} {o : Obj} {i : Nat} {s : Shared} {tk : Tok} {m : Str → Option Value} {tv dv : Value} {led : List (Addr × Obj)} {vs us : List Value} {hs rs : List Int} {n1 n2 : Nat} {ov oh orr : Obj} {ps : Array Value} {codes : List (Addr × Obj)}
    (F : Fr h₀ L h' m) (N : News h₀ L h' led) (hsub : ∀ q ∈ (I, o) :: lawLed L a r vs us n1 n2 ov oh orr ps codes, q ∈ led) (h1 : m (Str.ofString "told") = some tv) (h2 : m (Str.ofString "due") = some dv) (h3 : m (Str.ofString "script") = some (.ref sl))
    (LF : LawFacts L a r vs us hs rs ov oh orr ps codes) (hp : hs.Perm rs) (hi : rs.length ≤ i + 1) (hS : Same tv dv) (hne : ∀ p ∈ lawLed L a r vs us n1 n2 ov oh orr ps codes, p.1 ≠ I) :
    Flow.next = Flow.next ∧ Mid h₀ L sl I o i s { s with heap := h', toks := tk } := by
  refine ⟨rfl, h', tk, a, r, vs, us, hs, rs, n1, n2, ov, oh, orr, ps, codes, m, tv, dv, rfl, ?_, fun q hq => N q (hsub q hq), LF, hp, hi, hS, hne⟩
  have e : m = fun y => if y = Str.ofString "told" then some tv else if y = Str.ofString "due" then some dv else if y = Str.ofString "script" then some (.ref sl) else m y := by
    funext y
    split
    · next e => rw [e, h1]
    · split
      · next e => rw [e, h2]
      · split
        · next e => rw [e, h3]
        · rfl
  rw [← e]
  exact F
theorem repl_perm {k x : Int} {gs hs rs : List Int} (h : (k :: gs).Perm (x :: hs)) (hp : hs.Perm rs) (hk : k ∈ hs) : gs.Perm (rs.erase k ++ [x]) := by
  have h1 : (k :: gs).Perm (k :: x :: rs.erase k) := (h.trans ((hp.trans (List.perm_cons_erase (hp.mem_iff.mp hk))).cons x)).trans (List.Perm.swap ..)
  exact ((List.perm_cons k).mp h1).trans (List.perm_append_comm (l₁ := [x]))
theorem newsTake {h₀ h : Heap} {L : Addr} {led led2 : List (Addr × Obj)} (N : News h₀ L h led) (hs : ∀ q ∈ led2, q ∈ led) : News h₀ L h led2 := fun q hq => N q (hs q hq)
theorem offC_row {L a r D : Addr} {codes : List (Addr × Obj)} (off : OffC L a r codes) (h : AllLt D codes) : OffC L a D codes :=
  fun p hp => ⟨(off p hp).1, Nat.ne_of_lt (allLt_mem h p hp), (off p hp).2.2⟩
theorem min_eq {k M : Int} {hs rs : List Int} (hp : hs.Perm rs) (hk : k ∈ hs) (h1 : ∀ y ∈ hs, k ≤ y) (hM : M ∈ rs) (h2 : ∀ a ∈ rs, M ≤ a) : k = M :=
  Int.le_antisymm (h1 _ (hp.mem_iff.mpr hM)) (h2 _ (hp.mem_iff.mp hk))
theorem erase_perm {k : Int} {gs hs rs : List Int} (h : (k :: gs).Perm hs) (hp : hs.Perm rs) : gs.Perm (rs.erase k) := (List.cons_perm_iff_perm_erase.mp (h.trans hp)).2
theorem ne_g {prog : Program} {w : World} {A : Around} {E : Value → Shared → Prop} {s : Shared} {h₀ : Heap} {L D1 D2 : Addr} {news : List (Addr × Obj)} {vs us : List Value} {ns ms : List Int} {n n2 : Nat} {Q : Value → Shared → Prop}
    (N : News h₀ L s.heap news) (hm : (D1, W.listOf vs.toArray n) ∈ news) (hi : IntsAre vs ns) (hm2 : (D2, W.listOf us.toArray n2) ∈ news) (hi2 : IntsAre us ms) (hu : A.units + 64 < cLine)
    (h : Q (.bool (!decide (ns = ms))) s) : wpAny (model prog w) A (compareOp .NotEq (.ref D1) (.ref D2)) Q E s :=
  ne_intsK (PySem.IsL.isList (n := n) (N _ hm).1) hi (PySem.IsL.isList (n := n2) (N _ hm2).1) hi2 hu h
local macro_rules | `(tactic| walk_at "compareOp NotEq ref ref") => `(tactic| (k_here; (with_reducible show wpAny _ _ (compareOp CmpOp.NotEq (Value.ref _) (Value.ref _)) _ _ _); k_dflt (refine' ne_g ?k1 ?k2 ?k3 ?k4 ?k5 ?k6 ?_; (case k1 => k_asm); (case k2 => k_mem); (case k3 => assumption); (case k4 => k_mem); (case k5 => first | exact .nil | assumption); (case k6 => units_room); k_whole)))
theorem min_g {prog : Program} {w : World} {A : Around} {E : Value → Shared → Prop} {s : Shared} {h₀ : Heap} {L D1 : Addr} {news : List (Addr × Obj)} {vs : List Value} {ns : List Int} {n : Nat} {m : Str → Option Value} {Q : Value → Shared → Prop}
    (F : Fr h₀ L s.heap m) (N : News h₀ L s.heap news) (hm : (D1, W.listOf vs.toArray n) ∈ news) (hi : IntsAre vs ns) (hne : 0 < ns.length) (hh : A.handled = none)
    (h : ∀ h' M (t : Tok) tk, Fr h₀ L h' m → News h₀ L h' news → M ∈ ns → (∀ a, a ∈ ns → M ≤ a) → Q (.int M t) { s with heap := h', toks := tk }) : wpAny (model prog w) A (call (.builtin "min") [.ref D1]) Q E s :=
  kso_min F N (PySem.IsL.isList (n := n) (N _ hm).1) hi hne hh h
local macro_rules | `(tactic| walk_at "call builtin:min") => `(tactic| (k_here; (with_reducible show wpAny _ _ (call (Value.builtin _) [Value.ref _]) _ _ _); (k_dflt (refine' min_g ?k1 ?k2 ?k3 ?k4 ?k5 ?k6 ?_; (case k1 => k_asm); (case k2 => k_asm); (case k3 => k_mem); (case k4 => with_reducible assumption); (case k5 => first | assumption | (simp only [List.length_append, List.length_cons, List.length_nil]; omega)); (case k6 => with_unfolding_all rfl); k_whole)); intro h' M' t' k' F' N' a' b'; (try k_sweep)))
set_option linter.all false in
theorem mid_ok {w : World} {s : Shared} {E : Value → Shared → Prop} {mg mb : Str → Option Value} {p : Program} {loose : List Str} {mean : ExcName → Option Value} {h₀ : Heap} {L fa sl a r I D : Addr} {o od : Obj} {vs us : List Value} {hs rs : List Int} {n1 n2 : Nat} {ov oh orr : Obj} {ps : Array Value} {codes : List (Addr × Obj)} {u : Str → Option Value} {i : Nat} {q x : Int} {tq tx tk : Tok}
    (B : Below callerA h₀ [] h₀) (X : (hd.heap_1 w.params).In h₀) (T : Top p loose mean mg mb h₀) (C : CodeHd h₀ 121 119)
    (LF : LawFacts L a r vs us hs rs ov oh orr ps codes) (hperm : hs.Perm rs) (hri : rs.length ≤ i) (hi63 : i < 63) (hov : ov.data = .cell (some (.int x tx)))
    (F : Fr h₀ L s.heap (fun y => if y = Str.ofString "due" then some .none else if y = Str.ofString "sort" then some (.int q tq) else if y = Str.ofString "script" then some (.ref sl) else u y)) (N : News h₀ L s.heap ((D, od) :: (I, o) :: lawLed L a r vs us n1 n2 ov oh orr ps codes))
    (hIo : ∀ p ∈ lawLed L a r vs us n1 n2 ov oh orr ps codes, p.1 ≠ I) (hDo : ∀ p ∈ lawLed L a r vs us n1 n2 ov oh orr ps codes, p.1 ≠ D) (hID : I ≠ D) :
    wpAny (model PG w) (callerA.deeper (lawEnv L fa)) (exec midStmt (lawEnv L fa)) (fun f s' => f = .next ∧ Mid h₀ L sl I o i s s') E s := by
  obtain ⟨P, hP⟩ : ∃ P : Flow → Shared → Prop, P = fun f s' => f = .next ∧ Mid h₀ L sl I o i s s' := ⟨_, rfl⟩
  rw [← hP]
  have LF' := LF
  obtain ⟨oh_, or_, ov_, hi_, ri_, ok, la, lr, ne, l0, tab, off⟩ := LF
  have la1 : @Ne Nat a (L + 1 + 1 + 1) := la.1
  have la2 : @Ne Nat a (L + 1 + 1) := la.2.1
  have la3 : @Ne Nat a (L + 1) := la.2.2.1
  have la4 : @Ne Nat a 119 := la.2.2.2
  have n1_ : @Ne Nat r I := hIo _ (.head _)
  have n2_ : @Ne Nat a I := hIo _ (.tail _ (.head _))
  have n3_ : @Ne Nat (L + 1 + 1 + 1) I := hIo _ (.tail _ (.tail _ (.head _)))
  have n4_ : @Ne Nat (L + 1 + 1) I := hIo _ (.tail _ (.tail _ (.tail _ (.head _))))
  have n5_ : @Ne Nat (L + 1) I := hIo _ (.tail _ (.tail _ (.tail _ (.tail _ (.head _)))))
  have n6_ : @Ne Nat 119 I := hIo _ (.tail _ (.tail _ (.tail _ (.tail _ (.tail _ (.head _))))))
  have m1_ : @Ne Nat r D := hDo _ (.head _)
  have m2_ : @Ne Nat a D := hDo _ (.tail _ (.head _))
  have m3_ : @Ne Nat (L + 1 + 1 + 1) D := hDo _ (.tail _ (.tail _ (.head _)))
  have m4_ : @Ne Nat (L + 1 + 1) D := hDo _ (.tail _ (.tail _ (.tail _ (.head _))))
  have m5_ : @Ne Nat (L + 1) D := hDo _ (.tail _ (.tail _ (.tail _ (.tail _ (.head _)))))
  have m6_ : @Ne Nat 119 D := hDo _ (.tail _ (.tail _ (.tail _ (.tail _ (.tail _ (.head _))))))
  have hID' : @Ne Nat I D := hID
  have hcI : ∀ p ∈ codes, @Ne Nat p.1 I := fun p hp => hIo p (.tail _ (.tail _ (.tail _ (.tail _ (.tail _ (.tail _ hp))))))
  have hlr := ri_.length
  have hlh := hi_.length
  have hpl := hperm.length_eq
  have T5 := topRead_of T
  conv in (occs := *) midStmt => all_goals whnf
  dsimp only [lawEnv, lawMap, lawLed] at F N ⊢
  conv in (occs := *) lawParts.2 => all_goals whnf
  (all_goals try k_fold)
  (repeat' (first | (k_unfold; (try dsimp only)) | ((fail_if_success (with_reducible show wpAny _ _ (PySem.exec (PySem.Stmt.While _ _ _ _) _) _ _ _)); (fail_if_success (with_reducible show KswEnd _ _ _ _ _ _ _ _ _ _ _ _)); (fail_if_success (with_reducible show wpAny _ _ (pyIter (Value.ref _)) (fun it s₂ => LoopAtV _ _ _ _ _ _ _ _ _ it s₂) _ _)); (fail_if_success (with_reducible show TurnEnd _ _ _ _ _ _ _)); (fail_if_success (with_reducible show wpAny _ _ (PySem.eval (PySem.Expr.ListComp _ _ _ _) _) _ _ _)); (fail_if_success (with_reducible show wpAny _ _ (PySem.eval (PySem.Expr.Call (PySem.Expr.Name (PySem.Str.ofString "_law_told") _) _ _ _) _) _ _ _)); (fail_if_success (with_reducible show wpAny _ _ (PySem.call (Value.ref _) _ _) _ _ _)); first | walk1 | (dsimp only; walk1))))
  · rename Fr _ _ _ _ => F8
    rename News _ _ _ _ => N8
    refine heappush_i F8 N8 (by k_updF) X T5 (by k_room) (by k_units) rfl hi_ ok (by omega) ?_
    intro h7 tk7 n7 ws gs F7 N7 hi7 perm7 ok7
    (try dsimp only at N7)
    clear F8 N8
    (repeat' (first | (k_unfold; (try dsimp only)) | ((fail_if_success (with_reducible show wpAny _ _ (PySem.exec (PySem.Stmt.While _ _ _ _) _) _ _ _)); (fail_if_success (with_reducible show KswEnd _ _ _ _ _ _ _ _ _ _ _ _)); (fail_if_success (with_reducible show wpAny _ _ (pyIter (Value.ref _)) (fun it s₂ => LoopAtV _ _ _ _ _ _ _ _ _ it s₂) _ _)); (fail_if_success (with_reducible show TurnEnd _ _ _ _ _ _ _)); (fail_if_success (with_reducible show wpAny _ _ (PySem.eval (PySem.Expr.ListComp _ _ _ _) _) _ _ _)); (fail_if_success (with_reducible show wpAny _ _ (PySem.eval (PySem.Expr.Call (PySem.Expr.Name (PySem.Str.ofString "_law_told") _) _ _ _) _) _ _ _)); (fail_if_success (with_reducible show wpAny _ _ (PySem.call (Value.ref _) _ _) _ _ _)); first | walk1 | (dsimp only; walk1))))
    · exfalso; omega
    · (rename Fr _ _ _ _ => F9; rename News _ _ _ _ => N9; rename IntsAre _ _ => hI9; rename _ = Data.cell _ => d9; rename _ ∧ _ => l0a; have lA := l0a; repeat (replace lA := (lA).2))
      rw [hP]; refine ⟨rfl, ?_⟩; refine (mid_intro F9 N9 (by ((repeat' (refine List.forall_mem_cons.mpr ⟨?_, ?_⟩)) <;> first | (focus (k_mem; done)) | (intro q hq; (repeat (first | exact hq | apply List.mem_cons_of_mem))))) rfl rfl rfl ⟨oh_, d9, ov_, hi7, hI9, ok7, la, by omega, by omega, l0, tab, offC_row off lA⟩ (perm7.trans (hperm.append_right _)) (by rw [List.length_append]; simpa using hri) (.inr (.inl ⟨rfl, rfl⟩)) (by (refine List.forall_mem_cons.mpr ⟨?_, List.forall_mem_cons.mpr ⟨?_, List.forall_mem_cons.mpr ⟨?_, List.forall_mem_cons.mpr ⟨?_, List.forall_mem_cons.mpr ⟨?_, List.forall_mem_cons.mpr ⟨?_, hcI⟩⟩⟩⟩⟩⟩ <;> (dsimp only; refine neN ?_; omega)))).2
  · rename Fr _ _ _ _ => F8
    rename News _ _ _ _ => N8
    refine heappushpop_i F8 N8 (by k_updF) X T5 (by k_room) (by k_units) rfl hi_ ok (by omega) ?_
    intro h7 tk7 n7 ws gs k kt F7 N7 hi7 perm7 min7 ok7
    (try dsimp only at N7)
    clear F8 N8
    (repeat' (first | (k_unfold; (try dsimp only)) | ((fail_if_success (with_reducible show wpAny _ _ (PySem.exec (PySem.Stmt.While _ _ _ _) _) _ _ _)); (fail_if_success (with_reducible show KswEnd _ _ _ _ _ _ _ _ _ _ _ _)); (fail_if_success (with_reducible show wpAny _ _ (pyIter (Value.ref _)) (fun it s₂ => LoopAtV _ _ _ _ _ _ _ _ _ it s₂) _ _)); (fail_if_success (with_reducible show TurnEnd _ _ _ _ _ _ _)); (fail_if_success (with_reducible show wpAny _ _ (PySem.eval (PySem.Expr.ListComp _ _ _ _) _) _ _ _)); (fail_if_success (with_reducible show wpAny _ _ (PySem.eval (PySem.Expr.Call (PySem.Expr.Name (PySem.Str.ofString "_law_told") _) _ _ _) _) _ _ _)); (fail_if_success (with_reducible show wpAny _ _ (PySem.call (Value.ref _) _ _) _ _ _)); first | walk1 | (dsimp only; walk1))))
    · rename Fr _ _ _ _ => F8
      rename News _ _ _ _ => N8
      have hMk := min_eq (hperm.append_right _) (perm7.mem_iff.mp (.head _)) min7 (by assumption) (by assumption)
      rename IntsAre _ _ => hI0
      refine without_g X T5 hI0 (by simp only [List.length_append, List.length_cons, List.length_nil]; omega) (by assumption) (by k_room) (by k_units) rfl F8 N8 ?_
      intro D8 ws8 n8 h8 tk8 F9 N9 lt8 hI9
      have lA := allLt_of (d := D8) fun p hp => lt8 p hp
      clear F8 N8
      (try clear N8r)
      have gD := lt8 (I, o) (by k_mem)
      have gA := lt8 (a, _) (by k_mem)
      have gL := lt8 (L + 1 + 1 + 1, ov) (by k_mem)
      dsimp only at gD gA gL
      (repeat' (first | (k_unfold; (try dsimp only)) | ((fail_if_success (with_reducible show wpAny _ _ (PySem.exec (PySem.Stmt.While _ _ _ _) _) _ _ _)); (fail_if_success (with_reducible show KswEnd _ _ _ _ _ _ _ _ _ _ _ _)); (fail_if_success (with_reducible show wpAny _ _ (pyIter (Value.ref _)) (fun it s₂ => LoopAtV _ _ _ _ _ _ _ _ _ it s₂) _ _)); (fail_if_success (with_reducible show TurnEnd _ _ _ _ _ _ _)); (fail_if_success (with_reducible show wpAny _ _ (PySem.eval (PySem.Expr.ListComp _ _ _ _) _) _ _ _)); (fail_if_success (with_reducible show wpAny _ _ (PySem.eval (PySem.Expr.Call (PySem.Expr.Name (PySem.Str.ofString "_law_told") _) _ _ _) _) _ _ _)); (fail_if_success (with_reducible show wpAny _ _ (PySem.call (Value.ref _) _ _) _ _ _)); first | walk1 | (dsimp only; walk1))))
      rename Fr _ _ _ _ => Fz
      rename News _ _ _ _ => Nz
      rename _ = Data.cell _ => dz
      rw [← hMk] at hI9
      rw [hP]; refine ⟨rfl, ?_⟩; refine (mid_intro Fz Nz (by ((repeat' (refine List.forall_mem_cons.mpr ⟨?_, ?_⟩)) <;> first | (focus (k_mem; done)) | (intro q hq; (repeat (first | exact hq | apply List.mem_cons_of_mem))))) rfl rfl rfl ⟨oh_, dz, ov_, hi7, hI9, ok7, la, by omega, by omega, l0, tab, offC_row off lA.2.2.2.2.2.2.2.2.2.2⟩ (erase_perm perm7 (hperm.append_right _)) (by have := List.length_erase_le (a := k) (l := rs ++ [x]); simp only [List.length_append, List.length_cons, List.length_nil] at this; omega) (.inl ⟨_, _, _, rfl, congrArg (Value.int · _) hMk.symm⟩) (by (refine List.forall_mem_cons.mpr ⟨?_, List.forall_mem_cons.mpr ⟨?_, List.forall_mem_cons.mpr ⟨?_, List.forall_mem_cons.mpr ⟨?_, List.forall_mem_cons.mpr ⟨?_, List.forall_mem_cons.mpr ⟨?_, hcI⟩⟩⟩⟩⟩⟩ <;> (dsimp only; refine neN ?_; omega)))).2
    · exfalso; omega
  · rename Fr _ _ _ _ => F8
    rename News _ _ _ _ => N8
    refine told1_eval X T C LF' (by omega) F8 N8 hIo hDo ?_
    intro h7 tk7 n7 ws gs ps7 codes7 v7 F7 N7 LF7 hcI7 alt7
    clear F8 N8 
    obtain ⟨oh_, or_, ov_, hi7, ri_, ok7, la, lr, ne, l0, tab, off⟩ := LF7
    rcases alt7 with ⟨e1, e2, t7, rfl⟩ | ⟨e1, k, t7, rfl, perm7, min7⟩
    · have hr0 : rs = [] := by cases rs with
        | nil => rfl
        | cons _ _ => simp [e1] at hpl
      (repeat' (first | (k_unfold; (try dsimp only)) | ((fail_if_success (with_reducible show wpAny _ _ (PySem.exec (PySem.Stmt.While _ _ _ _) _) _ _ _)); (fail_if_success (with_reducible show KswEnd _ _ _ _ _ _ _ _ _ _ _ _)); (fail_if_success (with_reducible show wpAny _ _ (pyIter (Value.ref _)) (fun it s₂ => LoopAtV _ _ _ _ _ _ _ _ _ it s₂) _ _)); (fail_if_success (with_reducible show TurnEnd _ _ _ _ _ _ _)); (fail_if_success (with_reducible show wpAny _ _ (PySem.eval (PySem.Expr.ListComp _ _ _ _) _) _ _ _)); (fail_if_success (with_reducible show wpAny _ _ (PySem.eval (PySem.Expr.Call (PySem.Expr.Name (PySem.Str.ofString "_law_told") _) _ _ _) _) _ _ _)); (fail_if_success (with_reducible show wpAny _ _ (PySem.call (Value.ref _) _ _) _ _ _)); first | walk1 | (dsimp only; walk1))))
      rename Fr _ _ _ _ => F9
      rename News _ _ _ _ => N9
      rw [hP]; refine ⟨rfl, ?_⟩; refine (mid_intro F9 N9 (by ((repeat' (refine List.forall_mem_cons.mpr ⟨?_, ?_⟩)) <;> first | (focus (k_mem; done)) | (intro q hq; (repeat (first | exact hq | apply List.mem_cons_of_mem))))) rfl rfl rfl ⟨oh_, or_, ov_, hi7, ri_, ok7, la, lr, ne, l0, tab, off⟩ (by rw [hr0, e2]) (by omega) (.inr (.inr ⟨_, _, rfl, rfl⟩)) (by (refine List.forall_mem_cons.mpr ⟨?_, List.forall_mem_cons.mpr ⟨?_, List.forall_mem_cons.mpr ⟨?_, List.forall_mem_cons.mpr ⟨?_, List.forall_mem_cons.mpr ⟨?_, List.forall_mem_cons.mpr ⟨?_, hcI7⟩⟩⟩⟩⟩⟩ <;> (dsimp only; refine neN ?_; omega)))).2
    · have hpos : 0 < rs.length := by omega
      have hr0 : rs ≠ [] := by intro e; have := congrArg List.length e; simp only [List.length_nil] at this; omega
      (repeat' (first | (k_unfold; (try dsimp only)) | ((fail_if_success (with_reducible show wpAny _ _ (PySem.exec (PySem.Stmt.While _ _ _ _) _) _ _ _)); (fail_if_success (with_reducible show KswEnd _ _ _ _ _ _ _ _ _ _ _ _)); (fail_if_success (with_reducible show wpAny _ _ (pyIter (Value.ref _)) (fun it s₂ => LoopAtV _ _ _ _ _ _ _ _ _ it s₂) _ _)); (fail_if_success (with_reducible show TurnEnd _ _ _ _ _ _ _)); (fail_if_success (with_reducible show wpAny _ _ (PySem.eval (PySem.Expr.ListComp _ _ _ _) _) _ _ _)); (fail_if_success (with_reducible show wpAny _ _ (PySem.eval (PySem.Expr.Call (PySem.Expr.Name (PySem.Str.ofString "_law_told") _) _ _ _) _) _ _ _)); (fail_if_success (with_reducible show wpAny _ _ (PySem.call (Value.ref _) _ _) _ _ _)); first | walk1 | (dsimp only; walk1))))
      rename Fr _ _ _ _ => F8
      rename News _ _ _ _ => N8
      have hMk := min_eq hperm (perm7.mem_iff.mp (.head _)) min7 (by assumption) (by assumption)
      have N8r := newsTake (led2 := (r, W.listOf us.toArray n2) :: (I, o) :: (a, W.listOf ws.toArray n7) :: (L + 1 + 1 + 1, ov) :: (L + 1 + 1, oh) :: (L + 1, orr) :: (119, tabObj ps7) :: codes7) N8 (by ((repeat' (refine List.forall_mem_cons.mpr ⟨?_, ?_⟩)) <;> first | (focus (k_mem; done)) | (intro q hq; (repeat (first | exact hq | apply List.mem_cons_of_mem)))))
      refine without_g X T5 ri_ (by omega) (by assumption) (by k_room) (by k_units) rfl F8 N8r ?_
      intro D8 ws8 n8 h8 tk8 F9 N9 lt8 hI9
      have lA := allLt_of (d := D8) fun p hp => lt8 p hp
      clear F8 N8
      (try clear N8r)
      have gD := lt8 (I, o) (by k_mem)
      have gA := lt8 (a, _) (by k_mem)
      have gL := lt8 (L + 1 + 1 + 1, ov) (by k_mem)
      dsimp only at gD gA gL
      (repeat' (first | (k_unfold; (try dsimp only)) | ((fail_if_success (with_reducible show wpAny _ _ (PySem.exec (PySem.Stmt.While _ _ _ _) _) _ _ _)); (fail_if_success (with_reducible show KswEnd _ _ _ _ _ _ _ _ _ _ _ _)); (fail_if_success (with_reducible show wpAny _ _ (pyIter (Value.ref _)) (fun it s₂ => LoopAtV _ _ _ _ _ _ _ _ _ it s₂) _ _)); (fail_if_success (with_reducible show TurnEnd _ _ _ _ _ _ _)); (fail_if_success (with_reducible show wpAny _ _ (PySem.eval (PySem.Expr.ListComp _ _ _ _) _) _ _ _)); (fail_if_success (with_reducible show wpAny _ _ (PySem.eval (PySem.Expr.Call (PySem.Expr.Name (PySem.Str.ofString "_law_told") _) _ _ _) _) _ _ _)); (fail_if_success (with_reducible show wpAny _ _ (PySem.call (Value.ref _) _ _) _ _ _)); first | walk1 | (dsimp only; walk1))))
      rename Fr _ _ _ _ => Fz
      rename News _ _ _ _ => Nz
      rename _ = Data.cell _ => dz
      rw [← hMk] at hI9
      rw [hP]; refine ⟨rfl, ?_⟩; refine (mid_intro Fz Nz (by ((repeat' (refine List.forall_mem_cons.mpr ⟨?_, ?_⟩)) <;> first | (focus (k_mem; done)) | (intro q hq; (repeat (first | exact hq | apply List.mem_cons_of_mem))))) rfl rfl rfl ⟨oh_, dz, ov_, hi7, hI9, ok7, la, by omega, by omega, l0, tab, offC_row off lA.2.2.2.2.2.2.2⟩ (erase_perm perm7 hperm) (by have := List.length_erase_le (a := k) (l := rs); omega) (.inl ⟨_, _, _, rfl, congrArg (Value.int · _) hMk.symm⟩) (by (refine List.forall_mem_cons.mpr ⟨?_, List.forall_mem_cons.mpr ⟨?_, List.forall_mem_cons.mpr ⟨?_, List.forall_mem_cons.mpr ⟨?_, List.forall_mem_cons.mpr ⟨?_, List.forall_mem_cons.mpr ⟨?_, hcI7⟩⟩⟩⟩⟩⟩ <;> (dsimp only; refine neN ?_; omega)))).2
  · rename Fr _ _ _ _ => F8
    rename News _ _ _ _ => N8
    refine told2_eval X T C LF' (by omega) hov F8 N8 hIo hDo ?_
    intro h7 tk7 n7 ws gs ps7 codes7 v7 F7 N7 LF7 hcI7 alt7
    clear F8 N8 
    obtain ⟨oh_, or_, ov_, hi7, ri_, ok7, la, lr, ne, l0, tab, off⟩ := LF7
    rcases alt7 with ⟨e1, e2, t7, rfl⟩ | ⟨e1, k, t7, rfl, perm7, mem7, min7⟩
    · have hr0 : rs = [] := by cases rs with
        | nil => rfl
        | cons _ _ => simp [e1] at hpl
      (repeat' (first | (k_unfold; (try dsimp only)) | ((fail_if_success (with_reducible show wpAny _ _ (PySem.exec (PySem.Stmt.While _ _ _ _) _) _ _ _)); (fail_if_success (with_reducible show KswEnd _ _ _ _ _ _ _ _ _ _ _ _)); (fail_if_success (with_reducible show wpAny _ _ (pyIter (Value.ref _)) (fun it s₂ => LoopAtV _ _ _ _ _ _ _ _ _ it s₂) _ _)); (fail_if_success (with_reducible show TurnEnd _ _ _ _ _ _ _)); (fail_if_success (with_reducible show wpAny _ _ (PySem.eval (PySem.Expr.ListComp _ _ _ _) _) _ _ _)); (fail_if_success (with_reducible show wpAny _ _ (PySem.eval (PySem.Expr.Call (PySem.Expr.Name (PySem.Str.ofString "_law_told") _) _ _ _) _) _ _ _)); (fail_if_success (with_reducible show wpAny _ _ (PySem.call (Value.ref _) _ _) _ _ _)); first | walk1 | (dsimp only; walk1))))
      rename Fr _ _ _ _ => F9
      rename News _ _ _ _ => N9
      rw [hP]; refine ⟨rfl, ?_⟩; refine (mid_intro F9 N9 (by ((repeat' (refine List.forall_mem_cons.mpr ⟨?_, ?_⟩)) <;> first | (focus (k_mem; done)) | (intro q hq; (repeat (first | exact hq | apply List.mem_cons_of_mem))))) rfl rfl rfl ⟨oh_, or_, ov_, hi7, ri_, ok7, la, lr, ne, l0, tab, off⟩ (by rw [hr0, e2]) (by omega) (.inr (.inr ⟨_, _, rfl, rfl⟩)) (by (refine List.forall_mem_cons.mpr ⟨?_, List.forall_mem_cons.mpr ⟨?_, List.forall_mem_cons.mpr ⟨?_, List.forall_mem_cons.mpr ⟨?_, List.forall_mem_cons.mpr ⟨?_, List.forall_mem_cons.mpr ⟨?_, hcI7⟩⟩⟩⟩⟩⟩ <;> (dsimp only; refine neN ?_; omega)))).2
    · have hpos : 0 < rs.length := by omega
      have hr0 : rs ≠ [] := by intro e; have := congrArg List.length e; simp only [List.length_nil] at this; omega
      (repeat' (first | (k_unfold; (try dsimp only)) | ((fail_if_success (with_reducible show wpAny _ _ (PySem.exec (PySem.Stmt.While _ _ _ _) _) _ _ _)); (fail_if_success (with_reducible show KswEnd _ _ _ _ _ _ _ _ _ _ _ _)); (fail_if_success (with_reducible show wpAny _ _ (pyIter (Value.ref _)) (fun it s₂ => LoopAtV _ _ _ _ _ _ _ _ _ it s₂) _ _)); (fail_if_success (with_reducible show TurnEnd _ _ _ _ _ _ _)); (fail_if_success (with_reducible show wpAny _ _ (PySem.eval (PySem.Expr.ListComp _ _ _ _) _) _ _ _)); (fail_if_success (with_reducible show wpAny _ _ (PySem.eval (PySem.Expr.Call (PySem.Expr.Name (PySem.Str.ofString "_law_told") _) _ _ _) _) _ _ _)); (fail_if_success (with_reducible show wpAny _ _ (PySem.call (Value.ref _) _ _) _ _ _)); first | walk1 | (dsimp only; walk1))))
      rename Fr _ _ _ _ => F8
      rename News _ _ _ _ => N8
      have hMk := min_eq hperm mem7 min7 (by assumption) (by assumption)
      have N8r := newsTake (led2 := (r, W.listOf us.toArray n2) :: (I, o) :: (a, W.listOf ws.toArray n7) :: (L + 1 + 1 + 1, ov) :: (L + 1 + 1, oh) :: (L + 1, orr) :: (119, tabObj ps7) :: codes7) N8 (by ((repeat' (refine List.forall_mem_cons.mpr ⟨?_, ?_⟩)) <;> first | (focus (k_mem; done)) | (intro q hq; (repeat (first | exact hq | apply List.mem_cons_of_mem)))))
      refine without_g X T5 ri_ (by omega) (by assumption) (by k_room) (by k_units) rfl F8 N8r ?_
      intro D8 ws8 n8 h8 tk8 F9 N9 lt8 hI9
      have lA := allLt_of (d := D8) fun p hp => lt8 p hp
      clear F8 N8
      (try clear N8r)
      have gD := lt8 (I, o) (by k_mem)
      have gA := lt8 (a, _) (by k_mem)
      have gL := lt8 (L + 1 + 1 + 1, ov) (by k_mem)
      dsimp only at gD gA gL
      rw [← hMk] at hI9
      have hel := List.length_erase_of_mem (hperm.mem_iff.mp mem7)
      have hwl := hI9.length
      (repeat' (first | (k_unfold; (try dsimp only)) | ((fail_if_success (with_reducible show wpAny _ _ (PySem.exec (PySem.Stmt.While _ _ _ _) _) _ _ _)); (fail_if_success (with_reducible show KswEnd _ _ _ _ _ _ _ _ _ _ _ _)); (fail_if_success (with_reducible show wpAny _ _ (pyIter (Value.ref _)) (fun it s₂ => LoopAtV _ _ _ _ _ _ _ _ _ it s₂) _ _)); (fail_if_success (with_reducible show TurnEnd _ _ _ _ _ _ _)); (fail_if_success (with_reducible show wpAny _ _ (PySem.eval (PySem.Expr.ListComp _ _ _ _) _) _ _ _)); (fail_if_success (with_reducible show wpAny _ _ (PySem.eval (PySem.Expr.Call (PySem.Expr.Name (PySem.Str.ofString "_law_told") _) _ _ _) _) _ _ _)); (fail_if_success (with_reducible show wpAny _ _ (PySem.call (Value.ref _) _ _) _ _ _)); first | walk1 | (dsimp only; walk1))))
      rename Fr _ _ _ _ => Fz
      rename News _ _ _ _ => Nz
      rename _ = Data.cell _ => dz
      rename IntsAre _ _ => hIz
      rename _ ∧ _ => lz
      have lB := lz
      repeat (replace lB := lB.2)
      rw [hP]; refine ⟨rfl, ?_⟩; refine (mid_intro Fz Nz (by ((repeat' (refine List.forall_mem_cons.mpr ⟨?_, ?_⟩)) <;> first | (focus (k_mem; done)) | (intro q hq; (repeat (first | exact hq | apply List.mem_cons_of_mem))))) rfl rfl rfl ⟨oh_, dz, ov_, hi7, hIz, ok7, la, by omega, by omega, l0, tab, offC_row off lB⟩ (repl_perm perm7 hperm mem7) (by have := List.length_erase_of_mem (hperm.mem_iff.mp mem7); simp only [List.length_append, List.length_cons, List.length_nil]; omega) (.inl ⟨_, _, _, rfl, congrArg (Value.int · _) hMk.symm⟩) (by (refine List.forall_mem_cons.mpr ⟨?_, List.forall_mem_cons.mpr ⟨?_, List.forall_mem_cons.mpr ⟨?_, List.forall_mem_cons.mpr ⟨?_, List.forall_mem_cons.mpr ⟨?_, List.forall_mem_cons.mpr ⟨?_, hcI7⟩⟩⟩⟩⟩⟩ <;> (dsimp only; refine neN ?_; omega)))).2
  · (repeat' (first | (k_unfold; (try dsimp only)) | ((fail_if_success (with_reducible show wpAny _ _ (PySem.exec (PySem.Stmt.While _ _ _ _) _) _ _ _)); (fail_if_success (with_reducible show KswEnd _ _ _ _ _ _ _ _ _ _ _ _)); (fail_if_success (with_reducible show wpAny _ _ (pyIter (Value.ref _)) (fun it s₂ => LoopAtV _ _ _ _ _ _ _ _ _ it s₂) _ _)); (fail_if_success (with_reducible show TurnEnd _ _ _ _ _ _ _)); (fail_if_success (with_reducible show wpAny _ _ (PySem.eval (PySem.Expr.ListComp _ _ _ _) _) _ _ _)); (fail_if_success (with_reducible show wpAny _ _ (PySem.eval (PySem.Expr.Call (PySem.Expr.Name (PySem.Str.ofString "_law_told") _) _ _ _) _) _ _ _)); (fail_if_success (with_reducible show wpAny _ _ (PySem.call (Value.ref _) _ _) _ _ _)); first | walk1 | (dsimp only; walk1))))
    rename Fr _ _ _ _ => F8
    rename News _ _ _ _ => N8
    rename IntsAre _ _ => hI8
    rename _ = Data.cell _ => d8
    rename _ ∧ _ => l8
    rename_i D8 ws8 _ _ o8
    have lA := l8
    repeat (replace lA := lA.2)
    have N8r := newsTake (led2 := (D8, W.listOf ws8.toArray 0) :: (L + 1, o8) :: (I, o) :: (a, W.listOf vs.toArray n1) :: (L + 1 + 1 + 1, ov) :: (L + 1 + 1, oh) :: (119, tabObj ps) :: codes) N8 (by ((repeat' (refine List.forall_mem_cons.mpr ⟨?_, ?_⟩)) <;> first | (focus (k_mem; done)) | (intro q hq; (repeat (first | exact hq | apply List.mem_cons_of_mem)))))
    refine rev_eval X T d8 hI8 (by simp only [List.length_append, List.length_cons, List.length_nil]; omega) F8 N8r ?_
    intro D7 ys7 h7 tk7 F7 N7 ne7 hi7
    clear F8 N8 N8r
    have q1 := ne7 (D8, W.listOf ws8.toArray 0) (by k_mem)
    have q2 := ne7 (L + 1, o8) (by k_mem)
    have q3 := ne7 (I, o) (by k_mem)
    have q4 := ne7 (L + 1 + 1 + 1, ov) (by k_mem)
    have q5 := ne7 (L + 1 + 1, oh) (by k_mem)
    have q6 := ne7 (119, tabObj ps) (by k_mem)
    have q7 : ∀ p ∈ codes, @Ne Nat p.1 D7 := fun p hp => ne7 p (.tail _ (.tail _ (.tail _ (.tail _ (.tail _ (.tail _ (.tail _ hp)))))))
    have q8 := ne7 (a, W.listOf vs.toArray n1) (by k_mem)
    clear ne7
    replace q1 : @Ne Nat D8 D7 := q1
    replace q2 : @Ne Nat (L + 1) D7 := q2
    replace q3 : @Ne Nat I D7 := q3
    replace q4 : @Ne Nat (L + 1 + 1 + 1) D7 := q4
    replace q5 : @Ne Nat (L + 1 + 1) D7 := q5
    replace q6 : @Ne Nat 119 D7 := q6
    replace q8 : @Ne Nat a D7 := q8
    have hlen7 : (rs ++ [x]).reverse.length < 2 ^ 19 := by simp only [List.length_reverse, List.length_append, List.length_cons, List.length_nil]; omega
    (repeat' (first | (k_unfold; (try dsimp only)) | ((fail_if_success (with_reducible show wpAny _ _ (PySem.exec (PySem.Stmt.While _ _ _ _) _) _ _ _)); (fail_if_success (with_reducible show KswEnd _ _ _ _ _ _ _ _ _ _ _ _)); (fail_if_success (with_reducible show wpAny _ _ (pyIter (Value.ref _)) (fun it s₂ => LoopAtV _ _ _ _ _ _ _ _ _ it s₂) _ _)); (fail_if_success (with_reducible show TurnEnd _ _ _ _ _ _ _)); (fail_if_success (with_reducible show wpAny _ _ (PySem.eval (PySem.Expr.ListComp _ _ _ _) _) _ _ _)); (fail_if_success (with_reducible show wpAny _ _ (PySem.eval (PySem.Expr.Call (PySem.Expr.Name (PySem.Str.ofString "_law_told") _) _ _ _) _) _ _ _)); (fail_if_success (with_reducible show wpAny _ _ (PySem.call (Value.ref _) _ _) _ _ _)); first | walk1 | (dsimp only; walk1))))
    rename Fr _ _ _ _ => F8
    rename News _ _ _ _ => N8
    rename _ = Data.cell _ => d7
    refine heapify_i F8 N8 (by k_updF) X T5 (by k_room) (by k_units) rfl hi7 hlen7 ?_
    intro h9 tk9 n9 zs gs F9 N9 hi9 perm9 ok9
    (try dsimp only at N9)
    clear F8 N8
    (repeat' (first | (k_unfold; (try dsimp only)) | ((fail_if_success (with_reducible show wpAny _ _ (PySem.exec (PySem.Stmt.While _ _ _ _) _) _ _ _)); (fail_if_success (with_reducible show KswEnd _ _ _ _ _ _ _ _ _ _ _ _)); (fail_if_success (with_reducible show wpAny _ _ (pyIter (Value.ref _)) (fun it s₂ => LoopAtV _ _ _ _ _ _ _ _ _ it s₂) _ _)); (fail_if_success (with_reducible show TurnEnd _ _ _ _ _ _ _)); (fail_if_success (with_reducible show wpAny _ _ (PySem.eval (PySem.Expr.ListComp _ _ _ _) _) _ _ _)); (fail_if_success (with_reducible show wpAny _ _ (PySem.eval (PySem.Expr.Call (PySem.Expr.Name (PySem.Str.ofString "_law_told") _) _ _ _) _) _ _ _)); (fail_if_success (with_reducible show wpAny _ _ (PySem.call (Value.ref _) _ _) _ _ _)); first | walk1 | (dsimp only; walk1))))
    rename Fr _ _ _ _ => Fz
    rename News _ _ _ _ => Nz
    rw [hP]; refine ⟨rfl, ?_⟩; refine (mid_intro Fz Nz (by ((repeat' (refine List.forall_mem_cons.mpr ⟨?_, ?_⟩)) <;> first | (focus (k_mem; done)) | (intro q hq; (repeat (first | exact hq | apply List.mem_cons_of_mem))))) rfl rfl rfl ⟨d7, d8, ov_, hi9, hI8, ok9, ⟨Ne.symm q4, Ne.symm q5, Ne.symm q2, Ne.symm q6⟩, by omega, Ne.symm q1, l0, tab, fun p hp => ⟨q7 p hp, Nat.ne_of_lt (allLt_mem lA p hp), (off p hp).2.2⟩⟩ (perm9.trans ((List.reverse_perm _))) (by simp only [List.length_append, List.length_cons, List.length_nil]; omega) (.inr (.inl ⟨rfl, rfl⟩)) (by (refine List.forall_mem_cons.mpr ⟨?_, List.forall_mem_cons.mpr ⟨?_, List.forall_mem_cons.mpr ⟨?_, List.forall_mem_cons.mpr ⟨?_, List.forall_mem_cons.mpr ⟨?_, List.forall_mem_cons.mpr ⟨?_, hcI⟩⟩⟩⟩⟩⟩ <;> (dsimp only; refine neN ?_; omega)))).2
end Mine

-- B15
namespace Mine
noncomputable def ifTest : Stmt → PySem.Expr
  | .If t _ _ _ => t
  | _ => .Constant .none 0 ⟨0,0,0,0⟩
noncomputable def boolParts : PySem.Expr → List PySem.Expr
  | .BoolOp _ l _ => l
  | _ => []
noncomputable def cmpLeft : PySem.Expr → PySem.Expr
  | .Compare l _ _ _ => l
  | e => e
noncomputable def chkExpr : PySem.Expr := cmpLeft ((boolParts (ifTest chkStmt)).getD 2 (.Constant .none 0 ⟨0,0,0,0⟩))
local macro_rules | `(tactic| omega) => `(tactic| first | omega (config := { splitDisjunctions := false }) | ((try clear ‹(_ ∧ _ ∧ _) ∧ _›); (try clear ‹_ ∧ _ ∧ _›); omega +splitDisjunctions) | omega (config := { splitDisjunctions := true }))
local macro_rules | `(tactic| k_ne) => `(tactic| first | assumption | (refine Ne.symm ?_; assumption))
local macro_rules | `(tactic| walk_at "TurnPost") => `(tactic| dsimp only [TurnPost])
local macro_rules | `(tactic| k_all) => `(tactic| first | exact List.forall_mem_nil _ | (refine' List.forall_mem_cons.mpr ⟨?a, ?b⟩; (case a => k_ne); (case b => k_all)) | assumption | ((with_reducible rename OffC _ _ _ _ => hofc); intro p9 hp9; have hq9 := hofc p9 hp9; refine neN ?_; omega))


local macro_rules | `(tactic| walk_at "subscriptTail") => `(tactic| (k_here; (with_reducible show wpAny _ _ (subscriptTail _ _ (Value.ref _) (Value.int _ _)) _ _ _); k_dflt (refine' item_gi ?k1 ?km ?ki ?k2 ?k3 ?k4 ?_ ?k6; (case k1 => k_asm); (case km => k_mem); (case ki => with_reducible assumption); (case k2 => omega); (case k3 => omega); (case k4 => omega); (case k6 => with_unfolding_all rfl); k_whole); intro _))
local macro_rules | `(tactic| walk_at "call builtin:len") => `(tactic| (k_here; (with_reducible show wpAny _ _ (call (Value.builtin "len") [Value.ref _]) _ _ _); k_dflt (refine' len_g ?k1 ?km ?k2 ?_; (case k1 => k_asm); (case km => k_mem); (case k2 => omega); k_whole); (try rw [hlr])))
theorem foldl_const {α β : Type} (l : List α) (b : β) : l.foldl (fun a _ => a) b = b := by induction l with
  | nil => rfl
  | cons _ _ ih => simpa using ih
theorem half_toNat {k : Int} (h : 1 ≤ k) : ((k - 1) / 2).toNat = (k.toNat - 1) / 2 := by
  obtain ⟨n, rfl⟩ := Int.eq_ofNat_of_zero_le (Int.le_trans (by decide) h)
  cases n with
  | zero => exact absurd h (by decide)
  | succ m => rw [Int.natCast_succ, Int.add_sub_cancel]; rfl
theorem chk_comp {w : World} {s : Shared} {E : Value → Shared → Prop} {Q : Value → Shared → Prop} {mg mb : Str → Option Value} {p : Program} {loose : List Str} {mean : ExcName → Option Value} {h₀ : Heap} {L fa a : Addr} {vs : List Value} {hs : List Int} {n1 : Nat} {oh : Obj} {rest : List (Addr × Obj)} {m : Str → Option Value}
    (X : (hd.heap_1 w.params).In h₀) (T : Top p loose mean mg mb h₀) (oh_ : oh.data = .cell (some (.ref a))) (hi_ : IntsAre vs hs) (ok : HeapOk hs) (hlen : hs.length < 1000)
    (F : Fr h₀ L s.heap m) (N : News h₀ L s.heap ((a, W.listOf vs.toArray n1) :: (L + 1 + 1, oh) :: rest))
    (h : ∀ D h' tk, Fr h₀ L h' m → News h₀ L h' ((D, W.listOf ([] : List Value).toArray 0) :: (a, W.listOf vs.toArray n1) :: (L + 1 + 1, oh) :: rest) → (∀ q ∈ (a, W.listOf vs.toArray n1) :: (L + 1 + 1, oh) :: rest, q.1 ≠ D) → Q (.ref D) { s with heap := h', toks := tk }) :
    wpAny (model PG w) (callerA.deeper (lawEnv L fa)) (eval chkExpr (lawEnv L fa)) Q E s := by
  have hlr := hi_.length
  conv in (occs := *) chkExpr => all_goals whnf
  dsimp only [lawEnv] at F N ⊢
  conv in (occs := *) lawParts.2 => all_goals whnf
  refine LCt.ListComp_T (F₀ := F) (by with_unfolding_all rfl) (by decide) (by rfl) (by decide) (by rfl) ?_
  (all_goals try k_fold)
  (repeat' (first | (k_unfold; (try dsimp only)) | ((fail_if_success (with_reducible show wpAny _ _ (PySem.exec (PySem.Stmt.While _ _ _ _) _) _ _ _)); (fail_if_success (with_reducible show KswEnd _ _ _ _ _ _ _ _ _ _ _ _)); (fail_if_success (with_reducible show wpAny _ _ (pyIter (Value.ref _)) (fun it s₂ => LoopAtV _ _ _ _ _ _ _ _ _ it s₂) _ _)); (fail_if_success (with_reducible show TurnEnd _ _ _ _ _ _ _)); (fail_if_success (with_reducible show wpAny _ _ (PySem.eval (PySem.Expr.ListComp _ _ _ _) _) _ _ _)); (fail_if_success (with_reducible show wpAny _ _ (PySem.eval (PySem.Expr.Call (PySem.Expr.Name (PySem.Str.ofString "_law_told") _) _ _ _) _) _ _ _)); (fail_if_success (with_reducible show wpAny _ _ (PySem.call (Value.ref _) _ _) _ _ _)); first | walk1 | (dsimp only; walk1))))
  · exfalso
    rename KPfMark => hm9
    rename hs.getD _ 0 < hs.getD _ 0 => hlt9
    rename_i k9 t9 I9 oI9 C9 oC9 D9 m9 ys9 l9 h9 tk9 E9 hlo9 hhi9 hI9 hC9 hx9 F9 N9 off9 ne9 ta tb
    have e1 : k9.toNat < hs.length := by omega
    have e2 : 0 < k9.toNat := by omega
    have e3 := ok k9.toNat e2 e1
    have e4 : ((k9 - 1).fdiv 2).toNat = (k9.toNat - 1) / 2 := by
      rw [Int.fdiv_eq_ediv_of_nonneg _ (by decide)]
      exact half_toNat hlo9
    rw [e4] at hlt9
    omega
  · rename Fr _ _ _ _ => F9
    rename News _ _ _ _ => N9
    rename _ ∧ _ ∧ _ => ne9
    rename (_ ∧ _ ∧ _) ∧ _ => off9
    exact LCg.CompEnd.intro F9 N9 _ (fun p hp => hp) off9 trivial ⟨rfl, rfl⟩
  · rename Fr _ _ _ _ => F9
    rename News _ _ _ _ => N9
    rename _ ∧ _ ∧ _ => off9
    rename _ = List.length (List.foldl _ _ _) => hl9
    rename_i D9 h9 tk9
    rw [foldl_const] at hl9
    obtain rfl := List.length_eq_zero_iff.mp hl9
    exact h D9 h9 tk9 F9 N9 (fun q hq => off1_mem (by exact off9) q hq)
end Mine

-- B16
namespace Mine
local macro_rules | `(tactic| walk_at "TurnPost") => `(tactic| dsimp only [TurnPost])
local macro_rules | `(tactic| k_all) => `(tactic| first | exact List.forall_mem_nil _ | (refine' List.forall_mem_cons.mpr ⟨?a, ?b⟩; (case a => k_ne); (case b => k_all)) | assumption | ((with_reducible rename OffC _ _ _ _ => hofc); intro p9 hp9; have hq9 := hofc p9 hp9; refine neN ?_; omega))



theorem sorted_eq {hs rs ns ms : List Int} (hp : hs.Perm rs) (p1 : ns.Perm hs) (p2 : ms.Perm rs) (w1 : ns.Pairwise (· ≤ ·)) (w2 : ms.Pairwise (· ≤ ·)) : ns = ms :=
  List.Perm.eq_of_pairwise (le := fun a b : Int => a ≤ b) (fun _ _ _ _ h1 h2 => Int.le_antisymm h1 h2) w1 w2 ((p1.trans hp).trans p2.symm)
section
variable {prog : Program} {w : World} {A : Around} {E : Value → Shared → Prop} {s : Shared} {h₀ : Heap} {L D1 D2 : Addr} {news : List (Addr × Obj)} {vs us : List Value} {ns ms : List Int} {n n2 : Nat} {m : Str → Option Value} {Q : Value → Shared → Prop}
theorem same_g (N : News h₀ L s.heap news) (hm : (D1, W.listOf vs.toArray n) ∈ news) (hi : IntsAre vs ns) (hm2 : (D2, W.listOf us.toArray n2) ∈ news) (hi2 : IntsAre us ms) (he : ns = ms) (hu : A.units + 64 < cLine)
    (h : Q (.bool false) s) : wpAny (model prog w) A (compareOp .NotEq (.ref D1) (.ref D2)) Q E s := by
  refine ne_g N hm hi hm2 hi2 hu ?_
  rw [he, decide_eq_true rfl]
  exact h
theorem sorted_g (F : Fr h₀ L s.heap m) (N : News h₀ L s.heap news) (hm : (D1, W.listOf vs.toArray n) ∈ news) (hi : IntsAre vs ns) (h64 : ns.length < 64)
    (h : ∀ D vs' ns' c h', Fr h₀ L h' m → News h₀ L h' ((D, PySem.W.listOf vs'.toArray c) :: news) → (∀ q ∈ news, q.1 < D) → IntsAre vs' ns' → ns'.Perm ns → ns'.Pairwise (· ≤ ·) → Q (.ref D) { s with heap := h' }) :
    wpAny (model prog w) A (call (.builtin "sorted") [.ref D1]) Q E s :=
  kso_sorted F N (PySem.IsL.isList (n := n) (N _ hm).1) hi h64 fun D vs' ns' c h' F' N' l hi' _ p pw _ => h D vs' ns' c h' F' N' l hi' p pw
end
noncomputable def NeOk (prog : Program) (w : World) (tv dv : Value) : Prop := ∀ (A : Around) (E Q : Value → Shared → Prop) s, Q (.bool false) s → wpAny (model prog w) A (compareOp .NotEq tv dv) Q E s
theorem neOk {prog : Program} {w : World} {tv dv : Value} (h : Same tv dv) : NeOk prog w tv dv := by
  intro A E Q s hq
  rcases h with ⟨k, t, u, rfl, rfl⟩ | ⟨rfl, rfl⟩ | ⟨t, u, rfl, rfl⟩
  · exact ne_int (by simpa using hq)
  · (repeat' (first | (k_unfold; (try dsimp only)) | ((fail_if_success (with_reducible show wpAny _ _ (PySem.exec (PySem.Stmt.While _ _ _ _) _) _ _ _)); (fail_if_success (with_reducible show KswEnd _ _ _ _ _ _ _ _ _ _ _ _)); (fail_if_success (with_reducible show wpAny _ _ (pyIter (Value.ref _)) (fun it s₂ => LoopAtV _ _ _ _ _ _ _ _ _ it s₂) _ _)); (fail_if_success (with_reducible show TurnEnd _ _ _ _ _ _ _)); (fail_if_success (with_reducible show wpAny _ _ (PySem.eval (PySem.Expr.ListComp _ _ _ _) _) _ _ _)); (fail_if_success (with_reducible show wpAny _ _ (PySem.eval (PySem.Expr.Call (PySem.Expr.Name (PySem.Str.ofString "_law_told") _) _ _ _) _) _ _ _)); (fail_if_success (with_reducible show wpAny _ _ (PySem.call (Value.ref _) _ _) _ _ _)); first | walk1 | (dsimp only; walk1))))
    exact hq
  · (repeat' (first | (k_unfold; (try dsimp only)) | ((fail_if_success (with_reducible show wpAny _ _ (PySem.exec (PySem.Stmt.While _ _ _ _) _) _ _ _)); (fail_if_success (with_reducible show KswEnd _ _ _ _ _ _ _ _ _ _ _ _)); (fail_if_success (with_reducible show wpAny _ _ (pyIter (Value.ref _)) (fun it s₂ => LoopAtV _ _ _ _ _ _ _ _ _ it s₂) _ _)); (fail_if_success (with_reducible show TurnEnd _ _ _ _ _ _ _)); (fail_if_success (with_reducible show wpAny _ _ (PySem.eval (PySem.Expr.ListComp _ _ _ _) _) _ _ _)); (fail_if_success (with_reducible show wpAny _ _ (PySem.eval (PySem.Expr.Call (PySem.Expr.Name (PySem.Str.ofString "_law_told") _) _ _ _) _) _ _ _)); (fail_if_success (with_reducible show wpAny _ _ (PySem.call (Value.ref _) _ _) _ _ _)); first | walk1 | (dsimp only; walk1))))
    rwa [show (Str.ofString "bare" != Str.ofString "bare") = false from by simp]
local macro_rules | `(tactic| walk_at "call builtin:sorted") => `(tactic| (k_here; (with_reducible show wpAny _ _ (call (Value.builtin _) [Value.ref _]) _ _ _); (k_dflt (refine' sorted_g ?k1 ?k2 ?k3 ?k4 ?k5 ?_; (case k1 => k_asm); (case k2 => k_asm); (case k3 => k_mem); (case k4 => with_reducible assumption); (case k5 => omega); k_whole)); intro D' vs' ns' c' h' F' N' l1 hI' p' w'; (try k_sweep)))
local macro_rules | `(tactic| walk_at "compareOp NotEq ref ref") => `(tactic| (k_here; (with_reducible show wpAny _ _ (compareOp CmpOp.NotEq (Value.ref _) (Value.ref _)) _ _ _); k_dflt (refine' same_g ?k1 ?k2 ?k3 ?k4 ?k5 ?k7 ?k6 ?_; (case k1 => k_asm); (case k2 => k_mem); (case k3 => first | exact .nil | assumption); (case k4 => k_mem); (case k5 => first | exact .nil | assumption); (case k7 => first | rfl | exact sorted_eq (by assumption) (by assumption) (by assumption) (by assumption) (by assumption)); (case k6 => units_room); k_whole)))
theorem chk_ok {w : World} {s : Shared} {E : Value → Shared → Prop} {mg mb : Str → Option Value} {p : Program} {loose : List Str} {mean : ExcName → Option Value} {h₀ : Heap} {L fa sl a r I : Addr} {o : Obj} {vs us : List Value} {hs rs : List Int} {n1 n2 : Nat} {ov oh orr : Obj} {ps : Array Value} {codes : List (Addr × Obj)} {u : Str → Option Value} {i : Nat} {tv dv : Value}
    (B : Below callerA h₀ [] h₀) (X : (hd.heap_1 w.params).In h₀) (T : Top p loose mean mg mb h₀) (C : CodeHd h₀ 121 119)
    (LF : LawFacts L a r vs us hs rs ov oh orr ps codes) (hperm : hs.Perm rs) (hri : rs.length ≤ i + 1) (hi63 : i < 63) (hS : Same tv dv)
    (F : Fr h₀ L s.heap (fun y => if y = Str.ofString "told" then some tv else if y = Str.ofString "due" then some dv else if y = Str.ofString "script" then some (.ref sl) else u y)) (N : News h₀ L s.heap ((I, o) :: lawLed L a r vs us n1 n2 ov oh orr ps codes))
    (hIo : ∀ p ∈ lawLed L a r vs us n1 n2 ov oh orr ps codes, p.1 ≠ I) :
    wpAny (model PG w) (callerA.deeper (lawEnv L fa)) (exec chkStmt (lawEnv L fa)) (fun f s' => f = .next ∧ Mid h₀ L sl I o i s s') E s := by
  have LF' := LF
  obtain ⟨oh_, or_, ov_, hi_, ri_, ok, la, lr, ne, l0, tab, off⟩ := LF
  have hIo' := hIo
  have hlr := ri_.length
  have hlh := hi_.length
  have hpl := hperm.length_eq
  have T5 := topRead_of T
  have hne := neOk (prog := PG) (w := w) hS
  conv in (occs := *) chkStmt => all_goals whnf
  dsimp only [lawEnv, lawMap, lawLed] at F N ⊢
  conv in (occs := *) lawParts.2 => all_goals whnf
  (all_goals try k_fold)
  (repeat' (first | (k_unfold; (try dsimp only)) | ((fail_if_success (with_reducible show wpAny _ _ (PySem.exec (PySem.Stmt.While _ _ _ _) _) _ _ _)); (fail_if_success (with_reducible show KswEnd _ _ _ _ _ _ _ _ _ _ _ _)); (fail_if_success (with_reducible show wpAny _ _ (pyIter (Value.ref _)) (fun it s₂ => LoopAtV _ _ _ _ _ _ _ _ _ it s₂) _ _)); (fail_if_success (with_reducible show TurnEnd _ _ _ _ _ _ _)); (fail_if_success (with_reducible show wpAny _ _ (PySem.eval (PySem.Expr.ListComp _ _ _ _) _) _ _ _)); (fail_if_success (with_reducible show wpAny _ _ (PySem.eval (PySem.Expr.Call (PySem.Expr.Name (PySem.Str.ofString "_law_told") _) _ _ _) _) _ _ _)); (fail_if_success (with_reducible show wpAny _ _ (PySem.call (Value.ref _) _ _) _ _ _)); first | walk1 | (dsimp only; walk1))))
  refine hne _ _ _ _ ?_
  (repeat' (first | (k_unfold; (try dsimp only)) | ((fail_if_success (with_reducible show wpAny _ _ (PySem.exec (PySem.Stmt.While _ _ _ _) _) _ _ _)); (fail_if_success (with_reducible show KswEnd _ _ _ _ _ _ _ _ _ _ _ _)); (fail_if_success (with_reducible show wpAny _ _ (pyIter (Value.ref _)) (fun it s₂ => LoopAtV _ _ _ _ _ _ _ _ _ it s₂) _ _)); (fail_if_success (with_reducible show TurnEnd _ _ _ _ _ _ _)); (fail_if_success (with_reducible show wpAny _ _ (PySem.eval (PySem.Expr.ListComp _ _ _ _) _) _ _ _)); (fail_if_success (with_reducible show wpAny _ _ (PySem.eval (PySem.Expr.Call (PySem.Expr.Name (PySem.Str.ofString "_law_told") _) _ _ _) _) _ _ _)); (fail_if_success (with_reducible show wpAny _ _ (PySem.call (Value.ref _) _ _) _ _ _)); first | walk1 | (dsimp only; walk1))))
  · rename Fr _ _ _ _ => F8
    rename News _ _ _ _ => N8
    have N8r := newsTake (led2 := (a, W.listOf vs.toArray n1) :: (L + 1 + 1, oh) :: (I, o) :: (r, W.listOf us.toArray n2) :: (L + 1 + 1 + 1, ov) :: (L + 1, orr) :: (119, tabObj ps) :: codes) N8 (by ((repeat' (refine List.forall_mem_cons.mpr ⟨?_, ?_⟩)) <;> first | (focus (k_mem; done)) | (intro q hq; (repeat (first | exact hq | apply List.mem_cons_of_mem)))))
    refine chk_comp X T oh_ hi_ ok (by omega) F8 N8r ?_
    intro D7 h7 tk7 F7 N7 ne7
    clear F8 N8 N8r
    (repeat' (first | (k_unfold; (try dsimp only)) | ((fail_if_success (with_reducible show wpAny _ _ (PySem.exec (PySem.Stmt.While _ _ _ _) _) _ _ _)); (fail_if_success (with_reducible show KswEnd _ _ _ _ _ _ _ _ _ _ _ _)); (fail_if_success (with_reducible show wpAny _ _ (pyIter (Value.ref _)) (fun it s₂ => LoopAtV _ _ _ _ _ _ _ _ _ it s₂) _ _)); (fail_if_success (with_reducible show TurnEnd _ _ _ _ _ _ _)); (fail_if_success (with_reducible show wpAny _ _ (PySem.eval (PySem.Expr.ListComp _ _ _ _) _) _ _ _)); (fail_if_success (with_reducible show wpAny _ _ (PySem.eval (PySem.Expr.Call (PySem.Expr.Name (PySem.Str.ofString "_law_told") _) _ _ _) _) _ _ _)); (fail_if_success (with_reducible show wpAny _ _ (PySem.call (Value.ref _) _ _) _ _ _)); first | walk1 | (dsimp only; walk1))))
    rename Fr _ _ _ _ => F8
    rename News _ _ _ _ => N8
    exact ⟨_, _, a, r, vs, us, hs, rs, n1, n2, ov, oh, orr, ps, codes, u, tv, dv, rfl, F8, newsTake N8 (by ((repeat' (refine List.forall_mem_cons.mpr ⟨?_, ?_⟩)) <;> first | (focus (k_mem; done)) | (intro q hq; (repeat (first | exact hq | apply List.mem_cons_of_mem))))), LF', hperm, hri, hS, hIo'⟩
  · exact absurd (sorted_eq hperm (by assumption) (by assumption) (by assumption) (by assumption)) (by assumption)
  · exact absurd (sorted_eq hperm (by assumption) (by assumption) (by assumption) (by assumption)) (by assumption)
end Mine

-- B17
namespace Mine
local macro_rules | `(tactic| walk_at "TurnPost") => `(tactic| dsimp only [TurnPost])
local macro_rules | `(tactic| k_ne) => `(tactic| first | assumption | (refine Ne.symm ?_; assumption))
local macro_rules | `(tactic| k_all) => `(tactic| first | exact List.forall_mem_nil _ | (refine' List.forall_mem_cons.mpr ⟨?a, ?b⟩; (case a => k_ne); (case b => k_all)) | ((with_reducible rename OffC _ _ _ _ => hofc); intro p9 hp9; have hq9 := hofc p9 hp9; refine neN ?_; omega) | assumption)



noncomputable def pre0 : Stmt := turnStmts.getD 0 nopS
noncomputable def pre1 : Stmt := turnStmts.getD 1 nopS
theorem turn_eq : turnStmts = [pre0, pre1, midStmt, chkStmt] := rfl
/-- the first loop's invariant -/
noncomputable def LJ (L sl : Addr) (i : Nat) (m : Str → Option Value) (nx : List (Addr × Obj)) : Prop := ∃ (a r : Addr) (vs us : List Value) (hs rs : List Int) (n1 n2 : Nat) (ov oh orr : Obj) (ps : Array Value) (codes : List (Addr × Obj)) (u : Str → Option Value),
  m = (fun y => if y = Str.ofString "script" then some (.ref sl) else u y) ∧ nx = lawLed L a r vs us n1 n2 ov oh orr ps codes ∧ LawFacts L a r vs us hs rs ov oh orr ps codes ∧ hs.Perm rs ∧ rs.length ≤ i
theorem fr3 {h₀ h : Heap} {L : Addr} {m : Str → Option Value} {x y z : Str} {a b c : Value} (F : Fr h₀ L h m) (h1 : m x = some a) (h2 : m y = some b) (h3 : m z = some c) : Fr h₀ L h (fun v => if v = x then some a else if v = y then some b else if v = z then some c else m v) := by
  have e : m = (fun v => if v = x then some a else if v = y then some b else if v = z then some c else m v) := by
    funext v
    split
    · next e => rw [e, h1]
    · split
      · next e => rw [e, h2]
      · split
        · next e => rw [e, h3]
        · rfl
  rw [← e]
  exact F
theorem turn_ok {w : World} {s : Shared} {E : Value → Shared → Prop} {Q : Flow → Shared → Prop} {mg mb : Str → Option Value} {p : Program} {loose : List Str} {mean : ExcName → Option Value} {h₀ : Heap} {L fa sl I : Addr} {o : Obj} {svs : List Value} {ns : List Int} {m₁ : Str → Option Value} {nx : List (Addr × Obj)} {i : Nat} {t : Tok}
    (B : Below callerA h₀ [] h₀) (X : (hd.heap_1 w.params).In h₀) (T : Top p loose mean mg mb h₀) (C : CodeHd h₀ 121 119) (hsl : h₀.IsList sl svs.toArray) (hI : IntsAre svs ns) (hns : ns.length ≤ 63) (hi : i < ns.length)
    (J : LJ L sl i m₁ nx) (hIo : ∀ p ∈ nx, p.1 ≠ I)
    (F : Fr h₀ L s.heap (fun y => if y = Str.ofString "k" then some (.int (i : Nat) t) else m₁ y)) (N : News h₀ L s.heap ((I, o) :: nx)) :
    wpAny (model PG w) (callerA.deeper (lawEnv L fa)) (execs turnStmts (lawEnv L fa)) (TurnPost h₀ L I o (LJ L sl (i + 1)) s Q) E s := by
  obtain ⟨a, r, vs, us, hs, rs, n1, n2, ov, oh, orr, ps, codes, u, rfl, rfl, LF, hperm, hri⟩ := J
  have LF' := LF
  have hIo' := hIo
  obtain ⟨oh_, or_, ⟨v0, ov_⟩, hi_, ri_, ok, la, lr, ne, l0, tab, off⟩ := LF
  have la1 : @Ne Nat a (L + 1 + 1 + 1) := la.1
  have la2 : @Ne Nat a (L + 1 + 1) := la.2.1
  have la3 : @Ne Nat a (L + 1) := la.2.2.1
  have la4 : @Ne Nat a 119 := la.2.2.2
  have n1_ : @Ne Nat r I := hIo _ (.head _)
  have n2_ : @Ne Nat a I := hIo _ (.tail _ (.head _))
  have n3_ : @Ne Nat (L + 1 + 1 + 1) I := hIo _ (.tail _ (.tail _ (.head _)))
  have n4_ : @Ne Nat (L + 1 + 1) I := hIo _ (.tail _ (.tail _ (.tail _ (.head _))))
  have n5_ : @Ne Nat (L + 1) I := hIo _ (.tail _ (.tail _ (.tail _ (.tail _ (.head _)))))
  have n6_ : @Ne Nat 119 I := hIo _ (.tail _ (.tail _ (.tail _ (.tail _ (.tail _ (.head _))))))
  have hcI : ∀ p ∈ codes, @Ne Nat p.1 I := fun p hp => hIo p (.tail _ (.tail _ (.tail _ (.tail _ (.tail _ (.tail _ hp))))))
  rw [turn_eq]
  conv in (occs := *) pre0 => all_goals whnf
  conv in (occs := *) pre1 => all_goals whnf
  dsimp only [lawEnv, lawMap, lawLed] at F N ⊢
  conv in (occs := *) lawParts.2 => all_goals whnf
  (all_goals try k_fold)
  refine post_gen fun P hP => ?_
  (repeat' (first | (k_unfold; (try dsimp only)) | ((fail_if_success (with_reducible show wpAny _ _ (PySem.exec (PySem.Stmt.While _ _ _ _) _) _ _ _)); (fail_if_success (with_reducible show KswEnd _ _ _ _ _ _ _ _ _ _ _ _)); (fail_if_success (with_reducible show wpAny _ _ (pyIter (Value.ref _)) (fun it s₂ => LoopAtV _ _ _ _ _ _ _ _ _ it s₂) _ _)); (fail_if_success (with_reducible show TurnEnd _ _ _ _ _ _ _)); (fail_if_success (with_reducible show wpAny _ _ (PySem.eval (PySem.Expr.ListComp _ _ _ _) _) _ _ _)); (fail_if_success (with_reducible show wpAny _ _ (PySem.eval (PySem.Expr.Call (PySem.Expr.Name (PySem.Str.ofString "_law_told") _) _ _ _) _) _ _ _)); (fail_if_success (with_reducible show wpAny _ _ (PySem.call (Value.ref _) _ _) _ _ _)); (fail_if_success (with_reducible show wpAny _ _ (PySem.execs (midStmt :: _) _) _ _ _)); first | walk1 | (dsimp only; walk1))))
  rename Fr _ _ _ _ => F9
  rename News _ _ _ _ => N9
  rename _ = Data.cell _ => d9
  rename _ ∧ _ => l9
  rename_i ta tb D9 _ _ _ _ o9 _
  have hlt := allLt_mem (l := (I, o) :: lawLed L a r vs us n1 n2 o9 oh orr ps codes) (d := D9) l9
  refine wpAny_execs_cons (wpAny_mono (mid_ok (tk := 0) (i := i) (I := I) (o := o) (sl := sl) B X T C ⟨oh_, or_, ⟨_, d9⟩, hi_, ri_, ok, la, lr, ne, l0, tab, off⟩ hperm hri (by omega) d9 (fr3 F9 rfl rfl rfl) N9 (by (refine List.forall_mem_cons.mpr ⟨?_, List.forall_mem_cons.mpr ⟨?_, List.forall_mem_cons.mpr ⟨?_, List.forall_mem_cons.mpr ⟨?_, List.forall_mem_cons.mpr ⟨?_, List.forall_mem_cons.mpr ⟨?_, hcI⟩⟩⟩⟩⟩⟩ <;> (dsimp only; refine neN ?_; omega))) (fun p hp => Nat.ne_of_lt (hlt p (.tail _ hp))) (Nat.ne_of_lt (hlt _ (.head _)))) (fun f s' hf => ?_) fun _ _ e => e)
  obtain ⟨rfl, h4, tk4, a4, r4, vs4, us4, hs4, rs4, m4, k4, ov4, oh4, orr4, ps4, codes4, u4, tv4, dv4, rfl, F4, N4, LF4, hp4, hr4, hS4, hI4⟩ := hf
  refine wpAny_execs_cons (wpAny_mono (chk_ok (i := i) B X T C LF4 hp4 hr4 (by omega) hS4 F4 N4 hI4) (fun f s' hf => ?_) fun _ _ e => e)
  obtain ⟨rfl, h5, tk5, a5, r5, vs5, us5, hs5, rs5, m5, k5, ov5, oh5, orr5, ps5, codes5, u5, tv5, dv5, rfl, F5, N5, LF5, hp5, hr5, hS5, hI5⟩ := hf
  subst hP
  refine wpAny_pure ⟨h5, tk5, _, _, rfl, F5, N5, hI5, a5, r5, vs5, us5, hs5, rs5, m5, k5, ov5, oh5, orr5, ps5, codes5, (fun y => if y = Str.ofString "told" then some tv5 else if y = Str.ofString "due" then some dv5 else u5 y), ?_, rfl, LF5, hp5, hr5⟩
  funext y
  by_cases e : y = Str.ofString "script"
  · subst e; rfl
  · simp only [if_neg e]
end Mine

-- B18
namespace Mine
theorem tabOk_nil {codes : List (Addr × Obj)} : TabOk #[] codes := ⟨by trivial, by intro pos v h; cases h⟩
theorem first_ok {w : World} {s : Shared} {E : Value → Shared → Prop} {Q : Flow → Shared → Prop} {mg mb : Str → Option Value} {p : Program} {loose : List Str} {mean : ExcName → Option Value} {h₀ : Heap} {L fa sl rg a r : Addr} {svs : List Value} {ns : List Int} {m₀ : Str → Option Value} {ov oh orr : Obj} {n1 n2 : Nat} {t u v : Tok}
    (B : Below callerA h₀ [] h₀) (X : (hd.heap_1 w.params).In h₀) (T : Top p loose mean mg mb h₀) (C : CodeHd h₀ 121 119) (hsl : h₀.IsList sl svs.toArray) (hI : IntsAre svs ns) (hns : ns.length ≤ 63)
    (hm : m₀ (Str.ofString "script") = some (.ref sl)) (oh_ : oh.data = .cell (some (.ref a))) (or_ : orr.data = .cell (some (.ref r))) (ov_ : ∃ v, ov.data = .cell v) (l0 : @LT.lt Nat _ 119 L)
    (la : @LT.lt Nat _ (L + 1 + 1 + 1) a) (lr : @LT.lt Nat _ a r)
    (F : Fr h₀ L s.heap m₀) (N : News h₀ L s.heap [(r, W.listOf ([] : List Value).toArray n2), (a, W.listOf ([] : List Value).toArray n1), (L + 1 + 1 + 1, ov), (L + 1 + 1, oh), (L + 1, orr), (119, tabObj #[])])
    (hr : IsRange s.heap rg 0 (ns.length : Int) 1 t u v)
    (done : ∀ m nx h tk, LJ L sl ns.length m nx → Fr h₀ L h m → News h₀ L h nx → Q .next { s with heap := h, toks := tk }) :
    wpAny (model PG w) (callerA.deeper (lawEnv L fa)) (pyIter (.ref rg)) (fun it s₂ => LoopAtV PG w (callerA.deeper (lawEnv L fa)) h₀ (lawEnv L fa) (Str.ofString "k") turnStmts Q E it s₂) E s := by
  refine iter_range_g (env := lawEnv L fa) (n := ns.length) (LJ L sl) rfl hr (by omega) F N ?_ ?_ done
  · refine ⟨a, r, [], [], [], [], n1, n2, ov, oh, orr, #[], [], m₀, ?_, rfl, ⟨oh_, or_, ov_, .nil, .nil, ?_, ⟨?_, ?_, ?_, ?_⟩, ?_, ?_, l0, tabOk_nil, ?_⟩, .nil, Nat.zero_le _⟩
    · exact fr_pick hm
    · intro j _ h; exact absurd h (Nat.not_lt_zero _)
    · omega
    · omega
    · omega
    · omega
    · omega
    · omega
    · intro p hp; cases hp
  · intro i t m₁ nx h tk I o hi J hoff _ F N
    exact turn_ok B X T C hsl hI hns hi J hoff F N
end Mine

-- S1
namespace Mine
section
variable {α β : Type}
noncomputable def Sat (lt : Nat → Nat → Bool) (N : Nat) (P : α → Prop) : KasT α → Prop
  | .ret a => P a
  | .ask i j k => i < N ∧ j < N ∧ Sat lt N P (k (lt i j))
theorem Sat.bind {lt : Nat → Nat → Bool} {N : Nat} {P : β → Prop} {f : α → KasT β} : ∀ {t : KasT α}, Sat lt N (fun a => Sat lt N P (f a)) t → Sat lt N P (t.bind f)
  | .ret _, h => h
  | .ask _ _ _, h => ⟨h.1, h.2.1, Sat.bind h.2.2⟩
theorem Sat.mono {lt : Nat → Nat → Bool} {N : Nat} {P P' : α → Prop} (hp : ∀ a, P a → P' a) : ∀ {t : KasT α}, Sat lt N P t → Sat lt N P' t
  | .ret a, h => hp a h
  | .ask _ _ _, h => ⟨h.1, h.2.1, Sat.mono hp h.2.2⟩
theorem Sat.wp {lt : Nat → Nat → Bool} {N : Nat} {P : α → Prop} {cmp : Nat → Nat → (Bool → Shared → Prop) → Shared → Prop} {Q : α → Shared → Prop} {s : Shared} (hc : ∀ i j C, i < N → j < N → C (lt i j) s → cmp i j C s) (hq : ∀ a, P a → Q a s) : ∀ {t : KasT α}, Sat lt N P t → t.kasWp cmp Q s
  | .ret a, h => hq a h
  | .ask i j k, h => hc i j _ h.1 h.2.1 (Sat.wp hc hq h.2.2)
end
structure Swo (lt : Nat → Nat → Bool) : Prop where
  irr : ∀ a, lt a a = false
  asy : ∀ a b, lt a b = true → lt b a = false
  neg : ∀ a b c, lt a b = false → lt b c = false → lt a c = false
section
variable {lt : Nat → Nat → Bool} (S : Swo lt) {N : Nat}
include S
theorem Swo.ll {a b c : Nat} (h1 : lt a b = true) (h2 : lt c b = false) : lt a c = true := by
  cases h : lt a c with
  | true => rfl
  | false => rw [S.neg a c b h h2] at h1; cases h1
theorem Swo.lr {a b c : Nat} (h1 : lt a b = true) (h2 : lt a c = false) : lt c b = true := by
  cases h : lt c b with
  | true => rfl
  | false => rw [S.neg a c b h2 h] at h1; cases h1
omit S in
noncomputable def Bf (lt : Nat → Nat → Bool) (i j : Nat) : Prop := lt j i = false ∧ (lt i j = false → i < j)
omit S in
theorem bf_lt {i j : Nat} (h : lt j i = false) (hij : i < j) : Bf lt i j := ⟨h, fun _ => hij⟩
theorem bf_strict {i j : Nat} (h : lt i j = true) : Bf lt i j := ⟨S.asy _ _ h, fun h2 => by rw [h] at h2; cases h2⟩
end
theorem agetD (p : Array Nat) (i : Nat) : p.getD i 0 = p.toList.getD i 0 := by
  cases p with | mk l => simp [List.getD_eq_getElem?_getD]
theorem at_mid {l r : List Nat} {i x : Nat} (h : l.length = i) : (l ++ x :: r).getD i 0 = x := by
  subst h; simp [List.getD_eq_getElem?_getD]
theorem at_left {l r : List Nat} {i : Nat} (h : i < l.length) : (l ++ r).getD i 0 = l.getD i 0 := by
  simp [List.getD_eq_getElem?_getD, List.getElem?_append_left h]
theorem rng_cons {m N : Nat} (h : m < N) : List.range' m (N - m) = m :: List.range' (m + 1) (N - (m + 1)) := by
  obtain ⟨k, rfl⟩ := Nat.exists_eq_add_of_lt h
  rw [Nat.add_assoc, Nat.add_sub_cancel_left, ← Nat.add_assoc, Nat.add_right_comm, Nat.add_sub_cancel_left, List.range'_succ]
theorem sub_step {f N m : Nat} (h : f + 1 = N - m) : f = N - (m + 1) := by rw [← Nat.sub_sub, ← h]; rfl
theorem lt_step {f N m : Nat} (h : f + 1 = N - m) : m < N := Nat.lt_of_sub_pos (by rw [← h]; exact Nat.succ_pos _)
theorem rev_ix {a b k : Nat} (h1 : a ≤ k) (h2 : k < a + b) : a + (a + b) - 1 - k - a = b - 1 - (k - a) := by
  obtain ⟨d, rfl⟩ := Nat.exists_eq_add_of_le h1
  rw [Nat.add_sub_cancel_left, Nat.sub_sub, Nat.sub_sub, Nat.sub_sub, show 1 + (a + d + a) = a + (a + (1 + d)) by omega, Nat.add_sub_add_left, Nat.add_sub_add_left]
theorem pred_ix {a k : Nat} (h : a < k) : k - a = k - 1 - a + 1 := by
  obtain ⟨d, rfl⟩ := Nat.exists_eq_add_of_lt h
  rw [Nat.add_sub_cancel, Nat.add_sub_cancel_left, Nat.add_assoc, Nat.add_sub_cancel_left]
theorem rev_seg {p : Array Nat} {A B C : List Nat} (h : p.toList = A ++ B ++ C) : (kas_rev p A.length (A.length + B.length)).toList = A ++ B.reverse ++ C := by
  have hs : p.size = A.length + B.length + C.length := by rw [← Array.length_toList, h]; simp; omega
  apply List.ext_getElem?
  intro k
  rw [Array.getElem?_toList]
  unfold kas_rev
  rw [getElem?_mirror_all (by omega)]
  have e : ∀ x, p[x]? = (A ++ B ++ C)[x]? := fun x => by rw [← h, Array.getElem?_toList]
  rw [e, e]
  split
  · next hk =>
    rw [List.getElem?_append_left (by simp; omega), List.getElem?_append_right (by omega), List.getElem?_append_left (by simp; omega), List.getElem?_append_right (by omega), List.getElem?_reverse (by omega)]
    congr 1
    exact rev_ix hk.1 hk.2
  · next hk =>
    by_cases h1 : k < A.length
    · rw [List.getElem?_append_left (by simp; omega), List.getElem?_append_left h1, List.getElem?_append_left (by simp; omega), List.getElem?_append_left h1]
    · rw [List.getElem?_append_right (by simp; omega), List.getElem?_append_right (by simp; omega)]
      simp
theorem bub_seg {p : Array Nat} {A B C : List Nat} {x' : Nat} (h : p.toList = A ++ B ++ x' :: C) : (bubble p (A.length + B.length) (A.length + B.length - A.length)).toList = A ++ x' :: B ++ C := by
  have hs : p.size = A.length + B.length + C.length + 1 := by rw [← Array.length_toList, h]; simp; omega
  apply List.ext_getElem?
  intro k
  rw [Array.getElem?_toList, getElem?_bubble (by omega) _ (by omega)]
  have e : ∀ x, p[x]? = (A ++ B ++ x' :: C)[x]? := fun x => by rw [← h, Array.getElem?_toList]
  rw [e, e, e]
  have e1 : A.length + B.length - (A.length + B.length - A.length) = A.length := by rw [Nat.add_sub_cancel_left, Nat.add_sub_cancel]
  rw [e1]
  clear e1
  by_cases h0 : k = A.length
  · rw [if_pos h0, List.getElem?_append_right (by simp), List.getElem?_append_left (by simp; omega), List.getElem?_append_right (by omega)]
    simp [h0]
  · rw [if_neg h0]
    by_cases h1 : A.length < k ∧ k ≤ A.length + B.length
    · rw [if_pos h1, List.getElem?_append_left (by simp; omega), List.getElem?_append_right (by omega), List.getElem?_append_left (by simp; omega), List.getElem?_append_right (by omega)]
      rw [pred_ix h1.1, List.getElem?_cons_succ]
    · rw [if_neg h1]
      by_cases h2 : k < A.length
      · rw [List.getElem?_append_left (by simp; omega), List.getElem?_append_left h2, List.getElem?_append_left (by simp; omega), List.getElem?_append_left h2]
      · rw [List.getElem?_append_right (by simp; omega), List.getElem?_append_right (by simp; omega)]
        rw [show k - (A ++ B).length = (k - (A ++ x' :: B).length) + 1 by simp; omega, List.getElem?_cons_succ]

/-- sorted, with index breaking ties -/
noncomputable def SL (lt : Nat → Nat → Bool) (l : List Nat) : Prop := l.Pairwise (Bf lt)
/-- the array is a sorted part, a permutation of 0..m, and then m, m+1, .. -/
noncomputable def Pfx (lt : Nat → Nat → Bool) (N : Nat) (p : Array Nat) (m : Nat) : Prop := ∃ l, p.toList = l ++ List.range' m (N - m) ∧ l.Perm (List.range m) ∧ SL lt l ∧ m ≤ N
section
variable {lt : Nat → Nat → Bool} (S : Swo lt) {N : Nat}
include S
theorem sl_snoc {l : List Nat} {m x : Nat} (h : SL lt (l ++ [x])) (hm : ∀ y ∈ l ++ [x], y < m) (hx : lt m x = false) : SL lt (l ++ [x] ++ [m]) := by
  refine List.pairwise_append.mpr ⟨h, List.pairwise_singleton _ _, fun a ha b hb => ?_⟩
  rw [List.mem_singleton.mp hb]
  refine bf_lt ?_ (hm a ha)
  rcases List.mem_append.mp ha with h1 | h1
  · have := (List.pairwise_append.mp h).2.2 a h1 x (by simp)
    exact S.neg m x a hx this.1
  · rw [List.mem_singleton.mp h1]; exact hx
theorem sat_asc {p : Array Nat} : ∀ (f m : Nat), f = N - m → 0 < m → Pfx lt N p m → Sat lt N (fun n => m ≤ n ∧ Pfx lt N p n ∧ (n < N → lt n (p.toList.getD (n - 1) 0) = true)) (kas_asc p f m)
  | 0, m, hf, h0, hP => ⟨Nat.le_refl _, hP, fun h => by omega⟩
  | f + 1, m, hf, h0, hP => by
    obtain ⟨l, e, hp, hs, hm⟩ := hP
    have hlen : l.length = m := by rw [hp.length_eq, List.length_range]
    have hmN : m < N := lt_step hf
    obtain ⟨l', x, rfl⟩ : ∃ l' x, l = l' ++ [x] := by
      rcases List.eq_nil_or_concat l with h | ⟨a, b, h⟩
      · subst h; simp at hlen; omega
      · exact ⟨a, b, by rw [h, List.concat_eq_append]⟩
    have hlt : ∀ y ∈ l' ++ [x], y < m := fun y hy => List.mem_range.mp (hp.mem_iff.mp hy)
    rw [rng_cons hmN] at e
    have e1 : p.getD m 0 = m := by rw [agetD, e, at_mid hlen]
    have e2 : p.toList.getD (m - 1) 0 = x := by
      rw [e, List.append_assoc, List.singleton_append]
      exact at_mid (Nat.eq_sub_of_add_eq (by simpa using hlen))
    have e3 : p.getD (m - 1) 0 = x := by rw [agetD, e2]
    have hx := hlt x (by simp)
    refine ⟨by rw [e1]; exact hmN, by rw [e3]; exact Nat.lt_trans hx hmN, ?_⟩
    rw [e1, e3]
    cases c : lt m x with
    | true =>
      refine ⟨Nat.le_refl _, ⟨l' ++ [x], by rw [rng_cons hmN]; exact e, hp, hs, hm⟩, fun _ => ?_⟩
      rw [e2]; exact c
    | false =>
      refine (sat_asc f (m + 1) (sub_step hf) (Nat.succ_pos _) ⟨l' ++ [x] ++ [m], ?_, ?_, sl_snoc S hs hlt c, hmN⟩).mono fun n hn => ⟨Nat.le_of_succ_le hn.1, hn.2⟩
      · rw [e]; simp
      · rw [List.range_succ]; exact hp.append_right _
theorem sat_place {p : Array Nat} {l C : List Nat} {k : Nat} (e : p.toList = l ++ k :: C) (hl : l.length = k) (hk : k < N) (hb : ∀ x ∈ l, x < N) : ∀ (f a b : Nat), b - a ≤ f → a ≤ b → b ≤ k → (∀ i, i < a → lt k (l.getD i 0) = false) → (∀ i, b ≤ i → i < k → lt k (l.getD i 0) = true) → SL lt l →
    Sat lt N (fun j => j ≤ k ∧ (∀ i, i < j → lt k (l.getD i 0) = false) ∧ (∀ i, j ≤ i → i < k → lt k (l.getD i 0) = true)) (kas_place p k f a b)
  | 0, a, b, hf, hab, hbk, h1, h2, hs => ⟨by omega, h1, fun i hi => h2 i (by omega)⟩
  | f + 1, a, b, hf, hab, hbk, h1, h2, hs => by
    show Sat lt N _ (if a ≥ b then _ else _)
    split
    · exact ⟨by omega, h1, fun i hi => h2 i (by omega)⟩
    · next hlt =>
      have hm : (a + b) / 2 < k := by omega
      have e1 : p.getD k 0 = k := by rw [agetD, e, at_mid hl]
      have e2 : p.getD ((a + b) / 2) 0 = l.getD ((a + b) / 2) 0 := by rw [agetD, e, at_left (by omega)]
      have srt : ∀ i j, i < j → j < k → lt (l.getD j 0) (l.getD i 0) = false := by
        intro i j hij hj
        have := (List.pairwise_iff_getElem.mp hs) i j (by omega) (by omega) hij
        have g1 : l.getD i 0 = l[i]'(by omega) := by simp [List.getD_eq_getElem?_getD, show i < l.length by omega]
        have g2 : l.getD j 0 = l[j]'(by omega) := by simp [List.getD_eq_getElem?_getD, show j < l.length by omega]
        rw [g1, g2]
        exact this.1
      refine ⟨by rw [e1]; exact hk, ?_, ?_⟩
      · rw [e2]
        refine hb _ ?_
        have g : l.getD ((a + b) / 2) 0 = l[(a + b) / 2]'(by omega) := by simp [List.getD_eq_getElem?_getD, show (a + b) / 2 < l.length by omega]
        rw [g]; exact List.getElem_mem _
      · rw [e1, e2]
        cases c : lt k (l.getD ((a + b) / 2) 0) with
        | true =>
          refine sat_place e hl hk hb f a ((a + b) / 2) (by omega) (by omega) (by omega) h1 (fun i hi hik => ?_) hs
          by_cases h : i = (a + b) / 2
          · rw [h]; exact c
          · exact S.ll c (srt _ _ (by omega) hik)
        | false =>
          refine sat_place e hl hk hb f ((a + b) / 2 + 1) b (by omega) (by omega) hbk (fun i hi => ?_) h2 hs
          by_cases h : i = (a + b) / 2
          · rw [h]; exact c
          · exact S.neg _ _ _ c (srt _ _ (by omega) hm)
theorem mem_getD {l : List Nat} {x : Nat} (h : x ∈ l) : ∃ i, i < l.length ∧ l.getD i 0 = x := by
  obtain ⟨i, hi, e⟩ := List.getElem_of_mem h
  exact ⟨i, hi, by simp [List.getD_eq_getElem?_getD, hi, e]⟩
omit S in
theorem mem_take' {l : List Nat} {j x : Nat} (h : x ∈ l.take j) : ∃ i, i < j ∧ i < l.length ∧ l.getD i 0 = x := by
  obtain ⟨i, hi, e⟩ := List.getElem_of_mem h
  rw [List.length_take] at hi
  refine ⟨i, by omega, by omega, ?_⟩
  rw [← e, List.getElem_take]
  simp [List.getD_eq_getElem?_getD, show i < l.length by omega]
omit S in
theorem mem_drop' {l : List Nat} {j x : Nat} (h : x ∈ l.drop j) : ∃ i, j ≤ i ∧ i < l.length ∧ l.getD i 0 = x := by
  obtain ⟨i, hi, e⟩ := List.getElem_of_mem h
  rw [List.length_drop] at hi
  refine ⟨j + i, by omega, by omega, ?_⟩
  rw [← e, List.getElem_drop]
  simp [List.getD_eq_getElem?_getD, show j + i < l.length by omega]
theorem sat_bin : ∀ (f k : Nat) (p : Array Nat), f = N - k → Pfx lt N p k → Sat lt N (fun p' => Pfx lt N p' N) (kas_bin f p k)
  | 0, k, p, hf, hP => by
    have : k = N := by exact Nat.le_antisymm hP.choose_spec.2.2.2 (Nat.le_of_sub_eq_zero hf.symm)
    subst this; exact hP
  | f + 1, k, p, hf, hP => by
    obtain ⟨l, e, hp, hs, hm⟩ := hP
    have hlen : l.length = k := by rw [hp.length_eq, List.length_range]
    have hk : k < N := lt_step hf
    have hlt : ∀ y ∈ l, y < k := fun y hy => List.mem_range.mp (hp.mem_iff.mp hy)
    rw [rng_cons hk] at e
    refine Sat.bind ((sat_place S e hlen hk (fun x hx => Nat.lt_trans (hlt x hx) hk) k 0 k (Nat.sub_le _ _) (Nat.zero_le _) (Nat.le_refl _) (fun i hi => absurd hi (Nat.not_lt_zero _)) (fun i hi hi2 => by omega) hs).mono ?_)
    rintro j ⟨hj, h1, h2⟩
    have eA : (l.take j).length = j := by rw [List.length_take]; exact Nat.min_eq_left (by rw [hlen]; exact hj)
    have eB : (l.take j).length + (l.drop j).length = k := by rw [← List.length_append, List.take_append_drop]; exact hlen
    have b := bub_seg (p := p) (A := l.take j) (B := l.drop j) (x' := k) (C := List.range' (k + 1) (N - (k + 1))) (by rw [List.take_append_drop]; exact e)
    rw [eB, eA] at b
    refine sat_bin f (k + 1) _ (sub_step hf) ⟨l.take j ++ k :: l.drop j, b, ?_, ?_, hk⟩
    · rw [List.range_succ]
      refine List.Perm.trans (List.perm_middle) ?_
      rw [List.take_append_drop]
      exact (hp.cons k).trans (List.perm_append_comm (l₁ := [k]))
    · have hs' : SL lt (l.take j ++ l.drop j) := by rw [List.take_append_drop]; exact hs
      obtain ⟨s1, s2, s3⟩ := List.pairwise_append.mp hs'
      refine List.pairwise_append.mpr ⟨s1, List.pairwise_cons.mpr ⟨fun b hb => ?_, s2⟩, fun a ha b hb => ?_⟩
      · obtain ⟨i, i1, i2, rfl⟩ := mem_drop' hb
        exact bf_strict S (h2 i i1 (by rw [← hlen]; exact i2))
      · rcases List.mem_cons.mp hb with rfl | hb
        · obtain ⟨i, i1, i2, rfl⟩ := mem_take' ha
          exact bf_lt (h1 i i1) (hlt _ (List.mem_of_mem_take ha))
        · exact s3 a ha b hb
omit S in
noncomputable def DI (lt : Nat → Nat → Bool) (N : Nat) (p : Array Nat) (n q : Nat) : Prop := ∃ pre eq, p.toList = (pre ++ eq) ++ List.range' n (N - n) ∧ (pre ++ eq).Perm (List.range n) ∧ eq.length = q + 1 ∧ SL lt pre.reverse ∧ SL lt eq ∧ (∀ x ∈ eq, ∀ y ∈ eq, lt x y = false) ∧ (∀ x ∈ pre, ∀ y ∈ eq, lt y x = true) ∧ n ≤ N
theorem sl_rev {pre eq : List Nat} (h1 : SL lt pre.reverse) (h2 : SL lt eq) (h3 : ∀ x ∈ pre, ∀ y ∈ eq, lt y x = true) : SL lt (pre ++ eq.reverse).reverse := by
  rw [List.reverse_append, List.reverse_reverse]
  exact List.pairwise_append.mpr ⟨h2, h1, fun a ha b hb => bf_strict S (h3 b (List.mem_reverse.mp hb) a ha)⟩
theorem sat_desc : ∀ (f n q : Nat) (p : Array Nat), f = N - n → DI lt N p n q → Sat lt N (fun r => DI lt N r.1 r.2.1 r.2.2) (kas_desc f p n q)
  | 0, n, q, p, hf, hD => hD
  | f + 1, n, q, p, hf, hD => by
    have hD' := hD
    obtain ⟨pre, eq, e, hp, hq, hs1, hs2, heq, hpe, hn⟩ := hD
    have hlen : (pre ++ eq).length = n := by rw [hp.length_eq, List.length_range]
    have hlen' : pre.length + eq.length = n := by rw [← hlen, List.length_append]
    have hnN : n < N := lt_step hf
    have hlt : ∀ y ∈ pre ++ eq, y < n := fun y hy => List.mem_range.mp (hp.mem_iff.mp hy)
    obtain ⟨eq', x, rfl⟩ : ∃ l' x, eq = l' ++ [x] := by
      rcases List.eq_nil_or_concat eq with h | ⟨a, b, h⟩
      · subst h; simp at hq
      · exact ⟨a, b, by rw [h, List.concat_eq_append]⟩
    have hxm : x ∈ eq' ++ [x] := by simp
    rw [rng_cons hnN] at e
    have e1 : p.getD n 0 = n := by rw [agetD, e, at_mid hlen]
    have e2 : p.getD (n - 1) 0 = x := by
      rw [agetD, e, show pre ++ (eq' ++ [x]) ++ n :: List.range' (n + 1) (N - (n + 1)) = (pre ++ eq') ++ x :: (n :: List.range' (n + 1) (N - (n + 1))) by simp]
      exact at_mid (Nat.eq_sub_of_add_eq (by simp at hlen'; rw [List.length_append]; exact hlen'))
    have hx := hlt x (by simp)
    refine ⟨by rw [e1]; exact hnN, by rw [e2]; exact Nat.lt_trans hx hnN, ?_⟩
    rw [e1, e2]
    cases c : lt n x with
    | true =>
      have key : ∀ p' : Array Nat, p'.toList = (pre ++ (eq' ++ [x]).reverse ++ [n]) ++ List.range' (n + 1) (N - (n + 1)) → DI lt N p' (n + 1) 0 := by
        intro p' e'
        refine ⟨pre ++ (eq' ++ [x]).reverse, [n], e', ?_, rfl, sl_rev S hs1 hs2 hpe, List.pairwise_singleton _ _, ?_, ?_, hnN⟩
        · rw [List.range_succ]
          exact ((List.Perm.append_left _ (List.reverse_perm _)).trans hp).append_right _
        · intro a ha b hb
          rw [List.mem_singleton.mp ha, List.mem_singleton.mp hb]; exact S.irr n
        · intro a ha b hb
          rw [List.mem_singleton.mp hb]
          rcases List.mem_append.mp ha with ha | ha
          · exact S.lr (hpe a ha x hxm) (S.asy _ _ c)
          · exact S.ll c (heq a (List.mem_reverse.mp ha) x hxm)
      show Sat lt N _ (if true = true then (if q > 0 then _ else _) else _)
      rw [if_pos rfl]
      split
      · refine sat_desc f (n + 1) 0 _ (sub_step hf) (key _ ?_)
        have r := rev_seg (p := p) (A := pre) (B := eq' ++ [x]) (C := n :: List.range' (n + 1) (N - (n + 1))) e
        rw [hlen', show pre.length = n - (q + 1) from Nat.eq_sub_of_add_eq (by rw [← hq]; exact hlen')] at r
        rw [r]; simp
      · refine sat_desc f (n + 1) 0 _ (sub_step hf) (key _ ?_)
        have : eq' = [] := List.length_eq_zero_iff.mp (by simp at hq; omega)
        subst this
        rw [e]; simp
    | false =>
      show Sat lt N _ (if false = true then _ else _)
      rw [if_neg (by simp)]
      refine ⟨by omega, hnN, ?_⟩
      cases d : lt x n with
      | true => exact hD'
      | false =>
        show Sat lt N _ (if false = true then _ else _)
        rw [if_neg (by simp)]
        refine sat_desc f (n + 1) (q + 1) p (sub_step hf) ⟨pre, (eq' ++ [x]) ++ [n], ?_, ?_, ?_, hs1, ?_, ?_, ?_, hnN⟩
        · rw [e]; simp
        · rw [List.range_succ, ← List.append_assoc]; exact hp.append_right _
        · rw [List.length_append, hq]; rfl
        · exact sl_snoc S hs2 (fun y hy => hlt y (List.mem_append_right _ hy)) c
        · intro a ha b hb
          rcases List.mem_append.mp ha with ha | ha <;> rcases List.mem_append.mp hb with hb | hb
          · exact heq a ha b hb
          · rw [List.mem_singleton.mp hb]; exact S.neg _ _ _ (heq a ha x hxm) d
          · rw [List.mem_singleton.mp ha]; exact S.neg _ _ _ c (heq x hxm b hb)
          · rw [List.mem_singleton.mp ha, List.mem_singleton.mp hb]; exact S.irr n
        · intro a ha b hb
          rcases List.mem_append.mp hb with hb | hb
          · exact hpe a ha b hb
          · rw [List.mem_singleton.mp hb]; exact S.lr (hpe a ha x hxm) d
theorem sat_tail3 {n : Nat} {p : Array Nat} {l : List Nat} (e : p.toList = l ++ List.range' n (N - n)) (hp : l.Perm (List.range n)) (hs : SL lt l.reverse) (h0 : 0 < n) (hn : n ≤ N) : Sat lt N (fun r => Pfx lt N r.2 r.1 ∧ 0 < r.1) (kas_tail3 n N p) := by
  have hlen : l.length = n := by rw [hp.length_eq, List.length_range]
  have r := rev_seg (p := p) (A := []) (B := l) (C := List.range' n (N - n)) (by rw [e]; rfl)
  simp only [List.length_nil, Nat.zero_add, List.nil_append] at r
  rw [hlen] at r
  refine Sat.bind ((sat_asc S (N - n) n rfl h0 ⟨l.reverse, r, (List.reverse_perm _).trans hp, hs, hn⟩).mono fun m hm => ⟨hm.2.1, by omega⟩)
theorem sat_descPart {n : Nat} {p : Array Nat} (hD : DI lt N p (n + 1) 0) : Sat lt N (fun r => Pfx lt N r.2 r.1 ∧ 0 < r.1) (kas_descPart n N p) := by
  refine Sat.bind ((sat_desc S _ _ _ _ rfl hD).mono ?_)
  rintro ⟨p', n', q⟩ ⟨pre, eq, e, hp, hq, hs1, hs2, heq, hpe, hn⟩
  dsimp only at e hp hq hn ⊢
  have hlen : (pre ++ eq).length = n' := by rw [hp.length_eq, List.length_range]
  rw [List.length_append] at hlen
  have hp' : (pre ++ eq.reverse).Perm (List.range n') := (List.Perm.append_left _ (List.reverse_perm _)).trans hp
  split
  · have r := rev_seg (p := p') (A := pre) (B := eq) (C := List.range' n' (N - n')) e
    rw [hlen, show pre.length = n' - (q + 1) from Nat.eq_sub_of_add_eq (by rw [← hq]; exact hlen)] at r
    exact sat_tail3 S r hp' (sl_rev S hs1 hs2 hpe) (by omega) hn
  · have : eq.reverse = eq := by
      match eq, hq with
      | [x], _ => rfl
      | [], h => simp at h
      | _ :: _ :: _, h => simp at h; omega
    rw [this] at hp'
    have hr := sl_rev S hs1 hs2 hpe
    rw [this] at hr
    exact sat_tail3 S e hp' hr (by omega) hn
theorem sat_count (h0 : 0 < N) : Sat lt N (fun r => Pfx lt N r.2 r.1 ∧ 0 < r.1) (kas_count N (List.toArray (List.range N))) := by
  have er : ∀ n, n ≤ N → List.range N = List.range n ++ List.range' n (N - n) := by
    intro n hn
    rw [List.range_eq_range', List.range_eq_range']
    have := List.range'_append_1 (s := 0) (m := n) (n := N - n)
    rw [Nat.zero_add, show n + (N - n) = N by omega] at this
    exact this.symm
  have start : Pfx lt N (List.toArray (List.range N)) 1 := ⟨[0], by rw [er 1 h0]; rfl, List.Perm.refl _, List.pairwise_singleton _ _, h0⟩
  refine Sat.bind ((sat_asc S (N - 1) 1 rfl (by decide) start).mono ?_)
  rintro n ⟨h1, ⟨l, e, hp, hs, hn⟩, hlast⟩
  have hlen : l.length = n := by rw [hp.length_eq, List.length_range]
  have el : l = List.range n := by
    have e' : List.range n ++ List.range' n (N - n) = l ++ List.range' n (N - n) := by rw [← e]; exact (er n hn).symm
    exact (List.append_cancel_right e').symm
  split
  · exact ⟨⟨l, e, hp, hs, hn⟩, by omega⟩
  · next hne =>
    have hnN : n < N := by
      have : n ≠ N := by intro h; apply hne; simp [h]
      omega
    have hl := hlast hnN
    subst el
    have gl : (List.toArray (List.range N)).toList.getD (n - 1) 0 = n - 1 := by simp [List.getD_eq_getElem?_getD, show n - 1 < N by omega]
    rw [gl] at hl
    have g0 : (List.toArray (List.range N)).getD 0 0 = 0 := by rw [agetD]; simp [List.getD_eq_getElem?_getD, h0]
    have g1 : (List.toArray (List.range N)).getD (n - 1) 0 = n - 1 := by rw [agetD, gl]
    have hbig : ∀ x ∈ List.range n, lt (n - 1) x = false := by
      intro x hx
      have hx' := List.mem_range.mp hx
      by_cases h : x = n - 1
      · rw [h]; exact S.irr _
      · have := (List.pairwise_iff_getElem.mp hs) x (n - 1) (by simp; omega) (by simp; omega) (by omega)
        simp only [List.getElem_range] at this
        exact this.1
    split
    · next h2 =>
      refine ⟨by rw [g0]; exact h0, by rw [g1]; omega, ?_⟩
      rw [g0, g1]
      cases c : lt 0 (n - 1) with
      | true => exact ⟨⟨List.range n, e, hp, hs, hn⟩, by omega⟩
      | false =>
        show Sat lt N _ (if false = true then _ else _)
        rw [if_neg (by simp)]
        have hsm : ∀ x ∈ List.range n, lt x 0 = false := by
          intro x hx
          have hx' := List.mem_range.mp hx
          by_cases h : x = 0
          · rw [h]; exact S.irr _
          · have := (List.pairwise_iff_getElem.mp hs) 0 x (by simp; omega) (by simp; omega) (by omega)
            simp only [List.getElem_range] at this
            exact this.1
        have r := rev_seg (p := List.toArray (List.range N)) (A := []) (B := List.range n) (C := List.range' n (N - n)) (by rw [List.nil_append]; exact e)
        simp only [List.length_nil, Nat.zero_add, List.nil_append, List.length_range] at r
        refine sat_descPart S ⟨(List.range n).reverse, [n], ?_, ?_, rfl, ?_, List.pairwise_singleton _ _, ?_, ?_, hnN⟩
        · rw [r, rng_cons hnN]; simp
        · rw [List.range_succ]; exact (List.reverse_perm _).append_right _
        · rw [List.reverse_reverse]; exact hs
        · intro a ha b hb
          rw [List.mem_singleton.mp ha, List.mem_singleton.mp hb]; exact S.irr n
        · intro a ha b hb
          rw [List.mem_singleton.mp hb]
          have ha' := List.mem_reverse.mp ha
          exact S.ll hl (S.neg _ _ _ (hsm a ha') c)
    · next h2 =>
      have : n = 1 := by omega
      subst this
      refine sat_descPart S ⟨[0], [1], ?_, ?_, rfl, List.pairwise_singleton _ _, List.pairwise_singleton _ _, ?_, ?_, hnN⟩
      · rw [e, rng_cons hnN]; rfl
      · exact List.Perm.refl _
      · intro a ha b hb
        rw [List.mem_singleton.mp ha, List.mem_singleton.mp hb]; exact S.irr 1
      · intro a ha b hb
        rw [List.mem_singleton.mp hb, List.mem_singleton.mp ha]; exact hl
theorem sat_sort (h0 : 0 < N) : Sat lt N (fun p => p.toList.Perm (List.range N) ∧ SL lt p.toList) (kas_sort N) := by
  refine Sat.bind ((sat_count S h0).mono ?_)
  rintro ⟨n, p⟩ ⟨hP, h1⟩
  have fin : ∀ p', Pfx lt N p' N → p'.toList.Perm (List.range N) ∧ SL lt p'.toList := by
    rintro p' ⟨l, e, hp, hs, hn⟩
    rw [Nat.sub_self, List.range'_zero, List.append_nil] at e
    rw [e]; exact ⟨hp, hs⟩
  dsimp only at hP h1 ⊢
  split
  · rw [Nat.max_eq_left h1]
    exact (sat_bin S _ _ _ rfl hP).mono fin
  · have : n = N := by have := hP.choose_spec.2.2.2; omega
    subst this
    exact fin _ hP
end
end Mine

-- S2
namespace Mine
/-- less, by the keys of the items -/
noncomputable def ltG (g : Int → Int) (ns : List Int) (i j : Nat) : Bool := decide (g (ns.getD i 0) < g (ns.getD j 0))
theorem swoG (g : Int → Int) (ns : List Int) : Swo (ltG g ns) where
  irr a := by simp [ltG]
  asy a b h := by simp only [ltG, decide_eq_true_eq, decide_eq_false_iff_not] at h ⊢; omega
  neg a b c h1 h2 := by simp only [ltG, decide_eq_false_iff_not] at h1 h2 ⊢; omega
/-- ms is ns, sorted by the key g, those alike in the order they came -/
noncomputable def Stab (g : Int → Int) (ns ms : List Int) : Prop := ∃ p : List Nat, p.Perm (List.range ns.length) ∧ SL (ltG g ns) p ∧ ms = p.map (fun i => ns.getD i 0)
theorem katRev_len {α : Type} (b : Bool) (l : List α) : (katRev b l).length = l.length := by
  cases b
  · rfl
  · exact List.length_reverse
theorem katRev_ints {b : Bool} {vs : List Value} {ns : List Int} (h : IntsAre vs ns) : IntsAre (katRev b vs) (katRev b ns) := by
  cases b
  · exact h
  · exact h.reverse
theorem katRev_map {α β : Type} (b : Bool) (f : α → β) (l : List α) : katRev b (l.map f) = (katRev b l).map f := by
  cases b
  · rfl
  · exact List.map_reverse.symm
theorem ints_getD {vs : List Value} {ns : List Int} (h : IntsAre vs ns) : ∀ i, i < ns.length → ∃ t, vs.getD i .none = .int (ns.getD i 0) t := by
  induction h with
  | nil => intro i hi; exact absurd hi (Nat.not_lt_zero _)
  | cons k t r ih =>
    intro i hi
    cases i with
    | zero => exact ⟨t, rfl⟩
    | succ i =>
      obtain ⟨t', e⟩ := ih i (by simpa using hi)
      exact ⟨t', by simpa using e⟩
theorem ints_pick {vs : List Value} {ns : List Int} (h : IntsAre vs ns) : ∀ (p : List Nat), (∀ i ∈ p, i < ns.length) → IntsAre (p.map fun i => vs.getD i .none) (p.map fun i => ns.getD i 0)
  | [], _ => .nil
  | i :: p, hp => by
    obtain ⟨t, e⟩ := ints_getD h i (hp i (.head _))
    rw [List.map_cons, List.map_cons, e]
    exact .cons _ _ (ints_pick h p fun j hj => hp j (.tail _ hj))
/-- the answer of the sort, with or without reverse, as one stable sort -/
theorem stab_rev {g : Int → Int} {b : Bool} {ns : List Int} {p : List Nat} (hp : p.Perm (List.range ns.length)) (hs : SL (ltG g (katRev b ns)) p) : Stab (fun x => if b then - g x else g x) ns (katRev b (p.map fun i => (katRev b ns).getD i 0)) := by
  cases b with
  | false => exact ⟨p, hp, hs, rfl⟩
  | true =>
    have hlt : ∀ i ∈ p, i < ns.length := fun i hi => List.mem_range.mp (hp.mem_iff.mp hi)
    have gr : ∀ i, i < ns.length → ns.reverse.getD i 0 = ns.getD (ns.length - 1 - i) 0 := by
      intro i hi
      rw [List.getD_eq_getElem?_getD, List.getD_eq_getElem?_getD, List.getElem?_reverse hi]
    refine ⟨(p.map fun i => ns.length - 1 - i).reverse, ?_, ?_, ?_⟩
    · refine (List.reverse_perm _).trans ((hp.map _).trans ?_)
      have : (List.range ns.length).map (fun i => ns.length - 1 - i) = (List.range ns.length).reverse := by
        apply List.ext_getElem
        · simp
        · intro i h1 h2
          simp at h1 h2 ⊢
      rw [this]
      exact List.reverse_perm _
    · unfold SL
      rw [List.pairwise_reverse, List.pairwise_map]
      refine List.Pairwise.imp_of_mem (fun {a c} ha hc h => ?_) hs
      have ha' := hlt a ha
      have hc' := hlt c hc
      obtain ⟨h1, h2⟩ := h
      simp only [ltG, katRev, if_true, gr a ha', gr c hc', decide_eq_false_iff_not] at h1 h2
      refine ⟨?_, ?_⟩
      · simp only [ltG, if_true, decide_eq_false_iff_not]; omega
      · simp only [ltG, if_true, decide_eq_false_iff_not]
        intro h3
        have := h2 (by omega)
        omega
    · show (p.map fun i => ns.reverse.getD i 0).reverse = _
      rw [List.map_reverse, List.map_map]
      congr 1
      exact List.map_congr_left fun i hi => gr i (hlt i hi)
section
variable {prog : Program} {w : World} {A : Around} {E : Value → Shared → Prop} {s : Shared} {h₀ : Heap} {L : Addr} {m : Str → Option Value} {news : List (Addr × Obj)}
theorem katKeys_ints {g : Int → Int} {kS D : Addr} {e1 : Nat} {f : Value} {ns₀ : List Int} {Fin : List Value → Nat → Shared → Prop} (hk0 : @Ne Nat D kS) (hkn : ∀ p ∈ news, @Ne Nat p.1 kS)
    (turn : ∀ (n : Int) (t : Tok) (h : Heap) (tk : Nat) (own : List (Addr × Obj)), n ∈ ns₀ → Fr h₀ L h m → News h₀ L h (news ++ own) →
      wpAny (model prog w) A (call f [.int n t]) (KskEnd h₀ L m (news ++ own) (g n) { s with heap := h, toks := tk }) (fun _ _ => False) { s with heap := h, toks := tk })
    (fin : ∀ ks e h tk, IntsAre ks (ns₀.map g) → Fr h₀ L h m → News h₀ L h ((kS, seqObj "list" (List.toArray ks) e) :: (D, seqObj "list" #[] e1) :: news) → Fin ks e { s with heap := h, toks := tk }) :
    ∀ (vs : List Value) (ns ns' : List Int) (ks : List Value) (e : Nat) (h : Heap) (tk : Nat), IntsAre vs ns → ns₀ = ns' ++ ns → IntsAre ks (ns'.map g) → Fr h₀ L h m → News h₀ L h ((kS, seqObj "list" (List.toArray ks) e) :: (D, seqObj "list" #[] e1) :: news) →
      KatKeys prog w A h₀ L m kS f Fin vs ks e { s with heap := h, toks := tk }
  | _, _, ns', ks, e, h, tk, .nil, hn, hk, F, N => KatKeys.nil (fin ks e h tk (by rw [hn, List.append_nil]; exact hk) F N)
  | _, _, ns', ks, e, h, tk, .cons (vs := vr) (ns := nr) n t r, hn, hk, F, N => by
    refine KatKeys.cons (wpAny_mono (turn n t h tk [(kS, seqObj "list" (List.toArray ks) e), (D, seqObj "list" #[] e1)] (by rw [hn]; simp) F (fun p hp => N p ?_)) (fun v s' hq => ?_) fun _ _ x => x)
    · rcases List.mem_append.mp hp with hp | hp
      · exact .tail _ (.tail _ hp)
      · rcases List.mem_cons.mp hp with rfl | hp
        · exact .head _
        · exact .tail _ (by rcases List.mem_cons.mp hp with rfl | hp; exact .head _; cases hp)
    · obtain ⟨h', tk', t', rfl, rfl, F', N'⟩ := hq
      have N2 : News h₀ L h' ((kS, seqObj "list" (List.toArray ks) e) :: (D, seqObj "list" #[] e1) :: news) := fun p hp => N' p (by
        rcases List.mem_cons.mp hp with rfl | hp
        · simp
        · rcases List.mem_cons.mp hp with rfl | hp
          · simp
          · exact List.mem_append_left _ hp)
      refine KatBack.intro F' N2 (.head ?_) fun h2 c F2 N3 => ?_
      · intro p hp
        rcases List.mem_cons.mp hp with rfl | hp
        · exact hk0
        · exact hkn p hp
      · exact katKeys_ints hk0 hkn turn fin vr nr (ns' ++ [n]) (ks ++ [.int (g n) t']) c h2 tk' r (by rw [hn]; simp) (by rw [List.map_append]; exact hk.append (.cons _ _ .nil)) F2 N3

theorem sortedK_g {l : Addr} {b : Bool} {f : Value} {kw : List (Str × Value)} {Q : Value → Shared → Prop} {vs : List Value} {ns : List Int} (g : Int → Int) (F : Fr h₀ L s.heap m) (N : News h₀ L s.heap news) (hl : s.heap.IsList l vs.toArray) (hi : IntsAre vs ns) (h2 : 2 ≤ ns.length) (h64 : ns.length < 64)
    (ha1 : argsOk "sorted" ⟨[.ref l], kw⟩) (ha2 : ∀ x, argsOk "list.sort" ⟨[.ref x], kw⟩) (ht : ∀ x, Builtin.«list.sort» ⟨[.ref x], kw⟩ = ksk_tree x f b)
    (turn : ∀ (n : Int) (t : Tok) (h : Heap) (tk : Nat) (own : List (Addr × Obj)), n ∈ ns → Fr h₀ L h m → News h₀ L h (news ++ own) →
      wpAny (model prog w) A.in1.in1 (call f [.int n t]) (KskEnd h₀ L m (news ++ own) (g n) { s with heap := h, toks := tk }) (fun _ _ => False) { s with heap := h, toks := tk })
    (done : ∀ D ws ms c h' tk, Fr h₀ L h' m → News h₀ L h' ((D, PySem.W.listOf (List.toArray ws) c) :: news) → (∀ q ∈ news, q.1 < D) → IntsAre ws ms → Stab (fun x => if b then - g x else g x) ns ms → Q (.ref D) { s with heap := h', toks := tk }) :
    wpAny (model prog w) A (call (.builtin "sorted") [.ref l] kw) Q E s := by
  have hlen := hi.length
  refine kat_sortedK F N hl (by omega) (by omega) ha1 ha2 ht fun D kS e1 h' F' N' hDk hlt => ?_
  have hDk' : @Ne Nat D kS := Nat.ne_of_lt hDk
  have hkn : ∀ p ∈ news, @Ne Nat p.1 kS := fun p hp => Nat.ne_of_lt (Nat.lt_trans (hlt p hp) hDk)
  refine katKeys_ints (g := g) (ns₀ := ns) (e1 := e1) hDk' hkn turn (fun ks e h3 tk3 hk F3 N3 => ?_) vs ns [] [] 0 h' s.toks hi rfl .nil F' N'
  have hkl := hk.length
  rw [List.length_map] at hkl
  rw [ksk_kind (kz := ns.map g) (by simpa using hk) (by simp; omega)]
  refine wpAny_pure ?_
  have hkr := katRev_ints (b := b) hk
  rw [katRev_map] at hkr
  rw [hlen]
  refine Sat.wp (lt := ltG g (katRev b ns)) (N := ns.length) (fun i j C hi' hj' hC => ?_) (fun p hP => ?_) (sat_sort (swoG g _) (by omega))
  · obtain ⟨t1, q1⟩ := ints_getD hkr i (by rw [List.length_map, katRev_len]; exact hi')
    obtain ⟨t2, q2⟩ := ints_getD hkr j (by rw [List.length_map, katRev_len]; exact hj')
    unfold kas_ask
    rw [q1, q2]
    refine kat_lt_int ?_
    have gm : ∀ k, k < ns.length → ((katRev b ns).map g).getD k 0 = g ((katRev b ns).getD k 0) := by
      intro k hk
      have : k < (katRev b ns).length := by rw [katRev_len]; exact hk
      simp [List.getD_eq_getElem?_getD, this]
    rw [gm i hi', gm j hj']
    exact hC
  · obtain ⟨hp, hs⟩ := hP
    refine KatFin.intro F3 N3 (.head ?_) fun h4 c F4 N4 => ?_
    · intro p hp
      rcases List.mem_cons.mp hp with rfl | hp
      · exact hDk'
      · exact hkn p hp
    · refine KasFin.intro F4 (fun p hp => N4 p (.tail _ hp)) (.head fun p hp => Nat.ne_of_lt (hlt p hp)) fun h5 c5 F5 N5 => ?_
      have hin : ∀ i ∈ p.toList, i < ns.length := fun i hi => List.mem_range.mp (hp.mem_iff.mp hi)
      exact done D _ _ c5 h5 tk3 F5 N5 hlt (katRev_ints (ints_pick (katRev_ints hi) p.toList (fun i hi' => by rw [katRev_len]; exact hin i hi'))) (stab_rev hp hs)
theorem stab_short {g : Int → Int} {ns ms : List Int} (h : ns.length < 2) (hp : ms.Perm ns) : Stab g ns ms := by
  match ns, h with
  | [], _ => exact ⟨[], .refl _, .nil, List.perm_nil.mp hp⟩
  | [x], _ => exact ⟨[0], .refl _, List.pairwise_singleton _ _, List.perm_singleton.mp hp⟩
  | _ :: _ :: _, h => simp at h; omega
theorem sortedKey_ok {l : Addr} {b : Bool} {f : Value} {kw : List (Str × Value)} {Q : Value → Shared → Prop} {vs : List Value} {ns : List Int} (g : Int → Int) (F : Fr h₀ L s.heap m) (N : News h₀ L s.heap news) (hl : s.heap.IsList l vs.toArray) (hi : IntsAre vs ns) (h64 : ns.length < 64)
    (ha1 : argsOk "sorted" ⟨[.ref l], kw⟩) (ha2 : ∀ x, argsOk "list.sort" ⟨[.ref x], kw⟩) (ht : ∀ x, Builtin.«list.sort» ⟨[.ref x], kw⟩ = ksk_tree x f b)
    (turn : ∀ (n : Int) (t : Tok) (h : Heap) (tk : Nat) (own : List (Addr × Obj)), n ∈ ns → Fr h₀ L h m → News h₀ L h (news ++ own) →
      wpAny (model prog w) A.in1.in1 (call f [.int n t]) (KskEnd h₀ L m (news ++ own) (g n) { s with heap := h, toks := tk }) (fun _ _ => False) { s with heap := h, toks := tk })
    (done : ∀ D ws ms c h' tk, Fr h₀ L h' m → News h₀ L h' ((D, PySem.W.listOf (List.toArray ws) c) :: news) → (∀ q ∈ news, q.1 < D) → IntsAre ws ms → Stab (fun x => if b then - g x else g x) ns ms → Q (.ref D) { s with heap := h', toks := tk }) :
    wpAny (model prog w) A (call (.builtin "sorted") [.ref l] kw) Q E s := by
  by_cases h2 : 2 ≤ ns.length
  · exact sortedK_g g F N hl hi h2 h64 ha1 ha2 ht turn done
  · exact ksk_letter g F N hl hi h64 ha1 ha2 ht turn fun D vs' ns' c h' tk F' N' l1 i' _ p' _ _ => done D vs' ns' c h' tk F' N' l1 i' (stab_short (by omega) p')
end
theorem bf_anti {lt : Nat → Nat → Bool} {a b : Nat} (h1 : Bf lt a b) (h2 : Bf lt b a) : a = b := by
  have e1 := h1.2 h2.1
  have e2 := h2.2 h1.1
  omega
theorem stab_unique {g : Int → Int} {ns ms ks : List Int} (h1 : Stab g ns ms) (h2 : Stab g ns ks) : ms = ks := by
  obtain ⟨p, hp, sp, rfl⟩ := h1
  obtain ⟨q, hq, sq, rfl⟩ := h2
  have : p = q := List.Perm.eq_of_pairwise (le := Bf (ltG g ns)) (fun _ _ _ _ => bf_anti) sp sq (hp.trans hq.symm)
  rw [this]
theorem stab_perm {g : Int → Int} {ns ms : List Int} (h : Stab g ns ms) : ms.Perm ns := by
  obtain ⟨p, hp, _, rfl⟩ := h
  refine (hp.map _).trans (List.Perm.of_eq ?_)
  apply List.ext_getElem
  · simp
  · intro i h1 h2
    simp [List.getD_eq_getElem?_getD, show i < ns.length from h2]
theorem stab_pair {g : Int → Int} {ns ms : List Int} (h : Stab g ns ms) : ms.Pairwise (fun x y => g x ≤ g y) := by
  obtain ⟨p, hp, hs, rfl⟩ := h
  rw [List.pairwise_map]
  refine hs.imp fun {a b} hab => ?_
  have := hab.1
  simp only [ltG, decide_eq_false_iff_not] at this
  omega
/-- without a key: any sorted permutation is the stable sort -/
theorem stab_plain {ns ms : List Int} (sg : Int) (hsg : sg = 1 ∨ sg = -1) (hp : ms.Perm ns) (hs : ms.Pairwise (fun x y => sg * x ≤ sg * y)) {ks : List Int} (hk : Stab (fun x => sg * x) ns ks) : ms = ks := by
  refine List.Perm.eq_of_pairwise (le := fun x y : Int => sg * x ≤ sg * y) (fun a b _ _ h1 h2 => ?_) hs (stab_pair hk) (hp.trans (stab_perm hk).symm)
  rcases hsg with rfl | rfl <;> omega
end Mine

-- S3
namespace Mine
theorem Sat.ex {α : Type} {lt : Nat → Nat → Bool} {N : Nat} {P : α → Prop} : ∀ {t : KasT α}, Sat lt N P t → ∃ a, P a
  | .ret a, h => ⟨a, h⟩
  | .ask _ _ _, h => Sat.ex h.2.2
theorem stab_ex (g : Int → Int) (ns : List Int) : ∃ ms, Stab g ns ms := by
  by_cases h : 0 < ns.length
  · obtain ⟨p, hp, hs⟩ := Sat.ex (sat_sort (swoG g ns) h)
    exact ⟨_, p.toList, hp, hs, rfl⟩
  · have : ns = [] := List.length_eq_zero_iff.mp (by omega)
    subst this
    exact ⟨[], [], .refl _, .nil, rfl⟩
/-- the way of the sort: up, or down -/
noncomputable def sgn (b : Bool) (x : Int) : Int := if b then -x else x
theorem stab_of_ordered {b : Bool} {ns ms : List Int} (hp : ms.Perm ns) (ho : Ordered b ms) : Stab (sgn b) ns ms := by
  obtain ⟨ks, hk⟩ := stab_ex (sgn b) ns
  have : ms = ks := by
    refine List.Perm.eq_of_pairwise (le := fun x y : Int => sgn b x ≤ sgn b y) (fun x y _ _ h1 h2 => ?_) ?_ (stab_pair hk) (hp.trans (stab_perm hk).symm)
    · unfold sgn at h1 h2; cases b <;> simp at h1 h2 <;> omega
    · cases b with
      | false => exact ho
      | true => exact List.Pairwise.imp (fun {x y} (h : x ≥ y) => by simp [sgn]; omega) ho
  rw [this]
  exact hk
section
variable {prog : Program} {w : World} {A : Around} {E : Value → Shared → Prop} {s : Shared} {h₀ : Heap} {L : Addr} {m : Str → Option Value} {news : List (Addr × Obj)}
theorem sortedPlain_ok {l : Addr} {b : Bool} {kw : List (Str × Value)} {Q : Value → Shared → Prop} {vs : List Value} {ns : List Int} (F : Fr h₀ L s.heap m) (N : News h₀ L s.heap news) (hl : s.heap.IsList l vs.toArray) (hi : IntsAre vs ns) (h64 : ns.length < 64)
    (ha1 : argsOk "sorted" ⟨[.ref l], kw⟩) (ha2 : ∀ x, argsOk "list.sort" ⟨[.ref x], kw⟩) (ht : ∀ x, Builtin.«list.sort» ⟨[.ref x], kw⟩ = Builtin.«list.sort» ⟨[.ref x], [(Str.ofString "reverse", .bool b)]⟩)
    (done : ∀ D ws ms c h', Fr h₀ L h' m → News h₀ L h' ((D, PySem.W.listOf (List.toArray ws) c) :: news) → (∀ q ∈ news, @LT.lt Nat _ q.1 D) → IntsAre ws ms → Stab (sgn b) ns ms → Q (.ref D) { s with heap := h' }) :
    wpAny (model prog w) A (call (.builtin "sorted") [.ref l] kw) Q E s := by
  have h64' : vs.length < 64 := by rw [hi.length]; exact h64
  refine call_function_entry_kw kind_sorted plain_sorted entry_sorted ha1 ?_
  unfold Builtin.«sorted»
  refine wpAny_bind (m := checkCount "sorted" 1 1 _) (wpAny_pure ?_)
  refine wpAny_bind (collect_list hl ?_)
  refine wpAny_bind (wpAny_newList ?_)
  have hsz : ((s.heap.push (seqObj "list" #[] 0)).update s.heap.objs.size (Obj.mapSeq (· ++ vs.toArray))).objs.size = s.heap.objs.size + 1 := by
    rw [Heap.size_update, size_push']
  have hoL : (((s.heap.push (seqObj "list" #[] 0)).update s.heap.objs.size (Obj.mapSeq (· ++ vs.toArray))).push (seqObj "list" vs.toArray 0)).get? (s.heap.objs.size + 1) = some (seqObj "list" vs.toArray 0) := by
    rw [← hsz]; exact Heap.get?_push_size _ rfl
  show wpAny _ _ _ _ _ { s with heap := ((s.heap.push (seqObj "list" #[] 0)).update s.heap.objs.size (Obj.mapSeq (· ++ vs.toArray))).push (seqObj "list" vs.toArray 0) }
  rw [hsz]
  refine wpAny_bind (wpAny_holding (wpAny_call_entry_kw slot_list_sort ⟨_, hoL, rfl⟩ entry_list_sort ?body (ha2 _)))
  case body =>
    rw [ht]
    refine list_sort_tree_rev hoL hi h64' fun out ns' a1 a2 a3 => ⟨_, rfl, wpAny_pure ⟨_, rfl, ?_⟩⟩
    obtain ⟨e, he⟩ := sortedAll_at s.heap vs out
    exact done _ out.toList ns' e _ (F.kept fun _ _ => sortedAll_old) (N.kept_cons F (fun _ _ => sortedAll_old) (Nat.le_succ _) he) (fun q hq => Nat.lt_succ_of_lt (Heap.lt_size (N q hq).1)) a1 (stab_of_ordered a2 a3)
end
end Mine

-- S4
namespace Mine
section
variable {prog : Program} {w : World} {A : Around} {E : Value → Shared → Prop} {s : Shared}
noncomputable def lexI : List (Int × Int) → Bool
  | [] => false
  | (a, b) :: r => if a = b then lexI r else decide (a < b)
theorem tup_lt {a b : Addr} {oa ob : Obj} {vs us : List Value} {ks ms : List Int} {na nb : Nat} {Q : Value → Shared → Prop} (ho : s.heap.get? a = some oa) (hc : oa.cls = .type "tuple") (hd : oa.data = .seq vs.toArray na)
    (ho' : s.heap.get? b = some ob) (hc' : ob.cls = .type "tuple") (hd' : ob.data = .seq us.toArray nb) (hi : IntsAre vs ks) (hj : IntsAre us ms) (hl : ks.length = ms.length) (hu : A.units < 9500)
    (h : Q (.bool (lexI (ks.zip ms))) s) : wpAny (model prog w) A (compareOp .Lt (.ref a) (.ref b)) Q E s := by
  have hTa : s.TypeIs (.ref a) "tuple" := ⟨oa, ho, hc⟩
  have hTb : s.TypeIs (.ref b) "tuple" := ⟨ob, ho', hc'⟩
  refine cmp_ofLt (wpAny_richCompare_same_room hTa hTb PySem.F.slot_tuple_lt (wpAny_call_entry PySem.F.slot_tuple_lt hTa PySem.F.entry_tuple_lt ?_ (PySem.F.args_tuple_lt_2 _ _)) (Nat.lt_of_lt_of_le hu (by decide)))
  show wpAny _ _ (isInstance (.ref b) (.type "tuple") >>= _) _ _ s
  refine wpAny_bind (wpAny_isInstance hTb isSubtype_tuple_tuple ?_)
  simp only [Bool.not_true, Bool.false_eq_true, if_false]
  refine wpAny_bind (wpAny_tupleItemsOf ho hd ?_)
  refine wpAny_bind (wpAny_tupleItemsOf ho' hd' ?_)
  refine wpAny_bind ?_
  refine wpAny_forIn_list _
    (fun rest r s' => r.1 = none ∧ s' = s ∧ ∃ xs' ys' ks' ms', rest = List.zip xs' ys' ∧ IntsAre xs' ks' ∧ IntsAre ys' ms' ∧ ks'.length = ms'.length ∧ lexI (ks'.zip ms') = lexI (ks.zip ms))
    _ ?_ ?_ _ _ ⟨rfl, rfl, vs, us, ks, ms, by simp, hi, hj, hl, rfl⟩
  · rintro ⟨u, v⟩ rest r s' ⟨hr, rfl, xs', ys', ks', ms', hz, hx', hy', hlen, hlex⟩
    cases hx' with
    | nil => simp at hz
    | cons k1 t1 hx'' =>
      cases hy' with
      | nil => simp at hz
      | cons k2 t2 hy'' =>
        simp only [List.zip_cons_cons, List.cons.injEq, Prod.mk.injEq] at hz
        obtain ⟨⟨rfl, rfl⟩, rfl⟩ := hz
        refine wpAny_bind (wpAny_eqBool_int ?_)
        simp only [List.zip_cons_cons, lexI] at hlex
        by_cases hk : k1 = k2
        · subst hk
          simp only [beq_self_eq_true, Bool.not_true, Bool.false_eq_true, if_false]
          rw [if_pos rfl] at hlex
          exact wpAny_pure ⟨rfl, rfl, _, _, _, _, rfl, hx'', hy'', by simpa using hlen, hlex⟩
        · rw [if_neg hk] at hlex
          rw [← hlex] at h
          have hb : (k1 == k2) = false := by simpa using hk
          simp only [hb, Bool.not_false, if_true]
          refine wpAny_bind (wpAny_rule ?_)
          refine wpAny_bind (lt_int (wpAny_bind (wpAny_pure (wpAny_pure (wpAny_pure ?_)))))
          exact ⟨_, rfl, by simp, h⟩
  · rintro ⟨r1, r2⟩ s' ⟨hr, rfl, xs', ys', ks', ms', hz, hx', hy', hlen, hlex⟩
    simp only at hr
    subst hr
    refine wpAny_pure ⟨_, rfl, ?_⟩
    have hf : lexI (ks'.zip ms') = false := by
      cases hx' with
      | nil => rfl
      | cons _ _ _ =>
        cases hy' with
        | nil => simp at hlen
        | cons _ _ _ => simp at hz
    have hsz : us.toArray.size = vs.toArray.size := by rw [List.size_toArray, List.size_toArray, hi.length, hj.length, hl]
    rw [hf] at hlex
    rw [← hlex] at h
    have e : Builtin.Tuple.tupleCompareSizes CmpOp.Lt vs.toArray.size us.toArray.size = .bool false := by
      rw [hsz]
      show Value.bool (decide (_ < _)) = _
      simp
    rw [e]
    exact ⟨by simp, h⟩
end
theorem lexI_asym : ∀ (xs ys : List Int), lexI (xs.zip ys) = true → lexI (ys.zip xs) = false
  | [], _, h => by simp [lexI] at h
  | _ :: _, [], h => by simp [lexI] at h
  | x :: xs, y :: ys, h => by
    simp only [List.zip_cons_cons, lexI] at h ⊢
    by_cases e : x = y
    · rw [if_pos e] at h
      rw [if_pos e.symm]
      exact lexI_asym xs ys h
    · rw [if_neg e] at h
      rw [if_neg (Ne.symm e)]
      simp only [decide_eq_true_eq, decide_eq_false_iff_not] at h ⊢
      omega
theorem lexI_trans : ∀ (xs ys zs : List Int), xs.length = ys.length → ys.length = zs.length → lexI (ys.zip xs) = false → lexI (zs.zip ys) = false → lexI (zs.zip xs) = false
  | [], _, zs, _, _, _, _ => by simp [lexI]
  | _ :: _, [], _, h, _, _, _ => by simp at h
  | _ :: _, _ :: _, [], _, h, _, _ => by simp at h
  | x :: xs, y :: ys, z :: zs, h1, h2, h3, h4 => by
    simp only [List.zip_cons_cons, lexI] at h3 h4 ⊢
    by_cases e1 : y = x
    · by_cases e2 : z = y
      · rw [if_pos e1] at h3
        rw [if_pos e2] at h4
        rw [if_pos (e2.trans e1)]
        exact lexI_trans xs ys zs (by simpa using h1) (by simpa using h2) h3 h4
      · rw [if_neg e2] at h4
        rw [if_neg (by omega)]
        simp only [decide_eq_false_iff_not] at h4 ⊢
        omega
    · rw [if_neg e1] at h3
      simp only [decide_eq_false_iff_not] at h3
      by_cases e2 : z = y
      · rw [if_neg (by omega)]
        simp only [decide_eq_false_iff_not]
        omega
      · rw [if_neg e2] at h4
        simp only [decide_eq_false_iff_not] at h4
        rw [if_neg (by omega)]
        simp only [decide_eq_false_iff_not]
        omega
/-- what a tuple of ints holds -/
noncomputable def tdat (g : Heap) : Value → List Int
  | .ref a => match g.get? a with
    | some o => (match o.data with | .seq xs _ => xs.toList.map keyI | _ => [])
    | none => []
  | _ => []
noncomputable def IsT (g : Heap) (N : Nat) (v : Value) : Prop := ∃ a o vs ks n, v = .ref a ∧ g.get? a = some o ∧ o.cls = .type "tuple" ∧ o.data = .seq (List.toArray vs) n ∧ IntsAre vs ks ∧ ks.length = N
noncomputable def ltT (g : Heap) (x y : Value) : Bool := lexI ((tdat g x).zip (tdat g y))
theorem tdat_of {g : Heap} {a : Addr} {o : Obj} {vs : List Value} {ks : List Int} {n : Nat} (ho : g.get? a = some o) (hd : o.data = .seq vs.toArray n) (hi : IntsAre vs ks) : tdat g (.ref a) = ks := by
  show (match g.get? a with | some o => (match o.data with | .seq xs _ => xs.toList.map keyI | _ => []) | none => []) = ks
  rw [ho]
  dsimp only
  rw [hd]
  exact (ints_key hi).symm
theorem isT_len {g : Heap} {N : Nat} {v : Value} (h : IsT g N v) : (tdat g v).length = N := by
  obtain ⟨a, o, vs, ks, n, rfl, ho, hc, hd, hi, hl⟩ := h
  rw [tdat_of ho hd hi, hl]
theorem preT (g : Heap) (N : Nat) : Pre (IsT g N) (ltT g) where
  asym := fun x y _ _ h => lexI_asym _ _ h
  trans := fun x y z hx hy hz h1 h2 => lexI_trans _ _ _ ((isT_len hx).trans (isT_len hy).symm) ((isT_len hy).trans (isT_len hz).symm) h1 h2
theorem cmpT {prog : Program} {w : World} {g : Heap} {N : Nat} : CmpOk prog w g (IsT g N) (ltT g) := by
  rintro x y ⟨a, o, vs, ks, n, rfl, ho, hc, hd, hi, hl⟩ ⟨b, o', us, ms, n', rfl, ho', hc', hd', hi', hl'⟩ A E s Q hu hk h
  unfold ltT at h
  rw [tdat_of ho hd hi, tdat_of ho' hd' hi'] at h
  exact tup_lt (hk _ _ ho) hc hd (hk _ _ ho') hc' hd' hi hi' (hl.trans hl'.symm) hu h
end Mine

-- N0
namespace Mine
local macro_rules | `(tactic| walk_at "TurnPost") => `(tactic| dsimp only [TurnPost])
local macro_rules | `(tactic| k_all) => `(tactic| first | exact List.forall_mem_nil _ | (refine' List.forall_mem_cons.mpr ⟨?a, ?b⟩; (case a => k_ne); (case b => k_all)) | ((with_reducible rename OffC _ _ _ _ => hofc); intro p9 hp9; have hq9 := hofc p9 hp9; refine neN ?_; omega) | assumption)




/-- entering a def whose parameters are cells: the caller's own frame object goes onto the ledger -/
theorem enter_cells {prog : Program} {w : World} {A : Around} {s : Shared} {K : Frag} {h₀ : Heap} {L : Addr} {m : Str → Option Value} {news : List (Addr × Obj)} {p : Program} {loose : List Str} {mg mb : Str → Option Value}
    {name qual : Str} {params : Arguments} {body : List Stmt} {scope : Scope} {dV kV doc pm cdv ct oc : Value} {an od : Option Addr} {osl : Array (Option Value)} {f : Addr} {args : Args} {binds : List (Str × Value)} {R : Result → Shared → Prop}
    (F : Fr h₀ L s.heap m) (N : News h₀ L s.heap news) (X : K.In h₀) (T : TopRead p loose mg mb h₀)
    (ho : K.lookup f = some ⟨oc, od, .func (fnOf name qual params body scope dV kV doc pm an cdv ct), osl⟩) (hcd : codeIn K cdv qual = true) (hroom : A.depth < recursionLimit)
    (hbind : BindsTo s (fnOf name qual params body scope dV kV doc pm an cdv ct) args binds)
    (hkind : (binds.all fun y => scope.names.lookup y.1 == some .local || scope.names.lookup y.1 == some .cell) = true)
    (hnd : ((cellsFrom 0 scope.names []).map (·.1)).Nodup)
    (h : ∀ h₁ L' tk cells oL es ep, s.heap.get? L = some oL → oL.data = .dict es ep → (∀ b o, s.heap.get? b = some o → h₁.get? b = some o) → @LT.lt Nat _ L L' → (∀ b o, s.heap.get? b = some o → @LT.lt Nat _ b L') →
      Fr h₀ L' h₁ (bindL (envOfC qual scope L' f cdv).kindOf binds fun _ => none) → News h₀ L' h₁ (cells ++ (L, oL) :: news) →
      CellsAre (bindC (envOfC qual scope L' f cdv).kindOf binds fun _ => none) (cellsFrom (L' + 1) scope.names []) cells →
      wpAny (model prog w) (A.deeper (envOfC qual scope L' f cdv)) (execs body (envOfC qual scope L' f cdv))
        (fun fl s' => R (.ok (.ret (match fl with | .ret v => v | _ => .none))) s')
        (fun e s' => wpAny (model prog w) (A.deeper (envOfC qual scope L' f cdv)) (leaving (envOfC qual scope L' f cdv) e) (fun _ s'' => R (.error e) s'') (fun e' s'' => R (.error e') s'') s')
        { s with heap := h₁, toks := tk })
    (hco : scope.isCoroutine = false := by rfl) (hgen : scope.isGenerator = false := by rfl) (hk : scope.kind = .function := by rfl) : codeAny (model prog w) A (.call (.ref f) args) R s := by
  have Xs := X.keeps F.keep
  refine codeAny_call_function (fd := fnOf name qual params body scope dV kV doc pm an cdv ct) hroom (Xs _ _ ho) rfl hco hgen rfl (codeRec_of Xs hcd) (hbind _ _ _ _ ?_)
  refine wpAny_newFunctionEnv_cells hk (kindsX hkind _) fun env' he s' x => ?_
  subst he
  refine ⟨(T.nolimit.keeps F.keep).keeps x.toInCall.keep, codeAny_func ?_⟩
  obtain ⟨h₁, tk, rfl, _⟩ := x.done
  have hk₁ := x.toInCall.keep
  obtain ⟨oL, es, ep, hoL, hdL⟩ := fr_obj F
  have hlt : L < s.heap.objs.size := F.ns.lt
  obtain ⟨cells, NC, Y⟩ := Cl.news (h₀ := s.heap) (Nat.le_refl _) fun n c hm => ⟨x.cell n c (lookup_of_mem_nodup (cellsFrom_names scope.names 0 (s.heap.objs.size + 1) [] [] rfl ▸ hnd) hm), x.above n c hm⟩
  refine h h₁ s.heap.objs.size tk cells oL es ep hoL hdL hk₁ hlt (fun b o e => Heap.lt_size e) ⟨x.toInCall.ns, fun b o e => hk₁ b o (F.keep b o e), Nat.le_trans F.above (Nat.le_of_lt hlt)⟩ (fun q hq => ?_) Y
  rcases List.mem_append.mp hq with hq | hq
  · refine ⟨(NC q hq).1, (NC q hq).2.1, ?_⟩
    cases e : h₀.get? q.1 with
    | none => rfl
    | some o => have := F.keep _ _ e; rw [(NC q hq).2.2] at this; cases this
  · rcases List.mem_cons.mp hq with rfl | hq
    · exact ⟨hk₁ _ _ hoL, Nat.ne_of_lt hlt, fr_old_none F⟩
    · exact ⟨hk₁ _ _ (N q hq).1, Nat.ne_of_lt (Heap.lt_size (N q hq).1), (N q hq).2.2⟩
theorem bindsD {K : Frag} {h₀ : Heap} {L : Addr} {m : Str → Option Value} {s : Shared} {fd : FuncData} {args : Args} {binds : List (Str × Value)} {T : Addr} {o : Obj} {items : Array Value} {n : Nat}
    {k : Option (Array Value) → Sem (List (Str × Value))} (ho : K.lookup T = some o) (X : K.In h₀) (F : Fr h₀ L s.heap m) (hd : fd.defaults = .ref T) (hs : o.data = .seq items n)
    (h₁ : bindArgs fd args = seqItems? fd.defaults >>= k) (h₂ : k (some items) = pure binds) : BindsTo s fd args binds :=
  BindsTo.of_defaults hd ((X.keeps F.keep) _ _ ho) hs h₁ h₂
theorem upto_g {prog : Program} {w : World} {A : Around} {E : Value → Shared → Prop} {s : Shared} {h₀ : Heap} {L D : Addr} {m : Str → Option Value} {news : List (Addr × Obj)} {ws : List Value} {ms : List Int} {n c : Nat} {u : Tok} {value slice : PySem.Expr} {Q : Value → Shared → Prop}
    (F : Fr h₀ L s.heap m) (N : News h₀ L s.heap news) (hm : (D, W.listOf ws.toArray c) ∈ news) (hi : IntsAre ws ms) (hlen : ms.length < 64)
    (h : ∀ D' ws' h', Fr h₀ L h' m → News h₀ L h' ((D', listOf (List.toArray ws') 0) :: news) → (∀ p ∈ news, @LT.lt Nat _ p.1 D') → IntsAre ws' (ms.take n) → Q (.ref D') { s with heap := h' })
    (hs : subscripted slice false (.ref D) (.ref s.heap.objs.size) = operate [.ref s.heap.objs.size, .ref D] (getItem (.ref D) (.ref s.heap.objs.size))) (ht : ∀ r, letTemporaryGo value (.ref D) r = pure ()) :
    wpAny (model prog w) A (subscriptTail value slice (.ref D) (.ref s.heap.objs.size)) Q E { s with heap := s.heap.push { cls := .type "slice", data := .fields #[.none, .int ((n : Nat) : Int) u, .none] } } :=
  kmk_slice_ints (c := _) F N (PySem.IsL.isList (n := c) (N _ hm).1) IsPart.none (IsPart.int _ _) hi (kmk_upto hi (Int.natCast_nonneg n)) rfl (fun D' ws' h' F' N' l1 hI _ _ => h D' ws' h' F' N' l1 (by simpa using hI)) hs ht (by rw [List.size_toArray, hi.length, PySem.sizeLine_eq]; omega)
/-- the iterator over the given list -/
noncomputable def litObj (l : Addr) (i : Nat) : Obj := { cls := .type "list_iterator", data := .fields #[.ref l, .int ((i : Nat) : Int) 0] }
theorem iter_g {prog : Program} {w : World} {A : Around} {E : Value → Shared → Prop} {s : Shared} {h₀ : Heap} {L l : Addr} {m : Str → Option Value} {news : List (Addr × Obj)} {its : Array Value} {Q : Value → Shared → Prop}
    (F : Fr h₀ L s.heap m) (N : News h₀ L s.heap news) (hl : h₀.IsList l its)
    (h : ∀ I h', Fr h₀ L h' m → News h₀ L h' ((I, litObj l 0) :: news) → (∀ p ∈ news, @LT.lt Nat _ p.1 I) → Q (.ref I) { s with heap := h' }) :
    wpAny (model prog w) A (call (.builtin "iter") [.ref l]) Q E s := by
  refine call_function_entry (by decide +kernel) (by decide +kernel) kdk_entry_iter (kdk_args_iter _) ?_
  unfold Builtin.«iter»
  refine wpAny_bind (m := someArgs "iter" 1 2 _) (wpAny_of_eq (a := [Value.ref l]) (by first | rfl | kernel_rfl!) ?_)
  show wpAny _ _ (pyIter (.ref l) >>= _) _ _ _
  refine wpAny_bind (wpAny_pyIter_list (hl.at fun o e => F.keep l o e) ?_)
  exact wpAny_pure ⟨_, rfl, h _ _ (F.push _) (News.push F N _ rfl) (fun q hq => Heap.lt_size (N q hq).1)⟩
end Mine

-- Z1
namespace Mine
section
variable {prog : Program} {w : World} {A : Around} {E : Value → Shared → Prop} {s : Shared}
theorem nextOf_range_item {it : Addr} {x left step : Int} {Q : Value → Shared → Prop} (hit : IsRangeIter s.heap it x left step) (hleft : 0 < left)
    (hQ : ∀ h', IsRangeIter h' it (x + step) (left - 1) step → Heap.SameBut it s.heap h' → Q (.int x s.toks) { s with heap := h', toks := s.toks + 1 }) :
    wpAny (model prog w) A (Builtin.SmallTypes.nextOf (.ref it)) Q E s := by
  have hT : s.TypeIs (.ref it) "range_iterator" := ⟨_, hit, rfl⟩
  unfold Builtin.SmallTypes.nextOf
  refine wpAny_bind (wpAny_callSpecial?_slot (name := Str.ofString "__next__") hT PySem.F.slot_range_iterator_next
    (call_meets PySem.F.slot_range_iterator_next hT PySem.F.entry_range_iterator_next (PySem.F.args_range_iterator_next_1 _) (AutoRange.range_iterator___next___range_iterator_1 it x left step (by omega)) ⟨hit, ?_⟩))
  exact wpAny_pure (hQ _ (Heap.get?_update_self _ (Heap.get?_update_self _ hit rfl) rfl) ((Heap.SameBut.update ..).trans (Heap.SameBut.update ..)))
theorem nextOf_range_end {it : Addr} {x left step : Int} {Q : Value → Shared → Prop} (hh : A.handled = none) (hit : IsRangeIter s.heap it x left step) (hleft : left ≤ 0)
    (hE : ∀ h' e, Heap.ExtBut it s.heap h' → (∃ o, h'.get? e = some o ∧ o.cls = .type "StopIteration") → E (.ref e) { s with heap := h' }) :
    wpAny (model prog w) A (Builtin.SmallTypes.nextOf (.ref it)) Q E s := by
  have hT : s.TypeIs (.ref it) "range_iterator" := ⟨_, hit, rfl⟩
  unfold Builtin.SmallTypes.nextOf
  refine wpAny_bind (wpAny_callSpecial?_slot (name := Str.ofString "__next__") hT PySem.F.slot_range_iterator_next
    (wpAny_call_entry PySem.F.slot_range_iterator_next hT PySem.F.entry_range_iterator_next ?_ (PySem.F.args_range_iterator_next_1 _)))
  show wpAny _ _ (field (.ref it) 0 >>= _) _ _ s
  refine wpAny_bind (wpAny_field hit rfl (x := rawInt x) rfl ?_)
  show wpAny _ _ (field (.ref it) 1 >>= _) _ _ s
  refine wpAny_bind (wpAny_field hit rfl (x := rawInt left) rfl ?_)
  show wpAny _ _ (field (.ref it) 2 >>= _) _ _ s
  refine wpAny_bind (wpAny_field hit rfl (x := rawInt step) rfl ?_)
  show wpAny _ _ (if left ≤ 0 then _ else _) _ _ s
  rw [if_pos hleft]
  refine wpAny_bind (wpAny_rule ?_)
  refine wpAny_bind ?_
  show wpAny _ _ (newExc (.type "StopIteration") [] >>= _) _ _ _
  refine wpAny_bind ?_
  simp only [newExc, newTuple]
  refine wpAny_bind (wpAny_newObj_type ?_ (by size_fits))
  refine wpAny_bind (m := firstArgMember _ _) (wpAny_of_eq (a := Value.none) (by first | rfl | (simp only [firstArgMember]; rfl)) ?_)
  refine wpAny_newObj_type ?_ (by size_fits)
  simp only [raiseNew]
  refine wpAny_bind (wpAny_handled ?_)
  first | rw [show A.in1.handled = none from hh] | rw [hh]
  refine wpAny_bind (wpAny_pure (wpAny_throw ?_))
  exact hE _ _ (((Heap.ExtBut.refl it s.heap).push _).push _) ⟨_, Heap.get?_push_size _ rfl, rfl⟩

/-- next of zip(range, list_iterator) -/
theorem zipr_item {z TI TO i1 i2 l : Addr} {x left step : Int} {k2 : Nat} {ys : Array Value} {y a b : Value} {Q : Value → Shared → Prop} (D : ZipApart z TI TO i1 i2 l l)
    (hz : IsZip s.heap z TI TO .none) (hTI : IsPair s.heap TI (.ref i1) (.ref i2)) (hTO : IsPair s.heap TO a b)
    (h1 : IsRangeIter s.heap i1 x left step) (hleft : 0 < left) (h2 : s.heap.IsListIter i2 l k2) (hl2 : s.heap.IsList l ys) (hy : ys[k2]? = some y)
    (hQ : ∀ h', IsZip h' z TI TO (rawInt s.heap.objs.size) → (∃ a b, IsPair h' TO a b) → IsRangeIter h' i1 (x + step) (left - 1) step → h'.IsListIter i2 l (k2 + 1) → IsPair h' s.heap.objs.size (.int x s.toks) y →
      (∀ c o, c ≠ z → c ≠ TO → c ≠ i1 → c ≠ i2 → s.heap.get? c = some o → h'.get? c = some o) → Q (.ref s.heap.objs.size) { s with heap := h', toks := s.toks + 1 }) :
    wpAny (model prog w) A (Builtin.«zip.__next__» ⟨[.ref z], []⟩) (fun fin s' => ∃ v, fin = .done (.ret v) ∧ Q v s') E s := by
  show wpAny _ _ (field (.ref z) 2 >>= _) _ _ _
  refine wpAny_bind (wpAny_field hz rfl (x := .bool false) rfl ?_)
  show wpAny _ _ (field (.ref z) 3 >>= _) _ _ _
  refine wpAny_bind (wpAny_field hz rfl (x := .ref TI) rfl ?_)
  refine wpAny_bind (wpAny_seqItems hTI rfl ?_)
  show wpAny _ _ (Builtin.SmallTypes.ownedTupleIsFree (.ref z) >>= _) _ _ _
  refine wpAny_bind ?_
  unfold Builtin.SmallTypes.ownedTupleIsFree
  refine wpAny_bind (wpAny_field hz rfl (x := .none) rfl (wpAny_pure ?_))
  simp only [if_true]
  refine wpAny_bind (wpAny_rule ?_)
  refine wpAny_bind (wpAny_field hz rfl (x := .ref TO) rfl ?_)
  refine wpAny_bind (wpAny_setField_rec hz (by simp) fun h₁ hz₁ hs₁ => ?_)
  replace hz₁ : IsZip h₁ z TI TO .ellipsis := hz₁
  refine wpAny_bind ?_
  simp only [List.zipIdx_cons, List.zipIdx_nil, List.forIn_cons, List.forIn_nil]
  refine wpAny_bind (wpAny_bind (wpAny_onRaise ?_))
  show wpAny _ _ (Builtin.SmallTypes.nextOf (.ref i1) >>= _) _ _ _
  refine wpAny_bind (nextOf_range_item (hs₁.extBut _ _ D.i1z h1) hleft fun h₂ h1₂ hs₂ => wpAny_pure ?_)
  have hTO₂ : IsPair h₂ TO a b := hs₂.extBut _ _ D.TOi1 (hs₁.extBut _ _ D.TOz hTO)
  refine wpAny_bind (wpAny_seqItems hTO₂ rfl ?_)
  refine wpAny_bind (wpAny_updateSeq_pair hTO₂ fun h₃ hTO₃ hs₃ => ?_)
  replace hTO₃ : IsPair h₃ TO (.int x s.toks) b := hTO₃
  refine wpAny_bind (wpAny_letGo (wpAny_pure ?_))
  refine wpAny_bind (wpAny_bind (wpAny_onRaise ?_))
  show wpAny _ _ (Builtin.SmallTypes.nextOf (.ref i2) >>= _) _ _ _
  refine wpAny_bind (wpAny_nextOf_list_item (((h2.extBut hs₁.extBut D.i2z).extBut hs₂.extBut D.i12.symm).extBut hs₃.extBut D.TOi2.symm)
    (((hl2.extBut hs₁.extBut D.l2z).extBut hs₂.extBut D.l2i1).extBut hs₃.extBut D.l2TO) hy fun h₄ h2₄ hs₄ => wpAny_pure ?_)
  have hTO₄ : IsPair h₄ TO (.int x s.toks) b := hs₄.extBut _ _ D.TOi2 hTO₃
  refine wpAny_bind (wpAny_seqItems hTO₄ rfl ?_)
  refine wpAny_bind (wpAny_updateSeq_pair hTO₄ fun h₅ hTO₅ hs₅ => ?_)
  replace hTO₅ : IsPair h₅ TO (.int x s.toks) y := hTO₅
  refine wpAny_bind (wpAny_letGo (wpAny_pure (wpAny_pure ?_)))
  refine wpAny_bind (wpAny_seqItems hTO₅ rfl ?_)
  refine wpAny_bind (wpAny_newTuple ?_)
  have hsz : h₅.objs.size = s.heap.objs.size := by rw [hs₅.1, hs₄.1, hs₃.1, hs₂.1, hs₁.1]
  have hz₅ : IsZip h₅ z TI TO .ellipsis := hs₅.extBut _ _ D.TOz.symm (hs₄.extBut _ _ D.i2z.symm (hs₃.extBut _ _ D.TOz.symm (hs₂.extBut _ _ D.i1z.symm hz₁)))
  have hk₅ : ∀ c o, c ≠ z → c ≠ TO → c ≠ i1 → c ≠ i2 → s.heap.get? c = some o → h₅.get? c = some o := fun c o c1 c2 c3 c4 e =>
    hs₅.extBut _ _ c2 (hs₄.extBut _ _ c4 (hs₃.extBut _ _ c2 (hs₂.extBut _ _ c3 (hs₁.extBut _ _ c1 e))))
  have h1₅ : IsRangeIter h₅ i1 (x + step) (left - 1) step := hs₅.extBut _ _ D.TOi1.symm (hs₄.extBut _ _ D.i12 (hs₃.extBut _ _ D.TOi1.symm h1₂))
  have h2₅ : h₅.IsListIter i2 l (k2 + 1) := h2₄.extBut hs₅.extBut D.TOi2.symm
  have hzlt : z < h₅.objs.size := Heap.lt_size hz₅
  show wpAny _ _ (Builtin.SmallTypes.ownedTupleHandOut (.ref z) (.ref h₅.objs.size) >>= _) _ _ _
  refine wpAny_bind ?_
  unfold Builtin.SmallTypes.ownedTupleHandOut
  have hz₆ : IsZip (h₅.push { cls := .type "tuple", data := .seq #[.int x s.toks, y] }) z TI TO .ellipsis := Heap.get?_push_of_some _ hz₅
  refine wpAny_bind (wpAny_setField_rec hz₆ (by simp) fun h₇ hz₇ hs₇ => ?_)
  replace hz₇ : IsZip h₇ z TI TO (rawInt h₅.objs.size) := hz₇
  refine wpAny_setField_rec hz₇ (by simp) fun h₈ hz₈ hs₈ => ?_
  replace hz₈ : IsZip h₈ z TI TO (rawInt h₅.objs.size) := hz₈
  have up : ∀ c o, c ≠ z → h₅.get? c = some o → h₈.get? c = some o := fun c o c1 e => hs₈.extBut _ _ c1 (hs₇.extBut _ _ c1 (Heap.get?_push_of_some _ e))
  have hT₈ : IsPair h₈ h₅.objs.size (.int x s.toks) y := hs₈.extBut _ _ (Nat.ne_of_gt hzlt) (hs₇.extBut _ _ (Nat.ne_of_gt hzlt) (Heap.get?_push_size _ rfl))
  rw [hsz] at hz₈ hT₈
  refine wpAny_pure ⟨_, rfl, ?_⟩
  show Q (.ref h₅.objs.size) _
  rw [hsz]
  exact hQ h₈ hz₈ ⟨_, _, up _ _ D.TOz hTO₅⟩ (up _ _ D.i1z h1₅) (h2₅.at fun o e => up _ o D.i2z e) hT₈ fun c o c1 c2 c3 c4 e => up c o c1 (hk₅ c o c1 c2 c3 c4 e)

theorem zipr_end {z TI TO i1 i2 l : Addr} {x left step : Int} {a b : Value} {Q : Fin → Shared → Prop} (hh : A.handled = none) (D : ZipApart z TI TO i1 i2 l l)
    (hz : IsZip s.heap z TI TO .none) (hTI : IsPair s.heap TI (.ref i1) (.ref i2)) (hTO : IsPair s.heap TO a b)
    (h1 : IsRangeIter s.heap i1 x left step) (hleft : left ≤ 0)
    (hE : ∀ h' e, (∀ c o, c ≠ z → c ≠ TO → c ≠ i1 → s.heap.get? c = some o → h'.get? c = some o) → (∃ o, h'.get? e = some o ∧ o.cls = .type "StopIteration") → E (.ref e) { s with heap := h' }) :
    wpAny (model prog w) A (Builtin.«zip.__next__» ⟨[.ref z], []⟩) Q E s := by
  show wpAny _ _ (field (.ref z) 2 >>= _) _ _ _
  refine wpAny_bind (wpAny_field hz rfl (x := .bool false) rfl ?_)
  show wpAny _ _ (field (.ref z) 3 >>= _) _ _ _
  refine wpAny_bind (wpAny_field hz rfl (x := .ref TI) rfl ?_)
  refine wpAny_bind (wpAny_seqItems hTI rfl ?_)
  show wpAny _ _ (Builtin.SmallTypes.ownedTupleIsFree (.ref z) >>= _) _ _ _
  refine wpAny_bind ?_
  unfold Builtin.SmallTypes.ownedTupleIsFree
  refine wpAny_bind (wpAny_field hz rfl (x := .none) rfl (wpAny_pure ?_))
  simp only [if_true]
  refine wpAny_bind (wpAny_rule ?_)
  refine wpAny_bind (wpAny_field hz rfl (x := .ref TO) rfl ?_)
  refine wpAny_bind (wpAny_setField_rec hz (by simp) fun h₁ hz₁ hs₁ => ?_)
  replace hz₁ : IsZip h₁ z TI TO .ellipsis := hz₁
  refine wpAny_bind ?_
  simp only [List.zipIdx_cons, List.zipIdx_nil, List.forIn_cons, List.forIn_nil]
  refine wpAny_bind (wpAny_bind (wpAny_onRaise ?_))
  show wpAny _ _ (Builtin.SmallTypes.nextOf (.ref i1) >>= _) _ _ _
  refine wpAny_bind (nextOf_range_end hh (hs₁.extBut _ _ D.i1z h1) hleft fun h₂ e hs₂ he => ?_)
  obtain ⟨oe, hoe, hce⟩ := he
  have hz₂ : IsZip h₂ z TI TO .ellipsis := hs₂ _ _ D.i1z.symm hz₁
  have hez : e ≠ z := fun x => by subst x; rw [hz₂] at hoe; cases hoe; simp at hce
  refine wpAny_setField_rec hz₂ (by simp) fun h₃ _ hs₃ => hE h₃ e (fun c o c1 _ c3 x => hs₃.extBut _ _ c1 (hs₂ _ _ c3 (hs₁.extBut _ _ c1 x))) ⟨oe, hs₃.extBut _ _ hez hoe, hce⟩

theorem pyNext_zipr_item {z TI TO i1 i2 l : Addr} {x left step : Int} {k2 : Nat} {ys : Array Value} {y a b : Value} {Q : Option Value → Shared → Prop} (D : ZipApart z TI TO i1 i2 l l)
    (hz : IsZip s.heap z TI TO .none) (hTI : IsPair s.heap TI (.ref i1) (.ref i2)) (hTO : IsPair s.heap TO a b)
    (h1 : IsRangeIter s.heap i1 x left step) (hleft : 0 < left) (h2 : s.heap.IsListIter i2 l k2) (hl2 : s.heap.IsList l ys) (hy : ys[k2]? = some y)
    (hQ : ∀ h', IsZip h' z TI TO (rawInt s.heap.objs.size) → (∃ a b, IsPair h' TO a b) → IsRangeIter h' i1 (x + step) (left - 1) step → h'.IsListIter i2 l (k2 + 1) → IsPair h' s.heap.objs.size (.int x s.toks) y →
      (∀ c o, c ≠ z → c ≠ TO → c ≠ i1 → c ≠ i2 → s.heap.get? c = some o → h'.get? c = some o) → Q (some (.ref s.heap.objs.size)) { s with heap := h', toks := s.toks + 1 }) :
    wpAny (model prog w) A (pyNext (.ref z)) Q E s := by
  have hT : s.TypeIs (.ref z) "zip" := ⟨_, hz, rfl⟩
  unfold pyNext
  exact wpAny_bind (wpAny_attempt (wpAny_callSpecial?_slot (name := Str.ofString "__next__") hT PySem.F.slot_zip_next
    (wpAny_call_entry PySem.F.slot_zip_next hT PySem.F.entry_zip_next
      (zipr_item D hz hTI hTO h1 hleft h2 hl2 hy fun h' a1 a2 a3 a4 a5 a6 => wpAny_pure (hQ h' a1 a2 a3 a4 a5 a6)) (PySem.F.args_zip_next_1 _))))
theorem pyNext_zipr_end {z TI TO i1 i2 l : Addr} {x left step : Int} {a b : Value} {Q : Option Value → Shared → Prop} (hh : A.handled = none) (D : ZipApart z TI TO i1 i2 l l)
    (hz : IsZip s.heap z TI TO .none) (hTI : IsPair s.heap TI (.ref i1) (.ref i2)) (hTO : IsPair s.heap TO a b)
    (h1 : IsRangeIter s.heap i1 x left step) (hleft : left ≤ 0)
    (hQ : ∀ h', (∀ c o, c ≠ z → c ≠ TO → c ≠ i1 → s.heap.get? c = some o → h'.get? c = some o) → Q none { s with heap := h' }) : wpAny (model prog w) A (pyNext (.ref z)) Q E s := by
  have hT : s.TypeIs (.ref z) "zip" := ⟨_, hz, rfl⟩
  unfold pyNext
  refine wpAny_bind (wpAny_attempt (wpAny_callSpecial?_slot (name := Str.ofString "__next__") hT PySem.F.slot_zip_next
    (wpAny_call_entry PySem.F.slot_zip_next hT PySem.F.entry_zip_next (zipr_end hh D hz hTI hTO h1 hleft fun h' e hk he => ?_) (PySem.F.args_zip_next_1 _))))
  obtain ⟨o, ho, hc⟩ := he
  refine wpAny_bind (wpAny_isInstance (T := "StopIteration") (b := true) ⟨o, ho, hc⟩ isSubtype_stop ?_)
  exact wpAny_pure (hQ _ hk)
end

/-- zip(range, list_iterator) is made -/
noncomputable def rIt (a b c : Int) : Obj := { cls := .type "range_iterator", data := .fields #[rawInt a, rawInt (Builtin.Range.rangeSize a b c), rawInt c] }
noncomputable def zH1 (h : Heap) (a b c : Int) : Heap := h.push (rIt a b c)
noncomputable def zH2 (h : Heap) (a b c : Int) (i2 : Addr) : Heap := (zH1 h a b c).push { cls := .type "tuple", data := .seq #[.ref h.objs.size, .ref i2] }
noncomputable def zH3 (h : Heap) (a b c : Int) (i2 : Addr) : Heap := (zH2 h a b c i2).push { cls := .type "tuple", data := .seq #[.none, .none] }
noncomputable def zH4 (h : Heap) (a b c : Int) (i2 : Addr) : Heap := (zH3 h a b c i2).push { cls := .type "zip", data := .fields #[.none, .bool false, .bool false, .ref (zH1 h a b c).objs.size, .ref (zH2 h a b c i2).objs.size] }
theorem meets_zipr_new (r i2 l : Addr) (a b c : Int) (t u v : Tok) (k : Nat) (hsm : Builtin.Range.small a b c = true) :
    Meets (Builtin.«zip.__new__» ⟨[.type "zip", .ref r, .ref i2], []⟩) (fun _ R s => IsRange s.heap r a b c t u v ∧ s.heap.IsListIter i2 l k ∧
      R (.ok (.ret (.ref (zH3 s.heap a b c i2).objs.size))) { s with heap := zH4 s.heap a b c i2 }) :=
  .of_wp fun prog w A R s h => by
    obtain ⟨hp, g, d, tk, os⟩ := s; obtain ⟨hl1, hl2, h⟩ := h
    have hsub := sub_zip
    have hL1 : IsRange (Shared.heap ⟨hp, g, d, tk, os⟩) r a b c t u v := hl1
    have hL2 : Heap.IsListIter (Shared.heap ⟨hp.push { cls := .type "range_iterator", data := .fields #[rawInt a, rawInt (Builtin.Range.rangeSize a b c), rawInt c] }, g, d, tk, os⟩) i2 l k := Heap.IsListIter.at hl2 fun o e => Heap.get?_push_of_some _ e
    wp_walk using wpAny_pyIter_range hL1 hsm, wpAny_pyIter_listiter hL2
    exact ⟨_, rfl, h⟩
end Mine

-- Z2
namespace Mine
section
variable {prog : Program} {w : World} {A : Around} {E : Value → Shared → Prop} {s : Shared}
theorem call_zipr {r i2 l : Addr} {a b c : Int} {t u v : Tok} {k : Nat} {Q : Value → Shared → Prop} (hr : IsRange s.heap r a b c t u v) (hsm : Builtin.Range.small a b c = true) (hl2 : s.heap.IsListIter i2 l k)
    (h : ∀ h', IsZip h' (s.heap.objs.size + 3) (s.heap.objs.size + 1) (s.heap.objs.size + 2) .none → IsPair h' (s.heap.objs.size + 1) (.ref s.heap.objs.size) (.ref i2) →
      IsPair h' (s.heap.objs.size + 2) .none .none → IsRangeIter h' s.heap.objs.size a (Builtin.Range.rangeSize a b c) c →
      (∀ c o, s.heap.get? c = some o → h'.get? c = some o) → Q (.ref (s.heap.objs.size + 3)) { s with heap := h' }) :
    wpAny (model prog w) A (call (.type "zip") [.ref r, .ref i2]) Q E s := by
  refine callType_new PySem.F.called_zip (by decide) (PySem.F.typeCall_zip_2 _ _) (PySem.F.newCall_zip_2 _ _) (fun obj => PySem.F.args_object_init_3 obj _ _) PySem.F.entry_zip_new
    (meets_zipr_new r i2 l a b c t u v k hsm) ⟨hr, hl2, ?_⟩
  have z1 : (zH1 s.heap a b c).objs.size = s.heap.objs.size + 1 := Heap.size_push ..
  have z2 : (zH2 s.heap a b c i2).objs.size = s.heap.objs.size + 2 := by unfold zH2; rw [Heap.size_push, z1]
  have z3 : (zH3 s.heap a b c i2).objs.size = s.heap.objs.size + 3 := by unfold zH3; rw [Heap.size_push, z2]
  have g4 : (zH4 s.heap a b c i2).get? (zH3 s.heap a b c i2).objs.size = some _ := Heap.get?_push_size _ rfl
  have g3 : (zH4 s.heap a b c i2).get? (zH2 s.heap a b c i2).objs.size = some _ := Heap.get?_push_of_some _ (Heap.get?_push_size _ rfl)
  have g2 : (zH4 s.heap a b c i2).get? (zH1 s.heap a b c).objs.size = some _ := Heap.get?_push_of_some _ (Heap.get?_push_of_some _ (Heap.get?_push_size _ rfl))
  have g1 : (zH4 s.heap a b c i2).get? s.heap.objs.size = some _ := Heap.get?_push_of_some _ (Heap.get?_push_of_some _ (Heap.get?_push_of_some _ (Heap.get?_push_size _ rfl)))
  show _ ∧ _
  rw [z1, z2, z3] at g4
  rw [z2] at g3
  rw [z1] at g2
  rw [z3]
  exact ⟨⟨_, g4, rfl⟩, h _ g4 g2 g3 g1 fun c o x => Heap.get?_push_of_some _ (Heap.get?_push_of_some _ (Heap.get?_push_of_some _ (Heap.get?_push_of_some _ x)))⟩
end
end Mine

-- Z3
namespace Mine
section
variable {prog : Program} {w : World} {A : Around} {E : Value → Shared → Prop} {s : Shared} {h₀ : Heap} {L : Addr} {m : Str → Option Value} {env : Env}
/-- one element of a comprehension is made: the ledger holds C (the comprehension's names) and D (the list so far) ahead of news' -/
noncomputable def EltEnd (h₀ : Heap) (L : Addr) (m : Str → Option Value) (s₁ : Shared) (C D : Addr) (ys : List Value) (R : Value → List (Addr × Obj) → Prop) (y : Value) (s₂ : Shared) : Prop :=
  ∃ h' tk oC m₂ news', s₂ = { s₁ with heap := h', toks := tk } ∧ Fr h₀ L h' m ∧ LCg.NsObj oC m₂ ∧ News h₀ L h' ((C, oC) :: (D, LCg.lst ys) :: news') ∧ (∀ p ∈ news', p.1 ≠ C ∧ p.1 ≠ D) ∧ R y news'
/-- a comprehension with a tuple of targets, by an invariant over the values made and the ledger -/
structure CompJ (prog : Program) (w : World) (A : Around) (h₀ : Heap) (L : Addr) (m : Str → Option Value) (env : Env) (elt : PySem.Expr) (elts : List PySem.Expr) (x1 : Nat) (tp : Pos) (scope : Scope) (cl : List (Str × Addr)) (z : Addr) (n : Nat) (s : Shared) (news : List (Addr × Obj))
    (J : Nat → List Value → List (Addr × Obj) → Prop) (JF : List Value → List (Addr × Obj) → Prop) : Prop where
  small : n ≤ sizeLine
  fr : Fr h₀ L s.heap m
  nw : News h₀ L s.heap news
  start : J 0 [] news
  self : ∀ h tk (Q : Value → Shared → Prop) (E : Value → Shared → Prop), News h₀ L h news → Q (.ref z) { s with heap := h, toks := tk } → wpAny (model prog w) A (pyIter (.ref z)) Q E { s with heap := h, toks := tk }
  turn : ∀ i ys news' h tk C D oC m₂ (E' : Value → Shared → Prop), i < n → J i ys news' → ys.length = i → LCg.NsObj oC m₂ → Fr h₀ L h m → News h₀ L h ((C, oC) :: (D, LCg.lst ys) :: news') → (∀ p ∈ news', p.1 ≠ C ∧ p.1 ≠ D) → C ≠ D → (∀ p ∈ news, p.1 < D ∧ p.1 < C) →
    wpAny (model prog w) A (pyNext (.ref z)) (fun r s₁ => ∃ v, r = some v ∧ wpAny (model prog w) A (letOwnedTupleGo (.Tuple elts x1 tp) (.ref z) v) (fun _ s₁' => wpAny (model prog w) A (assign (.Tuple elts x1 tp) (compEnvC scope cl C env) v) (fun _ s₂ =>
      wpAny (model prog w) A (eval elt (compEnvC scope cl C env)) (EltEnd h₀ L m { s with heap := h, toks := tk } C D ys fun y news'' => J (i + 1) (ys ++ [y]) news'') E' s₂) E' s₁') E' s₁) E' { s with heap := h, toks := tk }
  fin : ∀ ys news' h tk C D oC m₂ (E' : Value → Shared → Prop) (Q' : Option Value → Shared → Prop), J n ys news' → ys.length = n → LCg.NsObj oC m₂ → Fr h₀ L h m → News h₀ L h ((C, oC) :: (D, LCg.lst ys) :: news') → (∀ p ∈ news', p.1 ≠ C ∧ p.1 ≠ D) → C ≠ D →
    (∀ h' tk' news'', Fr h₀ L h' m → News h₀ L h' ((C, oC) :: (D, LCg.lst ys) :: news'') → (∀ p ∈ news'', p.1 ≠ C ∧ p.1 ≠ D) → JF ys news'' → Q' none { s with heap := h', toks := tk' }) →
    wpAny (model prog w) A (pyNext (.ref z)) Q' E' { s with heap := h, toks := tk }

theorem block_J {elt iter : PySem.Expr} {elts : List PySem.Expr} {x1 : Nat} {tp : Pos} {scope : Scope} {cl : List (Str × Addr)} {pos : Pos} {z : Addr} {n : Nat} {news : List (Addr × Obj)} {J : Nat → List Value → List (Addr × Obj) → Prop} {JF : List Value → List (Addr × Obj) → Prop}
    {RR : Value → Addr → Result → Shared → Prop} (W : CompJ prog w A h₀ L m env elt elts x1 tp scope cl z n s news J JF)
    (hcell : ∀ y ∈ scope.names, y.2 ≠ .cell) (hkind : scope.kind = .function)
    (hRR : ∀ D C h tk m' ys news', Fr h₀ L h m → News h₀ L h ((D, LCg.lst ys) :: news') → (∀ p ∈ news', p.1 ≠ D) → (∀ p ∈ news, p.1 < D) → h.Ns C m' → h₀.get? C = none → C ≠ L → C ≠ D → (∀ p ∈ news', p.1 ≠ C) → JF ys news' → RR (.ref D) C (.ok .next) { s with heap := h, toks := tk }) :
    wpAny (model prog w) A (newList []) (fun acc s₃ => wpAny (model prog w) A (newFunctionEnv scope env.globals cl [] env.qual none .none (some env)) (fun cenv s₄ =>
      codeAny (model prog w) A (.compStart (.ListComp elt [⟨.Tuple elts x1 tp, iter, [], 0⟩] scope pos) 0 (.ref z) acc { cenv with scope := relabel scope env }) (RR acc cenv.locals) s₄) E s₃) E s := by
  have F := W.fr
  have N := W.nw
  refine wpAny_newObj_type (wpAny_newFunctionEnv hcell (by intro y hy; simp at hy) (fun h₁ hns₁ hsb₁ => ?_) hkind)
  dsimp only at hns₁ hsb₁ ⊢
  generalize hH2 : s.heap.push { cls := .type "list", dict := none, data := .seq ([] : List Value).toArray } = H2 at hns₁ hsb₁ ⊢
  have hC : H2.objs.size = s.heap.objs.size + 1 := by rw [← hH2, Heap.size_push]
  have hDC : s.heap.objs.size ≠ H2.objs.size := by rw [hC]; exact Nat.ne_of_lt (Nat.lt_succ_self _)
  have below : ∀ b, b < s.heap.objs.size → b ≠ H2.objs.size ∧ b ≠ s.heap.objs.size := fun b hb => ⟨by rw [hC]; exact Nat.ne_of_lt (Nat.lt_succ_of_lt hb), Nat.ne_of_lt hb⟩
  have old : ∀ b o, s.heap.get? b = some o → h₁.get? b = some o := fun b o e => hsb₁.extBut b o (below b (Heap.lt_size e)).1 (Heap.get?_push_of_some _ (hH2 ▸ Heap.get?_push_of_some _ e))
  have hacc : h₁.get? s.heap.objs.size = some (LCg.lst []) := hsb₁.extBut _ _ hDC (Heap.get?_push_of_some _ (hH2 ▸ Heap.get?_push_size _ rfl))
  have fresh : ∀ a, s.heap.objs.size ≤ a → h₀.get? a = none := fun a ha => Heap.get?_none_of_le (Nat.le_trans (Nat.le_of_lt (Nat.lt_of_le_of_lt F.above F.ns.lt)) ha)
  have hD₀ : h₀.get? s.heap.objs.size = none := fresh _ (Nat.le_refl _)
  have hC₀ : h₀.get? H2.objs.size = none := fresh _ (by rw [hC]; exact Nat.le_succ _)
  have hLlt : L < s.heap.objs.size := F.ns.lt
  have hDL : s.heap.objs.size ≠ L := Ne.symm (below L hLlt).2
  have hCL : H2.objs.size ≠ L := Ne.symm (below L hLlt).1
  have hlt : ∀ p ∈ news, p.1 < s.heap.objs.size := fun p hp => Heap.lt_size (N p hp).1
  have loop : ∀ s₃ : Shared, s₃ = { s with heap := h₁, toks := s.toks + ([] : List (Str × Value)).length } →
      codeAny (model prog w) A (.compLoop (.ListComp elt [⟨.Tuple elts x1 tp, iter, [], 0⟩] scope pos) 0 (.ref z) (.ref s.heap.objs.size) (compEnvC scope cl H2.objs.size env)) (RR (.ref s.heap.objs.size) H2.objs.size) s₃ := by
    rintro s₃ rfl
    refine LCp.codeAny_compLoop_pair
      (fun k s' => ∃ h' tk i ys oC m' news', s' = { s with heap := h', toks := tk } ∧ i ≤ n ∧ k = n + 1 - i ∧ ys.length = i ∧ Fr h₀ L h' m ∧ LCg.NsObj oC m' ∧ News h₀ L h' ((H2.objs.size, oC) :: (s.heap.objs.size, LCg.lst ys) :: news') ∧
        (∀ p ∈ news', p.1 ≠ H2.objs.size ∧ p.1 ≠ s.heap.objs.size) ∧ J i ys news') ?_ (n + 1) ?_
    · rintro k s' ⟨h', tk, i, ys, oC, m', news', rfl, hi, rfl, hyl, F', hoC, N', off', hJ⟩
      by_cases hlti : i < n
      · refine wpAny_mono (W.turn i ys news' h' tk _ _ oC m' _ hlti hJ hyl hoC F' N' off' (Ne.symm hDC) fun p hp => ⟨hlt p hp, by rw [hC]; exact Nat.lt_succ_of_lt (hlt p hp)⟩) (fun r s₁ hr => ?_) fun _ _ e => e
        obtain ⟨v, rfl, hv⟩ := hr
        dsimp only
        refine wpAny_mono hv (fun _ s₁' h1 => wpAny_mono h1 (fun _ s₂ h2 => wpAny_mono h2 (fun y s₃ h3 => ?_) fun _ _ e => e) fun _ _ e => e) fun _ _ e => e
        obtain ⟨h₄, tk₄, oC₄, m₄, news₄, rfl, F₄, hoC₄, N₄, off₄, hJ₄⟩ := h3
        have zD := (N₄ _ (.tail _ (.head _))).1
        have zC := (N₄ _ (.head _)).1
        refine append_at (hsz := by show ys.toArray.size ≤ sizeLine; rw [List.size_toArray, hyl]; exact Nat.le_trans (Nat.le_of_lt hlti) W.small) zD fun h₅ hs₅ hD₅ => ?_
        refine ⟨n + 1 - (i + 1), by omega, h₅, tk₄, i + 1, ys ++ [y], oC₄, m₄, news₄, rfl, hlti, rfl, by rw [List.length_append, List.length_singleton, hyl], F₄.change hs₅ hDL hD₀, hoC₄, fun p hp => ?_, off₄, hJ₄⟩
        rcases List.mem_cons.mp hp with rfl | hp
        · exact ⟨hs₅.extBut _ _ (Ne.symm hDC) zC, (N₄ _ (.head _)).2⟩
        · rcases List.mem_cons.mp hp with rfl | hp
          · exact ⟨hD₅.trans (congrArg some (LCg.lst_snoc ys y)), hDL, hD₀⟩
          · exact ⟨hs₅.extBut _ _ (off₄ p hp).2 (N₄ p (.tail _ (.tail _ hp))).1, (N₄ p (.tail _ (.tail _ hp))).2⟩
      · obtain rfl : i = n := Nat.le_antisymm hi (Nat.not_lt.mp hlti)
        refine W.fin ys news' h' tk _ _ oC m' _ _ hJ hyl hoC F' N' off' (Ne.symm hDC) fun h₂ tk₂ news₂ F₂ N₂ off₂ hJF => ?_
        refine hRR _ _ h₂ tk₂ m' ys news₂ F₂ (fun p hp => N₂ p (.tail _ hp)) (fun p hp => (off₂ p hp).2) hlt (hoC.ns (N₂ _ (.head _)).1) hC₀ hCL (Ne.symm hDC) (fun p hp => (off₂ p hp).1) hJF
    · obtain ⟨oC, heC, hoC⟩ := LCg.ns_obj hns₁
      refine ⟨h₁, _, 0, [], oC, _, news, rfl, Nat.zero_le _, rfl, rfl, F.keeps old, hoC, fun p hp => ?_, fun p hp => below _ (hlt p hp), W.start⟩
      rcases List.mem_cons.mp hp with rfl | hp
      · exact ⟨heC, hCL, hC₀⟩
      · rcases List.mem_cons.mp hp with rfl | hp
        · exact ⟨hacc, hDL, hD₀⟩
        · exact ⟨old _ _ (N p hp).1, (N p hp).2⟩
  exact codeAny_compStart_list (loop _ rfl) (W.self _ _ _ _ (N.grown old) (loop _ rfl))

noncomputable def SrcJ (prog : Program) (w : World) (A : Around) (h₀ : Heap) (L : Addr) (m : Str → Option Value) (env : Env) (elt : PySem.Expr) (elts : List PySem.Expr) (x1 : Nat) (tp : Pos) (scope : Scope) (cl : List (Str × Addr)) (Fin : Shared → List Value → Addr → List (Addr × Obj) → Prop) (it : Value) (s₂ : Shared) : Prop :=
  ∃ z n news J JF, it = .ref z ∧ CompJ prog w A h₀ L m env elt elts x1 tp scope cl z n s₂ news J JF ∧ ∀ D ys news', (∀ p ∈ news', p.1 ≠ D) → (∀ p ∈ news, p.1 < D) → JF ys news' → Fin s₂ ys D news'

theorem ListComp_J {elt iter : PySem.Expr} {elts : List PySem.Expr} {x1 : Nat} {tp : Pos} {scope : Scope} {cl : List (Str × Addr)} {pos : Pos} {Q : Value → Shared → Prop} (_F : Fr h₀ L s.heap m)
    (hclos : closureFor scope env = pure cl) (hcell : ∀ y ∈ scope.names, y.2 ≠ .cell) (hkind : scope.kind = .function)
    (hnames : ∀ y ∈ scope.names, y.2 = .local → scope.names.lookup y.1 = some .local)
    (h : wpAny (model prog w) A (eval iter env) (fun xv s₁ => wpAny (model prog w) A (pyIter xv) (SrcJ prog w A h₀ L m env elt elts x1 tp scope cl fun s₂ ys D news' =>
      ∀ h' tk, Fr h₀ L h' m → News h₀ L h' ((D, LCg.lst ys) :: news') → Q (.ref D) { s₂ with heap := h', toks := tk }) E s₁) E s)
    (hs : ∀ x, foldedSetIterable iter env x = pure x := by intro _; rfl) :
    wpAny (model prog w) A (eval (.ListComp elt [⟨.Tuple elts x1 tp, iter, [], 0⟩] scope pos) env) Q E s := by
  rw [eval_ListComp]
  refine wpAny_comprehension_free (use := none) rfl hs hclos hkind hnames (wpAny_mono h (fun xv s₁ h₁ => wpAny_mono h₁ (fun it s₂ h₂ => ?_) fun _ _ e => e) fun _ _ e => e)
  obtain ⟨z, n, news, J, JF, rfl, W, fin⟩ := h₂
  refine block_J W hcell hkind ?_
  intro D C h tk m' ys news' F' N' o1 o2 hn hC₀ hCL hCD offC hJF
  refine ⟨m', hn, fun h'' hs'' => fin D ys news' o1 o2 hJF h'' tk (F'.change hs'' hCL hC₀) (fun p hp => ?_)⟩
  refine ⟨hs''.extBut _ _ ?_ (N' p hp).1, (N' p hp).2⟩
  rcases List.mem_cons.mp hp with rfl | hp
  · exact Ne.symm hCD
  · exact offC p hp

theorem Assign_ListComp_J {elt iter : PySem.Expr} {elts : List PySem.Expr} {x1 : Nat} {tp : Pos} {y : Str} {py : Pos} {scope : Scope} {cl : List (Str × Addr)} {pos spos : Pos} {Q : Flow → Shared → Prop} (_F : Fr h₀ L s.heap m) (hLe : env.locals = L)
    (hsw : swapsWith (.ListComp elt [⟨.Tuple elts x1 tp, iter, [], 0⟩] scope pos) (some (.Name y py)) spos.line env = pure true)
    (hclos : closureFor scope env = pure cl) (hcell : ∀ z ∈ scope.names, z.2 ≠ .cell) (hkind : scope.kind = .function)
    (hnames : ∀ z ∈ scope.names, z.2 = .local → scope.names.lookup z.1 = some .local)
    (hy : env.kindOf y = some .local) (hp : (env.scope.kind == .class || (env.scope.kind == .module && env.locals != env.globals)) = false)
    (h : wpAny (model prog w) A (eval iter env) (fun xv s₁ => wpAny (model prog w) A (pyIter xv) (SrcJ prog w A h₀ L m env elt elts x1 tp scope cl fun s₂ ys D news' =>
      ∀ h' tk, Fr h₀ L h' (fun z => if z = y then some (.ref D) else m z) → News h₀ L h' ((D, LCg.lst ys) :: news') → Q .next { s₂ with heap := h', toks := tk }) E s₁) E s)
    (hs : ∀ x, foldedSetIterable iter env x = pure x := by intro _; rfl) :
    wpAny (model prog w) A (exec (.Assign [.Name y py] (.ListComp elt [⟨.Tuple elts x1 tp, iter, [], 0⟩] scope pos) spos) env) Q E s := by
  subst hLe
  rw [exec_Assign_Name_used _ _ _ _ hsw]
  refine wpAny_bind (wpAny_standAt (wpAny_bind ?_))
  show wpAny _ A (do let _ ← comprehension (.ListComp elt [⟨.Tuple elts x1 tp, iter, [], 0⟩] scope pos) scope env _ (newList []) false (eval iter env) (some (assign (.Name y py) env))) _ _ s
  refine wpAny_bind (wpAny_mono (wpAny_comprehension_free (use := some (assign (.Name y py) env)) (Q := fun _ s' => Q .next s') rfl hs hclos hkind hnames
    (wpAny_mono h (fun xv s₁ h₁ => wpAny_mono h₁ (fun it s₂ h₂ => ?_) fun _ _ e => e) fun _ _ e => e)) (fun _ s' hq => wpAny_pure (wpAny_pure hq)) fun _ _ e => e)
  obtain ⟨z, n, news, J, JF, rfl, W, fin⟩ := h₂
  refine block_J W hcell hkind ?_
  intro D C h' tk m' ys news' F' N' o1 o2 hn hC₀ hCL hCD offC hJF
  show wpAny _ A (assign (.Name y py) env (.ref D)) _ _ _
  refine wpAny_assign_Name (wpAny_storeName_local hy F'.ns (fun h₂ hn₂ hs₂ => ?_) hp)
  have hL₀ : h₀.get? env.locals = none := Heap.get?_none_of_le F'.above
  have F₂ : Fr h₀ env.locals h₂ (fun z => if z = y then some (.ref D) else m z) := ⟨hn₂, fun b o e => hs₂.extBut b o (fun q => by rw [q, hL₀] at e; cases e) (F'.keep b o e), F'.above⟩
  refine ⟨m', hn.sameBut hs₂ hCL, fun h'' hs'' => fin D ys news' o1 o2 hJF h'' _ (F₂.change hs'' hCL hC₀) (fun p hp => ?_)⟩
  have z : h₂.get? p.1 = some p.2 := hs₂.extBut _ _ (N' p hp).2.1 (N' p hp).1
  refine ⟨hs''.extBut _ _ ?_ z, (N' p hp).2⟩
  rcases List.mem_cons.mp hp with rfl | hp
  · exact Ne.symm hCD
  · exact offC p hp
end
end Mine

-- Z4
namespace Mine
/-- a tuple of these ints -/
noncomputable def MkTup (o : Obj) (ks : List Int) : Prop := o.cls = .type "tuple" ∧ ∃ (ws : List Value) (c : Nat), o.data = .seq (List.toArray ws) c ∧ IntsAre ws ks
noncomputable def TupIn (tups : List (Addr × Obj)) (v : Value) (ks : List Int) : Prop := ∃ a o, v = .ref a ∧ (a, o) ∈ tups ∧ MkTup o ks
/-- the values are tuples of the ledger, which hold these ints -/
inductive Al (tups : List (Addr × Obj)) : List Value → List (List Int) → Prop where
  | nil : Al tups [] []
  | cons {v : Value} {ks : List Int} {vs : List Value} {ds : List (List Int)} : TupIn tups v ks → Al tups vs ds → Al tups (v :: vs) (ks :: ds)
theorem TupIn.mono {tups tups' : List (Addr × Obj)} {v : Value} {ks : List Int} (h : TupIn tups v ks) (hs : ∀ p ∈ tups, p ∈ tups') : TupIn tups' v ks := by
  obtain ⟨a, o, e, hm, hk⟩ := h
  exact ⟨a, o, e, hs _ hm, hk⟩
theorem Al.mono {tups tups' : List (Addr × Obj)} {vs : List Value} {ds : List (List Int)} (h : Al tups vs ds) (hs : ∀ p ∈ tups, p ∈ tups') : Al tups' vs ds := by
  induction h with
  | nil => exact .nil
  | cons h _ ih => exact .cons (h.mono hs) ih
theorem Al.snoc {tups : List (Addr × Obj)} {vs : List Value} {ds : List (List Int)} {v : Value} {ks : List Int} (h : Al tups vs ds) (hv : TupIn tups v ks) : Al tups (vs ++ [v]) (ds ++ [ks]) := by
  induction h with
  | nil => exact .cons hv .nil
  | cons h _ ih => exact .cons h ih
theorem Al.length {tups : List (Addr × Obj)} {vs : List Value} {ds : List (List Int)} (h : Al tups vs ds) : vs.length = ds.length := by
  induction h with
  | nil => rfl
  | cons _ _ ih => simp [ih]

noncomputable def pairO (a b : Value) : Obj := { cls := .type "tuple", data := .seq #[a, b] }
noncomputable def zipO (TI TO : Addr) : Obj := { cls := .type "zip", dict := none, data := .fields #[.none, .bool false, .bool false, .ref TI, .ref TO], slots := #[] }
noncomputable def rngO (x left step : Int) : Obj := { cls := .type "range_iterator", dict := none, data := .fields #[rawInt x, rawInt left, rawInt step], slots := #[] }
noncomputable def IsLit (o : Obj) (l : Addr) (k : Nat) : Prop := o.cls = .type "list_iterator" ∧ o.data = .fields #[.ref l, .int ((k : Nat) : Int) 0]
noncomputable abbrev zled (z TI TO i1 I : Addr) (oTO : Obj) (x left step : Int) (oI : Obj) : List (Addr × Obj) := [(z, zipO TI TO), (TI, pairO (.ref i1) (.ref I)), (TO, oTO), (i1, rngO x left step), (I, oI)]
theorem lit_iter {h₀ h : Heap} {L I l : Addr} {oI : Obj} {k : Nat} {led : List (Addr × Obj)} (N : News h₀ L h led) (hm : (I, oI) ∈ led) (x : IsLit oI l k) : h.IsListIter I l k := ⟨oI, (N _ hm).1, x.1, x.2⟩
theorem iter_lit {h : Heap} {I l : Addr} {k : Nat} (x : h.IsListIter I l k) : ∃ oI, h.get? I = some oI ∧ IsLit oI l k := by
  obtain ⟨o, e, c, d⟩ := x
  exact ⟨o, e, c, d⟩
section
variable {prog : Program} {w : World} {A : Around} {E : Value → Shared → Prop} {s : Shared} {h₀ : Heap} {L : Addr} {m : Str → Option Value} {env : Env}
theorem zip_src {elt : PySem.Expr} {xi xe : Str} {pi pe tp : Pos} {x1 : Nat} {scope : Scope} {cl : List (Str × Addr)} {r I sl : Addr} {oI : Obj} {rest : List (Addr × Obj)} {svs : List Value} {a b c : Int} {t u v : Tok} {n : Nat} {dk : Nat → List Int}
    {Fin : Shared → List Value → Addr → List (Addr × Obj) → Prop} (hh : A.handled = none) (F : Fr h₀ L s.heap m) (N : News h₀ L s.heap ((I, oI) :: rest)) (hI : IsLit oI sl 0) (hrest : ∀ p ∈ rest, p.1 ≠ I) (hsl : h₀.IsList sl svs.toArray)
    (hr : IsRange s.heap r a b c t u v) (hsm : Builtin.Range.small a b c = true) (hsz : Builtin.Range.rangeSize a b c = (n : Int)) (hn : n ≤ svs.length) (hline : n ≤ sizeLine)
    (hkind : scope.kind = .function) (hxi : scope.names.lookup xi = some .local) (hxe : scope.names.lookup xe = some .local) (hne : xi ≠ xe)
    (helt : ∀ i C D oC m₂ ys led h tk (E' : Value → Shared → Prop) (Q' : Value → Shared → Prop), i < n → LCg.NsObj oC m₂ → (∃ t, m₂ xi = some (.int (a + (i : Nat) * c) t)) → m₂ xe = some (svs.getD i .none) → Fr h₀ L h m →
      News h₀ L h ((C, oC) :: (D, LCg.lst ys) :: led) → (∀ p ∈ rest, p ∈ led) →
      (∀ T oT h' tk', Fr h₀ L h' m → News h₀ L h' ((T, oT) :: (C, oC) :: (D, LCg.lst ys) :: led) → (∀ p ∈ (C, oC) :: (D, LCg.lst ys) :: led, p.1 < T) → MkTup oT (dk i) → Q' (.ref T) { s with heap := h', toks := tk' }) →
      wpAny (model prog w) A (eval elt (compEnvC scope cl C env)) Q' E' { s with heap := h, toks := tk })
    (fin : ∀ s₂ D ys oI' tups, (∃ hx tx, s₂ = { s with heap := hx, toks := tx }) → (∀ p ∈ (I, oI') :: (tups ++ rest), p.1 ≠ D) → (∀ p ∈ (I, oI) :: rest, p.1 < D) → IsLit oI' sl n → (∀ p ∈ tups ++ rest, p.1 ≠ I) → Al tups ys ((List.range n).map dk) → Fin s₂ ys D ((I, oI') :: (tups ++ rest))) :
    wpAny (model prog w) A (call (.type "zip") [.ref r, .ref I]) (fun xv s₁ => wpAny (model prog w) A (pyIter xv) (SrcJ prog w A h₀ L m env elt [.Name xi pi, .Name xe pe] x1 tp scope cl Fin) E s₁) E s := by
  have hIlt : @LT.lt Nat _ I s.heap.objs.size := Heap.lt_size (N _ (.head _)).1
  have hslt : @LT.lt Nat _ sl s.heap.objs.size := by obtain ⟨o, e, _⟩ := hsl; exact Heap.lt_size (F.keep _ _ e)
  have hslI : sl ≠ I := by
    intro e; obtain ⟨o, e', _⟩ := hsl; have := (N _ (.head _)).2.2; rw [← e, e'] at this; cases this
  refine call_zipr hr hsm (lit_iter N (.head _) hI) fun h1 hz hTI hTO hi1 hk => ?_
  have hLlt : @LT.lt Nat _ L s.heap.objs.size := F.ns.lt
  generalize hZ : s.heap.objs.size = Z at *
  have ZA : ZipApart (Z + 3) (Z + 1) (Z + 2) Z I sl sl := ⟨neN (by omega), neN (by omega), neN (by omega), neN (by omega), neN (by omega), neN (by omega), neN (by omega), neN (by omega), neN (by omega), neN (by omega), neN (by omega), neN (by omega), neN (by omega), hslI, neN (by omega), neN (by omega), neN (by omega), hslI⟩
  refine wpAny_pyIter_zip hz ?_
  have fresh : ∀ a, Z ≤ a → h₀.get? a = none := fun a ha => Heap.get?_none_of_le (Nat.le_trans F.above (Nat.le_trans (Nat.le_of_lt hLlt) ha))
  have F1 : Fr h₀ L h1 m := F.keeps hk
  have N1 : News h₀ L h1 (zled (Z + 3) (Z + 1) (Z + 2) Z I (pairO .none .none) a n c oI ++ rest) := by
    intro p hp
    simp only [zled, List.cons_append, List.nil_append] at hp
    rcases List.mem_cons.mp hp with rfl | hp
    · exact ⟨hz, neN (by omega), fresh _ (Nat.le_add_right _ _)⟩
    · rcases List.mem_cons.mp hp with rfl | hp
      · exact ⟨hTI, neN (by omega), fresh _ (Nat.le_add_right _ _)⟩
      · rcases List.mem_cons.mp hp with rfl | hp
        · exact ⟨hTO, neN (by omega), fresh _ (Nat.le_add_right _ _)⟩
        · rcases List.mem_cons.mp hp with rfl | hp
          · exact ⟨by rw [hsz] at hi1; exact hi1, neN (by omega), fresh _ (Nat.le_refl _)⟩
          · exact ⟨hk _ _ (N p hp).1, (N p hp).2⟩
  refine ⟨Z + 3, n, zled (Z + 3) (Z + 1) (Z + 2) Z I (pairO .none .none) a n c oI ++ rest, (fun i ys nw => ∃ oTO oI' tups, nw = zled (Z + 3) (Z + 1) (Z + 2) Z I oTO (a + (i : Nat) * c) ((n : Int) - (i : Nat)) c oI' ++ (tups ++ rest) ∧ (∃ x y, oTO = pairO x y) ∧ IsLit oI' sl i ∧
      (∀ p ∈ tups ++ rest, p.1 ≠ Z + 3 ∧ p.1 ≠ Z + 2 ∧ p.1 ≠ Z ∧ p.1 ≠ I) ∧ Al tups ys ((List.range i).map dk)),
    (fun ys nw => ∃ oI' tups, nw = (I, oI') :: (tups ++ rest) ∧ IsLit oI' sl n ∧ (∀ p ∈ tups ++ rest, p.1 ≠ I) ∧ Al tups ys ((List.range n).map dk)), rfl, ?_, ?_⟩
  · refine ⟨hline, F1, N1, ⟨pairO .none .none, oI, [], by simp, ⟨_, _, rfl⟩, hI, fun p hp => ?_, .nil⟩, ?_, ?_, ?_⟩
    · have hp' : p ∈ rest := by simpa using hp
      have hlt : @LT.lt Nat _ p.1 Z := hZ ▸ Heap.lt_size (N p (.tail _ hp')).1
      exact ⟨neN (by omega), neN (by omega), neN (by omega), hrest p hp'⟩
    · intro h tk Q E N2 hQ
      exact wpAny_pyIter_zip (N2 (Z + 3, zipO (Z + 1) (Z + 2)) (.head _)).1 hQ
    · rintro i ys _ h tk C D oC m₂ E' hi ⟨oTO, oI', tups, rfl, ⟨x, y, rfl⟩, hlit, hap, hal⟩ hyl hoC F2 N2 off hCD hbel
      have g : ∀ {q}, q ∈ zled (Z + 3) (Z + 1) (Z + 2) Z I (pairO x y) (a + (i : Nat) * c) ((n : Int) - (i : Nat)) c oI' ++ (tups ++ rest) → h.get? q.1 = some q.2 := fun hq => (N2 _ (.tail _ (.tail _ hq))).1
      have hIl : h.IsListIter I sl i := ⟨oI', g (q := (I, oI')) (by (repeat (first | exact List.Mem.head _ | apply List.Mem.tail))), hlit.1, hlit.2⟩
      have hget : svs.toArray[i]? = some (svs.getD i .none) := by
        have : i < svs.length := by omega
        simp [List.getD_eq_getElem?_getD, this]
      have hns := hoC.ns (N2 (C, oC) (.head _)).1
      refine pyNext_zipr_item ZA (g (q := (Z + 3, zipO (Z + 1) (Z + 2))) (by (repeat (first | exact List.Mem.head _ | apply List.Mem.tail)))) (g (q := (Z + 1, pairO (.ref Z) (.ref I))) (by (repeat (first | exact List.Mem.head _ | apply List.Mem.tail)))) (g (q := (Z + 2, pairO x y)) (by (repeat (first | exact List.Mem.head _ | apply List.Mem.tail)))) (g (q := (Z, rngO (a + (i : Nat) * c) ((n : Int) - (i : Nat)) c)) (by (repeat (first | exact List.Mem.head _ | apply List.Mem.tail)))) (by omega) hIl (hsl.at fun o e => F2.keep _ _ e) hget ?_
      intro h3 hz3 hTO3 hi3 hI3 hT3 hk3
      refine ⟨_, rfl, ?_⟩
      have offz : ∀ q ∈ zled (Z + 3) (Z + 1) (Z + 2) Z I (pairO x y) (a + (i : Nat) * c) ((n : Int) - (i : Nat)) c oI' ++ (tups ++ rest), q.1 ≠ C ∧ q.1 ≠ D := off
      have nT : ∀ q o, h.get? q = some o → h.objs.size ≠ q := fun q o e => Nat.ne_of_gt (Heap.lt_size e)
      refine wpAny_letOwnedTupleGo_zip hz3 fun h4 hz4 hs4 => ?_
      have zne : h.objs.size ≠ Z + 3 := nT _ _ (g (q := (Z + 3, zipO (Z + 1) (Z + 2))) (by (repeat (first | exact List.Mem.head _ | apply List.Mem.tail))))
      have hT4 : IsTup h4 h.objs.size #[.int (a + (i : Nat) * c) tk, svs.getD i .none] := ⟨_, hs4.extBut _ _ zne hT3, rfl, _, rfl⟩
      have offC := (offz (Z + 3, zipO (Z + 1) (Z + 2)) (by (repeat (first | exact List.Mem.head _ | apply List.Mem.tail)))).1
      have offD := (offz (Z + 3, zipO (Z + 1) (Z + 2)) (by (repeat (first | exact List.Mem.head _ | apply List.Mem.tail)))).2
      have offC2 := (offz (Z + 2, pairO x y) (by (repeat (first | exact List.Mem.head _ | apply List.Mem.tail)))).1
      have offD2 := (offz (Z + 2, pairO x y) (by (repeat (first | exact List.Mem.head _ | apply List.Mem.tail)))).2
      have offC0 := (offz (Z, rngO (a + (i : Nat) * c) ((n : Int) - (i : Nat)) c) (by (repeat (first | exact List.Mem.head _ | apply List.Mem.tail)))).1
      have offD0 := (offz (Z, rngO (a + (i : Nat) * c) ((n : Int) - (i : Nat)) c) (by (repeat (first | exact List.Mem.head _ | apply List.Mem.tail)))).2
      have offCI := (offz (I, oI') (by (repeat (first | exact List.Mem.head _ | apply List.Mem.tail)))).1
      have offDI := (offz (I, oI') (by (repeat (first | exact List.Mem.head _ | apply List.Mem.tail)))).2
      -- what the step leaves alone
      have k4 : ∀ q o, q ≠ Z + 3 → q ≠ Z + 2 → q ≠ Z → q ≠ I → h.get? q = some o → h4.get? q = some o := fun q o c1 c2 c3 c4 e => hs4.extBut _ _ c1 (hk3 q o c1 c2 c3 c4 e)
      refine assign_Tuple_tuple hh hT4 rfl rfl fun h5 he5 => ?_
      have k5 : ∀ q o, h4.get? q = some o → h5.get? q = some o := fun q o e => he5 q o (Nat.ne_of_lt (Heap.lt_size e)) e
      have hns5 : h5.Ns C m₂ := hns.at' fun o e => k5 _ _ (k4 _ _ (Ne.symm offC) (Ne.symm offC2) (Ne.symm offC0) (Ne.symm offCI) e)
      refine assignInOrder_cons (wpAny_assign_Name (wpAny_storeName_local (lookup_relabel_local hxi) hns5 (fun h₆ hn₆ hs₆ => ?_) (by simp [compEnvC, relabel, hkind])))
      refine assignInOrder_cons (wpAny_assign_Name (wpAny_storeName_local (lookup_relabel_local hxe) hn₆ (fun h₇ hn₇ hs₇ => ?_) (by simp [compEnvC, relabel, hkind])))
      refine assignInOrder_nil ?_
      have k7 : ∀ q o, q ≠ C → h5.get? q = some o → h₇.get? q = some o := fun q o c1 e => hs₇.extBut _ _ c1 (hs₆.extBut _ _ c1 e)
      obtain ⟨oC', heC, hoC'⟩ := LCg.ns_obj hn₇
      obtain ⟨a3, b3, hTO3⟩ := hTO3
      obtain ⟨oI3, hoI3, hlit3⟩ := iter_lit hI3
      have hCL : C ≠ L := (N2 (C, oC) (.head _)).2.1
      have hC0 : h₀.get? C = none := (N2 (C, oC) (.head _)).2.2
      have e1 : a + ((i + 1 : Nat) : Int) * c = a + (i : Nat) * c + c := by push_cast; rw [Int.add_mul, Int.one_mul, Int.add_assoc]
      have e2 : (n : Int) - ((i + 1 : Nat) : Int) = (n : Int) - (i : Nat) - 1 := by push_cast; omega
      have F7 : Fr h₀ L h₇ m := by
        obtain ⟨oL, es, ep, hoL, r1, r2, r3⟩ := F2.ns
        have keepAll : ∀ q o, q ≠ Z + 3 → q ≠ Z + 2 → q ≠ Z → q ≠ I → q ≠ C → h.get? q = some o → h₇.get? q = some o := fun q o c1 c2 c3 c4 c5 e => k7 _ _ c5 (k5 _ _ (k4 _ _ c1 c2 c3 c4 e))
        have nI : L ≠ I := (N2 (I, oI') (by (repeat (first | exact List.Mem.head _ | apply List.Mem.tail)))).2.1.symm
        refine ⟨⟨oL, es, ep, keepAll L oL (neN (by omega)) (neN (by omega)) (neN (by omega)) nI (Ne.symm hCL) hoL, r1, r2, r3⟩, fun b o e => ?_, F2.above⟩
        refine keepAll b o ?_ ?_ ?_ ?_ ?_ (F2.keep _ _ e)
        · intro q; rw [q, fresh _ (Nat.le_add_right _ _)] at e; cases e
        · intro q; rw [q, fresh _ (Nat.le_add_right _ _)] at e; cases e
        · intro q; rw [q, fresh _ (Nat.le_refl _)] at e; cases e
        · intro q; rw [q, (N2 (I, oI') (by (repeat (first | exact List.Mem.head _ | apply List.Mem.tail)))).2.2] at e; cases e
        · intro q; rw [q, hC0] at e; cases e
      have N7 : News h₀ L h₇ ((C, oC') :: (D, LCg.lst ys) :: (zled (Z + 3) (Z + 1) (Z + 2) Z I (pairO a3 b3) (a + ((i + 1 : Nat) : Int) * c) ((n : Int) - ((i + 1 : Nat) : Int)) c oI3 ++ (tups ++ rest))) := by
        intro p hp
        rcases List.mem_cons.mp hp with rfl | hp
        · exact ⟨heC, hCL, hC0⟩
        · rcases List.mem_cons.mp hp with rfl | hp
          · have z := N2 (D, LCg.lst ys) (.tail _ (.head _))
            exact ⟨k7 _ _ (Ne.symm hCD) (k5 _ _ (k4 _ _ (Ne.symm offD) (Ne.symm offD2) (Ne.symm offD0) (Ne.symm offDI) z.1)), z.2⟩
          · simp only [zled, List.cons_append, List.nil_append] at hp
            rcases List.mem_cons.mp hp with rfl | hp
            · exact ⟨k7 _ _ offC (k5 _ _ hz4), (N2 (Z + 3, zipO (Z + 1) (Z + 2)) (by (repeat (first | exact List.Mem.head _ | apply List.Mem.tail)))).2⟩
            · rcases List.mem_cons.mp hp with rfl | hp
              · have z := N2 (Z + 1, pairO (.ref Z) (.ref I)) (by (repeat (first | exact List.Mem.head _ | apply List.Mem.tail)))
                have zC := (offz (Z + 1, pairO (.ref Z) (.ref I)) (by (repeat (first | exact List.Mem.head _ | apply List.Mem.tail)))).1
                exact ⟨k7 _ _ zC (k5 _ _ (k4 _ _ ZA.TIz ZA.TITO ZA.TIi1 ZA.TIi2 z.1)), z.2⟩
              · rcases List.mem_cons.mp hp with rfl | hp
                · exact ⟨k7 _ _ offC2 (k5 _ _ (hs4.extBut _ _ ZA.TOz hTO3)), (N2 (Z + 2, pairO x y) (by (repeat (first | exact List.Mem.head _ | apply List.Mem.tail)))).2⟩
                · rcases List.mem_cons.mp hp with rfl | hp
                  · refine ⟨k7 _ _ offC0 (k5 _ _ (hs4.extBut _ _ ZA.i1z ?_)), (N2 (Z, rngO (a + (i : Nat) * c) ((n : Int) - (i : Nat)) c) (by (repeat (first | exact List.Mem.head _ | apply List.Mem.tail)))).2⟩
                    rw [e1, e2]; exact hi3
                  · rcases List.mem_cons.mp hp with rfl | hp
                    · exact ⟨k7 _ _ offCI (k5 _ _ (hs4.extBut _ _ ZA.i2z hoI3)), (N2 (I, oI') (by (repeat (first | exact List.Mem.head _ | apply List.Mem.tail)))).2⟩
                    · have z := N2 p (.tail _ (.tail _ (List.mem_append_right _ hp)))
                      obtain ⟨p1, p2, p3, p4⟩ := hap p hp
                      exact ⟨k7 _ _ (off p (List.mem_append_right _ hp)).1 (k5 _ _ (k4 _ _ p1 p2 p3 p4 z.1)), z.2⟩
      refine helt i C D oC' _ ys _ _ _ E' _ hi hoC' ⟨tk, ?_⟩ ?_ F7 N7 (fun p hp => List.mem_append_right _ (List.mem_append_right _ hp)) ?_
      · simp [hne]
      · simp
      · intro T oT h8 tk8 F8 N8 hT8 hmk
        have zT : ∀ {q}, q ∈ ((C, oC') :: (D, LCg.lst ys) :: (zled (Z + 3) (Z + 1) (Z + 2) Z I (pairO a3 b3) (a + ((i + 1 : Nat) : Int) * c) ((n : Int) - ((i + 1 : Nat) : Int)) c oI3 ++ (tups ++ rest))) → q.1 ≠ T := fun hq => Nat.ne_of_lt (hT8 _ hq)
        refine ⟨h8, tk8, oC', _, zled (Z + 3) (Z + 1) (Z + 2) Z I (pairO a3 b3) (a + ((i + 1 : Nat) : Int) * c) ((n : Int) - ((i + 1 : Nat) : Int)) c oI3 ++ (((T, oT) :: tups) ++ rest), rfl, F8, hoC', fun p hp => N8 p ?_, fun p hp => ?_, pairO a3 b3, oI3, (T, oT) :: tups, rfl, ⟨_, _, rfl⟩, hlit3, fun p hp => ?_, ?_⟩
        · rcases List.mem_cons.mp hp with rfl | hp
          · exact .tail _ (.head _)
          · rcases List.mem_cons.mp hp with rfl | hp
            · exact .tail _ (.tail _ (.head _))
            · rcases List.mem_append.mp hp with hp | hp
              · exact .tail _ (.tail _ (.tail _ (List.mem_append_left _ hp)))
              · rcases List.mem_cons.mp hp with rfl | hp
                · exact .head _
                · exact .tail _ (.tail _ (.tail _ (List.mem_append_right _ hp)))
        · rcases List.mem_append.mp hp with hp | hp
          · have := offz (p.1, p.2)
            simp only [zled, List.mem_cons, List.not_mem_nil, or_false] at hp
            rcases hp with rfl | rfl | rfl | rfl | rfl
            · exact ⟨offC, offD⟩
            · exact offz (Z + 1, pairO (.ref Z) (.ref I)) (by (repeat (first | exact List.Mem.head _ | apply List.Mem.tail)))
            · exact ⟨offC2, offD2⟩
            · exact ⟨offC0, offD0⟩
            · exact ⟨offCI, offDI⟩
          · rcases List.mem_cons.mp hp with rfl | hp
            · exact ⟨(zT (q := (C, oC')) (.head _)).symm, (zT (q := (D, LCg.lst ys)) (.tail _ (.head _))).symm⟩
            · exact off p (List.mem_append_right _ hp)
        · rcases List.mem_cons.mp hp with rfl | hp
          · exact ⟨(zT (q := (Z + 3, zipO (Z + 1) (Z + 2))) (by (repeat (first | exact List.Mem.head _ | apply List.Mem.tail)))).symm, (zT (q := (Z + 2, pairO a3 b3)) (by (repeat (first | exact List.Mem.head _ | apply List.Mem.tail)))).symm, (zT (q := (Z, rngO (a + ((i + 1 : Nat) : Int) * c) ((n : Int) - ((i + 1 : Nat) : Int)) c)) (by (repeat (first | exact List.Mem.head _ | apply List.Mem.tail)))).symm, (zT (q := (I, oI3)) (by (repeat (first | exact List.Mem.head _ | apply List.Mem.tail)))).symm⟩
          · exact hap p hp
        · rw [List.range_succ, List.map_append]
          exact (hal.mono fun p hp => .tail _ hp).snoc ⟨T, oT, rfl, .head _, hmk⟩
    · rintro ys _ h tk C D oC m₂ E' Q' ⟨oTO, oI', tups, rfl, ⟨x, y, rfl⟩, hlit, hap, hal⟩ hyl hoC F2 N2 off hCD hQ
      have g : ∀ {q}, q ∈ zled (Z + 3) (Z + 1) (Z + 2) Z I (pairO x y) (a + (n : Nat) * c) ((n : Int) - (n : Nat)) c oI' ++ (tups ++ rest) → h.get? q.1 = some q.2 := fun hq => (N2 _ (.tail _ (.tail _ hq))).1
      refine pyNext_zipr_end hh ZA (g (q := (Z + 3, zipO (Z + 1) (Z + 2))) (by (repeat (first | exact List.Mem.head _ | apply List.Mem.tail)))) (g (q := (Z + 1, pairO (.ref Z) (.ref I))) (by (repeat (first | exact List.Mem.head _ | apply List.Mem.tail)))) (g (q := (Z + 2, pairO x y)) (by (repeat (first | exact List.Mem.head _ | apply List.Mem.tail)))) (g (q := (Z, rngO (a + (n : Nat) * c) ((n : Int) - (n : Nat)) c)) (by (repeat (first | exact List.Mem.head _ | apply List.Mem.tail)))) (by omega) ?_
      intro h3 hk3
      have offz : ∀ q ∈ zled (Z + 3) (Z + 1) (Z + 2) Z I (pairO x y) (a + (n : Nat) * c) ((n : Int) - (n : Nat)) c oI' ++ (tups ++ rest), q.1 ≠ C ∧ q.1 ≠ D := off
      have oz1 := offz (Z + 3, zipO (Z + 1) (Z + 2)) (by (repeat (first | exact List.Mem.head _ | apply List.Mem.tail)))
      have oz2 := offz (Z + 2, pairO x y) (by (repeat (first | exact List.Mem.head _ | apply List.Mem.tail)))
      have oz0 := offz (Z, rngO (a + (n : Nat) * c) ((n : Int) - (n : Nat)) c) (by (repeat (first | exact List.Mem.head _ | apply List.Mem.tail)))
      have F3 : Fr h₀ L h3 m := by
        obtain ⟨oL, es, ep, hoL, r1, r2, r3⟩ := F2.ns
        refine ⟨⟨oL, es, ep, hk3 L oL (neN (by omega)) (neN (by omega)) (neN (by omega)) hoL, r1, r2, r3⟩, fun b o e => ?_, F2.above⟩
        refine hk3 b o ?_ ?_ ?_ (F2.keep _ _ e)
        · intro q; rw [q, fresh _ (Nat.le_add_right _ _)] at e; cases e
        · intro q; rw [q, fresh _ (Nat.le_add_right _ _)] at e; cases e
        · intro q; rw [q, fresh _ (Nat.le_refl _)] at e; cases e
      refine hQ h3 tk ((I, oI') :: (tups ++ rest)) F3 (fun p hp => ?_) (fun p hp => ?_) ⟨oI', tups, rfl, hlit, fun p hp => (hap p hp).2.2.2, hal⟩
      · rcases List.mem_cons.mp hp with rfl | hp
        · have z := N2 (C, oC) (.head _)
          exact ⟨hk3 _ _ oz1.1.symm oz2.1.symm oz0.1.symm z.1, z.2⟩
        · rcases List.mem_cons.mp hp with rfl | hp
          · have z := N2 (D, LCg.lst ys) (.tail _ (.head _))
            exact ⟨hk3 _ _ oz1.2.symm oz2.2.symm oz0.2.symm z.1, z.2⟩
          · rcases List.mem_cons.mp hp with rfl | hp
            · have z := N2 (I, oI') (by (repeat (first | exact List.Mem.head _ | apply List.Mem.tail)))
              exact ⟨hk3 _ _ ZA.i2z ZA.TOi2.symm ZA.i12.symm z.1, z.2⟩
            · have z := N2 p (.tail _ (.tail _ (List.mem_append_right _ hp)))
              obtain ⟨p1, p2, p3, p4⟩ := hap p hp
              exact ⟨hk3 _ _ p1 p2 p3 z.1, z.2⟩
      · rcases List.mem_cons.mp hp with rfl | hp
        · exact offz (I, oI') (by (repeat (first | exact List.Mem.head _ | apply List.Mem.tail)))
        · exact off p (List.mem_append_right _ hp)
  · rintro D ys _ o1 o2 ⟨oI', tups, rfl, hlit, hap, hal⟩
    refine fin _ D ys oI' tups ⟨_, _, rfl⟩ o1 (fun p hp => ?_) hlit hap hal
    have := o2
    rcases List.mem_cons.mp hp with rfl | hp
    · exact o2 (I, oI) (by (repeat (first | exact List.Mem.head _ | apply List.Mem.tail)))
    · exact o2 p (List.mem_append_right _ hp)
end
end Mine

-- Z5
namespace Mine
theorem Al.get {tups : List (Addr × Obj)} {vs : List Value} {ds : List (List Int)} (h : Al tups vs ds) : ∀ i, i < ds.length → TupIn tups (vs.getD i .none) (ds.getD i []) := by
  induction h with
  | nil => intro i hi; exact absurd hi (Nat.not_lt_zero _)
  | cons hv _ ih =>
    intro i hi
    cases i with
    | zero => exact hv
    | succ i => simpa using ih i (by simpa using hi)
theorem intsAre_at {ws : List Value} {ks : List Int} (h : IntsAre ws ks) {j : Nat} (hj : j < ks.length) : ∃ t, ws.getD j .none = .int (ks.getD j 0) t := by
  induction h generalizing j with
  | nil => exact absurd hj (Nat.not_lt_zero _)
  | cons k t _ ih =>
    cases j with
    | zero => exact ⟨t, rfl⟩
    | succ j =>
      obtain ⟨t', e⟩ := ih (j := j) (by simpa using hj)
      exact ⟨t', by simpa using e⟩
section
variable {prog : Program} {w : World} {A : Around} {E : Value → Shared → Prop} {s : Shared} {h₀ : Heap} {L : Addr} {m : Str → Option Value} {env : Env}
/-- one turn of a comprehension that unpacks a tuple of N ints and gives the j-th -/
noncomputable def PicksAt (prog : Program) (w : World) (A : Around) (env : Env) (elt : PySem.Expr) (elts : List PySem.Expr) (x1 : Nat) (tp : Pos) (scope : Scope) (cl : List (Str × Addr)) (N j : Nat) : Prop :=
  ∀ (s : Shared) (C t : Addr) (oC : Obj) (m₂ : Str → Option Value) (ws : List Value) (ks : List Int) (E' : Value → Shared → Prop) (Q' : Value → Shared → Prop), s.heap.get? C = some oC → LCg.NsObj oC m₂ → IsTup s.heap t ws.toArray → IntsAre ws ks → ks.length = N →
    (∀ h' tk' oC' m₂' t, h'.get? C = some oC' → LCg.NsObj oC' m₂' → (∀ b o, b ≠ C → s.heap.get? b = some o → h'.get? b = some o) → Q' (.int (ks.getD j 0) t) { s with heap := h', toks := tk' }) →
    wpAny (model prog w) A (assign (.Tuple elts x1 tp) (compEnvC scope cl C env) (.ref t)) (fun _ s₂ => wpAny (model prog w) A (eval elt (compEnvC scope cl C env)) Q' E' s₂) E' s
theorem picks2 {xa xb : Str} {pa pb pc tp : Pos} {x1 : Nat} {scope : Scope} {cl : List (Str × Addr)} (hh : A.handled = none) (hkind : scope.kind = .function) (ha : scope.names.lookup xa = some .local) (hb : scope.names.lookup xb = some .local) (hab : xa ≠ xb) (hd : (xa == ("__debug__" : Str)) = false) :
    PicksAt prog w A env (.Name xa pc) [.Name xa pa, .Name xb pb] x1 tp scope cl 2 0 := by
  intro s C t oC m₂ ws ks E' Q' hC hoC ht hi hl hQ
  obtain ⟨k1, k2, rfl⟩ : ∃ k1 k2, ks = [k1, k2] := by
    match ks, hl with
    | [k1, k2], _ => exact ⟨k1, k2, rfl⟩
  cases hi with
  | cons _ t1 hi =>
    cases hi with
    | cons _ t2 hi =>
      cases hi
      refine assign_Tuple_tuple hh ht rfl rfl fun h5 he5 => ?_
      have k5 : ∀ q o, s.heap.get? q = some o → h5.get? q = some o := fun q o e => he5 q o (Nat.ne_of_lt (Heap.lt_size e)) e
      refine assignInOrder_cons (wpAny_assign_Name (wpAny_storeName_local (lookup_relabel_local ha) (hoC.ns (k5 _ _ hC)) (fun h₆ hn₆ hs₆ => ?_) (by simp [compEnvC, relabel, hkind])))
      refine assignInOrder_cons (wpAny_assign_Name (wpAny_storeName_local (lookup_relabel_local hb) hn₆ (fun h₇ hn₇ hs₇ => ?_) (by simp [compEnvC, relabel, hkind])))
      refine assignInOrder_nil ?_
      obtain ⟨oC', heC, hoC'⟩ := LCg.ns_obj hn₇
      rw [eval_Name _ _ _ hd]
      refine wpAny_bind (wpAny_standAt (wpAny_loadName_local hkind (lookup_relabel_local ha) hn₇ (v := .int k1 t1) (by simp [hab]) ?_))
      exact hQ h₇ _ oC' _ t1 heC hoC' fun b o hb e => hs₇.extBut _ _ hb (hs₆.extBut _ _ hb (k5 _ _ e))
theorem picks3 {xa xb xc : Str} {pa pb pd pc tp : Pos} {x1 : Nat} {scope : Scope} {cl : List (Str × Addr)} (hh : A.handled = none) (hkind : scope.kind = .function) (ha : scope.names.lookup xa = some .local) (hb : scope.names.lookup xb = some .local) (hc : scope.names.lookup xc = some .local) (hd : (xc == ("__debug__" : Str)) = false) :
    PicksAt prog w A env (.Name xc pc) [.Name xa pa, .Name xb pb, .Name xc pd] x1 tp scope cl 3 2 := by
  intro s C t oC m₂ ws ks E' Q' hC hoC ht hi hl hQ
  obtain ⟨k1, k2, k3, rfl⟩ : ∃ k1 k2 k3, ks = [k1, k2, k3] := by
    match ks, hl with
    | [k1, k2, k3], _ => exact ⟨k1, k2, k3, rfl⟩
  cases hi with
  | cons _ t1 hi =>
    cases hi with
    | cons _ t2 hi =>
      cases hi with
      | cons _ t3 hi =>
        cases hi
        refine assign_Tuple_tuple hh ht rfl rfl fun h5 he5 => ?_
        have k5 : ∀ q o, s.heap.get? q = some o → h5.get? q = some o := fun q o e => he5 q o (Nat.ne_of_lt (Heap.lt_size e)) e
        refine assignInOrder_cons (wpAny_assign_Name (wpAny_storeName_local (lookup_relabel_local ha) (hoC.ns (k5 _ _ hC)) (fun h₆ hn₆ hs₆ => ?_) (by simp [compEnvC, relabel, hkind])))
        refine assignInOrder_cons (wpAny_assign_Name (wpAny_storeName_local (lookup_relabel_local hb) hn₆ (fun h₇ hn₇ hs₇ => ?_) (by simp [compEnvC, relabel, hkind])))
        refine assignInOrder_cons (wpAny_assign_Name (wpAny_storeName_local (lookup_relabel_local hc) hn₇ (fun h₈ hn₈ hs₈ => ?_) (by simp [compEnvC, relabel, hkind])))
        refine assignInOrder_nil ?_
        obtain ⟨oC', heC, hoC'⟩ := LCg.ns_obj hn₈
        rw [eval_Name _ _ _ hd]
        refine wpAny_bind (wpAny_standAt (wpAny_loadName_local hkind (lookup_relabel_local hc) hn₈ (v := .int k3 t3) (by simp) ?_))
        exact hQ h₈ _ oC' _ t3 heC hoC' fun b o hb e => hs₈.extBut _ _ hb (hs₇.extBut _ _ hb (hs₆.extBut _ _ hb (k5 _ _ e)))

theorem tups_src {elt : PySem.Expr} {elts : List PySem.Expr} {tp : Pos} {x1 : Nat} {scope : Scope} {cl : List (Str × Addr)} {R : Addr} {c : Nat} {vs : List Value} {ds : List (List Int)} {led : List (Addr × Obj)} {N j : Nat}
    {Fin : Shared → List Value → Addr → List (Addr × Obj) → Prop} (hh : A.handled = none) (F : Fr h₀ L s.heap m) (NL : News h₀ L s.heap led) (hm : (R, W.listOf vs.toArray c) ∈ led) (hal : Al led vs ds) (hN : ∀ ks ∈ ds, ks.length = N) (hline : ds.length ≤ sizeLine)
    (hp : PicksAt prog w A env elt elts x1 tp scope cl N j)
    (fin : ∀ D ys, (∀ p ∈ led, @LT.lt Nat _ p.1 D) → IntsAre ys (ds.map fun ks => ks.getD j 0) → ∀ s₂, (∃ hx tx, s₂ = { s with heap := hx, toks := tx }) → Fin s₂ ys D led) :
    wpAny (model prog w) A (pyIter (.ref R)) (SrcJ prog w A h₀ L m env elt elts x1 tp scope cl Fin) E s := by
  have hl : s.heap.IsList R vs.toArray := PySem.IsL.isList (n := c) (NL _ hm).1
  have hlen := hal.length
  refine wpAny_pyIter_list hl ?_
  have hLlt : @LT.lt Nat _ L s.heap.objs.size := F.ns.lt
  have hlt : ∀ p ∈ led, @LT.lt Nat _ p.1 s.heap.objs.size := fun p hp => Heap.lt_size (NL p hp).1
  generalize hI : s.heap.objs.size = I at *
  have up : ∀ b o, s.heap.get? b = some o → (s.heap.push { cls := .type "list_iterator", data := .fields #[.ref R, .int 0 0] }).get? b = some o := fun b o e => Heap.get?_push_of_some _ e
  have hI0 : h₀.get? I = none := hI ▸ next_is_new F
  have hRI : R ≠ I := Nat.ne_of_lt (hlt _ hm)
  refine ⟨I, ds.length, (I, { cls := .type "list_iterator", data := .fields #[.ref R, .int 0 0] }) :: led,
    (fun i ys nw => ∃ oI, nw = (I, oI) :: led ∧ IsLit oI R i ∧ IntsAre ys ((ds.take i).map fun ks => ks.getD j 0)),
    (fun ys nw => nw = led ∧ IntsAre ys (ds.map fun ks => ks.getD j 0)), rfl, ?_, ?_⟩
  · refine ⟨hline, F.keeps up, fun p hp => ?_, ⟨_, rfl, ⟨rfl, rfl⟩, .nil⟩, ?_, ?_, ?_⟩
    · rcases List.mem_cons.mp hp with rfl | hp
      · exact ⟨hI ▸ Heap.get?_push_size _ rfl, Nat.ne_of_gt hLlt, hI0⟩
      · exact ⟨up _ _ (NL p hp).1, (NL p hp).2⟩
    · intro h tk Q E N2 hQ
      exact wpAny_pyIter_listiter (i := 0) ⟨_, (N2 _ (.head _)).1, rfl, rfl⟩ hQ
    · rintro i ys _ h tk C D oC m₂ E' hi ⟨oI, rfl, hlit, hys⟩ hyl hoC F2 N2 off hCD hbel
      have hI2 := N2 (I, oI) (.tail _ (.tail _ (.head _)))
      have g : ∀ {q}, q ∈ led → h.get? q.1 = some q.2 := fun hq => (N2 _ (.tail _ (.tail _ (.tail _ hq)))).1
      have hlR : h.IsList R vs.toArray := PySem.IsL.isList (n := c) (g (q := (R, W.listOf vs.toArray c)) hm)
      obtain ⟨ta, to, ev, htm, htc, ws, wc, htd, hws⟩ := hal.get i hi
      have hget : vs.toArray[i]? = some (.ref ta) := by
        have : i < vs.length := by omega
        simp [List.getD_eq_getElem?_getD, this] at ev
        simpa [this] using ev
      refine wpAny_pyNext_list_item ⟨oI, hI2.1, hlit.1, hlit.2⟩ hlR hget fun h3 hI3 hs3 => ?_
      refine ⟨_, rfl, wpAny_letOwnedTupleGo_listiter hI3 ?_⟩
      obtain ⟨oI3, hoI3, hlit3⟩ := iter_lit hI3
      have oI3C := (off (I, oI) (.head _)).1
      have oI3D := (off (I, oI) (.head _)).2
      have hzC := N2 (C, oC) (.head _)
      have hta : ta ≠ I := Nat.ne_of_lt (hlt _ htm)
      have kss : (ds.getD i []).length = N := hN _ (by
        simp only [List.getD_eq_getElem?_getD, hi, List.getElem?_eq_getElem, Option.getD_some]
        exact List.getElem_mem hi)
      refine hp _ C ta oC m₂ ws (ds.getD i []) E' _ (hs3.extBut _ _ (Ne.symm oI3C) hzC.1) hoC ⟨to, hs3.extBut _ _ hta (g htm), htc, wc, htd⟩ hws kss ?_
      intro h' tk' oC' m₂' t heC hoC' hk
      have kk : ∀ b o, b ≠ I → b ≠ C → h.get? b = some o → h'.get? b = some o := fun b o c1 c2 e => hk _ _ c2 (hs3.extBut _ _ c1 e)
      refine ⟨h', tk', oC', m₂', (I, oI3) :: led, rfl, ⟨?_, fun b o e => ?_, F2.above⟩, hoC', fun p hp => ?_, fun p hp => ?_, oI3, rfl, hlit3, ?_⟩
      · obtain ⟨oL, es, ep, hoL, r⟩ := F2.ns
        exact ⟨oL, es, ep, kk _ _ (Ne.symm hI2.2.1) (Ne.symm hzC.2.1) hoL, r⟩
      · exact kk _ _ (fun q => by rw [q, hI2.2.2] at e; cases e) (fun q => by rw [q, hzC.2.2] at e; cases e) (F2.keep _ _ e)
      · rcases List.mem_cons.mp hp with rfl | hp
        · exact ⟨heC, hzC.2⟩
        · rcases List.mem_cons.mp hp with rfl | hp
          · have z := N2 (D, LCg.lst ys) (.tail _ (.head _))
            exact ⟨kk _ _ (Ne.symm oI3D) (Ne.symm hCD) z.1, z.2⟩
          · rcases List.mem_cons.mp hp with rfl | hp
            · exact ⟨hk _ _ oI3C hoI3, hI2.2⟩
            · have z := N2 p (.tail _ (.tail _ (.tail _ hp)))
              exact ⟨kk _ _ (Nat.ne_of_lt (hlt _ hp)) (off p (.tail _ hp)).1 z.1, z.2⟩
      · rcases List.mem_cons.mp hp with rfl | hp
        · exact ⟨oI3C, oI3D⟩
        · exact off p (.tail _ hp)
      · have e : ds.take (i + 1) = ds.take i ++ [ds.getD i []] := by
          rw [List.take_add_one, List.getElem?_eq_getElem hi]
          simp [List.getD_eq_getElem?_getD, hi]
        rw [e, List.map_append]
        exact hys.append (.cons _ _ .nil)
    · rintro ys _ h tk C D oC m₂ E' Q' ⟨oI, rfl, hlit, hys⟩ hyl hoC F2 N2 off hCD hQ
      have hI2 := N2 (I, oI) (.tail _ (.tail _ (.head _)))
      have g : ∀ {q}, q ∈ led → h.get? q.1 = some q.2 := fun hq => (N2 _ (.tail _ (.tail _ (.tail _ hq)))).1
      have hlR : h.IsList R vs.toArray := PySem.IsL.isList (n := c) (g (q := (R, W.listOf vs.toArray c)) hm)
      refine (Walks.list hh I R hRI vs.toArray).done _ _ _ (by rw [List.size_toArray, hlen]; exact ⟨⟨oI, hI2.1, hlit.1, hlit.2⟩, hlR⟩) ?_
      intro h3 tk3 hk3
      have kk : ∀ b o, b ≠ I → h.get? b = some o → h3.get? b = some o := fun b o c1 e => hk3 _ _ (by simpa using c1) e
      refine hQ h3 tk3 led ⟨?_, fun b o e => ?_, F2.above⟩ (fun p hp => ?_) (fun p hp => off p (.tail _ hp)) ⟨rfl, ?_⟩
      · obtain ⟨oL, es, ep, hoL, r⟩ := F2.ns
        exact ⟨oL, es, ep, kk _ _ (Ne.symm hI2.2.1) hoL, r⟩
      · exact kk _ _ (fun q => by rw [q, hI2.2.2] at e; cases e) (F2.keep _ _ e)
      · rcases List.mem_cons.mp hp with rfl | hp
        · have z := N2 (C, oC) (.head _)
          exact ⟨kk _ _ (Ne.symm (off (I, oI) (.head _)).1) z.1, z.2⟩
        · rcases List.mem_cons.mp hp with rfl | hp
          · have z := N2 (D, LCg.lst ys) (.tail _ (.head _))
            exact ⟨kk _ _ (Ne.symm (off (I, oI) (.head _)).2) z.1, z.2⟩
          · have z := N2 p (.tail _ (.tail _ (.tail _ hp)))
            exact ⟨kk _ _ (Nat.ne_of_lt (hlt _ hp)) z.1, z.2⟩
      · rwa [List.take_length] at hys
  · rintro D ys _ o1 o2 ⟨rfl, hys⟩
    exact fin D ys (fun p hp => o2 p (.tail _ hp)) hys _ ⟨_, _, rfl⟩
end
end Mine

-- H1
namespace Mine
/-- the heap's order on the data: b = false: the greatest on top -/
noncomputable def ltD (b : Bool) (x y : List Int) : Bool := if b then lexI (x.zip y) else lexI (y.zip x)
noncomputable def HFd (b : Bool) (ds : List (List Int)) : Prop := ∀ j, 0 < j → j < ds.length → ltD b (ds.getD j []) (ds.getD ((j - 1) / 2) []) = false
theorem ltD_irr (b : Bool) (x : List Int) : ltD b x x = false := by
  have h : lexI (x.zip x) = false := by
    cases e : lexI (x.zip x) with
    | false => rfl
    | true => have := lexI_asym x x e; rw [e] at this; cases this
  unfold ltD
  cases b <;> simpa using h
theorem ltD_trans (b : Bool) {x y z : List Int} (h1 : x.length = y.length) (h2 : y.length = z.length) (hyx : ltD b y x = false) (hzy : ltD b z y = false) : ltD b z x = false := by
  unfold ltD at *
  cases b with
  | true => simp only [if_true] at *; exact lexI_trans x y z h1 h2 hyx hzy
  | false => simp only [Bool.false_eq_true, if_false] at *; exact lexI_trans z y x h2.symm h1.symm hzy hyx
theorem root_d {b : Bool} {N : Nat} {ds : List (List Int)} (hN : ∀ ks ∈ ds, ks.length = N) (hf : HFd b ds) : ∀ j, j < ds.length → ltD b (ds.getD j []) (ds.getD 0 []) = false := by
  have hl : ∀ i, i < ds.length → (ds.getD i []).length = N := fun i hi => hN _ (by
    simp only [List.getD_eq_getElem?_getD, hi, List.getElem?_eq_getElem, Option.getD_some]
    exact List.getElem_mem hi)
  intro j
  induction j using Nat.strongRecOn with
  | ind j ih =>
    intro hj
    by_cases h : j = 0
    · subst h; exact ltD_irr _ _
    · exact ltD_trans b ((hl 0 (by omega)).trans (hl _ (by omega)).symm) ((hl _ (by omega)).trans (hl _ hj).symm) (ih _ (by omega) (by omega)) (hf j (by omega) hj)
theorem Pre.flip {Dom : Value → Prop} {lt : Value → Value → Bool} (O : Pre Dom lt) : Pre Dom (fun x y => lt y x) where
  asym := fun x y hx hy h => O.asym y x hy hx h
  trans := fun x y z hx hy hz h1 h2 => O.trans z y x hz hy hx h2 h1
theorem Al.mem {tups : List (Addr × Obj)} {vs : List Value} {ds : List (List Int)} (h : Al tups vs ds) {f : Value → List Int} (hf : ∀ v ks, TupIn tups v ks → f v = ks) : vs.map f = ds ∧ ∀ v ∈ vs, TupIn tups v (f v) := by
  induction h with
  | nil => exact ⟨rfl, fun v hv => nomatch hv⟩
  | cons hv _ ih =>
    have e := hf _ _ hv
    refine ⟨by rw [List.map_cons, e, ih.1], fun v hm => ?_⟩
    rcases List.mem_cons.mp hm with rfl | hm
    · rw [e]; exact hv
    · exact ih.2 v hm
theorem Al.of {tups : List (Addr × Obj)} {f : Value → List Int} : ∀ {vs : List Value}, (∀ v ∈ vs, TupIn tups v (f v)) → Al tups vs (vs.map f)
  | [], _ => .nil
  | v :: vs, h => .cons (h v (.head _)) (Al.of fun u hu => h u (.tail _ hu))
theorem map_getD {f : Value → List Int} {vs : List Value} {j : Nat} (h : j < vs.length) : (vs.map f).getD j [] = f (at' vs j) := by
  simp [at', List.getD_eq_getElem?_getD, h]
section
variable {w : World} {A : Around} {E : Value → Shared → Prop} {s : Shared} {mg mb : Str → Option Value} {p : Program} {loose : List Str} {g : Heap} {L : Addr} {m : Str → Option Value} {news : List (Addr × Obj)} {gg : Obj → List (Addr × Obj)} {a : Addr} {vs : List Value} {ds : List (List Int)} {n N : Nat} {Q : Value → Shared → Prop} {tups : List (Addr × Obj)}
theorem tup_g {v : Value} {ks : List Int} (W : News g L s.heap news) (hsub : ∀ p ∈ tups, p ∈ news ∧ p.1 ≠ a) (h : TupIn tups v ks) : tdat (hideAll s.heap [a]) v = ks ∧ (ks.length = N → IsT (hideAll s.heap [a]) N v) := by
  obtain ⟨ta, o, rfl, hm, hc, ws, c, hd, hi⟩ := h
  have ho : (hideAll s.heap [a]).get? ta = some o := hideAll_get _ (W _ (hsub _ hm).1).1 (by simpa using (hsub _ hm).2)
  exact ⟨tdat_of ho hd hi, fun hl => ⟨ta, o, ws, ks, c, rfl, ho, hc, hd, hi, hl⟩⟩
theorem hf_d {b : Bool} {g' : Heap} {us : List Value} : HFd b (us.map (tdat g')) ↔ HF (fun x y => if b then ltT g' x y else ltT g' y x) 0 us := by
  have e : ∀ j k, j < us.length → k < us.length → ltD b ((us.map (tdat g')).getD j []) ((us.map (tdat g')).getD k []) = (if b then ltT g' (at' us j) (at' us k) else ltT g' (at' us k) (at' us j)) := by
    intro j k hj hk
    rw [map_getD hj, map_getD hk]
    rfl
  constructor
  · intro h j h0 hj _
    have := h j h0 (by simpa using hj)
    rw [e _ _ hj (by omega)] at this
    exact this
  · intro h j h0 hj
    rw [List.length_map] at hj
    rw [e _ _ hj (by omega)]
    exact h j h0 hj (Nat.zero_le _)
theorem heapifyT (b : Bool) (F : Fr g L s.heap m) (W : News g L s.heap news) (U : UpdF a (PySem.W.listOf vs.toArray n) news gg) (X : (hd.heap_1 w.params).In g) (T : TopRead p loose mg mb g)
    (hd : A.depth < 880) (hu : A.units < 8800) (hh : A.handled = none) (hal : Al tups vs ds) (hsub : ∀ p ∈ tups, p ∈ news ∧ p.1 ≠ a) (hN : ∀ ks ∈ ds, ks.length = N) (hlen : ds.length < 2 ^ 19)
    (h : ∀ h' tk n' ws es, Fr g L h' m → News g L h' (gg (PySem.W.listOf ws.toArray n')) → Al tups ws es → es.Perm ds → HFd b es → Q .none { s with heap := h', toks := tk }) :
    wpAny (model PG w) A (call (.ref (if b then 49 else 63)) [.ref a]) Q E s := by
  have z := W _ (updF_mem U)
  have st := hide1 F z.2.2
  have hl := hal.length
  obtain ⟨e1, e2⟩ := hal.mem (f := tdat (hideAll s.heap [a])) fun v ks hv => (tup_g (N := N) W hsub hv).1
  have hv : ∀ v ∈ vs, IsT (hideAll s.heap [a]) N v := fun v hm => (tup_g W hsub (e2 v hm)).2 (hN _ (by rw [← e1]; exact List.mem_map_of_mem hm))
  have O := preT (hideAll s.heap [a]) N
  have close : ∀ ws, ws.Perm vs → HF (fun x y => if b then ltT (hideAll s.heap [a]) x y else ltT (hideAll s.heap [a]) y x) 0 ws → ∀ h' tk n', (∀ b o, (hideAll s.heap [a]).get? b = some o → h'.get? b = some o) → h'.get? a = some (PySem.W.listOf ws.toArray n') → Q .none { s with heap := h', toks := tk } := by
    intro ws hp hf h' tk n' st' ho
    obtain ⟨F', W'⟩ := back_g F W U st' ho
    exact h h' tk n' ws (ws.map (tdat (hideAll s.heap [a]))) F' W' (Al.of fun v hm => e2 v (hp.mem_iff.mp hm)) (by rw [← e1]; exact hp.map _) (hf_d.mpr hf)
  cases b with
  | true =>
    obtain ⟨c1, c2⟩ := heapify_heap O hv
    exact wpAny_call (heapify_code (X.keeps st) (T.keeps st) z.1 hd hu hh (cmpT (N := N)) hv (by omega) fun h' tk n' st' ho => close _ c2 c1 h' tk n' st' ho)
  | false =>
    obtain ⟨c1, c2⟩ := heapify_heap O.flip hv
    exact wpAny_call (heapifymax_code (X.keeps st) (T.keeps st) z.1 hd hu hh (cmpT (N := N)) hv (by omega) fun h' tk n' st' ho => close _ c2 c1 h' tk n' st' ho)
theorem heapreplaceT (b : Bool) {x : Value} {kx : List Int} (F : Fr g L s.heap m) (W : News g L s.heap news) (U : UpdF a (PySem.W.listOf vs.toArray n) news gg) (X : (hd.heap_1 w.params).In g) (T : TopRead p loose mg mb g)
    (hd : A.depth < 880) (hu : A.units < 8800) (hh : A.handled = none) (hal : Al tups vs ds) (hx : TupIn tups x kx) (hsub : ∀ p ∈ tups, p ∈ news ∧ p.1 ≠ a) (hN : ∀ ks ∈ ds, ks.length = N) (hNx : kx.length = N) (hlen : ds.length < 2 ^ 19) (hne : 0 < ds.length) (hf : HFd b ds)
    (h : ∀ h' tk n' ws es v, Fr g L h' m → News g L h' (gg (PySem.W.listOf ws.toArray n')) → Al tups ws es → es.Perm (ds.set 0 kx) → HFd b es → Q v { s with heap := h', toks := tk }) :
    wpAny (model PG w) A (call (.ref (if b then 35 else 56)) [.ref a, x]) Q E s := by
  have z := W _ (updF_mem U)
  have st := hide1 F z.2.2
  have hl := hal.length
  obtain ⟨e1, e2⟩ := hal.mem (f := tdat (hideAll s.heap [a])) fun v ks hv => (tup_g (N := N) W hsub hv).1
  have hv : ∀ v ∈ vs, IsT (hideAll s.heap [a]) N v := fun v hm => (tup_g W hsub (e2 v hm)).2 (hN _ (by rw [← e1]; exact List.mem_map_of_mem hm))
  have ex := (tup_g (N := N) W hsub hx).1
  have hxT := (tup_g (N := N) W hsub hx).2 hNx
  have O := preT (hideAll s.heap [a]) N
  have hf' : HF (fun x y => if b then ltT (hideAll s.heap [a]) x y else ltT (hideAll s.heap [a]) y x) 0 vs := hf_d.mp (by rw [e1]; exact hf)
  have close : ∀ ws v, ws.Perm (vs.set 0 x) → HF (fun x y => if b then ltT (hideAll s.heap [a]) x y else ltT (hideAll s.heap [a]) y x) 0 ws → ∀ h' tk n', (∀ b o, (hideAll s.heap [a]).get? b = some o → h'.get? b = some o) → h'.get? a = some (PySem.W.listOf ws.toArray n') → Q v { s with heap := h', toks := tk } := by
    intro ws v hp hf h' tk n' st' ho
    obtain ⟨F', W'⟩ := back_g F W U st' ho
    refine h h' tk n' ws (ws.map (tdat (hideAll s.heap [a]))) v F' W' (Al.of fun v hm => ?_) ?_ (hf_d.mpr hf)
    · rcases List.mem_or_eq_of_mem_set (hp.mem_iff.mp hm) with hm | rfl
      · exact e2 v hm
      · rw [ex]; exact hx
    · have := hp.map (tdat (hideAll s.heap [a]))
      rw [List.map_set, e1, ex] at this
      exact this
  cases b with
  | true =>
    obtain ⟨c1, c2⟩ := replace_heap O (by omega) hv hxT hf'
    exact wpAny_call (heapreplace_code (X.keeps st) (T.keeps st) z.1 hd hu hh (cmpT (N := N)) hv hxT (by omega) (by omega) fun h' tk n' st' ho => close _ _ c2 c1 h' tk n' st' ho)
  | false =>
    obtain ⟨c1, c2⟩ := replace_heap O.flip (by omega) hv hxT hf'
    exact wpAny_call (heapreplacemax_code (X.keeps st) (T.keeps st) z.1 hd hu hh (cmpT (N := N)) hv hxT (by omega) (by omega) fun h' tk n' st' ho => close _ _ c2 c1 h' tk n' st' ho)
end
end Mine

-- S5
namespace Mine
section
variable {prog : Program} {w : World} {A : Around} {E : Value → Shared → Prop} {s : Shared}
theorem oneLt_flag {f : Bool} {x y : Int} {t u : Tok} {Q : Bool → Shared → Prop} (h : Q (decide (x < y)) s) : wpAny (model prog w) A (oneLt' f (.int x t) (.int y u)) Q E s := by
  cases f with
  | true => exact oneLt_int h
  | false => exact kat_one _ _ (lt_int h)
theorem katLex_ints {b : Bool} {Q : Bool → Shared → Prop} {xs ys : List Value} {ks ms : List Int} (hx : IntsAre xs ks) (hy : IntsAre ys ms) (hl : ks.length = ms.length) (i : Nat) (h : Q (lexI (ks.zip ms)) s) : KatLex prog w A b false Q (xs.zip ys) i s := by
  induction hx generalizing ys ms i with
  | nil => exact kat_nil (by simpa [lexI] using h)
  | cons k1 t1 _ ih =>
    cases hy with
    | nil => simp at hl
    | cons k2 t2 hy =>
      refine kat_cons (wpAny_eqBool_int ?_)
      simp only [List.zip_cons_cons, lexI] at h
      by_cases hk : k1 = k2
      · subst hk
        rw [if_pos rfl] at h
        simp only [beq_self_eq_true]
        exact kat_yes (ih hy (by simpa using hl) _ h)
      · rw [if_neg hk] at h
        have hb : (k1 == k2) = false := by simpa using hk
        rw [hb]
        exact kat_no (oneLt_flag h)
end
/-- data of width N, by the index -/
noncomputable def padD (N : Nat) (ds : List (List Int)) (i : Nat) : List Int := if (ds.getD i []).length = N then ds.getD i [] else List.replicate N 0
theorem padD_len (N : Nat) (ds : List (List Int)) (i : Nat) : (padD N ds i).length = N := by
  unfold padD
  split
  · assumption
  · simp
theorem swoD (N : Nat) (ds : List (List Int)) : Swo (fun i j => lexI ((padD N ds i).zip (padD N ds j))) where
  irr a := by
    cases e : lexI ((padD N ds a).zip (padD N ds a)) with
    | false => rfl
    | true => have := lexI_asym _ _ e; rw [e] at this; cases this
  asy a b h := lexI_asym _ _ h
  neg a b c h1 h2 := lexI_trans (padD N ds c) (padD N ds b) (padD N ds a) (by rw [padD_len, padD_len]) (by rw [padD_len, padD_len]) h2 h1
theorem Al.rev {tups : List (Addr × Obj)} {vs : List Value} {ds : List (List Int)} (h : Al tups vs ds) : Al tups vs.reverse ds.reverse := by
  induction h with
  | nil => exact .nil
  | cons hv _ ih => rw [List.reverse_cons, List.reverse_cons]; exact ih.snoc hv
theorem Al.pick {tups : List (Addr × Obj)} {vs : List Value} {ds : List (List Int)} (h : Al tups vs ds) : ∀ (p : List Nat), (∀ i ∈ p, i < ds.length) → Al tups (p.map fun i => vs.getD i .none) (p.map fun i => ds.getD i [])
  | [], _ => .nil
  | i :: p, hp => .cons (h.get i (hp i (.head _))) (Al.pick h p fun j hj => hp j (.tail _ hj))
theorem Al.katRev {tups : List (Addr × Obj)} {vs : List Value} {ds : List (List Int)} (b : Bool) (h : Al tups vs ds) : Al tups (katRev b vs) (katRev b ds) := by
  cases b
  · exact h
  · exact h.rev
theorem katRev_perm {α : Type} (b : Bool) (l : List α) : (katRev b l).Perm l := by
  cases b
  · exact .refl _
  · exact List.reverse_perm _
theorem map_range_getD {α : Type} (d : α) (l : List α) : (List.range l.length).map (fun i => l.getD i d) = l := by
  apply List.ext_getElem
  · simp
  · intro i h1 h2
    simp [List.getD_eq_getElem?_getD, show i < l.length from h2]
section
variable {prog : Program} {w : World} {A : Around} {E : Value → Shared → Prop} {s : Shared} {h₀ : Heap} {L D : Addr} {m : Str → Option Value} {news : List (Addr × Obj)} {gg : Obj → List (Addr × Obj)} {vs : List Value} {ds : List (List Int)} {n N : Nat} {Q : Value → Shared → Prop} {tups : List (Addr × Obj)}
theorem katTups_of {h : Heap} (hk : ∀ p ∈ tups, h.get? p.1 = some p.2) (hal : Al tups vs ds) (hN : ∀ ks ∈ ds, ks.length = N) (h0 : 0 < N) : ∃ fs, KatTups h vs fs ∧ fs.length = vs.length ∧ ∀ v ∈ fs, ∃ k t, v = .int k t := by
  induction hal with
  | nil => exact ⟨[], .nil, rfl, fun v hv => nomatch hv⟩
  | @cons v ks vs ds hv _ ih =>
    obtain ⟨fs, h1, h2, h3⟩ := ih fun ks hks => hN ks (.tail _ hks)
    obtain ⟨a, o, rfl, hm, hc, ws, c, hd, hi⟩ := hv
    have hl := hN ks (.head _)
    cases hi with
    | nil => simp at hl; omega
    | cons k t hi =>
      refine ⟨.int k t :: fs, .cons (hk _ hm) hc hd rfl h1, by simp [h2], fun v hv => ?_⟩
      rcases List.mem_cons.mp hv with rfl | hv
      · exact ⟨_, _, rfl⟩
      · exact h3 v hv
theorem tsort (b : Bool) {kw : List (Str × Value)} (F : Fr h₀ L s.heap m) (W : News h₀ L s.heap news) (U : UpdF D (PySem.W.listOf vs.toArray n) news gg) (hal : Al tups vs ds) (hsub : ∀ p ∈ tups, p ∈ news ∧ p.1 ≠ D)
    (hN : ∀ ks ∈ ds, ks.length = N) (hN0 : 0 < N) (h2 : 2 ≤ ds.length) (h64 : ds.length < 64) (ha : argsOk "list.sort" ⟨[.ref D], kw⟩) (ht : Builtin.«list.sort» ⟨[.ref D], kw⟩ = Builtin.«list.sort» ⟨[.ref D], [(Str.ofString "reverse", .bool b)]⟩)
    (h : ∀ h' n' ws es, Fr h₀ L h' m → News h₀ L h' (gg (PySem.W.listOf (List.toArray ws) n')) → Al tups ws es → es.Perm ds → es.Pairwise (fun x y => ltD b x y = false) → Q .none { s with heap := h' }) :
    wpAny (model prog w) A (call (.builtin "list.sort") [.ref D] kw) Q E s := by
  obtain ⟨pre, post, e0, hg, x1, x2⟩ := U.split
  have z := W _ (updF_mem U)
  have hlen := hal.length
  have ho : s.heap.get? D = some (seqObj "list" vs.toArray n) := z.1
  have s1 := Heap.SameBut.update s.heap D (Obj.mapSeq fun _ => (#[] : Array Value))
  obtain ⟨e1, ho1⟩ : ∃ e1, (s.heap.update D (Obj.mapSeq fun _ => (#[] : Array Value))).get? D = some (seqObj "list" #[] e1) := ⟨_, get?_update_seq ho fun _ => #[]⟩
  have N₀ : News h₀ L s.heap (pre ++ post) := fun p hp => W p (by rw [e0]; exact (List.mem_append.mp hp).elim (fun q => List.mem_append_left _ q) fun q => List.mem_append_right _ (.tail _ q))
  have hn₀ : ∀ p ∈ pre ++ post, p.1 ≠ D := fun p hp => (List.mem_append.mp hp).elim (x1 p) (x2 p)
  have F3 : Fr h₀ L (((s.heap.update D (Obj.mapSeq fun _ => (#[] : Array Value))).push (seqObj "tuple" vs.toArray 0)).push (seqObj "list" #[] 0)) m := ((kas_fr F s1 z.2.1 z.2.2).push _).push _
  have N3 : News h₀ L (((s.heap.update D (Obj.mapSeq fun _ => (#[] : Array Value))).push (seqObj "tuple" vs.toArray 0)).push (seqObj "list" #[] 0)) (pre ++ post) :=
    (kas_news N₀ s1 hn₀).grown fun b x e => Heap.get?_push_of_some _ (Heap.get?_push_of_some _ e)
  have ho3 : (((s.heap.update D (Obj.mapSeq fun _ => (#[] : Array Value))).push (seqObj "tuple" vs.toArray 0)).push (seqObj "list" #[] 0)).get? D = some (seqObj "list" #[] e1) := Heap.get?_push_of_some _ (Heap.get?_push_of_some _ ho1)
  refine wpAny_call_entry_kw slot_list_sort ⟨_, ho, rfl⟩ entry_list_sort ?_ ha
  rw [ht, list_sort_rev]
  refine wpAny_bind (listItems_at ho rfl ?_)
  refine wpAny_bind (listUpdate_at ho rfl ?_ (by rw [List.size_toArray, sizeLine_eq]; omega) (Nat.zero_le _))
  refine wpAny_bind (seqEpoch_at ho1 rfl ?_)
  refine wpAny_bind (wpAny_newTuple ?_ (by show vs.length ≤ _; rw [sizeLine_eq]; omega))
  refine wpAny_bind (wpAny_newList ?_ (Nat.zero_le _))
  refine wpAny_holding ?_
  show wpAny (model prog w) A.in1 _ _ _ { s with heap := ((s.heap.update D (Obj.mapSeq fun _ => (#[] : Array Value))).push (seqObj "tuple" vs.toArray 0)).push (seqObj "list" #[] 0) }
  generalize ((s.heap.update D (Obj.mapSeq fun _ => (#[] : Array Value))).push (seqObj "tuple" vs.toArray 0)).push (seqObj "list" #[] 0) = h3 at *
  dsimp only
  have step : ∀ (t : Sem Fin) (P : Fin → Shared → Prop) (E : Value → Shared → Prop) (s' : Shared), wpAny (model prog w) A.in1 t P E s' → wpAny (model prog w) A.in1 (if b = true then (do let _ ← rule "list.sort.reverse"; t) else t) P E s' := by
    intro t P E s' ht
    split
    · exact wpAny_bind (wpAny_rule ht)
    · exact ht
  refine step _ _ _ _ ?_
  have hn2 : ¬ vs.toArray.size < 2 := by rw [List.size_toArray]; omega
  rw [if_neg hn2, if_neg hn2]
  have hk3 : ∀ p ∈ tups, h3.get? p.1 = some p.2 := fun p hp => by
    have hm := (hsub p hp).1
    rw [e0] at hm
    rcases List.mem_append.mp hm with hm | hm
    · exact (N3 p (List.mem_append_left _ hm)).1
    · rcases List.mem_cons.mp hm with rfl | hm
      · exact absurd rfl (hsub _ hp).2
      · exact (N3 p (List.mem_append_right _ hm)).1
  obtain ⟨fs, t1, t2, t3⟩ := katTups_of hk3 hal hN hN0
  refine wpAny_bind (kat_kind (s := { s with heap := h3 }) (T := .type "int") t1 (by omega) (fun v hv => ?_) rfl ?_)
  · obtain ⟨k, t, rfl⟩ := t3 v hv
    exact Looks.now
  have hz : (if b = true then (vs.toArray.zip vs.toArray).reverse else vs.toArray.zip vs.toArray) = (katRev b vs).toArray.zip (katRev b vs).toArray := kat_pairs b rfl
  rw [hz]
  have alr := hal.katRev b
  have hlr : (katRev b vs).length = vs.length := kat_len b vs
  have hldr : (katRev b ds).length = ds.length := kat_len b ds
  have S := swoD N (katRev b ds)
  have hpad : ∀ i, i < ds.length → padD N (katRev b ds) i = (katRev b ds).getD i [] := fun i hi => by
    unfold padD
    rw [if_pos]
    refine hN _ ((katRev_perm b ds).mem_iff.mp ?_)
    have hi' : i < (katRev b ds).length := by omega
    simp only [List.getD_eq_getElem?_getD, hi', List.getElem?_eq_getElem, Option.getD_some]
    exact List.getElem_mem hi'
  refine wpAny_bind (wpAny_mono (kat_run (ks := katRev b vs) (vs := katRev b vs) (Q := fun st' s' => s' = { s with heap := h3 } ∧ failedOf st' = none ∧ ∃ p : List Nat, p.Perm (List.range ds.length) ∧ SL (fun i j => lexI ((padD N (katRev b ds) i).zip (padD N (katRev b ds) j))) p ∧ (arrOf st').map (·.2) = List.toArray (p.map fun i => (katRev b vs).getD i Value.none))
    (G := fun p s' => s' = { s with heap := h3 } ∧ p.toList.Perm (List.range ds.length) ∧ SL (fun i j => lexI ((padD N (katRev b ds) i).zip (padD N (katRev b ds) j))) p.toList)
    rfl (by omega) (by omega) (fun p' st' s' a1 a2 a3 a4 => ⟨a4.1, a3, p'.toList, a4.2.1, a4.2.2, kat_snds rfl a2⟩) ?_) ?_ fun _ _ e => e)
  · rw [hlr, hlen]
    refine Sat.wp (lt := fun i j => lexI ((padD N (katRev b ds) i).zip (padD N (katRev b ds) j))) (N := ds.length) (fun i j C hi hj hC => ?_) (fun p hP => ⟨rfl, hP⟩) (sat_sort S (by omega))
    obtain ⟨ai, oi, ei, mi, ci, wi, ni, di, ii⟩ := alr.get i (by omega)
    obtain ⟨aj, oj, ej, mj, cj, wj, nj, dj, ij⟩ := alr.get j (by omega)
    unfold kas_ask
    rw [ei, ej]
    have li : wi.length = N := by rw [ii.length, ← hpad i hi, padD_len]
    have lj : wj.length = N := by rw [ij.length, ← hpad j hj, padD_len]
    refine kat_lt (s := { s with heap := h3 }) (hk3 _ mi) di (hk3 _ mj) dj ?_
    have hf : decide (wi.toArray.size < wj.toArray.size) = false := by simp [li, lj]
    rw [hf]
    rw [hpad i hi, hpad j hj] at hC
    exact katLex_ints ii ij (by rw [← ii.length, ← ij.length, li, lj]) 0 hC
  · rintro ⟨⟨⟩, st'⟩ s' ⟨rfl, hf, p, hp, hs, hout⟩
    dsimp only at hf hout ⊢
    rw [hout]
    have hin : ∀ i ∈ p, i < ds.length := fun i hi => List.mem_range.mp (hp.mem_iff.mp hi)
    have hpl : p.length = ds.length := by rw [hp.length_eq, List.length_range]
    have hout2 : (if b = true then (List.toArray (p.map fun i => (katRev b vs).getD i Value.none)).reverse else List.toArray (p.map fun i => (katRev b vs).getD i Value.none)) = List.toArray (katRev b (p.map fun i => (katRev b vs).getD i Value.none)) := kat_outs b _
    rw [hout2]
    have s2 := Heap.SameBut.update h3 D (Obj.mapSeq fun _ => List.toArray (katRev b (p.map fun i => (katRev b vs).getD i Value.none)))
    obtain ⟨c2, hc2⟩ : ∃ c2, (h3.update D (Obj.mapSeq fun _ => List.toArray (katRev b (p.map fun i => (katRev b vs).getD i Value.none)))).get? D = some (seqObj "list" (List.toArray (katRev b (p.map fun i => (katRev b vs).getD i Value.none))) c2) := ⟨_, get?_update_seq ho3 fun _ => List.toArray (katRev b (p.map fun i => (katRev b vs).getD i Value.none))⟩
    refine wpAny_bind (seqEpoch_at ho3 rfl ?_)
    refine wpAny_bind (listUpdate_at ho3 rfl ?_ (Nat.zero_le _) (by rw [List.size_toArray, kat_len, List.length_map, hpl, sizeLine_eq]; omega))
    rw [hf]
    simp only [bne_self_eq_false, Bool.false_eq_true, if_false]
    refine wpAny_pure ⟨_, rfl, ?_⟩
    refine h _ c2 (katRev b (p.map fun i => (katRev b vs).getD i Value.none)) (katRev b (p.map fun i => (katRev b ds).getD i [])) (kas_fr F3 s2 z.2.1 z.2.2) ?_ ((alr.pick p (fun i hi => by rw [hldr]; exact hin i hi)).katRev b) ?_ ?_
    · rw [hg]
      intro q hq
      rcases List.mem_append.mp hq with hq | hq
      · exact kas_news N3 s2 hn₀ q (List.mem_append_left _ hq)
      · rcases List.mem_cons.mp hq with rfl | hq
        · exact ⟨hc2, z.2⟩
        · exact kas_news N3 s2 hn₀ q (List.mem_append_right _ hq)
    · refine (katRev_perm b _).trans ((hp.map _).trans ?_)
      have := map_range_getD [] (katRev b ds)
      rw [hldr] at this
      rw [this]
      exact katRev_perm b ds
    · have hs' : (p.map fun i => (katRev b ds).getD i []).Pairwise (fun x y => lexI (y.zip x) = false) := by
        rw [List.pairwise_map]
        refine List.Pairwise.imp_of_mem (fun {x y} hx hy hxy => ?_) hs
        have := hxy.1
        dsimp only at this
        rwa [hpad x (hin x hx), hpad y (hin y hy)] at this
      cases b with
      | false => exact hs'
      | true =>
        show (List.reverse _).Pairwise _
        rw [List.pairwise_reverse]
        exact hs'
end
end Mine

-- L1
namespace Mine
theorem lt_rest {i n a b : Nat} (h : i < a - n) (e : a = b) : n + i < b := by omega
theorem len_small {i n a b l : Nat} (hb : b < 64) (h : i < a - n) (e : a = b) (hl : l = n) : l < 2 ^ 19 := by omega
theorem sgn_sgn (b : Bool) (x : Int) : sgn b (sgn b x) = x := by cases b <;> simp [sgn]
section
variable (b : Bool) (g : Int → Int) (ns : List Int) (tl : Nat → List Int)
/-- the ints of the tuple for the index j, with the order o -/
noncomputable def fD (j : Nat) (o : Int) : List Int := g (ns.getD j 0) :: sgn b o :: tl j
/-- the key by which the answer ascends -/
noncomputable def kap (j : Nat) : Int := sgn b (g (ns.getD j 0))
theorem ltD_f {i j : Nat} {a c : Int} (h : ltD b (fD b g ns tl i a) (fD b g ns tl j c) = false) : kap b g ns i < kap b g ns j ∨ (kap b g ns i = kap b g ns j ∧ a ≤ c) := by
  unfold ltD fD at h
  unfold kap
  cases b with
  | true =>
    simp only [if_true, List.zip_cons_cons, lexI, sgn] at h ⊢
    by_cases e : g (ns.getD i 0) = g (ns.getD j 0)
    · rw [if_pos e] at h
      right
      refine ⟨by rw [e], ?_⟩
      by_cases e2 : -a = -c
      · omega
      · rw [if_neg e2] at h
        simp only [decide_eq_false_iff_not] at h
        omega
    · rw [if_neg e] at h
      simp only [decide_eq_false_iff_not] at h
      omega
  | false =>
    simp only [Bool.false_eq_true, if_false, List.zip_cons_cons, lexI, sgn] at h ⊢
    by_cases e : g (ns.getD j 0) = g (ns.getD i 0)
    · rw [if_pos e] at h
      right
      refine ⟨e.symm, ?_⟩
      by_cases e2 : c = a
      · omega
      · rw [if_neg e2] at h
        simp only [decide_eq_false_iff_not] at h
        omega
    · rw [if_neg e] at h
      simp only [decide_eq_false_iff_not] at h
      omega
/-- the heap's content: the first n of the m items looked at, with orders that rise with the index -/
structure HInv (H : List (Nat × Int)) (m : Nat) (ord : Int) (n : Nat) : Prop where
  len : H.length = n
  nd : (H.map (·.1)).Nodup
  lt : ∀ p ∈ H, p.1 < m
  mono : ∀ p ∈ H, ∀ q ∈ H, p.1 < q.1 → p.2 < q.2
  bd : ∀ p ∈ H, p.2 < ord
  sel : ∀ j, j < m → j ∉ H.map (·.1) → ∀ p ∈ H, kap b g ns p.1 < kap b g ns j ∨ (kap b g ns p.1 = kap b g ns j ∧ p.1 < j)
variable {b g ns}
theorem HInv.start {n : Nat} : HInv b g ns ((List.range n).map fun i => (i, ((i : Nat) : Int))) n n n := by
  refine ⟨by simp, ?_, ?_, ?_, ?_, ?_⟩
  · rw [List.map_map]
    have : (List.range n).map ((fun p : Nat × Int => p.1) ∘ fun i => (i, ((i : Nat) : Int))) = List.range n := by
      conv => rhs; rw [← List.map_id (List.range n)]
      rfl
    rw [this]; exact List.nodup_range
  · intro p hp
    obtain ⟨i, hi, rfl⟩ := List.mem_map.mp hp
    exact List.mem_range.mp hi
  · intro p hp q hq h
    obtain ⟨i, hi, rfl⟩ := List.mem_map.mp hp
    obtain ⟨j, hj, rfl⟩ := List.mem_map.mp hq
    dsimp only at h ⊢
    omega
  · intro p hp
    obtain ⟨i, hi, rfl⟩ := List.mem_map.mp hp
    have := List.mem_range.mp hi
    dsimp only
    omega
  · intro j hj hn
    refine absurd ?_ hn
    rw [List.map_map]
    exact List.mem_map.mpr ⟨j, List.mem_range.mpr hj, rfl⟩
theorem HInv.perm {H H' : List (Nat × Int)} {m n : Nat} {ord : Int} (I : HInv b g ns H m ord n) (hp : H'.Perm H) : HInv b g ns H' m ord n where
  len := hp.length_eq.trans I.len
  nd := (hp.map _).nodup_iff.mpr I.nd
  lt := fun p h => I.lt p (hp.mem_iff.mp h)
  mono := fun p h q h' => I.mono p (hp.mem_iff.mp h) q (hp.mem_iff.mp h')
  bd := fun p h => I.bd p (hp.mem_iff.mp h)
  sel := fun j hj hn p h => I.sel j hj (fun hm => hn ((hp.map _).mem_iff.mpr hm)) p (hp.mem_iff.mp h)
/-- what the top of the heap says -/
noncomputable def TopOf (b : Bool) (g : Int → Int) (ns : List Int) (H : List (Nat × Int)) (p0 : Nat × Int) : Prop := ∀ p ∈ H, kap b g ns p.1 < kap b g ns p0.1 ∨ (kap b g ns p.1 = kap b g ns p0.1 ∧ p.2 ≤ p0.2)
theorem HInv.no {H : List (Nat × Int)} {p0 : Nat × Int} {m n : Nat} {ord : Int} (I : HInv b g ns H m ord n) (ht : TopOf b g ns H p0) (h : ¬ kap b g ns m < kap b g ns p0.1) : HInv b g ns H (m + 1) ord n where
  len := I.len
  nd := I.nd
  lt := fun p hp => Nat.lt_succ_of_lt (I.lt p hp)
  mono := I.mono
  bd := I.bd
  sel := fun j hj hn p hp => by
    by_cases e : j = m
    · subst e
      have := ht p hp
      have hlt := I.lt p hp
      omega
    · exact I.sel j (by omega) hn p hp
theorem HInv.yes {T : List (Nat × Int)} {p0 : Nat × Int} {m n : Nat} {ord : Int} (I : HInv b g ns (p0 :: T) m ord n) (ht : TopOf b g ns (p0 :: T) p0) (h : kap b g ns m < kap b g ns p0.1) : HInv b g ns ((m, ord) :: T) (m + 1) (ord + 1) n where
  len := I.len
  nd := by
    have hnd := I.nd
    rw [List.map_cons, List.nodup_cons] at hnd ⊢
    refine ⟨fun hm => ?_, hnd.2⟩
    obtain ⟨q, hq, e⟩ := List.mem_map.mp hm
    have := I.lt q (.tail _ hq)
    omega
  lt := fun p hp => by
    rcases List.mem_cons.mp hp with rfl | hp
    · exact Nat.lt_succ_self _
    · exact Nat.lt_succ_of_lt (I.lt p (.tail _ hp))
  mono := fun p hp q hq hpq => by
    rcases List.mem_cons.mp hp with rfl | hp
    · rcases List.mem_cons.mp hq with rfl | hq
      · exact absurd hpq (Nat.lt_irrefl _)
      · have := I.lt q (.tail _ hq)
        dsimp only at hpq
        omega
    · rcases List.mem_cons.mp hq with rfl | hq
      · exact I.bd p (.tail _ hp)
      · exact I.mono p (.tail _ hp) q (.tail _ hq) hpq
  bd := fun p hp => by
    rcases List.mem_cons.mp hp with rfl | hp
    · dsimp only; omega
    · have := I.bd p (.tail _ hp); omega
  sel := fun j hj hn p hp => by
    have hjm : j ≠ m := fun e => hn (by rw [e]; exact .head _)
    have hjT : j ∉ T.map (·.1) := fun e => hn (.tail _ e)
    have hnd := I.nd
    rw [List.map_cons, List.nodup_cons] at hnd
    by_cases e0 : j = p0.1
    · rcases List.mem_cons.mp hp with rfl | hp
      · left; rw [e0]; exact h
      · have t := ht p (.tail _ hp)
        rw [e0]
        rcases t with t | ⟨t1, t2⟩
        · exact .inl t
        · refine .inr ⟨t1, ?_⟩
          have ne : p.1 ≠ p0.1 := fun e => hnd.1 (by rw [← e]; exact List.mem_map_of_mem hp)
          rcases Nat.lt_or_gt_of_ne ne with h1 | h1
          · exact h1
          · have := I.mono p0 (.head _) p (.tail _ hp) h1
            omega
    · have hj' : j ∉ (p0 :: T).map (·.1) := by
        rw [List.map_cons, List.mem_cons, not_or]
        exact ⟨e0, hjT⟩
      rcases List.mem_cons.mp hp with rfl | hp
      · have := I.sel j (by omega) hj' p0 (.head _)
        left
        dsimp only
        omega
      · exact I.sel j (by omega) hj' p (.tail _ hp)
/-- the end: sorted, the heap's items are the first n of the stable sort -/
theorem HInv.fin {H : List (Nat × Int)} {n : Nat} {ord : Int} (I : HInv b g ns H ns.length ord n) (hs : H.Pairwise (fun x y => kap b g ns x.1 < kap b g ns y.1 ∨ (kap b g ns x.1 = kap b g ns y.1 ∧ x.2 ≤ y.2))) {ms : List Int} (hst : Stab (fun x => sgn b (g x)) ns ms) :
    H.map (fun p => ns.getD p.1 0) = ms.take n := by
  obtain ⟨full, hp, hsl, rfl⟩ := hst
  have lte : ∀ i j, ltG (fun x => sgn b (g x)) ns i j = decide (kap b g ns i < kap b g ns j) := fun _ _ => rfl
  have hps : (H.map (·.1)).Pairwise (Bf (ltG (fun x => sgn b (g x)) ns)) := by
    rw [List.pairwise_map]
    have hnd := I.nd
    unfold List.Nodup at hnd
    rw [List.pairwise_map] at hnd
    refine List.Pairwise.imp_of_mem (fun {x y} hx hy hxy => ?_) (hs.and hnd)
    obtain ⟨h1, h2⟩ := hxy
    refine ⟨by rw [lte]; simp only [decide_eq_false_iff_not]; omega, fun h3 => ?_⟩
    rw [lte] at h3
    simp only [decide_eq_false_iff_not] at h3
    rcases h1 with h1 | ⟨h1, h4⟩
    · exact absurd h1 h3
    · rcases Nat.lt_or_gt_of_ne h2 with h5 | h5
      · exact h5
      · have := I.mono y hy x hx h5; omega
  have hrest : (full.filter fun j => decide (j ∉ H.map (·.1))).Pairwise (Bf (ltG (fun x => sgn b (g x)) ns)) := hsl.filter _
  have hall : (H.map (·.1) ++ full.filter fun j => decide (j ∉ H.map (·.1))).Pairwise (Bf (ltG (fun x => sgn b (g x)) ns)) := by
    refine List.pairwise_append.mpr ⟨hps, hrest, fun x hx y hy => ?_⟩
    obtain ⟨hyf, hyn⟩ := List.mem_filter.mp hy
    simp only [decide_eq_true_eq] at hyn
    obtain ⟨q, hq, rfl⟩ := List.mem_map.mp hx
    have hylt : y < ns.length := List.mem_range.mp (hp.mem_iff.mp hyf)
    have := I.sel y hylt hyn q hq
    refine ⟨by rw [lte]; simp only [decide_eq_false_iff_not]; omega, fun h3 => ?_⟩
    rw [lte] at h3
    simp only [decide_eq_false_iff_not] at h3
    omega
  have hfnd : full.Nodup := hp.nodup_iff.mpr List.nodup_range
  have hperm : (H.map (·.1) ++ full.filter fun j => decide (j ∉ H.map (·.1))).Perm full := by
    have h1 : (full.filter fun j => decide (j ∈ H.map (·.1))).Perm (H.map (·.1)) := by
      refine (List.perm_ext_iff_of_nodup (hfnd.filter _) I.nd).mpr fun a => ?_
      rw [List.mem_filter]
      simp only [decide_eq_true_eq]
      refine ⟨fun h => h.2, fun h => ⟨?_, h⟩⟩
      obtain ⟨q, hq, rfl⟩ := List.mem_map.mp h
      exact hp.mem_iff.mpr (List.mem_range.mpr (I.lt q hq))
    refine (h1.symm.append_right _).trans ?_
    have := List.filter_append_perm (fun j => decide (j ∈ H.map (·.1))) full
    refine List.Perm.trans (List.Perm.of_eq ?_) this
    congr 1
    apply List.filter_congr
    intro x _
    simp
  have e : H.map (·.1) ++ (full.filter fun j => decide (j ∉ H.map (·.1))) = full :=
    List.Perm.eq_of_pairwise (le := Bf (ltG (fun x => sgn b (g x)) ns)) (fun _ _ _ _ => bf_anti) hall hsl hperm
  rw [← List.map_take, ← e, List.take_append_of_le_length (by rw [List.length_map, I.len]; exact Nat.le_refl _), List.take_of_length_le (by rw [List.length_map, I.len]; exact Nat.le_refl _), List.map_map]
  rfl
end
theorem perm_lift {α β : Type} {f : α → β} : ∀ {l : List α} {l' : List β}, l'.Perm (l.map f) → ∃ k : List α, k.Perm l ∧ l' = k.map f
  | [], l', h => ⟨[], .nil, by simpa using h⟩
  | a :: l, l', h => by
    have hm : f a ∈ l' := h.mem_iff.mpr (.head _)
    obtain ⟨s, t, rfl⟩ := List.append_of_mem hm
    have h2 : (s ++ t).Perm (l.map f) := by
      have h3 : (f a :: (s ++ t)).Perm (f a :: l.map f) := List.perm_middle.symm.trans h
      exact h3.cons_inv
    obtain ⟨k, hk, e⟩ := perm_lift h2
    obtain ⟨k1, k2, rfl, e1, e2⟩ := List.append_eq_map_iff.mp e
    exact ⟨k1 ++ a :: k2, List.perm_middle.trans (hk.cons a), by simp [e1, e2]⟩
end Mine

-- M2
namespace Mine
/-- what min and max keep of the best so far -/
noncomputable def contA (kf : Nat → Int) : Option (Nat × Value × Tok) → Array Value
  | none => #[]
  | some (i, vb, tb) => #[vb, .int (kf i) tb]
theorem contA_small (kf : Nat → Int) (b : Option (Nat × Value × Tok)) : (contA kf b).size ≤ sizeLine := by
  cases b with
  | none => exact Nat.zero_le _
  | some p => rw [PySem.sizeLine_eq]; show 2 ≤ _; omega
noncomputable def keyV (ko : Option Addr) : Value := match ko with
  | none => .none
  | some q => .ref q
noncomputable def Bestmin (kf : Nat → Int) (vs : List Value) (j : Nat) : Option (Nat × Value × Tok) → Prop
  | none => j = 0
  | some (i, vb, _) => vs[i]? = some vb ∧ i < j ∧ ∀ j', j' < j → kf i ≤ kf j' ∧ (j' < i → kf i < kf j')
theorem bestmin_step {kf : Nat → Int} {vs : List Value} {j : Nat} {best : Option (Nat × Value × Tok)} {v : Value} {t : Tok} (hv : vs[j]? = some v) (h : Bestmin kf vs j best) :
    Bestmin kf vs (j + 1) (match best with
      | none => some (j, v, t)
      | some (i, vb, tb) => if kf j < kf i then some (j, v, t) else some (i, vb, tb)) := by
  cases best with
  | none =>
    have hj : j = 0 := h
    subst hj
    refine ⟨hv, Nat.lt_succ_self _, fun j' hj' => ?_⟩
    have : j' = 0 := by omega
    subst this
    exact ⟨by omega, fun h => absurd h (Nat.lt_irrefl _)⟩
  | some p =>
    obtain ⟨i, vb, tb⟩ := p
    obtain ⟨h1, h2, h3⟩ := h
    dsimp only
    split
    · next hc =>
      refine ⟨hv, Nat.lt_succ_self _, fun j' hj' => ?_⟩
      by_cases e : j' = j
      · subst e; exact ⟨by omega, fun h => absurd h (Nat.lt_irrefl _)⟩
      · have := (h3 j' (by omega)).1
        exact ⟨by omega, fun _ => by omega⟩
    · next hc =>
      refine ⟨h1, by omega, fun j' hj' => ?_⟩
      by_cases e : j' = j
      · subst e; exact ⟨by omega, fun _ => by omega⟩
      · exact h3 j' (by omega)
theorem min_kw (I S : Value) (d k : Value) : argsOk "min" ⟨[I], [(Str.ofString "default", d), (Str.ofString "key", k)]⟩ := by unfold argsOk; kernel_rfl
section
variable {prog : Program} {w : World} {A : Around} {E : Value → Shared → Prop} {s : Shared} {h₀ : Heap} {L l I S : Addr} {m : Str → Option Value} {news : List (Addr × Obj)} {vs : List Value} {R : Result → Shared → Prop} {Q : Value → Shared → Prop} {ko : Option Addr} {d : Value}
theorem min_loop (kf : Nat → Int) (hh : A.handled = none) (hl : h₀.IsList l vs.toArray) (hlI : l ≠ I) (hSI : S ≠ I) (hnS : ∀ p ∈ news, p.1 ≠ S) (hnI : ∀ p ∈ news, p.1 ≠ I)
    (turnN : ko = none → ∀ (i : Nat) (v : Value), vs[i]? = some v → ∃ t, v = .int (kf i) t)
    (turnK : ∀ q, ko = some q → ∀ (i : Nat) (v : Value), vs[i]? = some v → ∀ (h : Heap) (tk : Nat) (own : List (Addr × Obj)), Fr h₀ L h m → News h₀ L h (news ++ own) →
      wpAny (model prog w) A.in1 (call (.ref q) [v]) (KskEnd h₀ L m (news ++ own) (kf i) { s with heap := h, toks := tk }) (fun _ _ => False) { s with heap := h, toks := tk })
    (hE : ∀ h' tk', vs = [] → Fr h₀ L h' m → News h₀ L h' news → R (.ok (.ret d)) { s with heap := h', toks := tk' })
    (hR : ∀ i v h' tk', vs[i]? = some v → (∀ j, j < vs.length → kf i ≤ kf j ∧ (j < i → kf i < kf j)) → Fr h₀ L h' m → News h₀ L h' news → R (.ok (.ret v)) { s with heap := h', toks := tk' }) :
    ∀ (r j : Nat) (best : Option (Nat × Value × Tok)) (h : Heap) (tk c : Nat) (oI : Obj), vs.length - j = r → j ≤ vs.length → Fr h₀ L h m →
      News h₀ L h (news ++ [(S, seqObj "list" (contA kf best) c), (I, oI)]) → h.IsListIter I l j → Bestmin kf vs j best →
      codeAny (model prog w) A (.builtin "min.loop" ⟨[.ref I, keyV ko, .ref S], [(Str.ofString "default", d)]⟩) R { s with heap := h, toks := tk } := by
  have hname : (toString "min" ++ toString ".loop" : String) = "min.loop" := by decide
  have W := Walks.list (prog := prog) (w := w) (A := A.in1) hh I l hlI vs.toArray
  have hsz : vs.toArray.size = vs.length := List.size_toArray ..
  intro r
  induction r with
  | zero =>
    intro j best h tk c oI hr hj F N hit hbest
    have hin : j = vs.length := by omega
    have nS := N (S, seqObj "list" (contA kf best) c) (List.mem_append_right _ (.head _))
    have nI := N (I, oI) (List.mem_append_right _ (.tail _ (.head _)))
    have Nn : News h₀ L h news := fun p hp => N p (List.mem_append_left _ hp)
    refine codeAny_builtin PySem.F.entry_min_loop ?_
    rw [Around.under_plainId PySem.F.plain_min_loop _]
    show wpAny _ A.in1 (seqItems? (.ref S) >>= _) _ _ _
    refine wpAny_bind (wpAny_seqItems nS.1 rfl ?_)
    show wpAny _ A.in1 (tryCatch (pyNext (.ref I)) _ >>= _) _ _ _
    refine wpAny_bind (wpAny_tryCatch (W.done _ _ _ ⟨by rw [hsz, ← hin]; exact hit, hl.at fun o e => F.keep _ _ e⟩ fun h' tk' hk' => ?_))
    have F1 := kmk_fr F hk' nI.2.1 nI.2.2
    have N1 := kmk_news Nn hk' hnI
    have hS' := hk' S _ (by simpa using hSI) nS.1
    cases best with
    | none =>
      have hj0 : j = 0 := hbest
      show wpAny _ A.in1 (rule _ >>= _) _ _ _
      refine wpAny_bind (wpAny_rule (wpAny_pure ?_))
      exact hE _ _ (List.length_eq_zero_iff.mp (by omega)) F1 N1
    | some p =>
      obtain ⟨i, vb, tb⟩ := p
      obtain ⟨h1, h2, h3⟩ := hbest
      have s1 := Heap.SameBut.update h' S (Obj.mapSeq fun _ => (#[] : Array Value))
      show wpAny _ A.in1 (updateSeq S (fun _ => #[]) >>= _) _ _ _
      refine wpAny_bind ?_
      refine wpAny_updateSeq (hz := contA_small kf _) hS' rfl (wpAny_bind (wpAny_letGo (wpAny_pure ?_)))
      exact hR i vb _ _ h1 (fun j' hj' => h3 j' (by omega)) (ksk_fr F1 s1 nS.2.1 nS.2.2) (ksk_news N1 s1 hnS)
  | succ r ih =>
    intro j best h tk c oI hr hj F N hit hbest
    have hlt : j < vs.length := by omega
    have nS := N (S, seqObj "list" (contA kf best) c) (List.mem_append_right _ (.head _))
    have nI := N (I, oI) (List.mem_append_right _ (.tail _ (.head _)))
    have Nn : News h₀ L h news := fun p hp => N p (List.mem_append_left _ hp)
    refine codeAny_builtin PySem.F.entry_min_loop ?_
    rw [Around.under_plainId PySem.F.plain_min_loop _]
    show wpAny _ A.in1 (seqItems? (.ref S) >>= _) _ _ _
    refine wpAny_bind (wpAny_seqItems nS.1 rfl ?_)
    show wpAny _ A.in1 (tryCatch (pyNext (.ref I)) _ >>= _) _ _ _
    refine wpAny_bind (wpAny_tryCatch (W.item j _ _ _ (by rw [hsz]; exact hlt) ⟨hit, hl.at fun o e => F.keep _ _ e⟩ fun v h' tk' hP hst' hk' => ?_))
    have hv : vs[j]? = some v := by simpa using hP
    obtain ⟨oI', hoI', hoc, hod⟩ := id hst'.1
    have F1 := kmk_fr F hk' nI.2.1 nI.2.2
    have N1 : News h₀ L h' (news ++ [(S, seqObj "list" (contA kf best) c), (I, oI')]) := fun p hp => by
      rcases List.mem_append.mp hp with hp | hp
      · exact kmk_news Nn hk' hnI p hp
      · rcases List.mem_cons.mp hp with rfl | hp
        · exact ⟨hk' S _ (by simpa using hSI) nS.1, nS.2⟩
        · rw [List.mem_singleton.mp hp]
          exact ⟨hoI', nI.2⟩
    -- behind the key
    have cont : ∀ (h2 : Heap) (tk2 : Nat) (t2 : Tok), Fr h₀ L h2 m → News h₀ L h2 (news ++ [(S, seqObj "list" (contA kf best) c), (I, oI')]) →
        wpAny (model prog w) A.in1 (do
          match (contA kf best).toList with
          | [oldItem, oldVal] =>
            let better ← ((holding [v, .int (kf j) t2] do
              let answer ← richCompare .Lt (.int (kf j) t2) oldVal
              let yes ← holding [answer] (truthy answer)
              letGo [answer]
              pure yes).tryCatch fun e => do
                updateSeq S fun _ => #[]
                letGo ([.int (kf j) t2, v] ++ (contA kf best).toList.reverse) [e]
                throw e)
            if better then
              updateSeq S fun _ => #[v, .int (kf j) t2]
              letGo [oldVal, oldItem]
            else letGo [v, .int (kf j) t2]
          | _ => updateSeq S fun _ => #[v, .int (kf j) t2]
          again (.builtin s!"{"min"}.loop" ⟨[.ref I, keyV ko, .ref S], [(Str.ofString "default", d)]⟩))
          (fun fin s' => match fin with
            | .done f => R (.ok f) s'
            | .again c' => c'.quiet = true ∧ codeAny (model prog w) A c' R s') (fun e s' => R (.error e) s') { s with heap := h2, toks := tk2 } := by
      intro h2 tk2 t2 F2 N2
      have nS2 := N2 (S, seqObj "list" (contA kf best) c) (List.mem_append_right _ (.head _))
      have nI2 := N2 (I, oI') (List.mem_append_right _ (.tail _ (.head _)))
      have hit2 : h2.IsListIter I l (j + 1) := ⟨oI', nI2.1, hoc, hod⟩
      have s1 := Heap.SameBut.update h2 S (Obj.mapSeq fun _ => #[v, .int (kf j) t2])
      obtain ⟨c2, hc2⟩ : ∃ c2, (h2.update S (Obj.mapSeq fun _ => #[v, .int (kf j) t2])).get? S = some (seqObj "list" #[v, .int (kf j) t2] c2) := ⟨_, get?_update_seq nS2.1 fun _ => #[v, .int (kf j) t2]⟩
      have N3 : News h₀ L (h2.update S (Obj.mapSeq fun _ => #[v, .int (kf j) t2])) (news ++ [(S, seqObj "list" (contA kf (some (j, v, t2))) c2), (I, oI')]) := fun p hp => by
        rcases List.mem_append.mp hp with hp | hp
        · exact ksk_news (fun p hp => N2 p (List.mem_append_left _ hp)) s1 hnS p hp
        · rcases List.mem_cons.mp hp with rfl | hp
          · exact ⟨hc2, nS2.2⟩
          · rw [List.mem_singleton.mp hp]
            exact ⟨(s1.2 I hSI.symm).trans nI2.1, nI2.2⟩
      have hit3 : (h2.update S (Obj.mapSeq fun _ => #[v, .int (kf j) t2])).IsListIter I l (j + 1) := ⟨oI', (s1.2 I hSI.symm).trans nI2.1, hoc, hod⟩
      have hb := bestmin_step (t := t2) hv hbest
      cases best with
      | none =>
        show wpAny _ A.in1 (updateSeq S (fun _ => #[v, .int (kf j) t2]) >>= _) _ _ _
        refine wpAny_bind ?_
        refine wpAny_updateSeq (hz := contA_small kf _) nS2.1 rfl ?_
        rw [hname]
        exact wpAny_pure ⟨plainId_quiet PySem.F.plain_min_loop _, ih (j + 1) (some (j, v, t2)) _ _ c2 oI' (by omega) hlt (ksk_fr F2 s1 nS2.2.1 nS2.2.2) N3 hit3 hb⟩
      | some p =>
        obtain ⟨i, vb, tb⟩ := p
        show wpAny _ A.in1 (tryCatch (holding [v, .int (kf j) t2] (richCompare .Lt (.int (kf j) t2) (.int (kf i) tb) >>= _)) _ >>= _) _ _ _
        refine wpAny_bind (wpAny_tryCatch (wpAny_holding (wpAny_bind (CmpOf.ints_lt (prog := prog) (w := w) (A := A.in1) (P := fun i v => ∃ t, v = .int (kf i) t) kf (fun i v h => h) j i _ _ _ _ _ ⟨t2, rfl⟩ ⟨tb, rfl⟩ ?_))))
        refine wpAny_bind (wpAny_holding (wpAny_truthy_bool ?_))
        refine wpAny_bind (wpAny_letGo (wpAny_pure ?_))
        dsimp only at hb
        by_cases hb' : kf j < kf i
        · rw [if_pos hb'] at hb
          simp only [hb', decide_true, if_true]
          refine wpAny_bind ?_
          refine wpAny_updateSeq (hz := contA_small kf _) nS2.1 rfl (wpAny_bind (wpAny_letGo ?_))
          rw [hname]
          exact wpAny_pure ⟨plainId_quiet PySem.F.plain_min_loop _, ih (j + 1) (some (j, v, t2)) _ _ c2 oI' (by omega) hlt (ksk_fr F2 s1 nS2.2.1 nS2.2.2) N3 hit3 hb⟩
        · rw [if_neg hb'] at hb
          simp only [hb', decide_false, Bool.false_eq_true, if_false]
          refine wpAny_bind (wpAny_letGo ?_)
          rw [hname]
          exact wpAny_pure ⟨plainId_quiet PySem.F.plain_min_loop _, ih (j + 1) (some (i, vb, tb)) _ _ c oI' (by omega) hlt F2 N2 hit2 hb⟩
    cases ko with
    | none =>
      obtain ⟨t, rfl⟩ := turnN rfl j v hv
      show wpAny _ A.in1 ((pure (Value.int (kf j) t) : Sem Value) >>= _) _ _ _
      exact wpAny_bind (wpAny_pure (cont h' tk' t F1 N1))
    | some q =>
      show wpAny _ A.in1 (tryCatch (holding [v] (call (.ref q) [v])) _ >>= _) _ _ _
      refine wpAny_bind (wpAny_tryCatch (wpAny_holding (wpAny_mono (turnK q rfl j v hv h' tk' _ F1 N1) (fun x s'' he => ?_) fun _ _ hF => hF.elim)))
      obtain ⟨h2, tk2, t2, rfl, rfl, F2, N2⟩ := he
      exact cont h2 tk2 t2 F2 N2
/-- min(it, default=d, key=key) of a list's iterator at its start -/
theorem min_it {rest : List (Addr × Obj)} {oI : Obj} (kf : Nat → Int) (hh : A.handled = none) (F : Fr h₀ L s.heap m) (N : News h₀ L s.heap ((I, oI) :: rest)) (hI : IsLit oI l 0) (hrest : ∀ p ∈ rest, p.1 ≠ I) (hl : h₀.IsList l vs.toArray)
    (turnN : ko = none → ∀ (i : Nat) (v : Value), vs[i]? = some v → ∃ t, v = .int (kf i) t)
    (turnK : ∀ q, ko = some q → ∀ (i : Nat) (v : Value), vs[i]? = some v → ∀ (h : Heap) (tk : Nat) (own : List (Addr × Obj)), Fr h₀ L h m → News h₀ L h (rest ++ own) →
      wpAny (model prog w) A.in1 (call (.ref q) [v]) (KskEnd h₀ L m (rest ++ own) (kf i) { s with heap := h, toks := tk }) (fun _ _ => False) { s with heap := h, toks := tk })
    (hE : ∀ h' tk', vs = [] → Fr h₀ L h' m → News h₀ L h' rest → Q d { s with heap := h', toks := tk' })
    (hQ : ∀ i v h' tk', vs[i]? = some v → (∀ j, j < vs.length → kf i ≤ kf j ∧ (j < i → kf i < kf j)) → Fr h₀ L h' m → News h₀ L h' rest → Q v { s with heap := h', toks := tk' }) :
    wpAny (model prog w) A (call (.builtin "min") [.ref I] [(Str.ofString "default", d), (Str.ofString "key", keyV ko)]) Q E s := by
  have hname : (toString "min" ++ toString ".loop" : String) = "min.loop" := by decide
  have nI := N (I, oI) (.head _)
  have hIl : I < s.heap.objs.size := Heap.lt_size nI.1
  have hL : L < s.heap.objs.size := F.ns.lt
  have hlI : l ≠ I := by
    intro e; obtain ⟨o, e', _⟩ := hl; have := nI.2.2; rw [← e, e'] at this; cases this
  refine kmk_tree PySem.F.kind_min PySem.F.plain_min PySem.F.entry_min (min_kw _ .none _ _) ?_
  show wpAny _ A.in1 (Builtin.Builtins.bindParams "min" ["key", "default"] 0 ⟨[], [(Str.ofString "default", d), (Str.ofString "key", keyV ko)]⟩ >>= _) _ _ s
  refine wpAny_bind (wpAny_of_eq (show Builtin.Builtins.bindParams "min" ["key", "default"] 0 ⟨[], [(Str.ofString "default", d), (Str.ofString "key", keyV ko)]⟩ = pure [some (keyV ko), some d] from rfl) ?_)
  refine wpAny_bind (wpAny_pure ?_)
  refine wpAny_bind (wpAny_pyIter_listiter (i := 0) ⟨oI, nI.1, hI.1, hI.2⟩ ?_)
  refine wpAny_bind (wpAny_newList ?_ (Nat.zero_le _))
  rw [hname]
  refine wpAny_pure ⟨plainId_quiet PySem.F.plain_min_loop _, ?_⟩
  have fresh : h₀.get? s.heap.objs.size = none := next_is_new F
  refine min_loop kf hh hl hlI (Nat.ne_of_gt hIl) (fun p hp => Nat.ne_of_lt (Heap.lt_size (N p (.tail _ hp)).1)) hrest turnN turnK (fun h' tk' e F' N' => hE h' tk' e F' N') (fun i v h' tk' e1 e2 F' N' => hQ i v h' tk' e1 e2 F' N') _ 0 none _ _ 0 oI rfl (Nat.zero_le _) (F.push _) (fun p hp => ?_) ⟨oI, Heap.get?_push_of_some _ nI.1, hI.1, hI.2⟩ rfl
  rcases List.mem_append.mp hp with hp | hp
  · exact ⟨Heap.get?_push_of_some _ (N p (.tail _ hp)).1, (N p (.tail _ hp)).2⟩
  · rcases List.mem_cons.mp hp with rfl | hp
    · exact ⟨Heap.get?_push_size _ rfl, Nat.ne_of_gt hL, fresh⟩
    · rw [List.mem_singleton.mp hp]
      exact ⟨Heap.get?_push_of_some _ nI.1, nI.2⟩
end
noncomputable def Bestmax (kf : Nat → Int) (vs : List Value) (j : Nat) : Option (Nat × Value × Tok) → Prop
  | none => j = 0
  | some (i, vb, _) => vs[i]? = some vb ∧ i < j ∧ ∀ j', j' < j → kf i ≥ kf j' ∧ (j' < i → kf i > kf j')
theorem bestmax_step {kf : Nat → Int} {vs : List Value} {j : Nat} {best : Option (Nat × Value × Tok)} {v : Value} {t : Tok} (hv : vs[j]? = some v) (h : Bestmax kf vs j best) :
    Bestmax kf vs (j + 1) (match best with
      | none => some (j, v, t)
      | some (i, vb, tb) => if kf j > kf i then some (j, v, t) else some (i, vb, tb)) := by
  cases best with
  | none =>
    have hj : j = 0 := h
    subst hj
    refine ⟨hv, Nat.lt_succ_self _, fun j' hj' => ?_⟩
    have : j' = 0 := by omega
    subst this
    exact ⟨by omega, fun h => absurd h (Nat.lt_irrefl _)⟩
  | some p =>
    obtain ⟨i, vb, tb⟩ := p
    obtain ⟨h1, h2, h3⟩ := h
    dsimp only
    split
    · next hc =>
      refine ⟨hv, Nat.lt_succ_self _, fun j' hj' => ?_⟩
      by_cases e : j' = j
      · subst e; exact ⟨by omega, fun h => absurd h (Nat.lt_irrefl _)⟩
      · have := (h3 j' (by omega)).1
        exact ⟨by omega, fun _ => by omega⟩
    · next hc =>
      refine ⟨h1, by omega, fun j' hj' => ?_⟩
      by_cases e : j' = j
      · subst e; exact ⟨by omega, fun _ => by omega⟩
      · exact h3 j' (by omega)
theorem max_kw (I S : Value) (d k : Value) : argsOk "max" ⟨[I], [(Str.ofString "default", d), (Str.ofString "key", k)]⟩ := by unfold argsOk; kernel_rfl
section
variable {prog : Program} {w : World} {A : Around} {E : Value → Shared → Prop} {s : Shared} {h₀ : Heap} {L l I S : Addr} {m : Str → Option Value} {news : List (Addr × Obj)} {vs : List Value} {R : Result → Shared → Prop} {Q : Value → Shared → Prop} {ko : Option Addr} {d : Value}
theorem max_loop (kf : Nat → Int) (hh : A.handled = none) (hl : h₀.IsList l vs.toArray) (hlI : l ≠ I) (hSI : S ≠ I) (hnS : ∀ p ∈ news, p.1 ≠ S) (hnI : ∀ p ∈ news, p.1 ≠ I)
    (turnN : ko = none → ∀ (i : Nat) (v : Value), vs[i]? = some v → ∃ t, v = .int (kf i) t)
    (turnK : ∀ q, ko = some q → ∀ (i : Nat) (v : Value), vs[i]? = some v → ∀ (h : Heap) (tk : Nat) (own : List (Addr × Obj)), Fr h₀ L h m → News h₀ L h (news ++ own) →
      wpAny (model prog w) A.in1 (call (.ref q) [v]) (KskEnd h₀ L m (news ++ own) (kf i) { s with heap := h, toks := tk }) (fun _ _ => False) { s with heap := h, toks := tk })
    (hE : ∀ h' tk', vs = [] → Fr h₀ L h' m → News h₀ L h' news → R (.ok (.ret d)) { s with heap := h', toks := tk' })
    (hR : ∀ i v h' tk', vs[i]? = some v → (∀ j, j < vs.length → kf i ≥ kf j ∧ (j < i → kf i > kf j)) → Fr h₀ L h' m → News h₀ L h' news → R (.ok (.ret v)) { s with heap := h', toks := tk' }) :
    ∀ (r j : Nat) (best : Option (Nat × Value × Tok)) (h : Heap) (tk c : Nat) (oI : Obj), vs.length - j = r → j ≤ vs.length → Fr h₀ L h m →
      News h₀ L h (news ++ [(S, seqObj "list" (contA kf best) c), (I, oI)]) → h.IsListIter I l j → Bestmax kf vs j best →
      codeAny (model prog w) A (.builtin "max.loop" ⟨[.ref I, keyV ko, .ref S], [(Str.ofString "default", d)]⟩) R { s with heap := h, toks := tk } := by
  have hname : (toString "max" ++ toString ".loop" : String) = "max.loop" := by decide
  have W := Walks.list (prog := prog) (w := w) (A := A.in1) hh I l hlI vs.toArray
  have hsz : vs.toArray.size = vs.length := List.size_toArray ..
  intro r
  induction r with
  | zero =>
    intro j best h tk c oI hr hj F N hit hbest
    have hin : j = vs.length := by omega
    have nS := N (S, seqObj "list" (contA kf best) c) (List.mem_append_right _ (.head _))
    have nI := N (I, oI) (List.mem_append_right _ (.tail _ (.head _)))
    have Nn : News h₀ L h news := fun p hp => N p (List.mem_append_left _ hp)
    refine codeAny_builtin PySem.F.entry_max_loop ?_
    rw [Around.under_plainId PySem.F.plain_max_loop _]
    show wpAny _ A.in1 (seqItems? (.ref S) >>= _) _ _ _
    refine wpAny_bind (wpAny_seqItems nS.1 rfl ?_)
    show wpAny _ A.in1 (tryCatch (pyNext (.ref I)) _ >>= _) _ _ _
    refine wpAny_bind (wpAny_tryCatch (W.done _ _ _ ⟨by rw [hsz, ← hin]; exact hit, hl.at fun o e => F.keep _ _ e⟩ fun h' tk' hk' => ?_))
    have F1 := kmk_fr F hk' nI.2.1 nI.2.2
    have N1 := kmk_news Nn hk' hnI
    have hS' := hk' S _ (by simpa using hSI) nS.1
    cases best with
    | none =>
      have hj0 : j = 0 := hbest
      show wpAny _ A.in1 (rule _ >>= _) _ _ _
      refine wpAny_bind (wpAny_rule (wpAny_pure ?_))
      exact hE _ _ (List.length_eq_zero_iff.mp (by omega)) F1 N1
    | some p =>
      obtain ⟨i, vb, tb⟩ := p
      obtain ⟨h1, h2, h3⟩ := hbest
      have s1 := Heap.SameBut.update h' S (Obj.mapSeq fun _ => (#[] : Array Value))
      show wpAny _ A.in1 (updateSeq S (fun _ => #[]) >>= _) _ _ _
      refine wpAny_bind ?_
      refine wpAny_updateSeq (hz := contA_small kf _) hS' rfl (wpAny_bind (wpAny_letGo (wpAny_pure ?_)))
      exact hR i vb _ _ h1 (fun j' hj' => h3 j' (by omega)) (ksk_fr F1 s1 nS.2.1 nS.2.2) (ksk_news N1 s1 hnS)
  | succ r ih =>
    intro j best h tk c oI hr hj F N hit hbest
    have hlt : j < vs.length := by omega
    have nS := N (S, seqObj "list" (contA kf best) c) (List.mem_append_right _ (.head _))
    have nI := N (I, oI) (List.mem_append_right _ (.tail _ (.head _)))
    have Nn : News h₀ L h news := fun p hp => N p (List.mem_append_left _ hp)
    refine codeAny_builtin PySem.F.entry_max_loop ?_
    rw [Around.under_plainId PySem.F.plain_max_loop _]
    show wpAny _ A.in1 (seqItems? (.ref S) >>= _) _ _ _
    refine wpAny_bind (wpAny_seqItems nS.1 rfl ?_)
    show wpAny _ A.in1 (tryCatch (pyNext (.ref I)) _ >>= _) _ _ _
    refine wpAny_bind (wpAny_tryCatch (W.item j _ _ _ (by rw [hsz]; exact hlt) ⟨hit, hl.at fun o e => F.keep _ _ e⟩ fun v h' tk' hP hst' hk' => ?_))
    have hv : vs[j]? = some v := by simpa using hP
    obtain ⟨oI', hoI', hoc, hod⟩ := id hst'.1
    have F1 := kmk_fr F hk' nI.2.1 nI.2.2
    have N1 : News h₀ L h' (news ++ [(S, seqObj "list" (contA kf best) c), (I, oI')]) := fun p hp => by
      rcases List.mem_append.mp hp with hp | hp
      · exact kmk_news Nn hk' hnI p hp
      · rcases List.mem_cons.mp hp with rfl | hp
        · exact ⟨hk' S _ (by simpa using hSI) nS.1, nS.2⟩
        · rw [List.mem_singleton.mp hp]
          exact ⟨hoI', nI.2⟩
    -- behind the key
    have cont : ∀ (h2 : Heap) (tk2 : Nat) (t2 : Tok), Fr h₀ L h2 m → News h₀ L h2 (news ++ [(S, seqObj "list" (contA kf best) c), (I, oI')]) →
        wpAny (model prog w) A.in1 (do
          match (contA kf best).toList with
          | [oldItem, oldVal] =>
            let better ← ((holding [v, .int (kf j) t2] do
              let answer ← richCompare .Gt (.int (kf j) t2) oldVal
              let yes ← holding [answer] (truthy answer)
              letGo [answer]
              pure yes).tryCatch fun e => do
                updateSeq S fun _ => #[]
                letGo ([.int (kf j) t2, v] ++ (contA kf best).toList.reverse) [e]
                throw e)
            if better then
              updateSeq S fun _ => #[v, .int (kf j) t2]
              letGo [oldVal, oldItem]
            else letGo [v, .int (kf j) t2]
          | _ => updateSeq S fun _ => #[v, .int (kf j) t2]
          again (.builtin s!"{"max"}.loop" ⟨[.ref I, keyV ko, .ref S], [(Str.ofString "default", d)]⟩))
          (fun fin s' => match fin with
            | .done f => R (.ok f) s'
            | .again c' => c'.quiet = true ∧ codeAny (model prog w) A c' R s') (fun e s' => R (.error e) s') { s with heap := h2, toks := tk2 } := by
      intro h2 tk2 t2 F2 N2
      have nS2 := N2 (S, seqObj "list" (contA kf best) c) (List.mem_append_right _ (.head _))
      have nI2 := N2 (I, oI') (List.mem_append_right _ (.tail _ (.head _)))
      have hit2 : h2.IsListIter I l (j + 1) := ⟨oI', nI2.1, hoc, hod⟩
      have s1 := Heap.SameBut.update h2 S (Obj.mapSeq fun _ => #[v, .int (kf j) t2])
      obtain ⟨c2, hc2⟩ : ∃ c2, (h2.update S (Obj.mapSeq fun _ => #[v, .int (kf j) t2])).get? S = some (seqObj "list" #[v, .int (kf j) t2] c2) := ⟨_, get?_update_seq nS2.1 fun _ => #[v, .int (kf j) t2]⟩
      have N3 : News h₀ L (h2.update S (Obj.mapSeq fun _ => #[v, .int (kf j) t2])) (news ++ [(S, seqObj "list" (contA kf (some (j, v, t2))) c2), (I, oI')]) := fun p hp => by
        rcases List.mem_append.mp hp with hp | hp
        · exact ksk_news (fun p hp => N2 p (List.mem_append_left _ hp)) s1 hnS p hp
        · rcases List.mem_cons.mp hp with rfl | hp
          · exact ⟨hc2, nS2.2⟩
          · rw [List.mem_singleton.mp hp]
            exact ⟨(s1.2 I hSI.symm).trans nI2.1, nI2.2⟩
      have hit3 : (h2.update S (Obj.mapSeq fun _ => #[v, .int (kf j) t2])).IsListIter I l (j + 1) := ⟨oI', (s1.2 I hSI.symm).trans nI2.1, hoc, hod⟩
      have hb := bestmax_step (t := t2) hv hbest
      cases best with
      | none =>
        show wpAny _ A.in1 (updateSeq S (fun _ => #[v, .int (kf j) t2]) >>= _) _ _ _
        refine wpAny_bind ?_
        refine wpAny_updateSeq (hz := contA_small kf _) nS2.1 rfl ?_
        rw [hname]
        exact wpAny_pure ⟨plainId_quiet PySem.F.plain_max_loop _, ih (j + 1) (some (j, v, t2)) _ _ c2 oI' (by omega) hlt (ksk_fr F2 s1 nS2.2.1 nS2.2.2) N3 hit3 hb⟩
      | some p =>
        obtain ⟨i, vb, tb⟩ := p
        show wpAny _ A.in1 (tryCatch (holding [v, .int (kf j) t2] (richCompare .Gt (.int (kf j) t2) (.int (kf i) tb) >>= _)) _ >>= _) _ _ _
        refine wpAny_bind (wpAny_tryCatch (wpAny_holding (wpAny_bind (CmpOf.ints_gt (prog := prog) (w := w) (A := A.in1) (P := fun i v => ∃ t, v = .int (kf i) t) kf (fun i v h => h) j i _ _ _ _ _ ⟨t2, rfl⟩ ⟨tb, rfl⟩ ?_))))
        refine wpAny_bind (wpAny_holding (wpAny_truthy_bool ?_))
        refine wpAny_bind (wpAny_letGo (wpAny_pure ?_))
        dsimp only at hb
        by_cases hb' : kf j > kf i
        · rw [if_pos hb'] at hb
          simp only [hb', decide_true, if_true]
          refine wpAny_bind ?_
          refine wpAny_updateSeq (hz := contA_small kf _) nS2.1 rfl (wpAny_bind (wpAny_letGo ?_))
          rw [hname]
          exact wpAny_pure ⟨plainId_quiet PySem.F.plain_max_loop _, ih (j + 1) (some (j, v, t2)) _ _ c2 oI' (by omega) hlt (ksk_fr F2 s1 nS2.2.1 nS2.2.2) N3 hit3 hb⟩
        · rw [if_neg hb'] at hb
          simp only [hb', decide_false, Bool.false_eq_true, if_false]
          refine wpAny_bind (wpAny_letGo ?_)
          rw [hname]
          exact wpAny_pure ⟨plainId_quiet PySem.F.plain_max_loop _, ih (j + 1) (some (i, vb, tb)) _ _ c oI' (by omega) hlt F2 N2 hit2 hb⟩
    cases ko with
    | none =>
      obtain ⟨t, rfl⟩ := turnN rfl j v hv
      show wpAny _ A.in1 ((pure (Value.int (kf j) t) : Sem Value) >>= _) _ _ _
      exact wpAny_bind (wpAny_pure (cont h' tk' t F1 N1))
    | some q =>
      show wpAny _ A.in1 (tryCatch (holding [v] (call (.ref q) [v])) _ >>= _) _ _ _
      refine wpAny_bind (wpAny_tryCatch (wpAny_holding (wpAny_mono (turnK q rfl j v hv h' tk' _ F1 N1) (fun x s'' he => ?_) fun _ _ hF => hF.elim)))
      obtain ⟨h2, tk2, t2, rfl, rfl, F2, N2⟩ := he
      exact cont h2 tk2 t2 F2 N2
/-- max(it, default=d, key=key) of a list's iterator at its start -/
theorem max_it {rest : List (Addr × Obj)} {oI : Obj} (kf : Nat → Int) (hh : A.handled = none) (F : Fr h₀ L s.heap m) (N : News h₀ L s.heap ((I, oI) :: rest)) (hI : IsLit oI l 0) (hrest : ∀ p ∈ rest, p.1 ≠ I) (hl : h₀.IsList l vs.toArray)
    (turnN : ko = none → ∀ (i : Nat) (v : Value), vs[i]? = some v → ∃ t, v = .int (kf i) t)
    (turnK : ∀ q, ko = some q → ∀ (i : Nat) (v : Value), vs[i]? = some v → ∀ (h : Heap) (tk : Nat) (own : List (Addr × Obj)), Fr h₀ L h m → News h₀ L h (rest ++ own) →
      wpAny (model prog w) A.in1 (call (.ref q) [v]) (KskEnd h₀ L m (rest ++ own) (kf i) { s with heap := h, toks := tk }) (fun _ _ => False) { s with heap := h, toks := tk })
    (hE : ∀ h' tk', vs = [] → Fr h₀ L h' m → News h₀ L h' rest → Q d { s with heap := h', toks := tk' })
    (hQ : ∀ i v h' tk', vs[i]? = some v → (∀ j, j < vs.length → kf i ≥ kf j ∧ (j < i → kf i > kf j)) → Fr h₀ L h' m → News h₀ L h' rest → Q v { s with heap := h', toks := tk' }) :
    wpAny (model prog w) A (call (.builtin "max") [.ref I] [(Str.ofString "default", d), (Str.ofString "key", keyV ko)]) Q E s := by
  have hname : (toString "max" ++ toString ".loop" : String) = "max.loop" := by decide
  have nI := N (I, oI) (.head _)
  have hIl : I < s.heap.objs.size := Heap.lt_size nI.1
  have hL : L < s.heap.objs.size := F.ns.lt
  have hlI : l ≠ I := by
    intro e; obtain ⟨o, e', _⟩ := hl; have := nI.2.2; rw [← e, e'] at this; cases this
  refine kmk_tree PySem.F.kind_max PySem.F.plain_max PySem.F.entry_max (max_kw _ .none _ _) ?_
  show wpAny _ A.in1 (Builtin.Builtins.bindParams "max" ["key", "default"] 0 ⟨[], [(Str.ofString "default", d), (Str.ofString "key", keyV ko)]⟩ >>= _) _ _ s
  refine wpAny_bind (wpAny_of_eq (show Builtin.Builtins.bindParams "max" ["key", "default"] 0 ⟨[], [(Str.ofString "default", d), (Str.ofString "key", keyV ko)]⟩ = pure [some (keyV ko), some d] from rfl) ?_)
  refine wpAny_bind (wpAny_pure ?_)
  refine wpAny_bind (wpAny_pyIter_listiter (i := 0) ⟨oI, nI.1, hI.1, hI.2⟩ ?_)
  refine wpAny_bind (wpAny_newList ?_ (Nat.zero_le _))
  rw [hname]
  refine wpAny_pure ⟨plainId_quiet PySem.F.plain_max_loop _, ?_⟩
  have fresh : h₀.get? s.heap.objs.size = none := next_is_new F
  refine max_loop kf hh hl hlI (Nat.ne_of_gt hIl) (fun p hp => Nat.ne_of_lt (Heap.lt_size (N p (.tail _ hp)).1)) hrest turnN turnK (fun h' tk' e F' N' => hE h' tk' e F' N') (fun i v h' tk' e1 e2 F' N' => hQ i v h' tk' e1 e2 F' N') _ 0 none _ _ 0 oI rfl (Nat.zero_le _) (F.push _) (fun p hp => ?_) ⟨oI, Heap.get?_push_of_some _ nI.1, hI.1, hI.2⟩ rfl
  rcases List.mem_append.mp hp with hp | hp
  · exact ⟨Heap.get?_push_of_some _ (N p (.tail _ hp)).1, (N p (.tail _ hp)).2⟩
  · rcases List.mem_cons.mp hp with rfl | hp
    · exact ⟨Heap.get?_push_size _ rfl, Nat.ne_of_gt hL, fresh⟩
    · rw [List.mem_singleton.mp hp]
      exact ⟨Heap.get?_push_of_some _ nI.1, nI.2⟩
end
end Mine

-- W0
namespace Mine
theorem walks_shift {prog : Program} {w : World} {A : Around} {I : Addr} {fp wr : List Addr} {n : Nat} {P : Nat → Value → Prop} {St : Nat → Heap → Prop} (W : Walks prog w A I fp wr n P St) (k : Nat) (hk : k ≤ n) :
    Walks prog w A I fp wr (n - k) (fun i v => P (k + i) v) (fun i h => St (k + i) h) where
  sub := W.sub
  frame := fun i h h' st hb => W.frame (k + i) h h' st hb
  item := fun i s Q E hi st hQ => W.item (k + i) s Q E (by omega) st hQ
  done := fun s Q E st hQ => W.done s Q E (by rwa [show k + (n - k) = n by omega] at st) hQ
  self := fun i s Q E st hQ => W.self (k + i) s Q E st hQ
section
variable {prog : Program} {w : World} {A : Around} {E : Value → Shared → Prop} {s : Shared} {env : Env} {h₀ : Heap} {x : Str} {body : List Stmt} {Q : Flow → Shared → Prop}
/-- a for over the rest of a list's iterator -/
theorem iter_lit_g {I sl : Addr} {oI : Obj} {k : Nat} {svs : List Value} {m₀ : Str → Option Value} {news : List (Addr × Obj)} (J : Nat → (Str → Option Value) → List (Addr × Obj) → Prop)
    (hh : A.handled = none) (hI : IsLit oI sl k) (hk : k ≤ svs.length) (hsl : h₀.IsList sl svs.toArray) (hnI : ∀ p ∈ news, p.1 ≠ I)
    (F : Fr h₀ env.locals s.heap m₀) (N : News h₀ env.locals s.heap ((I, oI) :: news)) (hj : J 0 m₀ news)
    (turn : ∀ i m₁ news₁ h tk o, i < svs.length - k → J i m₁ news₁ → (∀ p ∈ news₁, p.1 ≠ I) → Fr h₀ env.locals h (fun y => if y = x then some (svs.getD (k + i) .none) else m₁ y) → News h₀ env.locals h ((I, o) :: news₁) →
      wpAny (model prog w) A (execs body env) (TurnPost h₀ env.locals I o (J (i + 1)) { s with heap := h, toks := tk } Q) E { s with heap := h, toks := tk })
    (done : ∀ m₁ news₁ h tk, J (svs.length - k) m₁ news₁ → Fr h₀ env.locals h m₁ → News h₀ env.locals h news₁ → Q .next { s with heap := h, toks := tk }) :
    wpAny (model prog w) A (pyIter (.ref I)) (fun it s₂ => LoopAtV prog w A h₀ env x body Q E it s₂) E s := by
  have nI := N (I, oI) (.head _)
  have hslI : sl ≠ I := by
    intro e; obtain ⟨o, e', _⟩ := hsl; have := nI.2.2; rw [← e, e'] at this; cases this
  have W := walks_shift (Walks.list (prog := prog) (w := w) hh I sl hslI svs.toArray) k (by simpa using hk)
  have hsz : svs.toArray.size - k = svs.length - k := by simp
  rw [hsz] at W
  have hl := hsl.at fun o e => F.keep _ o e
  have h0 : s.heap.IsListIter I sl (k + 0) ∧ s.heap.IsList sl svs.toArray := ⟨⟨oI, nI.1, hI.1, hI.2⟩, hl⟩
  refine wpAny_pyIter_listiter h0.1 ?_
  refine loop_one J W (fun b hb hne => ?_) (fun hm => ?_) nI.2.2 (fun i h hs => ?_) hnI h0 F (fun p hp => N p (.tail _ hp)) hj ?_ (fun m₁ news₁ h tk hJ _ F₁ N₁ => done m₁ news₁ h tk hJ F₁ N₁)
  · rcases List.mem_cons.mp hb with e | hb
    · exact absurd e hne
    · rw [List.mem_singleton.mp hb]
      obtain ⟨o, e, _⟩ := hsl
      exact ⟨o, e⟩
  · rcases List.mem_cons.mp hm with e | hm
    · exact nI.2.1 e.symm
    · obtain ⟨o, e, _⟩ := hsl
      have := fr_old_none F
      rw [List.mem_singleton.mp hm, e] at this
      cases this
  · obtain ⟨o, e, _⟩ := hs.1
    exact ⟨o, e⟩
  · rintro i v m₁ news₁ h tk o hi hP hJ hoff F₁ N₁
    have hv : v = svs.getD (k + i) .none := by
      have : k + i < svs.length := by omega
      simp only [List.getElem?_toArray] at hP
      simp [List.getD_eq_getElem?_getD, hP]
    subst hv
    exact turn i m₁ news₁ h tk o hi hJ hoff F₁ N₁
/-- a tuple is unpacked into names of the frame -/
theorem unpackN2 {m : Str → Option Value} {news : List (Addr × Obj)} {xa xb : Str} {pa pb tp : Pos} {x1 : Nat} {t : Addr} {va vb : Value} {Q : Unit → Shared → Prop} (hh : A.handled = none) (F : Fr h₀ env.locals s.heap m) (N : News h₀ env.locals s.heap news) (ht : IsTup s.heap t #[va, vb])
    (ha : env.kindOf xa = some .local) (hb : env.kindOf xb = some .local) (hp : (env.scope.kind == .class || (env.scope.kind == .module && env.locals != env.globals)) = false)
    (h : ∀ h' tk, Fr h₀ env.locals h' (fun y => if y = xb then some vb else if y = xa then some va else m y) → News h₀ env.locals h' news → Q () { s with heap := h', toks := tk }) :
    wpAny (model prog w) A (assign (.Tuple [.Name xa pa, .Name xb pb] x1 tp) env (.ref t)) Q E s := by
  refine assign_Tuple_tuple hh ht rfl rfl fun h5 he5 => ?_
  have k5 : ∀ q o, s.heap.get? q = some o → h5.get? q = some o := fun q o e => he5 q o (Nat.ne_of_lt (Heap.lt_size e)) e
  have F5 := F.keeps k5
  have N5 := N.grown k5
  refine assignInOrder_cons (wpAny_assign_Name (wpAny_storeName_local ha F5.ns (fun h₆ hn₆ hs₆ => ?_) hp))
  have F6 := F5.set hn₆ hs₆
  have N6 := N5.set hs₆
  refine assignInOrder_cons (wpAny_assign_Name (wpAny_storeName_local hb F6.ns (fun h₇ hn₇ hs₇ => ?_) hp))
  refine assignInOrder_nil ?_
  exact h h₇ _ (F6.set hn₇ hs₇) (N6.set hs₇)
theorem unpackN3 {m : Str → Option Value} {news : List (Addr × Obj)} {xa xb xc : Str} {pa pb pc tp : Pos} {x1 : Nat} {t : Addr} {va vb vc : Value} {Q : Unit → Shared → Prop} (hh : A.handled = none) (F : Fr h₀ env.locals s.heap m) (N : News h₀ env.locals s.heap news) (ht : IsTup s.heap t #[va, vb, vc])
    (ha : env.kindOf xa = some .local) (hb : env.kindOf xb = some .local) (hc : env.kindOf xc = some .local) (hp : (env.scope.kind == .class || (env.scope.kind == .module && env.locals != env.globals)) = false)
    (h : ∀ h' tk, Fr h₀ env.locals h' (fun y => if y = xc then some vc else if y = xb then some vb else if y = xa then some va else m y) → News h₀ env.locals h' news → Q () { s with heap := h', toks := tk }) :
    wpAny (model prog w) A (assign (.Tuple [.Name xa pa, .Name xb pb, .Name xc pc] x1 tp) env (.ref t)) Q E s := by
  refine assign_Tuple_tuple hh ht rfl rfl fun h5 he5 => ?_
  have k5 : ∀ q o, s.heap.get? q = some o → h5.get? q = some o := fun q o e => he5 q o (Nat.ne_of_lt (Heap.lt_size e)) e
  have F5 := F.keeps k5
  have N5 := N.grown k5
  refine assignInOrder_cons (wpAny_assign_Name (wpAny_storeName_local ha F5.ns (fun h₆ hn₆ hs₆ => ?_) hp))
  have F6 := F5.set hn₆ hs₆
  have N6 := N5.set hs₆
  refine assignInOrder_cons (wpAny_assign_Name (wpAny_storeName_local hb F6.ns (fun h₇ hn₇ hs₇ => ?_) hp))
  have F7 := F6.set hn₇ hs₇
  have N7 := N6.set hs₇
  refine assignInOrder_cons (wpAny_assign_Name (wpAny_storeName_local hc F7.ns (fun h₈ hn₈ hs₈ => ?_) hp))
  refine assignInOrder_nil ?_
  exact h h₈ _ (F7.set hn₈ hs₈) (N7.set hs₈)
end
theorem rsz_up (n : Nat) : Builtin.Range.rangeSize 0 (n : Int) 1 = ((n : Nat) : Int) := by
  unfold Builtin.Range.rangeSize
  simp only [gt_iff_lt, Int.zero_lt_one, if_true]
  split <;> omega
theorem rsz_down (n : Nat) : Builtin.Range.rangeSize 0 (-(n : Int)) (-1) = ((n : Nat) : Int) := by
  unfold Builtin.Range.rangeSize
  have h1 : ¬ ((-1 : Int) > 0) := by omega
  rw [if_neg h1, show -(-1 : Int) = 1 from rfl, Int.ediv_one]
  split <;> omega
theorem rsm_up {n : Nat} (h : n < 100) : Builtin.Range.small 0 (n : Int) 1 = true := by
  unfold Builtin.Range.small Builtin.Range.rangeFitsLong
  rw [rsz_up]
  simp only [gt_iff_lt, Int.zero_lt_one, if_true]
  have e1 : (1 : Int) - 1 = 0 := by omega
  simp only [e1, Bool.and_eq_true, Bool.or_eq_true, decide_eq_true_eq]
  omega
theorem rsm_down {n : Nat} (h : n < 100) : Builtin.Range.small 0 (-(n : Int)) (-1) = true := by
  unfold Builtin.Range.small Builtin.Range.rangeFitsLong
  rw [rsz_down]
  have h1 : ¬ ((-1 : Int) > 0) := by omega
  rw [if_neg h1]
  simp only [Bool.and_eq_true, Bool.or_eq_true, decide_eq_true_eq]
  omega
/-- the first of the stable sort -/
theorem stab_head {b : Bool} {g : Int → Int} {ns ms : List Int} {i : Nat} (hi : i < ns.length) (hb : ∀ j, j < ns.length → kap b g ns i ≤ kap b g ns j ∧ (j < i → kap b g ns i < kap b g ns j)) (hst : Stab (fun x => sgn b (g x)) ns ms) : [ns.getD i 0] = ms.take 1 := by
  have I : HInv b g ns [(i, 0)] ns.length 1 1 := {
    len := rfl
    nd := by simp
    lt := by intro p hp; rw [List.mem_singleton.mp hp]; exact hi
    mono := by
      intro p hp q hq h
      rw [List.mem_singleton.mp hp, List.mem_singleton.mp hq] at h
      exact absurd h (Nat.lt_irrefl _)
    bd := by intro p hp; rw [List.mem_singleton.mp hp]; show (0 : Int) < 1; decide
    sel := by
      intro j hj hn p hp
      rw [List.mem_singleton.mp hp]
      have hne : j ≠ i := by simpa using hn
      have := hb j hj
      dsimp only
      omega }
  exact I.fin (by simp) hst
section
variable {prog : Program} {w : World} {A : Around} {E : Value → Shared → Prop} {s : Shared} {h₀ : Heap} {L : Addr} {news : List (Addr × Obj)}
theorem item0_T {D : Addr} {vs : List Value} {c : Nat} {ds : List (List Int)} {tail : List (Addr × Obj)} {t : Tok} {value slice : PySem.Expr} {Q : Value → Shared → Prop} (N : News h₀ L s.heap news) (hm : (D, PySem.W.listOf vs.toArray c) ∈ news) (hal : Al tail vs ds) (hsub : ∀ p ∈ tail, p ∈ news) (h0 : 0 < ds.length)
    (h : ∀ a ws, IsTup s.heap a (List.toArray ws) → IntsAre ws (ds.getD 0 []) → Q (.ref a) s)
    (hs : subscripted slice false (.ref D) (.int 0 t) = operate [.ref D, .int 0 t] (getItem (.ref D) (.int 0 t)) := by with_unfolding_all rfl) :
    wpAny (model prog w) A (subscriptTail value slice (.ref D) (.int 0 t)) Q E s := by
  have hl := hal.length
  obtain ⟨a, o, e, hmo, hc, ws, n, hd, hi⟩ := hal.get 0 h0
  refine item_g N hm (by decide) (by omega) (by decide) ?_ hs
  have e' : vs.getD (0 : Int).toNat Value.none = .ref a := e
  rw [e']
  exact h a ws ⟨o, (N _ (hsub _ hmo)).1, hc, n, hd⟩ hi
theorem itemT_0 {a : Addr} {ws : List Value} {ks : List Int} {t : Tok} {value slice : PySem.Expr} {Q : Value → Shared → Prop} (ht : IsTup s.heap a (List.toArray ws)) (hi : IntsAre ws ks) (h0 : 0 < ks.length) (h : ∀ u, Q (.int (ks.getD 0 0) u) s)
    (hs : subscripted slice false (.ref a) (.int 0 t) = operate [.ref a, .int 0 t] (getItem (.ref a) (.int 0 t)) := by with_unfolding_all rfl) :
    wpAny (model prog w) A (subscriptTail value slice (.ref a) (.int 0 t)) Q E s := by
  cases hi with
  | nil => exact absurd h0 (Nat.lt_irrefl _)
  | cons k u _ =>
    refine item_tupleT (j := 0) (x := .int k u) ht (by decide) (by decide) ?_ rfl (h u) hs
    rw [List.length_cons]
    show PySem.seqIndex? 0 _ = some 0
    unfold PySem.seqIndex?
    simp
end
end Mine

-- D1
namespace Mine
noncomputable def nsParts : List Stmt × Scope := match PySem.Challenge.pw_wy0007_01.main.body.getD 12 nopS with
  | .FunctionDef _ _ b _ _ _ sc _ _ _ => (b, sc)
  | _ => ([], { kind := .function, names := [], isGenerator := false, isCoroutine := false, more := [] })
noncomputable abbrev nsEnv (L : Addr) : Env := envOfC (Str.ofString "nsmallest") nsParts.2 L 97 (.ref 96)
noncomputable def nsN : List Stmt := stmtsThen (nsParts.1.getD 2 nopS)
noncomputable def nsK : List Stmt := nsParts.1.drop 3
noncomputable def nsB0 : Stmt := nsParts.1.getD 0 nopS
noncomputable def nsB1 : Stmt := nsParts.1.getD 1 nopS
noncomputable def nsB2 : Stmt := nsParts.1.getD 2 nopS
theorem nsB_eq : nsParts.1 = nsB0 :: nsB1 :: nsB2 :: nsK := rfl
noncomputable def nsN0 : Stmt := nsN.getD 0 nopS
noncomputable def nsN1 : Stmt := nsN.getD 1 nopS
noncomputable def nsN2 : Stmt := nsN.getD 2 nopS
noncomputable def nsN3 : Stmt := nsN.getD 3 nopS
noncomputable def nsN4 : Stmt := nsN.getD 4 nopS
noncomputable def nsN5 : Stmt := nsN.getD 5 nopS
noncomputable def nsN6 : Stmt := nsN.getD 6 nopS
noncomputable def nsN7 : Stmt := nsN.getD 7 nopS
noncomputable def nsN8 : Stmt := nsN.getD 8 nopS
noncomputable def nsN9 : Stmt := nsN.getD 9 nopS
theorem nsN_eq : nsN = [nsN0, nsN1, nsN2, nsN3, nsN4, nsN5, nsN6, nsN7, nsN8, nsN9] := rfl
noncomputable def nsK0 : Stmt := nsK.getD 0 nopS
noncomputable def nsK1 : Stmt := nsK.getD 1 nopS
noncomputable def nsK2 : Stmt := nsK.getD 2 nopS
noncomputable def nsK3 : Stmt := nsK.getD 3 nopS
noncomputable def nsK4 : Stmt := nsK.getD 4 nopS
noncomputable def nsK5 : Stmt := nsK.getD 5 nopS
noncomputable def nsK6 : Stmt := nsK.getD 6 nopS
noncomputable def nsK7 : Stmt := nsK.getD 7 nopS
noncomputable def nsK8 : Stmt := nsK.getD 8 nopS
noncomputable def nsK9 : Stmt := nsK.getD 9 nopS
theorem nsK_eq : nsK = [nsK0, nsK1, nsK2, nsK3, nsK4, nsK5, nsK6, nsK7, nsK8, nsK9] := rfl
noncomputable def nlParts : List Stmt × Scope := match PySem.Challenge.pw_wy0007_01.main.body.getD 13 nopS with
  | .FunctionDef _ _ b _ _ _ sc _ _ _ => (b, sc)
  | _ => ([], { kind := .function, names := [], isGenerator := false, isCoroutine := false, more := [] })
noncomputable abbrev nlEnv (L : Addr) : Env := envOfC (Str.ofString "nlargest") nlParts.2 L 103 (.ref 102)
noncomputable def nlN : List Stmt := stmtsThen (nlParts.1.getD 2 nopS)
noncomputable def nlK : List Stmt := nlParts.1.drop 3
noncomputable def nlB0 : Stmt := nlParts.1.getD 0 nopS
noncomputable def nlB1 : Stmt := nlParts.1.getD 1 nopS
noncomputable def nlB2 : Stmt := nlParts.1.getD 2 nopS
theorem nlB_eq : nlParts.1 = nlB0 :: nlB1 :: nlB2 :: nlK := rfl
noncomputable def nlN0 : Stmt := nlN.getD 0 nopS
noncomputable def nlN1 : Stmt := nlN.getD 1 nopS
noncomputable def nlN2 : Stmt := nlN.getD 2 nopS
noncomputable def nlN3 : Stmt := nlN.getD 3 nopS
noncomputable def nlN4 : Stmt := nlN.getD 4 nopS
noncomputable def nlN5 : Stmt := nlN.getD 5 nopS
noncomputable def nlN6 : Stmt := nlN.getD 6 nopS
noncomputable def nlN7 : Stmt := nlN.getD 7 nopS
noncomputable def nlN8 : Stmt := nlN.getD 8 nopS
noncomputable def nlN9 : Stmt := nlN.getD 9 nopS
theorem nlN_eq : nlN = [nlN0, nlN1, nlN2, nlN3, nlN4, nlN5, nlN6, nlN7, nlN8, nlN9] := rfl
noncomputable def nlK0 : Stmt := nlK.getD 0 nopS
noncomputable def nlK1 : Stmt := nlK.getD 1 nopS
noncomputable def nlK2 : Stmt := nlK.getD 2 nopS
noncomputable def nlK3 : Stmt := nlK.getD 3 nopS
noncomputable def nlK4 : Stmt := nlK.getD 4 nopS
noncomputable def nlK5 : Stmt := nlK.getD 5 nopS
noncomputable def nlK6 : Stmt := nlK.getD 6 nopS
noncomputable def nlK7 : Stmt := nlK.getD 7 nopS
noncomputable def nlK8 : Stmt := nlK.getD 8 nopS
noncomputable def nlK9 : Stmt := nlK.getD 9 nopS
theorem nlK_eq : nlK = [nlK0, nlK1, nlK2, nlK3, nlK4, nlK5, nlK6, nlK7, nlK8, nlK9] := rfl
end Mine

-- L2
namespace Mine
noncomputable abbrev Fm (b : Bool) (g : Int → Int) (ns : List Int) (tl : Nat → List Int) (q : Nat × Int) : List Int := fD b g ns tl q.1 q.2
theorem topOf_of {b : Bool} {g : Int → Int} {ns : List Int} {tl : Nat → List Int} {k : Nat} {q0 : Nat × Int} {T : List (Nat × Int)} (hk : ∀ j, (tl j).length = k) (hf : HFd b ((q0 :: T).map (Fm b g ns tl))) : TopOf b g ns (q0 :: T) q0 := by
  intro q hq
  obtain ⟨j, hj, e⟩ := List.getElem_of_mem hq
  have hN : ∀ ks ∈ (q0 :: T).map (Fm b g ns tl), ks.length = k + 2 := by
    intro ks hks
    obtain ⟨r, _, rfl⟩ := List.mem_map.mp hks
    simp [Fm, fD, hk]
  have := root_d hN hf j (by simpa using hj)
  have e1 : ((q0 :: T).map (Fm b g ns tl)).getD j [] = Fm b g ns tl q := by
    simp only [List.getD_eq_getElem?_getD, List.getElem?_map, List.getElem?_eq_getElem hj, e]
    rfl
  rw [e1] at this
  exact ltD_f b g ns tl this
/-- the loop's invariant: the heap D holds the first n of the items looked at -/
noncomputable def HJ (b : Bool) (g : Int → Int) (ns : List Int) (tl : Nat → List Int) (D hr : Addr) (n : Nat) (pre led : List (Addr × Obj)) (i : Nat) (m : Str → Option Value) (nx : List (Addr × Obj)) : Prop :=
  ∃ (vs : List Value) (c : Nat) (q0 : Nat × Int) (T : List (Nat × Int)) (ord : Int) (tt to : Tok) (tail : List (Addr × Obj)) (u : Str → Option Value),
    m = (fun y => if y = Str.ofString "result" then some (.ref D) else if y = Str.ofString "top" then some (.int (g (ns.getD q0.1 0)) tt) else if y = Str.ofString "order" then some (.int (sgn b ord) to) else if y = Str.ofString "_heapreplace" then some (.ref hr) else u y) ∧
    nx = (D, PySem.W.listOf vs.toArray c) :: (pre ++ tail) ∧ (∀ p ∈ pre ++ tail, p.1 ≠ D) ∧ (∀ p ∈ led, p ∈ tail) ∧ Al tail vs ((q0 :: T).map (Fm b g ns tl)) ∧ HFd b ((q0 :: T).map (Fm b g ns tl)) ∧ HInv b g ns (q0 :: T) (n + i) ord n
theorem fr3b {h₀ h : Heap} {L : Addr} {m : Str → Option Value} {x y z : Str} {a b c : Value} (F : Fr h₀ L h m) (h1 : m x = some a) (h2 : m y = some b) (h3 : m z = some c) : Fr h₀ L h (fun v => if v = x then some a else if v = y then some b else if v = z then some c else m v) := by
  have e : m = (fun v => if v = x then some a else if v = y then some b else if v = z then some c else m v) := by
    funext v
    split
    · next e => rw [e, h1]
    · split
      · next e => rw [e, h2]
      · split
        · next e => rw [e, h3]
        · rfl
  rw [← e]
  exact F
theorem tup_head {h₀ h : Heap} {L T : Addr} {o : Obj} {rest : List (Addr × Obj)} {ks : List Int} (N : News h₀ L h ((T, o) :: rest)) (hk : MkTup o ks) : ∃ o', MkTup o' ks ∧ News h₀ L h ((T, o') :: rest) := ⟨o, hk, N⟩
theorem fr4 {h₀ h : Heap} {L : Addr} {m : Str → Option Value} {x y z v : Str} {a b c d : Value} (F : Fr h₀ L h m) (h1 : m x = some a) (h2 : m y = some b) (h3 : m z = some c) (h4 : m v = some d) :
    Fr h₀ L h (fun t => if t = x then some a else if t = y then some b else if t = z then some c else if t = v then some d else m t) := by
  have e : m = (fun t => if t = x then some a else if t = y then some b else if t = z then some c else if t = v then some d else m t) := by
    funext t
    by_cases e1 : t = x
    · rw [if_pos e1, e1, h1]
    · rw [if_neg e1]
      by_cases e2 : t = y
      · rw [if_pos e2, e2, h2]
      · rw [if_neg e2]
        by_cases e3 : t = z
        · rw [if_pos e3, e3, h3]
        · rw [if_neg e3]
          by_cases e4 : t = v
          · rw [if_pos e4, e4, h4]
          · rw [if_neg e4]
  rw [← e]
  exact F
section
variable {M : Model} {A : Around} {E : Value → Shared → Prop} {s : Shared} {env : Env}
/-- a method called with keywords alone -/
theorem callWith_mkw {pos : Pos} {id : String} {first : List Value} {kws : List Keyword} {Q : Value → Shared → Prop}
    (h : wpAny M A (evalAll ((backToKw pos (keywordEach kws env)).map (·.2))) (fun kvs s₂ => wpAny M A (call (.builtin id) first (((backToKw pos (keywordEach kws env)).filterMap (·.1)).zip kvs)) Q E s₂) E s)
    (hall : (backToKw pos (keywordEach kws env)).all (·.1.isSome) = true := by rfl)
    (hkw : (backToKw pos (keywordEach kws env)).any (·.1.isNone) = false := by rfl) :
    wpAny M A (callWith pos (.builtin id) first (backTo pos (starEach [] env)) (backToKw pos (keywordEach kws env))) Q E s := by
  refine callWith_builtin_kwB rfl hkw ?_
  unfold evalArgs
  show wpAny M A (spliced [] >>= _) _ E s
  refine wpAny_bind (wpAny_pure ?_)
  refine wpAny_bind (wpAny_pure ?_)
  dsimp only
  refine wpAny_holding ?_
  rw [if_pos hall]
  refine wpAny_bind (wpAny_mono h (fun kvs s₂ h₂ => ?_) fun _ _ x => x)
  refine wpAny_bind (wpAny_pure (wpAny_pure ?_))
  simpa using h₂
end
end Mine

-- L3
namespace Mine
theorem fr2b {h₀ h : Heap} {L : Addr} {m : Str → Option Value} {x y : Str} {a b : Value} (F : Fr h₀ L h m) (h1 : m x = some a) (h2 : m y = some b) : Fr h₀ L h (fun v => if v = x then some a else if v = y then some b else m v) := by
  have e : m = (fun v => if v = x then some a else if v = y then some b else m v) := by
    funext v
    split
    · next e => rw [e, h1]
    · split
      · next e => rw [e, h2]
      · rfl
  rw [← e]
  exact F
/-- back in the caller's frame, with one new object -/
theorem leave_D {h₀ h h' : Heap} {L L1 D : Addr} {m m1 : Str → Option Value} {oL o : Obj} {rest led : List (Addr × Obj)} (F : Fr h₀ L h m) (N : News h₀ L h rest) (hoL : h.get? L = some oL) (F1 : Fr h₀ L1 h' m1) (N1 : News h₀ L1 h' ((D, o) :: led))
    (hL : (L, oL) ∈ led) (hr : ∀ p ∈ rest, p ∈ led) (hb : ∀ q ∈ led, @LT.lt Nat _ q.1 D) : Fr h₀ L h' m ∧ News h₀ L h' ((D, o) :: rest) ∧ ∀ q ∈ rest, @LT.lt Nat _ q.1 D := by
  obtain ⟨a, b⟩ := leave_fr F hoL F1 (news := (D, o) :: rest) (fun q hq => N1 q (by
    rcases List.mem_cons.mp hq with rfl | hq
    · exact .tail _ hL
    · rcases List.mem_cons.mp hq with rfl | hq
      · exact .head _
      · exact .tail _ (hr q hq))) (by
    intro q hq
    rcases List.mem_cons.mp hq with rfl | hq
    · exact Nat.ne_of_gt (hb _ hL)
    · exact (N q hq).2.1)
  exact ⟨a, b, fun q hq => hb q (hr q hq)⟩
end Mine

-- L4
namespace Mine
section
variable {prog : Program} {w : World} {A : Around} {E : Value → Shared → Prop} {s : Shared} {env : Env} {h₀ : Heap} {x : Str} {body : List Stmt} {Q : Flow → Shared → Prop}
/-- a for over a list of the ledger -/
theorem iter_made_g {ax : Addr} {vs : List Value} {c : Nat} {m₀ : Str → Option Value} {news : List (Addr × Obj)} (J : Nat → (Str → Option Value) → List (Addr × Obj) → Prop)
    (hh : A.handled = none) (hJ : ∀ i m nx, J i m nx → (ax, PySem.W.listOf vs.toArray c) ∈ nx) (F : Fr h₀ env.locals s.heap m₀) (N : News h₀ env.locals s.heap news) (hj : J 0 m₀ news)
    (turn : ∀ i m₁ news₁ h tk I o, i < vs.length → J i m₁ news₁ → (∀ p ∈ news₁, p.1 ≠ I) → (∀ p ∈ news, @LT.lt Nat _ p.1 I) → Fr h₀ env.locals h (fun y => if y = x then some (vs.getD i .none) else m₁ y) → News h₀ env.locals h ((I, o) :: news₁) →
      wpAny (model prog w) A (execs body env) (TurnPost h₀ env.locals I o (J (i + 1)) { s with heap := h, toks := tk } Q) E { s with heap := h, toks := tk })
    (done : ∀ m₁ news₁ h tk, J vs.length m₁ news₁ → Fr h₀ env.locals h m₁ → News h₀ env.locals h news₁ → Q .next { s with heap := h, toks := tk }) :
    wpAny (model prog w) A (pyIter (.ref ax)) (fun it s₂ => LoopAtV prog w A h₀ env x body Q E it s₂) E s := by
  have hm := hJ _ _ _ hj
  have hax := N _ hm
  have hl : s.heap.IsList ax vs.toArray := PySem.IsL.isList (n := c) hax.1
  refine wpAny_pyIter_list hl ?_
  have hlt : ∀ p ∈ news, @LT.lt Nat _ p.1 s.heap.objs.size := fun p hp => Heap.lt_size (N p hp).1
  have hLlt : @LT.lt Nat _ env.locals s.heap.objs.size := F.ns.lt
  have hI0 : h₀.get? s.heap.objs.size = none := next_is_new F
  generalize hI : s.heap.objs.size = I at *
  have up : ∀ b o, s.heap.get? b = some o → (s.heap.push { cls := .type "list_iterator", data := .fields #[.ref ax, .int 0 0] }).get? b = some o := fun b o e => Heap.get?_push_of_some _ e
  have haxI : ax ≠ I := Nat.ne_of_lt (hlt _ hm)
  have W := Walks.list (prog := prog) (w := w) hh I ax haxI vs.toArray
  have hsz : vs.toArray.size = vs.length := List.size_toArray ..
  rw [hsz] at W
  refine ⟨I, [I, ax], [I], vs.length, _, _, m₀, news, J, rfl, W, ?_, ?_, ?_, ?_, F.keeps up, N.grown up, hj, ?_, ?_⟩
  · intro hm'
    rcases List.mem_cons.mp hm' with e | hm'
    · exact absurd e (Nat.ne_of_lt hLlt)
    · exact hax.2.1 (List.mem_singleton.mp hm').symm
  · intro b hb; rw [List.mem_singleton.mp hb]; exact hI0
  · intro p hp hb; exact absurd (List.mem_singleton.mp hb) (Nat.ne_of_lt (hlt p hp))
  · exact ⟨⟨_, hI ▸ Heap.get?_push_size _ rfl, rfl, rfl⟩, hl.push _⟩
  · rintro i v m₁ news₁ s₁ own ⟨hh', tk', rfl⟩ hin hP hJ1 hoff hown hget hin2 hst₁ F₁ N₁
    obtain ⟨o, ho, _⟩ := hst₁.1
    have hmI : (I, o) ∈ own := hin2 I (.head _) hI0 o ho
    have hoff' : ∀ p ∈ news₁, p.1 ≠ I := fun p hp e => hoff p hp (List.mem_singleton.mpr e)
    have hv : v = vs.getD i .none := by
      simp only [List.getElem?_toArray] at hP
      simp [List.getD_eq_getElem?_getD, hP]
    subst hv
    refine wpAny_mono (turn i m₁ news₁ hh' tk' I o hin hJ1 hoff' hlt F₁ (fun p hp => ?_)) (fun f s₂ p => ?_) fun _ _ e => e
    · rcases List.mem_cons.mp hp with rfl | hp
      · exact N₁ _ (List.mem_append_left _ hmI)
      · exact N₁ _ (List.mem_append_right _ hp)
    have hax1 := N₁ _ (List.mem_append_right own (hJ _ _ _ hJ1))
    have fin : TurnEnd h₀ env.locals I o (J (i + 1)) { s with heap := hh', toks := tk' } s₂ → LoopStepU h₀ env.locals [I] own (J (i + 1)) { s with heap := hh', toks := tk' } .next s₂ := by
      rintro ⟨h', tk, m', nx, e, F', N', hn, hj'⟩
      refine ⟨rfl, h', tk, m', nx, e, F', fun p hp => ?_, fun p hp hq => hn p hp (List.mem_singleton.mp hq), hj'⟩
      rcases List.mem_append.mp hp with hp | hp
      · have hpg := hget p hp
        rcases List.mem_cons.mp (hown p hp) with e1 | e1
        · have : p = (I, o) := by
            rw [e1] at hpg
            have ho' : (({ s with heap := hh', toks := tk' } : Shared).heap).get? I = some o := ho
            rw [ho'] at hpg
            obtain ⟨p1, p2⟩ := p
            cases hpg; cases e1; rfl
          rw [this]; exact N' _ (.head _)
        · have e1 := List.mem_singleton.mp e1
          have : p = (ax, PySem.W.listOf vs.toArray c) := by
            rw [e1] at hpg
            have ho' : (({ s with heap := hh', toks := tk' } : Shared).heap).get? ax = some (PySem.W.listOf vs.toArray c) := hax1.1
            rw [ho'] at hpg
            obtain ⟨p1, p2⟩ := p
            cases hpg; cases e1; rfl
          rw [this]; exact N' _ (.tail _ (hJ _ _ _ hj'))
      · exact N' _ (.tail _ hp)
    cases f with
    | ret v => exact .ret p
    | brk => exact .brk p
    | next => exact .next (fin p)
    | cont => exact .cont (fin p)
  · rintro h' tk m' news' F' N' hoff hJ2
    exact done m' news' h' tk hJ2 F' N'
end
end Mine

-- K1
namespace Mine
/-- the function q gives g of an int, from any frame whose ledger holds base -/
noncomputable def KeyOk (w : World) (h₀ : Heap) (q : Addr) (base : List (Addr × Obj)) (g : Int → Int) : Prop :=
  ∀ (A : Around) (E Q : Value → Shared → Prop) (s : Shared) (L : Addr) (m : Str → Option Value) (led : List (Addr × Obj)) (x : Int) (t : Tok), A.handled = none → A.depth < 900 → A.units < 9000 → Fr h₀ L s.heap m → News h₀ L s.heap led → (∀ p ∈ base, p ∈ led) →
    (∀ h' tk t', Fr h₀ L h' m → News h₀ L h' led → Q (.int (g x) t') { s with heap := h', toks := tk }) → wpAny (model PG w) A (call (.ref q) [.int x t]) Q E s
end Mine

-- O1
namespace Mine
theorem mro_object : mroOf (.type "object") = pure [.type "object"] := by rw [mroOf_type]; kernel_rfl
theorem lookup_object_new : typeLookup (.type "object") "__new__" = pure (some (.builtin "object.__new__")) := by rw [typeLookup_type, builtinLookup_eq_fast]; kernel_rfl
theorem made_object : Bind.madeBy (.type "object") = pure (some "object.__new__") := madeBy_type mro_object lookup_object_new (by decide +kernel)
theorem called_object : TypeCalled "object" "object.__new__" "object.__init__" :=
  ⟨by decide +kernel, by decide +kernel, ⟨_, _, mro_object⟩, made_object, by decide +kernel, by rw [isSubtype_type]; kernel_rfl, PySem.F.slot_object_init⟩
theorem typeCall_object_0 : checkTypeCall "object" ⟨[], []⟩ = pure () := by kernel_rfl
theorem newCall_object_0 : checkBuiltinCall "object.__new__" ⟨[.type "object"], []⟩ = pure () := by kernel_rfl
theorem args_object_init_1 (a : Value) : argsOk "object.__init__" ⟨[a], []⟩ := by unfold argsOk; kernel_rfl
theorem object_new_tree : Builtin.«object.__new__» ⟨[.type "object"], []⟩ = (newObj (.type "object") .plain none >>= fun v => ret v) := by
  first | kernel_rfl | (unfold Builtin.«object.__new__»; rfl)
theorem object_new_meets : Meets (Builtin.«object.__new__» ⟨[.type "object"], []⟩) (fun _ R s => R (.ok (.ret (.ref s.heap.objs.size))) { s with heap := s.heap.push { cls := .type "object", data := .plain } }) :=
  .of_wp fun prog w A R s h => by
    rw [object_new_tree]
    refine wpAny_bind (wpAny_newObj_type ?_ (by size_fits))
    exact wpAny_pure ⟨_, rfl, h⟩
section
variable {prog : Program} {w : World} {A : Around} {E : Value → Shared → Prop} {s : Shared}
theorem call_object {Q : Value → Shared → Prop} (h : Q (.ref s.heap.objs.size) { s with heap := s.heap.push { cls := .type "object", data := .plain } }) : wpAny (model prog w) A (call (.type "object")) Q E s := by
  refine callType_meets called_object typeCall_object_0 newCall_object_0 PySem.F.entry_object_new PySem.F.entry_object_init object_new_meets (Q₁ := fun obj s₁ => obj = .ref s.heap.objs.size ∧ s₁ = { s with heap := s.heap.push { cls := .type "object", data := .plain } }) ⟨rfl, rfl⟩ ?_
  rintro obj s₁ ⟨rfl, rfl⟩
  refine ⟨⟨_, Heap.get?_push_size _ rfl, rfl⟩, args_object_init_1 _, _, Meets.of_wp (S := fun _ R s => R (.ok (.ret .none)) s) (fun prog w A R s hs => wpAny_pure ⟨_, rfl, hs⟩), rfl, h⟩
theorem object_g {h₀ : Heap} {L : Addr} {m : Str → Option Value} {news : List (Addr × Obj)} {Q : Value → Shared → Prop} (F : Fr h₀ L s.heap m) (N : News h₀ L s.heap news)
    (h : ∀ S h', Fr h₀ L h' m → News h₀ L h' ((S, { cls := .type "object", data := .plain }) :: news) → (∀ p ∈ news, @LT.lt Nat _ p.1 S) → Q (.ref S) { s with heap := h' }) : wpAny (model prog w) A (call (.type "object")) Q E s :=
  call_object (h _ _ (F.push _) (News.push F N _ rfl) fun p hp => Heap.lt_size (N p hp).1)
end
end Mine

-- W3
namespace Mine
local macro_rules | `(tactic| walk_at "TurnPost") => `(tactic| dsimp only [TurnPost])
local macro_rules | `(tactic| k_all) => `(tactic| first | exact List.forall_mem_nil _ | (refine' List.forall_mem_cons.mpr ⟨?a, ?b⟩; (case a => k_ne); (case b => k_all)) | assumption)
local macro_rules | `(tactic| walk_at "call builtin:iter") => `(tactic| (k_here; k_dflt (refine' iter_g ?k1 ?k2 ?k3 ?_; (case k1 => k_asm); (case k2 => k_asm); (case k3 => assumption); k_whole); intro I' h' F' N' l1; (try k_sweep)))
local macro_rules | `(tactic| walk_at "truthy ref") => `(tactic| (k_here; (with_reducible show wpAny _ _ (truthy (Value.ref _)) _ _ _); k_dflt (refine' truthy_g ?k1 ?km ?k2 ?_; (case k1 => k_asm); (case km => k_mem); (case k2 => omega); k_whole)))
local macro_rules | `(tactic| walk_at "subscriptTail") => `(tactic| (k_here; (with_reducible show wpAny _ _ (subscriptTail _ _ (Value.ref _) (Value.int 0 _)) _ _ _); k_dflt (first
  | (refine' itemT_0 ?k1 ?k2 ?k3 ?_ ?k6; (case k1 => with_reducible assumption); (case k2 => with_reducible assumption); (case k3 => with_reducible assumption); (case k6 => with_unfolding_all rfl); k_whole; intro _)
  | (refine' item0_T ?k1 ?km ?k2 ?k3 ?k4 ?_ ?k6; (case k1 => k_asm); (case km => k_mem); (case k2 => with_reducible assumption); (case k3 => (intro p9 hp9; (repeat (first | exact hp9 | refine List.mem_cons_of_mem _ ?_)))); (case k4 => omega); (case k6 => with_unfolding_all rfl); k_whole; intro a' ws' ht' hi'))))
local macro_rules | `(tactic| walk_at "callWith") => `(tactic| (k_here; (with_reducible show wpAny _ _ (callWith _ (Value.builtin _) (_ :: _) (backTo _ (starEach [] _)) (backToKw _ (keywordEach (_ :: _) _))) _ _ _); refine callWith_mkw ?_))
noncomputable def nsN7b : List Stmt := forBody nsN7
theorem nsN_turn {w : World} {A : Around} {s : Shared} {E : Value → Shared → Prop} {Q : Flow → Shared → Prop} {mg mb : Str → Option Value} {p : Program} {loose : List Str} {h₀ : Heap} {L D I : Addr} {o : Obj} {svs : List Value} {ns : List Int} {led nx : List (Addr × Obj)} {m₁ : Str → Option Value} {n i : Nat}
    (X : (hd.heap_1 w.params).In h₀) (T5 : TopRead p loose mg mb h₀) (hI : IntsAre svs ns) (hlen : ns.length < 64) (hd : A.depth < 850) (hu : A.units < 8500) (hh : A.handled = none) (hi : i < svs.length - n)
    (hJ : HJ false (fun x => x) ns (fun _ => []) D 56 n [] led i m₁ nx) (hoff : ∀ p ∈ nx, p.1 ≠ I)
    (F : Fr h₀ L s.heap (fun y => if y = Str.ofString "elem" then some (svs.getD (n + i) .none) else m₁ y)) (N : News h₀ L s.heap ((I, o) :: nx)) :
    wpAny (model PG w) A (execs nsN7b (nsEnv L)) (TurnPost h₀ L I o (HJ false (fun x => x) ns (fun _ => []) D 56 n [] led (i + 1)) s Q) E s := by
  have hlv := hI.length
  obtain ⟨vs, c, q0, T, ord, tt, to, tail, u, rfl, rfl, hD, hled, hal, hf, hinv⟩ := hJ
  rw [List.nil_append] at N hD hoff
  have hDI : @Ne Nat D I := hoff _ (.head _)
  have hIt : ∀ p ∈ tail, p.1 ≠ I := fun p hp => hoff p (.tail _ hp)
  obtain ⟨te, ee⟩ := ints_getD hI (n + i) (lt_rest hi hlv)
  rw [ee] at F
  conv in (occs := *) nsN7b => all_goals whnf
  (all_goals try k_fold)
  refine post_gen fun P hP => ?_
  (repeat' (first | (k_unfold; (try dsimp only)) | ((fail_if_success (with_reducible show wpAny _ _ (PySem.exec (PySem.Stmt.While _ _ _ _) _) _ _ _)); (fail_if_success (with_reducible show KswEnd _ _ _ _ _ _ _ _ _ _ _ _)); (fail_if_success (with_reducible show wpAny _ _ (pyIter (Value.ref _)) _ _ _)); (fail_if_success (with_reducible show TurnEnd _ _ _ _ _ _ _)); (fail_if_success (with_reducible show wpAny _ _ (PySem.eval (PySem.Expr.ListComp _ _ _ _) _) _ _ _)); (fail_if_success (with_reducible show wpAny _ _ (PySem.exec (PySem.Stmt.Assign _ (PySem.Expr.ListComp _ _ _ _) _) _) _ _ _)); (fail_if_success (with_reducible show wpAny _ _ (PySem.call (Value.type "zip") _ _) _ _ _)); (fail_if_success (with_reducible show wpAny _ _ (PySem.call (Value.builtin "list.sort") _ _) _ _ _)); (fail_if_success (with_reducible show wpAny _ _ (PySem.assign (PySem.Expr.Tuple _ _ _) _ _) _ _ _)); (fail_if_success (with_reducible show wpAny _ _ (PySem.call (Value.ref _) _ _) _ _ _)); first | walk1 | (dsimp only; walk1)))); all_goals (try (with_reducible show P _ _; subst hP; (repeat' (first | (k_unfold; (try dsimp only)) | ((fail_if_success (with_reducible show wpAny _ _ (PySem.exec (PySem.Stmt.While _ _ _ _) _) _ _ _)); (fail_if_success (with_reducible show KswEnd _ _ _ _ _ _ _ _ _ _ _ _)); (fail_if_success (with_reducible show wpAny _ _ (pyIter (Value.ref _)) _ _ _)); (fail_if_success (with_reducible show TurnEnd _ _ _ _ _ _ _)); (fail_if_success (with_reducible show wpAny _ _ (PySem.eval (PySem.Expr.ListComp _ _ _ _) _) _ _ _)); (fail_if_success (with_reducible show wpAny _ _ (PySem.exec (PySem.Stmt.Assign _ (PySem.Expr.ListComp _ _ _ _) _) _) _ _ _)); (fail_if_success (with_reducible show wpAny _ _ (PySem.call (Value.type "zip") _ _) _ _ _)); (fail_if_success (with_reducible show wpAny _ _ (PySem.call (Value.builtin "list.sort") _ _) _ _ _)); (fail_if_success (with_reducible show wpAny _ _ (PySem.assign (PySem.Expr.Tuple _ _ _) _ _) _ _ _)); (fail_if_success (with_reducible show wpAny _ _ (PySem.call (Value.ref _) _ _) _ _ _)); first | walk1 | (dsimp only; walk1))))))
  · -- the item goes into the heap
    rename _ < _ => hlt
    (try dsimp only at hlt)
    rename Fr _ _ _ _ => F4
    with_reducible rename News _ _ _ _ => N4
    rename _ ∧ _ => l4
    rename_i T' _
    obtain ⟨oT, hmk, N4⟩ := tup_head N4 (ks := Fm false (fun x => x) ns (fun _ => []) (n + i, ord)) ⟨rfl, [_, _], _, rfl, .cons _ _ (.cons _ _ .nil)⟩
    have hTD : @Ne Nat T' D := Nat.ne_of_gt l4.2.1
    have hTI : @Ne Nat T' I := Nat.ne_of_gt l4.1
    have ht4 := allLt_mem l4.2.2
    have hlen4 := hinv.len
    refine heapreplaceT false (N := 2) (tups := (T', oT) :: tail) (x := .ref T') (kx := Fm false (fun x => x) ns (fun _ => []) (n + i, ord)) F4 N4 (.tail hTD (.tail (Ne.symm hDI) (.head hD))) X T5 (by omega) (by omega) hh (hal.mono fun p hp => .tail _ hp)
      ⟨T', oT, rfl, .head _, hmk⟩ ?hsub ?hN rfl ?hlen ?hne hf ?_
    case hsub =>
      intro p hp
      rcases List.mem_cons.mp hp with rfl | hp
      · exact ⟨.head _, hTD⟩
      · exact ⟨.tail _ (.tail _ (.tail _ hp)), hD p hp⟩
    case hN =>
      intro ks hks
      obtain ⟨q, _, rfl⟩ := List.mem_map.mp hks
      rfl
    case hlen => rw [List.length_map]; exact len_small hlen hi hlv hlen4
    case hne => simp
    intro h5 tk5 c5 ws5 es5 v5 F5 N5 hal5 hp5 hf5
    obtain ⟨K, hK, rfl⟩ := perm_lift (l := (n + i, ord) :: T) (f := Fm false (fun x => x) ns (fun _ => [])) hp5
    have hinv5 := (hinv.yes (topOf_of (k := 0) (fun _ => rfl) hf) (by unfold kap; simp only [sgn, Bool.false_eq_true, if_false, if_true]; omega)).perm hK
    obtain ⟨k0, K', rfl⟩ : ∃ k0 K', K = k0 :: K' := by
      cases K with
      | nil => have := hK.length_eq; simp at this
      | cons a l => exact ⟨a, l, rfl⟩
    clear hal hf F4 hK hp5
    have N6 : News h₀ L h5 ((I, o) :: (D, PySem.W.listOf ws5.toArray c5) :: ((T', oT) :: tail)) := fun q hq => N5 q (by
      rcases List.mem_cons.mp hq with rfl | hq
      · exact .tail _ (.head _)
      · rcases List.mem_cons.mp hq with rfl | hq
        · exact .tail _ (.tail _ (.head _))
        · rcases List.mem_cons.mp hq with rfl | hq
          · exact .head _
          · exact .tail _ (.tail _ (.tail _ hq)))
    have hD6 : ∀ p ∈ (T', oT) :: tail, p.1 ≠ D := List.forall_mem_cons.mpr ⟨hTD, hD⟩
    have hI6 : ∀ p ∈ (T', oT) :: tail, p.1 ≠ I := List.forall_mem_cons.mpr ⟨hTI, hIt⟩
    have hled6 : ∀ p ∈ led, p ∈ (T', oT) :: tail := fun p hp => .tail _ (hled p hp)
    clear N5 N4 hD hled
    generalize (T', oT) :: tail = tail6 at *
    have hds : 0 < ((k0 :: K').map (Fm false (fun x => x) ns (fun _ => []))).length := by simp
    (all_goals try k_fold)
    (repeat' (first | (k_unfold; (try dsimp only)) | ((fail_if_success (with_reducible show wpAny _ _ (PySem.exec (PySem.Stmt.While _ _ _ _) _) _ _ _)); (fail_if_success (with_reducible show KswEnd _ _ _ _ _ _ _ _ _ _ _ _)); (fail_if_success (with_reducible show wpAny _ _ (pyIter (Value.ref _)) _ _ _)); (fail_if_success (with_reducible show TurnEnd _ _ _ _ _ _ _)); (fail_if_success (with_reducible show wpAny _ _ (PySem.eval (PySem.Expr.ListComp _ _ _ _) _) _ _ _)); (fail_if_success (with_reducible show wpAny _ _ (PySem.exec (PySem.Stmt.Assign _ (PySem.Expr.ListComp _ _ _ _) _) _) _ _ _)); (fail_if_success (with_reducible show wpAny _ _ (PySem.call (Value.type "zip") _ _) _ _ _)); (fail_if_success (with_reducible show wpAny _ _ (PySem.call (Value.builtin "list.sort") _ _) _ _ _)); (fail_if_success (with_reducible show wpAny _ _ (PySem.assign (PySem.Expr.Tuple _ _ _) _ _) _ _ _)); (fail_if_success (with_reducible show wpAny _ _ (PySem.call (Value.ref _) _ _) _ _ _)); first | walk1 | (dsimp only; walk1)))); all_goals (try (with_reducible show P _ _; subst hP; (repeat' (first | (k_unfold; (try dsimp only)) | ((fail_if_success (with_reducible show wpAny _ _ (PySem.exec (PySem.Stmt.While _ _ _ _) _) _ _ _)); (fail_if_success (with_reducible show KswEnd _ _ _ _ _ _ _ _ _ _ _ _)); (fail_if_success (with_reducible show wpAny _ _ (pyIter (Value.ref _)) _ _ _)); (fail_if_success (with_reducible show TurnEnd _ _ _ _ _ _ _)); (fail_if_success (with_reducible show wpAny _ _ (PySem.eval (PySem.Expr.ListComp _ _ _ _) _) _ _ _)); (fail_if_success (with_reducible show wpAny _ _ (PySem.exec (PySem.Stmt.Assign _ (PySem.Expr.ListComp _ _ _ _) _) _) _ _ _)); (fail_if_success (with_reducible show wpAny _ _ (PySem.call (Value.type "zip") _ _) _ _ _)); (fail_if_success (with_reducible show wpAny _ _ (PySem.call (Value.builtin "list.sort") _ _) _ _ _)); (fail_if_success (with_reducible show wpAny _ _ (PySem.assign (PySem.Expr.Tuple _ _ _) _ _) _ _ _)); (fail_if_success (with_reducible show wpAny _ _ (PySem.call (Value.ref _) _ _) _ _ _)); first | walk1 | (dsimp only; walk1))))))
    rename IsTup _ _ _ => ht6
    rename IntsAre _ (List.getD _ _ _) => hi6
    replace hi6 : IntsAre _ [ns.getD k0.1 0, sgn false k0.2] := hi6
    cases hi6 with
    | cons _ tt6 hi6 =>
      cases hi6 with
      | cons _ to6 hi6 =>
        cases hi6
        refine unpackN2 hh F5 N6 ht6 (by rfl) (by rfl) (by rfl) ?_
        intro h7 tk7 F7 N7
        clear F5 N6 ht6
        (all_goals try k_fold)
        (repeat' (first | (k_unfold; (try dsimp only)) | ((fail_if_success (with_reducible show wpAny _ _ (PySem.exec (PySem.Stmt.While _ _ _ _) _) _ _ _)); (fail_if_success (with_reducible show KswEnd _ _ _ _ _ _ _ _ _ _ _ _)); (fail_if_success (with_reducible show wpAny _ _ (pyIter (Value.ref _)) _ _ _)); (fail_if_success (with_reducible show TurnEnd _ _ _ _ _ _ _)); (fail_if_success (with_reducible show wpAny _ _ (PySem.eval (PySem.Expr.ListComp _ _ _ _) _) _ _ _)); (fail_if_success (with_reducible show wpAny _ _ (PySem.exec (PySem.Stmt.Assign _ (PySem.Expr.ListComp _ _ _ _) _) _) _ _ _)); (fail_if_success (with_reducible show wpAny _ _ (PySem.call (Value.type "zip") _ _) _ _ _)); (fail_if_success (with_reducible show wpAny _ _ (PySem.call (Value.builtin "list.sort") _ _) _ _ _)); (fail_if_success (with_reducible show wpAny _ _ (PySem.assign (PySem.Expr.Tuple _ _ _) _ _) _ _ _)); (fail_if_success (with_reducible show wpAny _ _ (PySem.call (Value.ref _) _ _) _ _ _)); first | walk1 | (dsimp only; walk1)))); all_goals (try (with_reducible show P _ _; subst hP; (repeat' (first | (k_unfold; (try dsimp only)) | ((fail_if_success (with_reducible show wpAny _ _ (PySem.exec (PySem.Stmt.While _ _ _ _) _) _ _ _)); (fail_if_success (with_reducible show KswEnd _ _ _ _ _ _ _ _ _ _ _ _)); (fail_if_success (with_reducible show wpAny _ _ (pyIter (Value.ref _)) _ _ _)); (fail_if_success (with_reducible show TurnEnd _ _ _ _ _ _ _)); (fail_if_success (with_reducible show wpAny _ _ (PySem.eval (PySem.Expr.ListComp _ _ _ _) _) _ _ _)); (fail_if_success (with_reducible show wpAny _ _ (PySem.exec (PySem.Stmt.Assign _ (PySem.Expr.ListComp _ _ _ _) _) _) _ _ _)); (fail_if_success (with_reducible show wpAny _ _ (PySem.call (Value.type "zip") _ _) _ _ _)); (fail_if_success (with_reducible show wpAny _ _ (PySem.call (Value.builtin "list.sort") _ _) _ _ _)); (fail_if_success (with_reducible show wpAny _ _ (PySem.assign (PySem.Expr.Tuple _ _ _) _ _) _ _ _)); (fail_if_success (with_reducible show wpAny _ _ (PySem.call (Value.ref _) _ _) _ _ _)); first | walk1 | (dsimp only; walk1))))))
        rename Fr _ _ _ _ => F8
        with_reducible rename News _ _ _ _ => N8
        have hso : sgn false ord + 1 = sgn false (ord + 1) := by unfold sgn; simp only [Bool.false_eq_true, if_false, if_true]
        have F9 := fr4 (x := Str.ofString "result") (y := Str.ofString "top") (z := Str.ofString "order") (v := Str.ofString "_heapreplace") F8 rfl rfl (congrArg (fun z => some (Value.int z _)) hso) rfl
        refine ⟨_, _, _, _, rfl, F9, N8, List.forall_mem_cons.mpr ⟨hDI, hI6⟩, ws5, c5, k0, K', ord + 1, _, _, tail6, _, rfl, rfl, hD6, hled6, hal5, hf5, ?_⟩
        exact hinv5
  · -- the heap stays
    rename ¬ _ < _ => hnlt
    (try dsimp only at hnlt)
    have F9 := fr4 (x := Str.ofString "result") (y := Str.ofString "top") (z := Str.ofString "order") (v := Str.ofString "_heapreplace") F rfl rfl rfl rfl
    refine ⟨s.heap, s.toks, _, _, rfl, F9, N, hoff, vs, c, q0, T, ord, tt, to, tail, _, rfl, rfl, hD, hled, hal, hf, ?_⟩
    exact hinv.no (topOf_of (k := 0) (fun _ => rfl) hf) (by unfold kap; simp only [sgn, Bool.false_eq_true, if_false, if_true]; omega)

-- W2
section
theorem nsN_tail {w : World} {A : Around} {s : Shared} {Q : Flow → Shared → Prop} {mg mb : Str → Option Value} {p : Program} {loose : List Str} {h₀ : Heap} {L sl D I : Addr} {oI : Obj} {svs ys : List Value} {ns ms : List Int} {led tail : List (Addr × Obj)} {u : Str → Option Value} {n c : Nat} {t : Tok}
    (X : (hd.heap_1 w.params).In h₀) (T5 : TopRead p loose mg mb h₀) (hsl : h₀.IsList sl svs.toArray) (hI : IntsAre svs ns) (hlen : ns.length < 64) (hd : A.depth < 850) (hu : A.units < 8500) (hh : A.handled = none) (hn2 : n = 0 ∨ 2 ≤ n) (hnl : n < ns.length)
    (F : Fr h₀ L s.heap (fun y => if y = Str.ofString "result" then some (.ref D) else if y = Str.ofString "it" then some (.ref I) else if y = Str.ofString "n" then some (.int (n : Nat) t) else u y)) (N : News h₀ L s.heap ((D, PySem.W.listOf ys.toArray c) :: (I, oI) :: tail))
    (hID : @Ne Nat I D) (hD : ∀ p ∈ tail, p.1 ≠ D) (hIo : ∀ p ∈ tail, p.1 ≠ I) (hlit : IsLit oI sl n) (hled : ∀ p ∈ led, p ∈ tail) (hbel : ∀ p ∈ led, @LT.lt Nat _ p.1 D)
    (hal : Al tail ys ((List.range n).map fun i => fD false (fun x => x) ns (fun _ => []) i ((i : Nat) : Int))) (hst : Stab (sgn false) ns ms)
    (h : ∀ D ws c h' tk m', Fr h₀ L h' m' → News h₀ L h' ((D, PySem.W.listOf (List.toArray ws) c) :: led) → (∀ q ∈ led, @LT.lt Nat _ q.1 D) → IntsAre ws (ms.take n) → Q (.ret (.ref D)) { s with heap := h', toks := tk }) :
    wpAny (model PG w) A (execs [nsN2, nsN3, nsN4, nsN5, nsN6, nsN7, nsN8, nsN9] (nsEnv L)) Q (fun _ _ => False) s := by
  have hlv := hI.length
  have hys := hal.length
  rw [List.length_map, List.length_range] at hys
  obtain ⟨r3, hr3⟩ : ∃ r, r = [nsN3, nsN4, nsN5, nsN6, nsN7, nsN8, nsN9] := ⟨_, rfl⟩
  rw [← hr3]
  refine wpAny_execs_cons ?_
  conv in (occs := *) nsN2 => all_goals whnf
  (all_goals try k_fold)
  (repeat' (first | (k_unfold; (try dsimp only)) | ((fail_if_success (with_reducible show wpAny _ _ (PySem.exec (PySem.Stmt.While _ _ _ _) _) _ _ _)); (fail_if_success (with_reducible show KswEnd _ _ _ _ _ _ _ _ _ _ _ _)); (fail_if_success (with_reducible show wpAny _ _ (pyIter (Value.ref _)) _ _ _)); (fail_if_success (with_reducible show TurnEnd _ _ _ _ _ _ _)); (fail_if_success (with_reducible show wpAny _ _ (PySem.eval (PySem.Expr.ListComp _ _ _ _) _) _ _ _)); (fail_if_success (with_reducible show wpAny _ _ (PySem.exec (PySem.Stmt.Assign _ (PySem.Expr.ListComp _ _ _ _) _) _) _ _ _)); (fail_if_success (with_reducible show wpAny _ _ (PySem.call (Value.type "zip") _ _) _ _ _)); (fail_if_success (with_reducible show wpAny _ _ (PySem.call (Value.builtin "list.sort") _ _) _ _ _)); (fail_if_success (with_reducible show wpAny _ _ (PySem.assign (PySem.Expr.Tuple _ _ _) _ _) _ _ _)); (fail_if_success (with_reducible show wpAny _ _ (PySem.call (Value.ref _) _ _) _ _ _)); first | walk1 | (dsimp only; walk1))))
  rotate_left
  · -- the list is empty
    rename ¬ _ < _ => hz
    have hn0 : n = 0 := by omega
    subst hn0
    obtain rfl := List.length_eq_zero_iff.mp hys
    exact h D [] c _ _ _ F (fun q hq => N q (by
      rcases List.mem_cons.mp hq with rfl | hq
      · exact .head _
      · exact .tail _ (.tail _ (hled q hq)))) hbel (by rw [List.take_zero]; exact .nil)
  rename 0 < _ => hpos
  subst hr3
  refine wpAny_execs_cons ?_
  obtain ⟨r4, hr4⟩ : ∃ r, r = [nsN4, nsN5, nsN6, nsN7, nsN8, nsN9] := ⟨_, rfl⟩
  rw [← hr4]
  conv in (occs := *) nsN3 => all_goals whnf
  (all_goals try k_fold)
  (repeat' (first | (k_unfold; (try dsimp only)) | ((fail_if_success (with_reducible show wpAny _ _ (PySem.exec (PySem.Stmt.While _ _ _ _) _) _ _ _)); (fail_if_success (with_reducible show KswEnd _ _ _ _ _ _ _ _ _ _ _ _)); (fail_if_success (with_reducible show wpAny _ _ (pyIter (Value.ref _)) _ _ _)); (fail_if_success (with_reducible show TurnEnd _ _ _ _ _ _ _)); (fail_if_success (with_reducible show wpAny _ _ (PySem.eval (PySem.Expr.ListComp _ _ _ _) _) _ _ _)); (fail_if_success (with_reducible show wpAny _ _ (PySem.exec (PySem.Stmt.Assign _ (PySem.Expr.ListComp _ _ _ _) _) _) _ _ _)); (fail_if_success (with_reducible show wpAny _ _ (PySem.call (Value.type "zip") _ _) _ _ _)); (fail_if_success (with_reducible show wpAny _ _ (PySem.call (Value.builtin "list.sort") _ _) _ _ _)); (fail_if_success (with_reducible show wpAny _ _ (PySem.assign (PySem.Expr.Tuple _ _ _) _ _) _ _ _)); (fail_if_success (with_reducible show wpAny _ _ (PySem.call (Value.ref _) _ _) _ _ _)); first | walk1 | (dsimp only; walk1))))
  refine heapifyT false (N := 2) F N (.head (List.forall_mem_cons.mpr ⟨hID, hD⟩)) X T5 (by omega) (by omega) hh hal (fun p hp => ⟨.tail _ (.tail _ hp), hD p hp⟩) (by
    intro ks hks
    obtain ⟨i, _, rfl⟩ := List.mem_map.mp hks
    rfl) (by simp only [List.length_map, List.length_range]; omega) ?_
  intro h1 tk1 c1 ws1 es1 F1 N1 hal1 hp1 hf1
  clear F N
  (repeat' (first | (k_unfold; (try dsimp only)) | ((fail_if_success (with_reducible show wpAny _ _ (PySem.exec (PySem.Stmt.While _ _ _ _) _) _ _ _)); (fail_if_success (with_reducible show KswEnd _ _ _ _ _ _ _ _ _ _ _ _)); (fail_if_success (with_reducible show wpAny _ _ (pyIter (Value.ref _)) _ _ _)); (fail_if_success (with_reducible show TurnEnd _ _ _ _ _ _ _)); (fail_if_success (with_reducible show wpAny _ _ (PySem.eval (PySem.Expr.ListComp _ _ _ _) _) _ _ _)); (fail_if_success (with_reducible show wpAny _ _ (PySem.exec (PySem.Stmt.Assign _ (PySem.Expr.ListComp _ _ _ _) _) _) _ _ _)); (fail_if_success (with_reducible show wpAny _ _ (PySem.call (Value.type "zip") _ _) _ _ _)); (fail_if_success (with_reducible show wpAny _ _ (PySem.call (Value.builtin "list.sort") _ _) _ _ _)); (fail_if_success (with_reducible show wpAny _ _ (PySem.assign (PySem.Expr.Tuple _ _ _) _ _) _ _ _)); (fail_if_success (with_reducible show wpAny _ _ (PySem.call (Value.ref _) _ _) _ _ _)); first | walk1 | (dsimp only; walk1))))
  have hes : es1.length = n := by rw [hp1.length_eq, List.length_map, List.length_range]
  -- the data as the first n indices
  have emap : (List.range n).map (fun i => fD false (fun x => x) ns (fun _ => []) i ((i : Nat) : Int)) = ((List.range n).map fun i => (i, ((i : Nat) : Int))).map (Fm false (fun x => x) ns (fun _ => [])) := by rw [List.map_map]; rfl
  rw [emap] at hp1
  obtain ⟨K, hK, rfl⟩ := perm_lift hp1
  have hinv1 := (HInv.start (b := false) (g := fun x => x) (ns := ns) (n := n)).perm hK
  obtain ⟨k0, K', rfl⟩ : ∃ k0 K', K = k0 :: K' := by
    cases K with
    | nil => rw [List.length_map, List.length_nil] at hes; omega
    | cons a l => exact ⟨a, l, rfl⟩
  clear hal hp1 emap hK
  subst hr4
  refine wpAny_execs_cons ?_
  obtain ⟨r5, hr5⟩ : ∃ r, r = [nsN5, nsN6, nsN7, nsN8, nsN9] := ⟨_, rfl⟩
  rw [← hr5]
  conv in (occs := *) nsN4 => all_goals whnf
  have hds : 0 < ((k0 :: K').map (Fm false (fun x => x) ns (fun _ => []))).length := by simp
  have hk0 : 0 < (((k0 :: K').map (Fm false (fun x => x) ns (fun _ => []))).getD 0 []).length := by
    show 0 < (fD false (fun x => x) ns (fun _ => []) k0.1 k0.2).length
    simp [fD]
  (all_goals try k_fold)
  (repeat' (first | (k_unfold; (try dsimp only)) | ((fail_if_success (with_reducible show wpAny _ _ (PySem.exec (PySem.Stmt.While _ _ _ _) _) _ _ _)); (fail_if_success (with_reducible show KswEnd _ _ _ _ _ _ _ _ _ _ _ _)); (fail_if_success (with_reducible show wpAny _ _ (pyIter (Value.ref _)) _ _ _)); (fail_if_success (with_reducible show TurnEnd _ _ _ _ _ _ _)); (fail_if_success (with_reducible show wpAny _ _ (PySem.eval (PySem.Expr.ListComp _ _ _ _) _) _ _ _)); (fail_if_success (with_reducible show wpAny _ _ (PySem.exec (PySem.Stmt.Assign _ (PySem.Expr.ListComp _ _ _ _) _) _) _ _ _)); (fail_if_success (with_reducible show wpAny _ _ (PySem.call (Value.type "zip") _ _) _ _ _)); (fail_if_success (with_reducible show wpAny _ _ (PySem.call (Value.builtin "list.sort") _ _) _ _ _)); (fail_if_success (with_reducible show wpAny _ _ (PySem.assign (PySem.Expr.Tuple _ _ _) _ _) _ _ _)); (fail_if_success (with_reducible show wpAny _ _ (PySem.call (Value.ref _) _ _) _ _ _)); first | walk1 | (dsimp only; walk1))))
  rename Fr _ _ _ _ => F2
  with_reducible rename News _ _ _ _ => N2
  (try clear F1); (try clear N1)
  subst hr5
  refine wpAny_execs_cons ?_
  obtain ⟨r6, hr6⟩ : ∃ r, r = [nsN6, nsN7, nsN8, nsN9] := ⟨_, rfl⟩
  rw [← hr6]
  conv in (occs := *) nsN5 => all_goals whnf
  (all_goals try k_fold)
  (repeat' (first | (k_unfold; (try dsimp only)) | ((fail_if_success (with_reducible show wpAny _ _ (PySem.exec (PySem.Stmt.While _ _ _ _) _) _ _ _)); (fail_if_success (with_reducible show KswEnd _ _ _ _ _ _ _ _ _ _ _ _)); (fail_if_success (with_reducible show wpAny _ _ (pyIter (Value.ref _)) _ _ _)); (fail_if_success (with_reducible show TurnEnd _ _ _ _ _ _ _)); (fail_if_success (with_reducible show wpAny _ _ (PySem.eval (PySem.Expr.ListComp _ _ _ _) _) _ _ _)); (fail_if_success (with_reducible show wpAny _ _ (PySem.exec (PySem.Stmt.Assign _ (PySem.Expr.ListComp _ _ _ _) _) _) _ _ _)); (fail_if_success (with_reducible show wpAny _ _ (PySem.call (Value.type "zip") _ _) _ _ _)); (fail_if_success (with_reducible show wpAny _ _ (PySem.call (Value.builtin "list.sort") _ _) _ _ _)); (fail_if_success (with_reducible show wpAny _ _ (PySem.assign (PySem.Expr.Tuple _ _ _) _ _) _ _ _)); (fail_if_success (with_reducible show wpAny _ _ (PySem.call (Value.ref _) _ _) _ _ _)); first | walk1 | (dsimp only; walk1))))
  rename Fr _ _ _ _ => F3
  with_reducible rename News _ _ _ _ => N3
  (try clear F2); (try clear N2)
  subst hr6
  refine wpAny_execs_cons ?_
  obtain ⟨r7, hr7⟩ : ∃ r, r = [nsN7, nsN8, nsN9] := ⟨_, rfl⟩
  rw [← hr7]
  conv in (occs := *) nsN6 => all_goals whnf
  (all_goals try k_fold)
  (repeat' (first | (k_unfold; (try dsimp only)) | ((fail_if_success (with_reducible show wpAny _ _ (PySem.exec (PySem.Stmt.While _ _ _ _) _) _ _ _)); (fail_if_success (with_reducible show KswEnd _ _ _ _ _ _ _ _ _ _ _ _)); (fail_if_success (with_reducible show wpAny _ _ (pyIter (Value.ref _)) _ _ _)); (fail_if_success (with_reducible show TurnEnd _ _ _ _ _ _ _)); (fail_if_success (with_reducible show wpAny _ _ (PySem.eval (PySem.Expr.ListComp _ _ _ _) _) _ _ _)); (fail_if_success (with_reducible show wpAny _ _ (PySem.exec (PySem.Stmt.Assign _ (PySem.Expr.ListComp _ _ _ _) _) _) _ _ _)); (fail_if_success (with_reducible show wpAny _ _ (PySem.call (Value.type "zip") _ _) _ _ _)); (fail_if_success (with_reducible show wpAny _ _ (PySem.call (Value.builtin "list.sort") _ _) _ _ _)); (fail_if_success (with_reducible show wpAny _ _ (PySem.assign (PySem.Expr.Tuple _ _ _) _ _) _ _ _)); (fail_if_success (with_reducible show wpAny _ _ (PySem.call (Value.ref _) _ _) _ _ _)); first | walk1 | (dsimp only; walk1))))
  rename Fr _ _ _ _ => F4
  with_reducible rename News _ _ _ _ => N4
  subst hr7
  refine wpAny_execs_cons ?_
  obtain ⟨r8, hr8⟩ : ∃ r, r = [nsN8, nsN9] := ⟨_, rfl⟩
  rw [← hr8]
  conv in (occs := *) nsN7 => all_goals whnf
  refine For_invVF F4 (by with_unfolding_all rfl) (by with_unfolding_all rfl) ?_
  (all_goals try k_fold)
  (repeat' (first | (k_unfold; (try dsimp only)) | ((fail_if_success (with_reducible show wpAny _ _ (PySem.exec (PySem.Stmt.While _ _ _ _) _) _ _ _)); (fail_if_success (with_reducible show KswEnd _ _ _ _ _ _ _ _ _ _ _ _)); (fail_if_success (with_reducible show wpAny _ _ (pyIter (Value.ref _)) _ _ _)); (fail_if_success (with_reducible show TurnEnd _ _ _ _ _ _ _)); (fail_if_success (with_reducible show wpAny _ _ (PySem.eval (PySem.Expr.ListComp _ _ _ _) _) _ _ _)); (fail_if_success (with_reducible show wpAny _ _ (PySem.exec (PySem.Stmt.Assign _ (PySem.Expr.ListComp _ _ _ _) _) _) _ _ _)); (fail_if_success (with_reducible show wpAny _ _ (PySem.call (Value.type "zip") _ _) _ _ _)); (fail_if_success (with_reducible show wpAny _ _ (PySem.call (Value.builtin "list.sort") _ _) _ _ _)); (fail_if_success (with_reducible show wpAny _ _ (PySem.assign (PySem.Expr.Tuple _ _ _) _ _) _ _ _)); (fail_if_success (with_reducible show wpAny _ _ (PySem.call (Value.ref _) _ _) _ _ _)); first | walk1 | (dsimp only; walk1))))
  refine iter_lit_g (env := nsEnv L) (HJ false (fun x => x) ns (fun _ => []) D 56 n [] led) hh hlit (by omega) hsl (news := (D, PySem.W.listOf ws1.toArray c1) :: tail) (List.forall_mem_cons.mpr ⟨Ne.symm hID, hIo⟩)
    (fr4 (x := Str.ofString "result") (y := Str.ofString "top") (z := Str.ofString "order") (v := Str.ofString "_heapreplace") F4 rfl rfl rfl rfl) (fun q hq => N4 q ?_) ⟨ws1, c1, k0, K', n, _, _, tail, _, rfl, rfl, hD, hled, hal1, hf1, hinv1⟩ ?_ ?_
  · rcases List.mem_cons.mp hq with rfl | hq
    · exact .tail _ (.head _)
    · rcases List.mem_cons.mp hq with rfl | hq
      · exact .head _
      · exact .tail _ (.tail _ hq)
  · intro i m₁ nx h5 tk5 o hi hJ hoff F5 N5
    exact nsN_turn X T5 hI hlen hd hu hh hi hJ hoff F5 N5
  clear hal1 hf1 hinv1 hes hds hk0
  rintro _ _ h5 tk5 ⟨vs, c5, q0, T, ord, tt, to, tail5, u5, rfl, rfl, hD5, hled5, hal5, hf5, hinv5⟩ F5 N5
  rw [List.nil_append] at N5 hD5
  clear F4 N4
  subst hr8
  dsimp only
  refine wpAny_execs_cons ?_
  obtain ⟨r9, hr9⟩ : ∃ r, r = [nsN9] := ⟨_, rfl⟩
  rw [← hr9]
  conv in (occs := *) nsN8 => all_goals whnf
  (all_goals try k_fold)
  (repeat' (first | (k_unfold; (try dsimp only)) | ((fail_if_success (with_reducible show wpAny _ _ (PySem.exec (PySem.Stmt.While _ _ _ _) _) _ _ _)); (fail_if_success (with_reducible show KswEnd _ _ _ _ _ _ _ _ _ _ _ _)); (fail_if_success (with_reducible show wpAny _ _ (pyIter (Value.ref _)) _ _ _)); (fail_if_success (with_reducible show TurnEnd _ _ _ _ _ _ _)); (fail_if_success (with_reducible show wpAny _ _ (PySem.eval (PySem.Expr.ListComp _ _ _ _) _) _ _ _)); (fail_if_success (with_reducible show wpAny _ _ (PySem.exec (PySem.Stmt.Assign _ (PySem.Expr.ListComp _ _ _ _) _) _) _ _ _)); (fail_if_success (with_reducible show wpAny _ _ (PySem.call (Value.type "zip") _ _) _ _ _)); (fail_if_success (with_reducible show wpAny _ _ (PySem.call (Value.builtin "list.sort") _ _) _ _ _)); (fail_if_success (with_reducible show wpAny _ _ (PySem.assign (PySem.Expr.Tuple _ _ _) _ _) _ _ _)); (fail_if_success (with_reducible show wpAny _ _ (PySem.call (Value.ref _) _ _) _ _ _)); first | walk1 | (dsimp only; walk1))))
  have hlq := hinv5.len
  refine tsort false (N := 2) (tups := tail5) F5 N5 (.head hD5) hal5 (fun p hp => ⟨.tail _ hp, hD5 p hp⟩) (by
    intro ks hks
    obtain ⟨q, _, rfl⟩ := List.mem_map.mp hks
    rfl) (by decide) (by rw [List.length_map]; omega) (by rw [List.length_map]; omega) (args_list_sort _) rfl ?_
  intro h6 c6 ws6 es6 F6 N6 hal6 hp6 hs6
  obtain ⟨K, hK, rfl⟩ := perm_lift hp6
  have hinv6 := hinv5.perm hK
  rw [show n + (svs.length - n) = ns.length by omega] at hinv6
  clear hal5 hf5 hinv5 hp6 hK F5 N5
  (repeat' (first | (k_unfold; (try dsimp only)) | ((fail_if_success (with_reducible show wpAny _ _ (PySem.exec (PySem.Stmt.While _ _ _ _) _) _ _ _)); (fail_if_success (with_reducible show KswEnd _ _ _ _ _ _ _ _ _ _ _ _)); (fail_if_success (with_reducible show wpAny _ _ (pyIter (Value.ref _)) _ _ _)); (fail_if_success (with_reducible show TurnEnd _ _ _ _ _ _ _)); (fail_if_success (with_reducible show wpAny _ _ (PySem.eval (PySem.Expr.ListComp _ _ _ _) _) _ _ _)); (fail_if_success (with_reducible show wpAny _ _ (PySem.exec (PySem.Stmt.Assign _ (PySem.Expr.ListComp _ _ _ _) _) _) _ _ _)); (fail_if_success (with_reducible show wpAny _ _ (PySem.call (Value.type "zip") _ _) _ _ _)); (fail_if_success (with_reducible show wpAny _ _ (PySem.call (Value.builtin "list.sort") _ _) _ _ _)); (fail_if_success (with_reducible show wpAny _ _ (PySem.assign (PySem.Expr.Tuple _ _ _) _ _) _ _ _)); (fail_if_success (with_reducible show wpAny _ _ (PySem.call (Value.ref _) _ _) _ _ _)); first | walk1 | (dsimp only; walk1))))
  rename Fr _ _ _ _ => F7
  with_reducible rename News _ _ _ _ => N7
  subst hr9
  refine wpAny_execs_cons ?_
  conv in (occs := *) nsN9 => all_goals whnf
  (all_goals try k_fold)
  (repeat' (first | (k_unfold; (try dsimp only)) | ((fail_if_success (with_reducible show wpAny _ _ (PySem.exec (PySem.Stmt.While _ _ _ _) _) _ _ _)); (fail_if_success (with_reducible show KswEnd _ _ _ _ _ _ _ _ _ _ _ _)); (fail_if_success (with_reducible show wpAny _ _ (pyIter (Value.ref _)) _ _ _)); (fail_if_success (with_reducible show TurnEnd _ _ _ _ _ _ _)); (fail_if_success (with_reducible show wpAny _ _ (PySem.eval (PySem.Expr.ListComp _ _ _ _) _) _ _ _)); (fail_if_success (with_reducible show wpAny _ _ (PySem.exec (PySem.Stmt.Assign _ (PySem.Expr.ListComp _ _ _ _) _) _) _ _ _)); (fail_if_success (with_reducible show wpAny _ _ (PySem.call (Value.type "zip") _ _) _ _ _)); (fail_if_success (with_reducible show wpAny _ _ (PySem.call (Value.builtin "list.sort") _ _) _ _ _)); (fail_if_success (with_reducible show wpAny _ _ (PySem.assign (PySem.Expr.Tuple _ _ _) _ _) _ _ _)); (fail_if_success (with_reducible show wpAny _ _ (PySem.call (Value.ref _) _ _) _ _ _)); first | walk1 | (dsimp only; walk1))))
  refine ListComp_J F7 (by with_unfolding_all rfl) (by decide) (by rfl) (by decide) ?_
  (all_goals try k_fold)
  (repeat' (first | (k_unfold; (try dsimp only)) | ((fail_if_success (with_reducible show wpAny _ _ (PySem.exec (PySem.Stmt.While _ _ _ _) _) _ _ _)); (fail_if_success (with_reducible show KswEnd _ _ _ _ _ _ _ _ _ _ _ _)); (fail_if_success (with_reducible show wpAny _ _ (pyIter (Value.ref _)) _ _ _)); (fail_if_success (with_reducible show TurnEnd _ _ _ _ _ _ _)); (fail_if_success (with_reducible show wpAny _ _ (PySem.eval (PySem.Expr.ListComp _ _ _ _) _) _ _ _)); (fail_if_success (with_reducible show wpAny _ _ (PySem.exec (PySem.Stmt.Assign _ (PySem.Expr.ListComp _ _ _ _) _) _) _ _ _)); (fail_if_success (with_reducible show wpAny _ _ (PySem.call (Value.type "zip") _ _) _ _ _)); (fail_if_success (with_reducible show wpAny _ _ (PySem.call (Value.builtin "list.sort") _ _) _ _ _)); (fail_if_success (with_reducible show wpAny _ _ (PySem.assign (PySem.Expr.Tuple _ _ _) _ _) _ _ _)); (fail_if_success (with_reducible show wpAny _ _ (PySem.call (Value.ref _) _ _) _ _ _)); first | walk1 | (dsimp only; walk1))))
  refine tups_src (N := 2) (j := 0) hh F7 N7 (.head _) (hal6.mono fun p hp => .tail _ hp) (by
    intro ks hks
    obtain ⟨q, _, rfl⟩ := List.mem_map.mp hks
    rfl) (by rw [List.length_map, hinv6.len, PySem.sizeLine_eq]; omega) (picks2 hh (by rfl) (by rfl) (by rfl) (by decide) (by rfl)) ?_
  rintro D' ys' hbelD hys' s₂ ⟨hx, tx, rfl⟩ h8 tk8 F8 N8
  refine h D' ys' ys'.length h8 tk8 _ F8 (fun q hq => N8 q ?_) (fun q hq => hbelD q (.tail _ (hled5 q hq))) ?_
  · rcases List.mem_cons.mp hq with rfl | hq
    · exact .head _
    · exact .tail _ (.tail _ (hled5 q hq))
  · rw [List.map_map] at hys'
    have hfin := hinv6.fin (ms := ms) (by
      rw [List.pairwise_map] at hs6
      exact hs6.imp fun {x y} hxy => ltD_f false (fun x => x) ns (fun _ => []) hxy) hst
    rw [← hfin]
    exact hys'
end

-- W1
section
theorem nsN_ok {w : World} {A : Around} {s : Shared} {Q : Flow → Shared → Prop} {mg mb : Str → Option Value} {p : Program} {loose : List Str} {h₀ : Heap} {L sl : Addr} {svs : List Value} {ns : List Int} {led : List (Addr × Obj)} {u : Str → Option Value} {n : Nat} {t : Tok}
    (X : (hd.heap_1 w.params).In h₀) (T5 : TopRead p loose mg mb h₀) (hsl : h₀.IsList sl svs.toArray) (hI : IntsAre svs ns) (hlen : ns.length < 64) (hd : A.depth < 850) (hu : A.units < 8500) (hh : A.handled = none) (hn2 : n = 0 ∨ 2 ≤ n) (hnl : n < ns.length)
    (F : Fr h₀ L s.heap (fun y => if y = Str.ofString "n" then some (.int (n : Nat) t) else if y = Str.ofString "iterable" then some (.ref sl) else u y)) (N : News h₀ L s.heap led)
    (h : ∀ D ws ms c h' tk m', Fr h₀ L h' m' → News h₀ L h' ((D, PySem.W.listOf (List.toArray ws) c) :: led) → (∀ q ∈ led, @LT.lt Nat _ q.1 D) → IntsAre ws (ms.take n) → Stab (sgn false) ns ms → Q (.ret (.ref D)) { s with heap := h', toks := tk }) :
    wpAny (model PG w) A (execs nsN (nsEnv L)) Q (fun _ _ => False) s := by
  have hlv := hI.length
  obtain ⟨ms, hms⟩ := stab_ex (sgn false) ns
  rw [nsN_eq]
  obtain ⟨r1, hr1⟩ : ∃ r, r = [nsN1, nsN2, nsN3, nsN4, nsN5, nsN6, nsN7, nsN8, nsN9] := ⟨_, rfl⟩
  rw [← hr1]
  refine wpAny_execs_cons ?_
  conv in (occs := *) nsN0 => all_goals whnf
  (all_goals try k_fold)
  (repeat' (first | (k_unfold; (try dsimp only)) | ((fail_if_success (with_reducible show wpAny _ _ (PySem.exec (PySem.Stmt.While _ _ _ _) _) _ _ _)); (fail_if_success (with_reducible show KswEnd _ _ _ _ _ _ _ _ _ _ _ _)); (fail_if_success (with_reducible show wpAny _ _ (pyIter (Value.ref _)) _ _ _)); (fail_if_success (with_reducible show TurnEnd _ _ _ _ _ _ _)); (fail_if_success (with_reducible show wpAny _ _ (PySem.eval (PySem.Expr.ListComp _ _ _ _) _) _ _ _)); (fail_if_success (with_reducible show wpAny _ _ (PySem.exec (PySem.Stmt.Assign _ (PySem.Expr.ListComp _ _ _ _) _) _) _ _ _)); (fail_if_success (with_reducible show wpAny _ _ (PySem.call (Value.type "zip") _ _) _ _ _)); (fail_if_success (with_reducible show wpAny _ _ (PySem.call (Value.builtin "list.sort") _ _) _ _ _)); (fail_if_success (with_reducible show wpAny _ _ (PySem.assign (PySem.Expr.Tuple _ _ _) _ _) _ _ _)); (fail_if_success (with_reducible show wpAny _ _ (PySem.call (Value.ref _) _ _) _ _ _)); first | walk1 | (dsimp only; walk1))))
  rename_i I1 _ l1 h1 F1 N1
  subst hr1
  refine wpAny_execs_cons ?_
  obtain ⟨r2, hr2⟩ : ∃ r, r = [nsN2, nsN3, nsN4, nsN5, nsN6, nsN7, nsN8, nsN9] := ⟨_, rfl⟩
  rw [← hr2]
  conv in (occs := *) nsN1 => all_goals whnf
  refine Assign_ListComp_J F1 rfl (by with_unfolding_all rfl) (by with_unfolding_all rfl) (by decide) (by rfl) (by decide) (by rfl) (by rfl) ?_
  (all_goals try k_fold)
  (repeat' (first | (k_unfold; (try dsimp only)) | ((fail_if_success (with_reducible show wpAny _ _ (PySem.exec (PySem.Stmt.While _ _ _ _) _) _ _ _)); (fail_if_success (with_reducible show KswEnd _ _ _ _ _ _ _ _ _ _ _ _)); (fail_if_success (with_reducible show wpAny _ _ (pyIter (Value.ref _)) _ _ _)); (fail_if_success (with_reducible show TurnEnd _ _ _ _ _ _ _)); (fail_if_success (with_reducible show wpAny _ _ (PySem.eval (PySem.Expr.ListComp _ _ _ _) _) _ _ _)); (fail_if_success (with_reducible show wpAny _ _ (PySem.exec (PySem.Stmt.Assign _ (PySem.Expr.ListComp _ _ _ _) _) _) _ _ _)); (fail_if_success (with_reducible show wpAny _ _ (PySem.call (Value.type "zip") _ _) _ _ _)); (fail_if_success (with_reducible show wpAny _ _ (PySem.call (Value.builtin "list.sort") _ _) _ _ _)); (fail_if_success (with_reducible show wpAny _ _ (PySem.assign (PySem.Expr.Tuple _ _ _) _ _) _ _ _)); (fail_if_success (with_reducible show wpAny _ _ (PySem.call (Value.ref _) _ _) _ _ _)); first | walk1 | (dsimp only; walk1))))
  rename IsRange _ _ _ _ _ _ _ _ => hr
  rename Fr _ _ _ _ => F2
  with_reducible rename News _ _ _ _ => N2
  refine zip_src (n := n) (dk := fun i => fD false (fun x => x) ns (fun _ => []) i ((i : Nat) : Int)) hh F2 N2 ⟨rfl, rfl⟩ (fun p hp => Nat.ne_of_lt (l1 p hp)) hsl hr (rsm_up (by omega)) (rsz_up n) (by omega) (by rw [PySem.sizeLine_eq]; omega) (by rfl) (by rfl) (by rfl) (by decide) ?helt ?fin
  case helt =>
    intro i C D oC m₂ ys led' h3 tk3 E' Q' hi hoC hxi hxe F3 N3 hsub hQ
    obtain ⟨ti, hxi⟩ := hxi
    clear F2 N2
    (all_goals try k_fold)
    (repeat' (first | (k_unfold; (try dsimp only)) | ((fail_if_success (with_reducible show wpAny _ _ (PySem.exec (PySem.Stmt.While _ _ _ _) _) _ _ _)); (fail_if_success (with_reducible show KswEnd _ _ _ _ _ _ _ _ _ _ _ _)); (fail_if_success (with_reducible show wpAny _ _ (pyIter (Value.ref _)) _ _ _)); (fail_if_success (with_reducible show TurnEnd _ _ _ _ _ _ _)); (fail_if_success (with_reducible show wpAny _ _ (PySem.eval (PySem.Expr.ListComp _ _ _ _) _) _ _ _)); (fail_if_success (with_reducible show wpAny _ _ (PySem.exec (PySem.Stmt.Assign _ (PySem.Expr.ListComp _ _ _ _) _) _) _ _ _)); (fail_if_success (with_reducible show wpAny _ _ (PySem.call (Value.type "zip") _ _) _ _ _)); (fail_if_success (with_reducible show wpAny _ _ (PySem.call (Value.builtin "list.sort") _ _) _ _ _)); (fail_if_success (with_reducible show wpAny _ _ (PySem.assign (PySem.Expr.Tuple _ _ _) _ _) _ _ _)); (fail_if_success (with_reducible show wpAny _ _ (PySem.call (Value.ref _) _ _) _ _ _)); first | walk1 | (dsimp only; walk1))))
    rename Fr _ _ _ _ => F4
    with_reducible rename News _ _ _ _ => N4
    rename _ ∧ _ => l4
    obtain ⟨te, ee⟩ := ints_getD hI i (by omega)
    refine hQ _ _ _ _ F4 N4 (List.forall_mem_cons.mpr ⟨l4.1, List.forall_mem_cons.mpr ⟨l4.2.1, allLt_mem l4.2.2⟩⟩) ⟨rfl, [_, _], _, rfl, ?_⟩
    rw [ee]
    have e1 : (0 : Int) + (i : Nat) * 1 = sgn false ((i : Nat) : Int) := by simp [sgn]
    rw [e1]
    exact .cons _ _ (.cons _ _ .nil)
  case fin =>
    rintro s₂ D ys oI' tups ⟨hx, tx, rfl⟩ hoff hbel hlit hnI hal h3 tk3 F3 N3
    subst hr2
    dsimp only
    have hIm : @Ne Nat I1 D := hoff _ (.head _)
    refine nsN_tail X T5 hsl hI hlen hd hu hh hn2 hnl (fr3b (x := Str.ofString "result") (y := Str.ofString "it") (z := Str.ofString "n") F3 rfl rfl rfl) N3 hIm (fun p hp => hoff p (.tail _ hp)) hnI hlit (fun p hp => List.mem_append_right _ hp) (fun p hp => hbel p (.tail _ hp)) (hal.mono fun p hp => List.mem_append_left _ hp) hms ?_
    intro D' ws c h' tk m' F' N' hb' hi'
    exact h D' ws ms c h' tk m' F' N' hb' hi' hms
end

-- V3
section
noncomputable def nlN7b : List Stmt := forBody nlN7
theorem nlN_turn {w : World} {A : Around} {s : Shared} {E : Value → Shared → Prop} {Q : Flow → Shared → Prop} {mg mb : Str → Option Value} {p : Program} {loose : List Str} {h₀ : Heap} {L D I : Addr} {o : Obj} {svs : List Value} {ns : List Int} {led nx : List (Addr × Obj)} {m₁ : Str → Option Value} {n i : Nat}
    (X : (hd.heap_1 w.params).In h₀) (T5 : TopRead p loose mg mb h₀) (hI : IntsAre svs ns) (hlen : ns.length < 64) (hd : A.depth < 850) (hu : A.units < 8500) (hh : A.handled = none) (hi : i < svs.length - n)
    (hJ : HJ true (fun x => x) ns (fun _ => []) D 35 n [] led i m₁ nx) (hoff : ∀ p ∈ nx, p.1 ≠ I)
    (F : Fr h₀ L s.heap (fun y => if y = Str.ofString "elem" then some (svs.getD (n + i) .none) else m₁ y)) (N : News h₀ L s.heap ((I, o) :: nx)) :
    wpAny (model PG w) A (execs nlN7b (nlEnv L)) (TurnPost h₀ L I o (HJ true (fun x => x) ns (fun _ => []) D 35 n [] led (i + 1)) s Q) E s := by
  have hlv := hI.length
  obtain ⟨vs, c, q0, T, ord, tt, to, tail, u, rfl, rfl, hD, hled, hal, hf, hinv⟩ := hJ
  rw [List.nil_append] at N hD hoff
  have hDI : @Ne Nat D I := hoff _ (.head _)
  have hIt : ∀ p ∈ tail, p.1 ≠ I := fun p hp => hoff p (.tail _ hp)
  obtain ⟨te, ee⟩ := ints_getD hI (n + i) (lt_rest hi hlv)
  rw [ee] at F
  conv in (occs := *) nlN7b => all_goals whnf
  (all_goals try k_fold)
  refine post_gen fun P hP => ?_
  (repeat' (first | (k_unfold; (try dsimp only)) | ((fail_if_success (with_reducible show wpAny _ _ (PySem.exec (PySem.Stmt.While _ _ _ _) _) _ _ _)); (fail_if_success (with_reducible show KswEnd _ _ _ _ _ _ _ _ _ _ _ _)); (fail_if_success (with_reducible show wpAny _ _ (pyIter (Value.ref _)) _ _ _)); (fail_if_success (with_reducible show TurnEnd _ _ _ _ _ _ _)); (fail_if_success (with_reducible show wpAny _ _ (PySem.eval (PySem.Expr.ListComp _ _ _ _) _) _ _ _)); (fail_if_success (with_reducible show wpAny _ _ (PySem.exec (PySem.Stmt.Assign _ (PySem.Expr.ListComp _ _ _ _) _) _) _ _ _)); (fail_if_success (with_reducible show wpAny _ _ (PySem.call (Value.type "zip") _ _) _ _ _)); (fail_if_success (with_reducible show wpAny _ _ (PySem.call (Value.builtin "list.sort") _ _) _ _ _)); (fail_if_success (with_reducible show wpAny _ _ (PySem.assign (PySem.Expr.Tuple _ _ _) _ _) _ _ _)); (fail_if_success (with_reducible show wpAny _ _ (PySem.call (Value.ref _) _ _) _ _ _)); first | walk1 | (dsimp only; walk1)))); all_goals (try (with_reducible show P _ _; subst hP; (repeat' (first | (k_unfold; (try dsimp only)) | ((fail_if_success (with_reducible show wpAny _ _ (PySem.exec (PySem.Stmt.While _ _ _ _) _) _ _ _)); (fail_if_success (with_reducible show KswEnd _ _ _ _ _ _ _ _ _ _ _ _)); (fail_if_success (with_reducible show wpAny _ _ (pyIter (Value.ref _)) _ _ _)); (fail_if_success (with_reducible show TurnEnd _ _ _ _ _ _ _)); (fail_if_success (with_reducible show wpAny _ _ (PySem.eval (PySem.Expr.ListComp _ _ _ _) _) _ _ _)); (fail_if_success (with_reducible show wpAny _ _ (PySem.exec (PySem.Stmt.Assign _ (PySem.Expr.ListComp _ _ _ _) _) _) _ _ _)); (fail_if_success (with_reducible show wpAny _ _ (PySem.call (Value.type "zip") _ _) _ _ _)); (fail_if_success (with_reducible show wpAny _ _ (PySem.call (Value.builtin "list.sort") _ _) _ _ _)); (fail_if_success (with_reducible show wpAny _ _ (PySem.assign (PySem.Expr.Tuple _ _ _) _ _) _ _ _)); (fail_if_success (with_reducible show wpAny _ _ (PySem.call (Value.ref _) _ _) _ _ _)); first | walk1 | (dsimp only; walk1))))))
  · -- the item goes into the heap
    rename _ < _ => hlt
    (try dsimp only at hlt)
    rename Fr _ _ _ _ => F4
    with_reducible rename News _ _ _ _ => N4
    rename _ ∧ _ => l4
    rename_i T' _
    obtain ⟨oT, hmk, N4⟩ := tup_head N4 (ks := Fm true (fun x => x) ns (fun _ => []) (n + i, ord)) ⟨rfl, [_, _], _, rfl, .cons _ _ (.cons _ _ .nil)⟩
    have hTD : @Ne Nat T' D := Nat.ne_of_gt l4.2.1
    have hTI : @Ne Nat T' I := Nat.ne_of_gt l4.1
    have ht4 := allLt_mem l4.2.2
    have hlen4 := hinv.len
    refine heapreplaceT true (N := 2) (tups := (T', oT) :: tail) (x := .ref T') (kx := Fm true (fun x => x) ns (fun _ => []) (n + i, ord)) F4 N4 (.tail hTD (.tail (Ne.symm hDI) (.head hD))) X T5 (by omega) (by omega) hh (hal.mono fun p hp => .tail _ hp)
      ⟨T', oT, rfl, .head _, hmk⟩ ?hsub ?hN rfl ?hlen ?hne hf ?_
    case hsub =>
      intro p hp
      rcases List.mem_cons.mp hp with rfl | hp
      · exact ⟨.head _, hTD⟩
      · exact ⟨.tail _ (.tail _ (.tail _ hp)), hD p hp⟩
    case hN =>
      intro ks hks
      obtain ⟨q, _, rfl⟩ := List.mem_map.mp hks
      rfl
    case hlen => rw [List.length_map]; exact len_small hlen hi hlv hlen4
    case hne => simp
    intro h5 tk5 c5 ws5 es5 v5 F5 N5 hal5 hp5 hf5
    obtain ⟨K, hK, rfl⟩ := perm_lift (l := (n + i, ord) :: T) (f := Fm true (fun x => x) ns (fun _ => [])) hp5
    have hinv5 := (hinv.yes (topOf_of (k := 0) (fun _ => rfl) hf) (by unfold kap; simp only [sgn, Bool.false_eq_true, if_false, if_true]; omega)).perm hK
    obtain ⟨k0, K', rfl⟩ : ∃ k0 K', K = k0 :: K' := by
      cases K with
      | nil => have := hK.length_eq; simp at this
      | cons a l => exact ⟨a, l, rfl⟩
    clear hal hf F4 hK hp5
    have N6 : News h₀ L h5 ((I, o) :: (D, PySem.W.listOf ws5.toArray c5) :: ((T', oT) :: tail)) := fun q hq => N5 q (by
      rcases List.mem_cons.mp hq with rfl | hq
      · exact .tail _ (.head _)
      · rcases List.mem_cons.mp hq with rfl | hq
        · exact .tail _ (.tail _ (.head _))
        · rcases List.mem_cons.mp hq with rfl | hq
          · exact .head _
          · exact .tail _ (.tail _ (.tail _ hq)))
    have hD6 : ∀ p ∈ (T', oT) :: tail, p.1 ≠ D := List.forall_mem_cons.mpr ⟨hTD, hD⟩
    have hI6 : ∀ p ∈ (T', oT) :: tail, p.1 ≠ I := List.forall_mem_cons.mpr ⟨hTI, hIt⟩
    have hled6 : ∀ p ∈ led, p ∈ (T', oT) :: tail := fun p hp => .tail _ (hled p hp)
    clear N5 N4 hD hled
    generalize (T', oT) :: tail = tail6 at *
    have hds : 0 < ((k0 :: K').map (Fm true (fun x => x) ns (fun _ => []))).length := by simp
    (all_goals try k_fold)
    (repeat' (first | (k_unfold; (try dsimp only)) | ((fail_if_success (with_reducible show wpAny _ _ (PySem.exec (PySem.Stmt.While _ _ _ _) _) _ _ _)); (fail_if_success (with_reducible show KswEnd _ _ _ _ _ _ _ _ _ _ _ _)); (fail_if_success (with_reducible show wpAny _ _ (pyIter (Value.ref _)) _ _ _)); (fail_if_success (with_reducible show TurnEnd _ _ _ _ _ _ _)); (fail_if_success (with_reducible show wpAny _ _ (PySem.eval (PySem.Expr.ListComp _ _ _ _) _) _ _ _)); (fail_if_success (with_reducible show wpAny _ _ (PySem.exec (PySem.Stmt.Assign _ (PySem.Expr.ListComp _ _ _ _) _) _) _ _ _)); (fail_if_success (with_reducible show wpAny _ _ (PySem.call (Value.type "zip") _ _) _ _ _)); (fail_if_success (with_reducible show wpAny _ _ (PySem.call (Value.builtin "list.sort") _ _) _ _ _)); (fail_if_success (with_reducible show wpAny _ _ (PySem.assign (PySem.Expr.Tuple _ _ _) _ _) _ _ _)); (fail_if_success (with_reducible show wpAny _ _ (PySem.call (Value.ref _) _ _) _ _ _)); first | walk1 | (dsimp only; walk1)))); all_goals (try (with_reducible show P _ _; subst hP; (repeat' (first | (k_unfold; (try dsimp only)) | ((fail_if_success (with_reducible show wpAny _ _ (PySem.exec (PySem.Stmt.While _ _ _ _) _) _ _ _)); (fail_if_success (with_reducible show KswEnd _ _ _ _ _ _ _ _ _ _ _ _)); (fail_if_success (with_reducible show wpAny _ _ (pyIter (Value.ref _)) _ _ _)); (fail_if_success (with_reducible show TurnEnd _ _ _ _ _ _ _)); (fail_if_success (with_reducible show wpAny _ _ (PySem.eval (PySem.Expr.ListComp _ _ _ _) _) _ _ _)); (fail_if_success (with_reducible show wpAny _ _ (PySem.exec (PySem.Stmt.Assign _ (PySem.Expr.ListComp _ _ _ _) _) _) _ _ _)); (fail_if_success (with_reducible show wpAny _ _ (PySem.call (Value.type "zip") _ _) _ _ _)); (fail_if_success (with_reducible show wpAny _ _ (PySem.call (Value.builtin "list.sort") _ _) _ _ _)); (fail_if_success (with_reducible show wpAny _ _ (PySem.assign (PySem.Expr.Tuple _ _ _) _ _) _ _ _)); (fail_if_success (with_reducible show wpAny _ _ (PySem.call (Value.ref _) _ _) _ _ _)); first | walk1 | (dsimp only; walk1))))))
    rename IsTup _ _ _ => ht6
    rename IntsAre _ (List.getD _ _ _) => hi6
    replace hi6 : IntsAre _ [ns.getD k0.1 0, sgn true k0.2] := hi6
    cases hi6 with
    | cons _ tt6 hi6 =>
      cases hi6 with
      | cons _ to6 hi6 =>
        cases hi6
        refine unpackN2 hh F5 N6 ht6 (by rfl) (by rfl) (by rfl) ?_
        intro h7 tk7 F7 N7
        clear F5 N6 ht6
        (all_goals try k_fold)
        (repeat' (first | (k_unfold; (try dsimp only)) | ((fail_if_success (with_reducible show wpAny _ _ (PySem.exec (PySem.Stmt.While _ _ _ _) _) _ _ _)); (fail_if_success (with_reducible show KswEnd _ _ _ _ _ _ _ _ _ _ _ _)); (fail_if_success (with_reducible show wpAny _ _ (pyIter (Value.ref _)) _ _ _)); (fail_if_success (with_reducible show TurnEnd _ _ _ _ _ _ _)); (fail_if_success (with_reducible show wpAny _ _ (PySem.eval (PySem.Expr.ListComp _ _ _ _) _) _ _ _)); (fail_if_success (with_reducible show wpAny _ _ (PySem.exec (PySem.Stmt.Assign _ (PySem.Expr.ListComp _ _ _ _) _) _) _ _ _)); (fail_if_success (with_reducible show wpAny _ _ (PySem.call (Value.type "zip") _ _) _ _ _)); (fail_if_success (with_reducible show wpAny _ _ (PySem.call (Value.builtin "list.sort") _ _) _ _ _)); (fail_if_success (with_reducible show wpAny _ _ (PySem.assign (PySem.Expr.Tuple _ _ _) _ _) _ _ _)); (fail_if_success (with_reducible show wpAny _ _ (PySem.call (Value.ref _) _ _) _ _ _)); first | walk1 | (dsimp only; walk1)))); all_goals (try (with_reducible show P _ _; subst hP; (repeat' (first | (k_unfold; (try dsimp only)) | ((fail_if_success (with_reducible show wpAny _ _ (PySem.exec (PySem.Stmt.While _ _ _ _) _) _ _ _)); (fail_if_success (with_reducible show KswEnd _ _ _ _ _ _ _ _ _ _ _ _)); (fail_if_success (with_reducible show wpAny _ _ (pyIter (Value.ref _)) _ _ _)); (fail_if_success (with_reducible show TurnEnd _ _ _ _ _ _ _)); (fail_if_success (with_reducible show wpAny _ _ (PySem.eval (PySem.Expr.ListComp _ _ _ _) _) _ _ _)); (fail_if_success (with_reducible show wpAny _ _ (PySem.exec (PySem.Stmt.Assign _ (PySem.Expr.ListComp _ _ _ _) _) _) _ _ _)); (fail_if_success (with_reducible show wpAny _ _ (PySem.call (Value.type "zip") _ _) _ _ _)); (fail_if_success (with_reducible show wpAny _ _ (PySem.call (Value.builtin "list.sort") _ _) _ _ _)); (fail_if_success (with_reducible show wpAny _ _ (PySem.assign (PySem.Expr.Tuple _ _ _) _ _) _ _ _)); (fail_if_success (with_reducible show wpAny _ _ (PySem.call (Value.ref _) _ _) _ _ _)); first | walk1 | (dsimp only; walk1))))))
        rename Fr _ _ _ _ => F8
        with_reducible rename News _ _ _ _ => N8
        have hso : sgn true ord - 1 = sgn true (ord + 1) := by unfold sgn; simp only [if_true]; omega
        have F9 := fr4 (x := Str.ofString "result") (y := Str.ofString "top") (z := Str.ofString "order") (v := Str.ofString "_heapreplace") F8 rfl rfl (congrArg (fun z => some (Value.int z _)) hso) rfl
        refine ⟨_, _, _, _, rfl, F9, N8, List.forall_mem_cons.mpr ⟨hDI, hI6⟩, ws5, c5, k0, K', ord + 1, _, _, tail6, _, rfl, rfl, hD6, hled6, hal5, hf5, ?_⟩
        exact hinv5
  · -- the heap stays
    rename ¬ _ < _ => hnlt
    (try dsimp only at hnlt)
    have F9 := fr4 (x := Str.ofString "result") (y := Str.ofString "top") (z := Str.ofString "order") (v := Str.ofString "_heapreplace") F rfl rfl rfl rfl
    refine ⟨s.heap, s.toks, _, _, rfl, F9, N, hoff, vs, c, q0, T, ord, tt, to, tail, _, rfl, rfl, hD, hled, hal, hf, ?_⟩
    exact hinv.no (topOf_of (k := 0) (fun _ => rfl) hf) (by unfold kap; simp only [sgn, Bool.false_eq_true, if_false, if_true]; omega)
end

-- V2
section
theorem nlN_tail {w : World} {A : Around} {s : Shared} {Q : Flow → Shared → Prop} {mg mb : Str → Option Value} {p : Program} {loose : List Str} {h₀ : Heap} {L sl D I : Addr} {oI : Obj} {svs ys : List Value} {ns ms : List Int} {led tail : List (Addr × Obj)} {u : Str → Option Value} {n c : Nat} {t : Tok}
    (X : (hd.heap_1 w.params).In h₀) (T5 : TopRead p loose mg mb h₀) (hsl : h₀.IsList sl svs.toArray) (hI : IntsAre svs ns) (hlen : ns.length < 64) (hd : A.depth < 850) (hu : A.units < 8500) (hh : A.handled = none) (hn2 : n = 0 ∨ 2 ≤ n) (hnl : n < ns.length)
    (F : Fr h₀ L s.heap (fun y => if y = Str.ofString "result" then some (.ref D) else if y = Str.ofString "it" then some (.ref I) else if y = Str.ofString "n" then some (.int (n : Nat) t) else u y)) (N : News h₀ L s.heap ((D, PySem.W.listOf ys.toArray c) :: (I, oI) :: tail))
    (hID : @Ne Nat I D) (hD : ∀ p ∈ tail, p.1 ≠ D) (hIo : ∀ p ∈ tail, p.1 ≠ I) (hlit : IsLit oI sl n) (hled : ∀ p ∈ led, p ∈ tail) (hbel : ∀ p ∈ led, @LT.lt Nat _ p.1 D)
    (hal : Al tail ys ((List.range n).map fun i => fD true (fun x => x) ns (fun _ => []) i ((i : Nat) : Int))) (hst : Stab (sgn true) ns ms)
    (h : ∀ D ws c h' tk m', Fr h₀ L h' m' → News h₀ L h' ((D, PySem.W.listOf (List.toArray ws) c) :: led) → (∀ q ∈ led, @LT.lt Nat _ q.1 D) → IntsAre ws (ms.take n) → Q (.ret (.ref D)) { s with heap := h', toks := tk }) :
    wpAny (model PG w) A (execs [nlN2, nlN3, nlN4, nlN5, nlN6, nlN7, nlN8, nlN9] (nlEnv L)) Q (fun _ _ => False) s := by
  have hlv := hI.length
  have hys := hal.length
  rw [List.length_map, List.length_range] at hys
  obtain ⟨r3, hr3⟩ : ∃ r, r = [nlN3, nlN4, nlN5, nlN6, nlN7, nlN8, nlN9] := ⟨_, rfl⟩
  rw [← hr3]
  refine wpAny_execs_cons ?_
  conv in (occs := *) nlN2 => all_goals whnf
  (all_goals try k_fold)
  (repeat' (first | (k_unfold; (try dsimp only)) | ((fail_if_success (with_reducible show wpAny _ _ (PySem.exec (PySem.Stmt.While _ _ _ _) _) _ _ _)); (fail_if_success (with_reducible show KswEnd _ _ _ _ _ _ _ _ _ _ _ _)); (fail_if_success (with_reducible show wpAny _ _ (pyIter (Value.ref _)) _ _ _)); (fail_if_success (with_reducible show TurnEnd _ _ _ _ _ _ _)); (fail_if_success (with_reducible show wpAny _ _ (PySem.eval (PySem.Expr.ListComp _ _ _ _) _) _ _ _)); (fail_if_success (with_reducible show wpAny _ _ (PySem.exec (PySem.Stmt.Assign _ (PySem.Expr.ListComp _ _ _ _) _) _) _ _ _)); (fail_if_success (with_reducible show wpAny _ _ (PySem.call (Value.type "zip") _ _) _ _ _)); (fail_if_success (with_reducible show wpAny _ _ (PySem.call (Value.builtin "list.sort") _ _) _ _ _)); (fail_if_success (with_reducible show wpAny _ _ (PySem.assign (PySem.Expr.Tuple _ _ _) _ _) _ _ _)); (fail_if_success (with_reducible show wpAny _ _ (PySem.call (Value.ref _) _ _) _ _ _)); first | walk1 | (dsimp only; walk1))))
  rotate_left
  · -- the list is empty
    rename ¬ _ < _ => hz
    have hn0 : n = 0 := by omega
    subst hn0
    obtain rfl := List.length_eq_zero_iff.mp hys
    exact h D [] c _ _ _ F (fun q hq => N q (by
      rcases List.mem_cons.mp hq with rfl | hq
      · exact .head _
      · exact .tail _ (.tail _ (hled q hq)))) hbel (by rw [List.take_zero]; exact .nil)
  rename 0 < _ => hpos
  subst hr3
  refine wpAny_execs_cons ?_
  obtain ⟨r4, hr4⟩ : ∃ r, r = [nlN4, nlN5, nlN6, nlN7, nlN8, nlN9] := ⟨_, rfl⟩
  rw [← hr4]
  conv in (occs := *) nlN3 => all_goals whnf
  (all_goals try k_fold)
  (repeat' (first | (k_unfold; (try dsimp only)) | ((fail_if_success (with_reducible show wpAny _ _ (PySem.exec (PySem.Stmt.While _ _ _ _) _) _ _ _)); (fail_if_success (with_reducible show KswEnd _ _ _ _ _ _ _ _ _ _ _ _)); (fail_if_success (with_reducible show wpAny _ _ (pyIter (Value.ref _)) _ _ _)); (fail_if_success (with_reducible show TurnEnd _ _ _ _ _ _ _)); (fail_if_success (with_reducible show wpAny _ _ (PySem.eval (PySem.Expr.ListComp _ _ _ _) _) _ _ _)); (fail_if_success (with_reducible show wpAny _ _ (PySem.exec (PySem.Stmt.Assign _ (PySem.Expr.ListComp _ _ _ _) _) _) _ _ _)); (fail_if_success (with_reducible show wpAny _ _ (PySem.call (Value.type "zip") _ _) _ _ _)); (fail_if_success (with_reducible show wpAny _ _ (PySem.call (Value.builtin "list.sort") _ _) _ _ _)); (fail_if_success (with_reducible show wpAny _ _ (PySem.assign (PySem.Expr.Tuple _ _ _) _ _) _ _ _)); (fail_if_success (with_reducible show wpAny _ _ (PySem.call (Value.ref _) _ _) _ _ _)); first | walk1 | (dsimp only; walk1))))
  refine heapifyT true (N := 2) F N (.head (List.forall_mem_cons.mpr ⟨hID, hD⟩)) X T5 (by omega) (by omega) hh hal (fun p hp => ⟨.tail _ (.tail _ hp), hD p hp⟩) (by
    intro ks hks
    obtain ⟨i, _, rfl⟩ := List.mem_map.mp hks
    rfl) (by simp only [List.length_map, List.length_range]; omega) ?_
  intro h1 tk1 c1 ws1 es1 F1 N1 hal1 hp1 hf1
  clear F N
  (repeat' (first | (k_unfold; (try dsimp only)) | ((fail_if_success (with_reducible show wpAny _ _ (PySem.exec (PySem.Stmt.While _ _ _ _) _) _ _ _)); (fail_if_success (with_reducible show KswEnd _ _ _ _ _ _ _ _ _ _ _ _)); (fail_if_success (with_reducible show wpAny _ _ (pyIter (Value.ref _)) _ _ _)); (fail_if_success (with_reducible show TurnEnd _ _ _ _ _ _ _)); (fail_if_success (with_reducible show wpAny _ _ (PySem.eval (PySem.Expr.ListComp _ _ _ _) _) _ _ _)); (fail_if_success (with_reducible show wpAny _ _ (PySem.exec (PySem.Stmt.Assign _ (PySem.Expr.ListComp _ _ _ _) _) _) _ _ _)); (fail_if_success (with_reducible show wpAny _ _ (PySem.call (Value.type "zip") _ _) _ _ _)); (fail_if_success (with_reducible show wpAny _ _ (PySem.call (Value.builtin "list.sort") _ _) _ _ _)); (fail_if_success (with_reducible show wpAny _ _ (PySem.assign (PySem.Expr.Tuple _ _ _) _ _) _ _ _)); (fail_if_success (with_reducible show wpAny _ _ (PySem.call (Value.ref _) _ _) _ _ _)); first | walk1 | (dsimp only; walk1))))
  have hes : es1.length = n := by rw [hp1.length_eq, List.length_map, List.length_range]
  -- the data as the first n indices
  have emap : (List.range n).map (fun i => fD true (fun x => x) ns (fun _ => []) i ((i : Nat) : Int)) = ((List.range n).map fun i => (i, ((i : Nat) : Int))).map (Fm true (fun x => x) ns (fun _ => [])) := by rw [List.map_map]; rfl
  rw [emap] at hp1
  obtain ⟨K, hK, rfl⟩ := perm_lift hp1
  have hinv1 := (HInv.start (b := true) (g := fun x => x) (ns := ns) (n := n)).perm hK
  obtain ⟨k0, K', rfl⟩ : ∃ k0 K', K = k0 :: K' := by
    cases K with
    | nil => rw [List.length_map, List.length_nil] at hes; omega
    | cons a l => exact ⟨a, l, rfl⟩
  clear hal hp1 emap hK
  subst hr4
  refine wpAny_execs_cons ?_
  obtain ⟨r5, hr5⟩ : ∃ r, r = [nlN5, nlN6, nlN7, nlN8, nlN9] := ⟨_, rfl⟩
  rw [← hr5]
  conv in (occs := *) nlN4 => all_goals whnf
  have hds : 0 < ((k0 :: K').map (Fm true (fun x => x) ns (fun _ => []))).length := by simp
  have hk0 : 0 < (((k0 :: K').map (Fm true (fun x => x) ns (fun _ => []))).getD 0 []).length := by
    show 0 < (fD true (fun x => x) ns (fun _ => []) k0.1 k0.2).length
    simp [fD]
  (all_goals try k_fold)
  (repeat' (first | (k_unfold; (try dsimp only)) | ((fail_if_success (with_reducible show wpAny _ _ (PySem.exec (PySem.Stmt.While _ _ _ _) _) _ _ _)); (fail_if_success (with_reducible show KswEnd _ _ _ _ _ _ _ _ _ _ _ _)); (fail_if_success (with_reducible show wpAny _ _ (pyIter (Value.ref _)) _ _ _)); (fail_if_success (with_reducible show TurnEnd _ _ _ _ _ _ _)); (fail_if_success (with_reducible show wpAny _ _ (PySem.eval (PySem.Expr.ListComp _ _ _ _) _) _ _ _)); (fail_if_success (with_reducible show wpAny _ _ (PySem.exec (PySem.Stmt.Assign _ (PySem.Expr.ListComp _ _ _ _) _) _) _ _ _)); (fail_if_success (with_reducible show wpAny _ _ (PySem.call (Value.type "zip") _ _) _ _ _)); (fail_if_success (with_reducible show wpAny _ _ (PySem.call (Value.builtin "list.sort") _ _) _ _ _)); (fail_if_success (with_reducible show wpAny _ _ (PySem.assign (PySem.Expr.Tuple _ _ _) _ _) _ _ _)); (fail_if_success (with_reducible show wpAny _ _ (PySem.call (Value.ref _) _ _) _ _ _)); first | walk1 | (dsimp only; walk1))))
  rename Fr _ _ _ _ => F2
  with_reducible rename News _ _ _ _ => N2
  (try clear F1); (try clear N1)
  subst hr5
  refine wpAny_execs_cons ?_
  obtain ⟨r6, hr6⟩ : ∃ r, r = [nlN6, nlN7, nlN8, nlN9] := ⟨_, rfl⟩
  rw [← hr6]
  conv in (occs := *) nlN5 => all_goals whnf
  (all_goals try k_fold)
  (repeat' (first | (k_unfold; (try dsimp only)) | ((fail_if_success (with_reducible show wpAny _ _ (PySem.exec (PySem.Stmt.While _ _ _ _) _) _ _ _)); (fail_if_success (with_reducible show KswEnd _ _ _ _ _ _ _ _ _ _ _ _)); (fail_if_success (with_reducible show wpAny _ _ (pyIter (Value.ref _)) _ _ _)); (fail_if_success (with_reducible show TurnEnd _ _ _ _ _ _ _)); (fail_if_success (with_reducible show wpAny _ _ (PySem.eval (PySem.Expr.ListComp _ _ _ _) _) _ _ _)); (fail_if_success (with_reducible show wpAny _ _ (PySem.exec (PySem.Stmt.Assign _ (PySem.Expr.ListComp _ _ _ _) _) _) _ _ _)); (fail_if_success (with_reducible show wpAny _ _ (PySem.call (Value.type "zip") _ _) _ _ _)); (fail_if_success (with_reducible show wpAny _ _ (PySem.call (Value.builtin "list.sort") _ _) _ _ _)); (fail_if_success (with_reducible show wpAny _ _ (PySem.assign (PySem.Expr.Tuple _ _ _) _ _) _ _ _)); (fail_if_success (with_reducible show wpAny _ _ (PySem.call (Value.ref _) _ _) _ _ _)); first | walk1 | (dsimp only; walk1))))
  rename Fr _ _ _ _ => F3
  with_reducible rename News _ _ _ _ => N3
  (try clear F2); (try clear N2)
  subst hr6
  refine wpAny_execs_cons ?_
  obtain ⟨r7, hr7⟩ : ∃ r, r = [nlN7, nlN8, nlN9] := ⟨_, rfl⟩
  rw [← hr7]
  conv in (occs := *) nlN6 => all_goals whnf
  (all_goals try k_fold)
  (repeat' (first | (k_unfold; (try dsimp only)) | ((fail_if_success (with_reducible show wpAny _ _ (PySem.exec (PySem.Stmt.While _ _ _ _) _) _ _ _)); (fail_if_success (with_reducible show KswEnd _ _ _ _ _ _ _ _ _ _ _ _)); (fail_if_success (with_reducible show wpAny _ _ (pyIter (Value.ref _)) _ _ _)); (fail_if_success (with_reducible show TurnEnd _ _ _ _ _ _ _)); (fail_if_success (with_reducible show wpAny _ _ (PySem.eval (PySem.Expr.ListComp _ _ _ _) _) _ _ _)); (fail_if_success (with_reducible show wpAny _ _ (PySem.exec (PySem.Stmt.Assign _ (PySem.Expr.ListComp _ _ _ _) _) _) _ _ _)); (fail_if_success (with_reducible show wpAny _ _ (PySem.call (Value.type "zip") _ _) _ _ _)); (fail_if_success (with_reducible show wpAny _ _ (PySem.call (Value.builtin "list.sort") _ _) _ _ _)); (fail_if_success (with_reducible show wpAny _ _ (PySem.assign (PySem.Expr.Tuple _ _ _) _ _) _ _ _)); (fail_if_success (with_reducible show wpAny _ _ (PySem.call (Value.ref _) _ _) _ _ _)); first | walk1 | (dsimp only; walk1))))
  rename Fr _ _ _ _ => F4
  with_reducible rename News _ _ _ _ => N4
  subst hr7
  refine wpAny_execs_cons ?_
  obtain ⟨r8, hr8⟩ : ∃ r, r = [nlN8, nlN9] := ⟨_, rfl⟩
  rw [← hr8]
  conv in (occs := *) nlN7 => all_goals whnf
  refine For_invVF F4 (by with_unfolding_all rfl) (by with_unfolding_all rfl) ?_
  (all_goals try k_fold)
  (repeat' (first | (k_unfold; (try dsimp only)) | ((fail_if_success (with_reducible show wpAny _ _ (PySem.exec (PySem.Stmt.While _ _ _ _) _) _ _ _)); (fail_if_success (with_reducible show KswEnd _ _ _ _ _ _ _ _ _ _ _ _)); (fail_if_success (with_reducible show wpAny _ _ (pyIter (Value.ref _)) _ _ _)); (fail_if_success (with_reducible show TurnEnd _ _ _ _ _ _ _)); (fail_if_success (with_reducible show wpAny _ _ (PySem.eval (PySem.Expr.ListComp _ _ _ _) _) _ _ _)); (fail_if_success (with_reducible show wpAny _ _ (PySem.exec (PySem.Stmt.Assign _ (PySem.Expr.ListComp _ _ _ _) _) _) _ _ _)); (fail_if_success (with_reducible show wpAny _ _ (PySem.call (Value.type "zip") _ _) _ _ _)); (fail_if_success (with_reducible show wpAny _ _ (PySem.call (Value.builtin "list.sort") _ _) _ _ _)); (fail_if_success (with_reducible show wpAny _ _ (PySem.assign (PySem.Expr.Tuple _ _ _) _ _) _ _ _)); (fail_if_success (with_reducible show wpAny _ _ (PySem.call (Value.ref _) _ _) _ _ _)); first | walk1 | (dsimp only; walk1))))
  refine iter_lit_g (env := nlEnv L) (HJ true (fun x => x) ns (fun _ => []) D 35 n [] led) hh hlit (by omega) hsl (news := (D, PySem.W.listOf ws1.toArray c1) :: tail) (List.forall_mem_cons.mpr ⟨Ne.symm hID, hIo⟩)
    (fr4 (x := Str.ofString "result") (y := Str.ofString "top") (z := Str.ofString "order") (v := Str.ofString "_heapreplace") F4 rfl rfl rfl rfl) (fun q hq => N4 q ?_) ⟨ws1, c1, k0, K', n, _, _, tail, _, rfl, rfl, hD, hled, hal1, hf1, hinv1⟩ ?_ ?_
  · rcases List.mem_cons.mp hq with rfl | hq
    · exact .tail _ (.head _)
    · rcases List.mem_cons.mp hq with rfl | hq
      · exact .head _
      · exact .tail _ (.tail _ hq)
  · intro i m₁ nx h5 tk5 o hi hJ hoff F5 N5
    exact nlN_turn X T5 hI hlen hd hu hh hi hJ hoff F5 N5
  clear hal1 hf1 hinv1 hes hds hk0
  rintro _ _ h5 tk5 ⟨vs, c5, q0, T, ord, tt, to, tail5, u5, rfl, rfl, hD5, hled5, hal5, hf5, hinv5⟩ F5 N5
  rw [List.nil_append] at N5 hD5
  clear F4 N4
  subst hr8
  dsimp only
  refine wpAny_execs_cons ?_
  obtain ⟨r9, hr9⟩ : ∃ r, r = [nlN9] := ⟨_, rfl⟩
  rw [← hr9]
  conv in (occs := *) nlN8 => all_goals whnf
  (all_goals try k_fold)
  (repeat' (first | (k_unfold; (try dsimp only)) | ((fail_if_success (with_reducible show wpAny _ _ (PySem.exec (PySem.Stmt.While _ _ _ _) _) _ _ _)); (fail_if_success (with_reducible show KswEnd _ _ _ _ _ _ _ _ _ _ _ _)); (fail_if_success (with_reducible show wpAny _ _ (pyIter (Value.ref _)) _ _ _)); (fail_if_success (with_reducible show TurnEnd _ _ _ _ _ _ _)); (fail_if_success (with_reducible show wpAny _ _ (PySem.eval (PySem.Expr.ListComp _ _ _ _) _) _ _ _)); (fail_if_success (with_reducible show wpAny _ _ (PySem.exec (PySem.Stmt.Assign _ (PySem.Expr.ListComp _ _ _ _) _) _) _ _ _)); (fail_if_success (with_reducible show wpAny _ _ (PySem.call (Value.type "zip") _ _) _ _ _)); (fail_if_success (with_reducible show wpAny _ _ (PySem.call (Value.builtin "list.sort") _ _) _ _ _)); (fail_if_success (with_reducible show wpAny _ _ (PySem.assign (PySem.Expr.Tuple _ _ _) _ _) _ _ _)); (fail_if_success (with_reducible show wpAny _ _ (PySem.call (Value.ref _) _ _) _ _ _)); first | walk1 | (dsimp only; walk1))))
  have hlq := hinv5.len
  refine tsort true (N := 2) (tups := tail5) F5 N5 (.head hD5) hal5 (fun p hp => ⟨.tail _ hp, hD5 p hp⟩) (by
    intro ks hks
    obtain ⟨q, _, rfl⟩ := List.mem_map.mp hks
    rfl) (by decide) (by rw [List.length_map]; omega) (by rw [List.length_map]; omega) (args_list_sort_rev _ _) rfl ?_
  intro h6 c6 ws6 es6 F6 N6 hal6 hp6 hs6
  obtain ⟨K, hK, rfl⟩ := perm_lift hp6
  have hinv6 := hinv5.perm hK
  rw [show n + (svs.length - n) = ns.length by omega] at hinv6
  clear hal5 hf5 hinv5 hp6 hK F5 N5
  (repeat' (first | (k_unfold; (try dsimp only)) | ((fail_if_success (with_reducible show wpAny _ _ (PySem.exec (PySem.Stmt.While _ _ _ _) _) _ _ _)); (fail_if_success (with_reducible show KswEnd _ _ _ _ _ _ _ _ _ _ _ _)); (fail_if_success (with_reducible show wpAny _ _ (pyIter (Value.ref _)) _ _ _)); (fail_if_success (with_reducible show TurnEnd _ _ _ _ _ _ _)); (fail_if_success (with_reducible show wpAny _ _ (PySem.eval (PySem.Expr.ListComp _ _ _ _) _) _ _ _)); (fail_if_success (with_reducible show wpAny _ _ (PySem.exec (PySem.Stmt.Assign _ (PySem.Expr.ListComp _ _ _ _) _) _) _ _ _)); (fail_if_success (with_reducible show wpAny _ _ (PySem.call (Value.type "zip") _ _) _ _ _)); (fail_if_success (with_reducible show wpAny _ _ (PySem.call (Value.builtin "list.sort") _ _) _ _ _)); (fail_if_success (with_reducible show wpAny _ _ (PySem.assign (PySem.Expr.Tuple _ _ _) _ _) _ _ _)); (fail_if_success (with_reducible show wpAny _ _ (PySem.call (Value.ref _) _ _) _ _ _)); first | walk1 | (dsimp only; walk1))))
  rename Fr _ _ _ _ => F7
  with_reducible rename News _ _ _ _ => N7
  subst hr9
  refine wpAny_execs_cons ?_
  conv in (occs := *) nlN9 => all_goals whnf
  (all_goals try k_fold)
  (repeat' (first | (k_unfold; (try dsimp only)) | ((fail_if_success (with_reducible show wpAny _ _ (PySem.exec (PySem.Stmt.While _ _ _ _) _) _ _ _)); (fail_if_success (with_reducible show KswEnd _ _ _ _ _ _ _ _ _ _ _ _)); (fail_if_success (with_reducible show wpAny _ _ (pyIter (Value.ref _)) _ _ _)); (fail_if_success (with_reducible show TurnEnd _ _ _ _ _ _ _)); (fail_if_success (with_reducible show wpAny _ _ (PySem.eval (PySem.Expr.ListComp _ _ _ _) _) _ _ _)); (fail_if_success (with_reducible show wpAny _ _ (PySem.exec (PySem.Stmt.Assign _ (PySem.Expr.ListComp _ _ _ _) _) _) _ _ _)); (fail_if_success (with_reducible show wpAny _ _ (PySem.call (Value.type "zip") _ _) _ _ _)); (fail_if_success (with_reducible show wpAny _ _ (PySem.call (Value.builtin "list.sort") _ _) _ _ _)); (fail_if_success (with_reducible show wpAny _ _ (PySem.assign (PySem.Expr.Tuple _ _ _) _ _) _ _ _)); (fail_if_success (with_reducible show wpAny _ _ (PySem.call (Value.ref _) _ _) _ _ _)); first | walk1 | (dsimp only; walk1))))
  refine ListComp_J F7 (by with_unfolding_all rfl) (by decide) (by rfl) (by decide) ?_
  (all_goals try k_fold)
  (repeat' (first | (k_unfold; (try dsimp only)) | ((fail_if_success (with_reducible show wpAny _ _ (PySem.exec (PySem.Stmt.While _ _ _ _) _) _ _ _)); (fail_if_success (with_reducible show KswEnd _ _ _ _ _ _ _ _ _ _ _ _)); (fail_if_success (with_reducible show wpAny _ _ (pyIter (Value.ref _)) _ _ _)); (fail_if_success (with_reducible show TurnEnd _ _ _ _ _ _ _)); (fail_if_success (with_reducible show wpAny _ _ (PySem.eval (PySem.Expr.ListComp _ _ _ _) _) _ _ _)); (fail_if_success (with_reducible show wpAny _ _ (PySem.exec (PySem.Stmt.Assign _ (PySem.Expr.ListComp _ _ _ _) _) _) _ _ _)); (fail_if_success (with_reducible show wpAny _ _ (PySem.call (Value.type "zip") _ _) _ _ _)); (fail_if_success (with_reducible show wpAny _ _ (PySem.call (Value.builtin "list.sort") _ _) _ _ _)); (fail_if_success (with_reducible show wpAny _ _ (PySem.assign (PySem.Expr.Tuple _ _ _) _ _) _ _ _)); (fail_if_success (with_reducible show wpAny _ _ (PySem.call (Value.ref _) _ _) _ _ _)); first | walk1 | (dsimp only; walk1))))
  refine tups_src (N := 2) (j := 0) hh F7 N7 (.head _) (hal6.mono fun p hp => .tail _ hp) (by
    intro ks hks
    obtain ⟨q, _, rfl⟩ := List.mem_map.mp hks
    rfl) (by rw [List.length_map, hinv6.len, PySem.sizeLine_eq]; omega) (picks2 hh (by rfl) (by rfl) (by rfl) (by decide) (by rfl)) ?_
  rintro D' ys' hbelD hys' s₂ ⟨hx, tx, rfl⟩ h8 tk8 F8 N8
  refine h D' ys' ys'.length h8 tk8 _ F8 (fun q hq => N8 q ?_) (fun q hq => hbelD q (.tail _ (hled5 q hq))) ?_
  · rcases List.mem_cons.mp hq with rfl | hq
    · exact .head _
    · exact .tail _ (.tail _ (hled5 q hq))
  · rw [List.map_map] at hys'
    have hfin := hinv6.fin (ms := ms) (by
      rw [List.pairwise_map] at hs6
      exact hs6.imp fun {x y} hxy => ltD_f true (fun x => x) ns (fun _ => []) hxy) hst
    rw [← hfin]
    exact hys'
end

-- V1
section
theorem nlN_ok {w : World} {A : Around} {s : Shared} {Q : Flow → Shared → Prop} {mg mb : Str → Option Value} {p : Program} {loose : List Str} {h₀ : Heap} {L sl : Addr} {svs : List Value} {ns : List Int} {led : List (Addr × Obj)} {u : Str → Option Value} {n : Nat} {t : Tok}
    (X : (hd.heap_1 w.params).In h₀) (T5 : TopRead p loose mg mb h₀) (hsl : h₀.IsList sl svs.toArray) (hI : IntsAre svs ns) (hlen : ns.length < 64) (hd : A.depth < 850) (hu : A.units < 8500) (hh : A.handled = none) (hn2 : n = 0 ∨ 2 ≤ n) (hnl : n < ns.length)
    (F : Fr h₀ L s.heap (fun y => if y = Str.ofString "n" then some (.int (n : Nat) t) else if y = Str.ofString "iterable" then some (.ref sl) else u y)) (N : News h₀ L s.heap led)
    (h : ∀ D ws ms c h' tk m', Fr h₀ L h' m' → News h₀ L h' ((D, PySem.W.listOf (List.toArray ws) c) :: led) → (∀ q ∈ led, @LT.lt Nat _ q.1 D) → IntsAre ws (ms.take n) → Stab (sgn true) ns ms → Q (.ret (.ref D)) { s with heap := h', toks := tk }) :
    wpAny (model PG w) A (execs nlN (nlEnv L)) Q (fun _ _ => False) s := by
  have hlv := hI.length
  obtain ⟨ms, hms⟩ := stab_ex (sgn true) ns
  rw [nlN_eq]
  obtain ⟨r1, hr1⟩ : ∃ r, r = [nlN1, nlN2, nlN3, nlN4, nlN5, nlN6, nlN7, nlN8, nlN9] := ⟨_, rfl⟩
  rw [← hr1]
  refine wpAny_execs_cons ?_
  conv in (occs := *) nlN0 => all_goals whnf
  (all_goals try k_fold)
  (repeat' (first | (k_unfold; (try dsimp only)) | ((fail_if_success (with_reducible show wpAny _ _ (PySem.exec (PySem.Stmt.While _ _ _ _) _) _ _ _)); (fail_if_success (with_reducible show KswEnd _ _ _ _ _ _ _ _ _ _ _ _)); (fail_if_success (with_reducible show wpAny _ _ (pyIter (Value.ref _)) _ _ _)); (fail_if_success (with_reducible show TurnEnd _ _ _ _ _ _ _)); (fail_if_success (with_reducible show wpAny _ _ (PySem.eval (PySem.Expr.ListComp _ _ _ _) _) _ _ _)); (fail_if_success (with_reducible show wpAny _ _ (PySem.exec (PySem.Stmt.Assign _ (PySem.Expr.ListComp _ _ _ _) _) _) _ _ _)); (fail_if_success (with_reducible show wpAny _ _ (PySem.call (Value.type "zip") _ _) _ _ _)); (fail_if_success (with_reducible show wpAny _ _ (PySem.call (Value.builtin "list.sort") _ _) _ _ _)); (fail_if_success (with_reducible show wpAny _ _ (PySem.assign (PySem.Expr.Tuple _ _ _) _ _) _ _ _)); (fail_if_success (with_reducible show wpAny _ _ (PySem.call (Value.ref _) _ _) _ _ _)); first | walk1 | (dsimp only; walk1))))
  rename_i I1 _ l1 h1 F1 N1
  subst hr1
  refine wpAny_execs_cons ?_
  obtain ⟨r2, hr2⟩ : ∃ r, r = [nlN2, nlN3, nlN4, nlN5, nlN6, nlN7, nlN8, nlN9] := ⟨_, rfl⟩
  rw [← hr2]
  conv in (occs := *) nlN1 => all_goals whnf
  refine Assign_ListComp_J F1 rfl (by with_unfolding_all rfl) (by with_unfolding_all rfl) (by decide) (by rfl) (by decide) (by rfl) (by rfl) ?_
  (all_goals try k_fold)
  (repeat' (first | (k_unfold; (try dsimp only)) | ((fail_if_success (with_reducible show wpAny _ _ (PySem.exec (PySem.Stmt.While _ _ _ _) _) _ _ _)); (fail_if_success (with_reducible show KswEnd _ _ _ _ _ _ _ _ _ _ _ _)); (fail_if_success (with_reducible show wpAny _ _ (pyIter (Value.ref _)) _ _ _)); (fail_if_success (with_reducible show TurnEnd _ _ _ _ _ _ _)); (fail_if_success (with_reducible show wpAny _ _ (PySem.eval (PySem.Expr.ListComp _ _ _ _) _) _ _ _)); (fail_if_success (with_reducible show wpAny _ _ (PySem.exec (PySem.Stmt.Assign _ (PySem.Expr.ListComp _ _ _ _) _) _) _ _ _)); (fail_if_success (with_reducible show wpAny _ _ (PySem.call (Value.type "zip") _ _) _ _ _)); (fail_if_success (with_reducible show wpAny _ _ (PySem.call (Value.builtin "list.sort") _ _) _ _ _)); (fail_if_success (with_reducible show wpAny _ _ (PySem.assign (PySem.Expr.Tuple _ _ _) _ _) _ _ _)); (fail_if_success (with_reducible show wpAny _ _ (PySem.call (Value.ref _) _ _) _ _ _)); first | walk1 | (dsimp only; walk1))))
  rename IsRange _ _ _ _ _ _ _ _ => hr
  rename Fr _ _ _ _ => F2
  with_reducible rename News _ _ _ _ => N2
  refine zip_src (n := n) (dk := fun i => fD true (fun x => x) ns (fun _ => []) i ((i : Nat) : Int)) hh F2 N2 ⟨rfl, rfl⟩ (fun p hp => Nat.ne_of_lt (l1 p hp)) hsl hr (rsm_down (by omega)) (rsz_down n) (by omega) (by rw [PySem.sizeLine_eq]; omega) (by rfl) (by rfl) (by rfl) (by decide) ?helt ?fin
  case helt =>
    intro i C D oC m₂ ys led' h3 tk3 E' Q' hi hoC hxi hxe F3 N3 hsub hQ
    obtain ⟨ti, hxi⟩ := hxi
    clear F2 N2
    (all_goals try k_fold)
    (repeat' (first | (k_unfold; (try dsimp only)) | ((fail_if_success (with_reducible show wpAny _ _ (PySem.exec (PySem.Stmt.While _ _ _ _) _) _ _ _)); (fail_if_success (with_reducible show KswEnd _ _ _ _ _ _ _ _ _ _ _ _)); (fail_if_success (with_reducible show wpAny _ _ (pyIter (Value.ref _)) _ _ _)); (fail_if_success (with_reducible show TurnEnd _ _ _ _ _ _ _)); (fail_if_success (with_reducible show wpAny _ _ (PySem.eval (PySem.Expr.ListComp _ _ _ _) _) _ _ _)); (fail_if_success (with_reducible show wpAny _ _ (PySem.exec (PySem.Stmt.Assign _ (PySem.Expr.ListComp _ _ _ _) _) _) _ _ _)); (fail_if_success (with_reducible show wpAny _ _ (PySem.call (Value.type "zip") _ _) _ _ _)); (fail_if_success (with_reducible show wpAny _ _ (PySem.call (Value.builtin "list.sort") _ _) _ _ _)); (fail_if_success (with_reducible show wpAny _ _ (PySem.assign (PySem.Expr.Tuple _ _ _) _ _) _ _ _)); (fail_if_success (with_reducible show wpAny _ _ (PySem.call (Value.ref _) _ _) _ _ _)); first | walk1 | (dsimp only; walk1))))
    rename Fr _ _ _ _ => F4
    with_reducible rename News _ _ _ _ => N4
    rename _ ∧ _ => l4
    obtain ⟨te, ee⟩ := ints_getD hI i (by omega)
    refine hQ _ _ _ _ F4 N4 (List.forall_mem_cons.mpr ⟨l4.1, List.forall_mem_cons.mpr ⟨l4.2.1, allLt_mem l4.2.2⟩⟩) ⟨rfl, [_, _], _, rfl, ?_⟩
    rw [ee]
    have e1 : (0 : Int) + (i : Nat) * -1 = sgn true ((i : Nat) : Int) := by unfold sgn; simp only [if_true]; omega
    rw [e1]
    exact .cons _ _ (.cons _ _ .nil)
  case fin =>
    rintro s₂ D ys oI' tups ⟨hx, tx, rfl⟩ hoff hbel hlit hnI hal h3 tk3 F3 N3
    subst hr2
    dsimp only
    have hIm : @Ne Nat I1 D := hoff _ (.head _)
    refine nlN_tail X T5 hsl hI hlen hd hu hh hn2 hnl (fr3b (x := Str.ofString "result") (y := Str.ofString "it") (z := Str.ofString "n") F3 rfl rfl rfl) N3 hIm (fun p hp => hoff p (.tail _ hp)) hnI hlit (fun p hp => List.mem_append_right _ hp) (fun p hp => hbel p (.tail _ hp)) (hal.mono fun p hp => List.mem_append_left _ hp) hms ?_
    intro D' ws c h' tk m' F' N' hb' hi'
    exact h D' ws ms c h' tk m' F' N' hb' hi' hms
end

-- WK3
section
local macro_rules | `(tactic| walk_at "callWith ref") => `(tactic| (k_here; k_dflt (refine' callWith_F ?k1 ?_; (case k1 => exact FnAt.of (by k_asm) (by k_mem)); k_whole)))
noncomputable def nsK7b : List Stmt := forBody nsK7
theorem nsK_turn {w : World} {A : Around} {s : Shared} {E : Value → Shared → Prop} {Q : Flow → Shared → Prop} {mg mb : Str → Option Value} {p : Program} {loose : List Str} {h₀ : Heap} {L D I : Addr} {o : Obj} {svs : List Value} {ns : List Int} {led nx : List (Addr × Obj)} {m₁ : Str → Option Value} {n i : Nat} {g : Int → Int} {q : Addr} {base : List (Addr × Obj)} {wK : Obj} {oc : Value} {od : Option Addr} {fd : FuncData} {osl : Array (Option Value)}
    (X : (hd.heap_1 w.params).In h₀) (T5 : TopRead p loose mg mb h₀) (hK : KeyOk w h₀ q base g) (hw : wK.data = .cell (some (.ref q))) (hbase : ∀ p ∈ base, p ∈ led) (hI : IntsAre svs ns) (hlen : ns.length < 64) (hd : A.depth < 850) (hu : A.units < 8500) (hh : A.handled = none) (hi : i < svs.length - n)
    (hJ : HJ false g ns (fun j => [ns.getD j 0]) D 56 n [(L + 1, wK), (q, ⟨oc, od, .func fd, osl⟩)] led i m₁ nx) (hoff : ∀ p ∈ nx, p.1 ≠ I)
    (F : Fr h₀ L s.heap (fun y => if y = Str.ofString "elem" then some (svs.getD (n + i) .none) else m₁ y)) (N : News h₀ L s.heap ((I, o) :: nx)) :
    wpAny (model PG w) A (execs nsK7b (nsEnv L)) (TurnPost h₀ L I o (HJ false g ns (fun j => [ns.getD j 0]) D 56 n [(L + 1, wK), (q, ⟨oc, od, .func fd, osl⟩)] led (i + 1)) s Q) E s := by
  have hlv := hI.length
  obtain ⟨vs, c, q0, T, ord, tt, to, tail, u, rfl, rfl, hD, hled, hal, hf, hinv⟩ := hJ
  dsimp only [List.cons_append, List.nil_append] at N hD hoff
  have hDI : @Ne Nat D I := hoff _ (.head _)
  have hWI : @Ne Nat (L + 1) I := hoff (L + 1, wK) (.tail _ (.head _))
  have hWD : @Ne Nat (L + 1) D := hD (L + 1, wK) (.head _)
  have hqI : @Ne Nat q I := hoff (q, _) (.tail _ (.tail _ (.head _)))
  have hqD : @Ne Nat q D := hD (q, _) (.tail _ (.head _))
  have hIt : ∀ p ∈ tail, p.1 ≠ I := fun p hp => hoff p (.tail _ (.tail _ (.tail _ hp)))
  replace hD : ∀ p ∈ tail, p.1 ≠ D := fun p hp => hD p (.tail _ (.tail _ hp))
  obtain ⟨te, ee⟩ := ints_getD hI (n + i) (lt_rest hi hlv)
  rw [ee] at F
  conv in (occs := *) nsK7b => all_goals whnf
  (all_goals try k_fold)
  refine post_gen fun P hP => ?_
  (repeat' (first | (k_unfold; (try dsimp only)) | ((fail_if_success (with_reducible show wpAny _ _ (PySem.exec (PySem.Stmt.While _ _ _ _) _) _ _ _)); (fail_if_success (with_reducible show KswEnd _ _ _ _ _ _ _ _ _ _ _ _)); (fail_if_success (with_reducible show wpAny _ _ (pyIter (Value.ref _)) _ _ _)); (fail_if_success (with_reducible show TurnEnd _ _ _ _ _ _ _)); (fail_if_success (with_reducible show wpAny _ _ (PySem.eval (PySem.Expr.ListComp _ _ _ _) _) _ _ _)); (fail_if_success (with_reducible show wpAny _ _ (PySem.exec (PySem.Stmt.Assign _ (PySem.Expr.ListComp _ _ _ _) _) _) _ _ _)); (fail_if_success (with_reducible show wpAny _ _ (PySem.call (Value.type "zip") _ _) _ _ _)); (fail_if_success (with_reducible show wpAny _ _ (PySem.call (Value.builtin "list.sort") _ _) _ _ _)); (fail_if_success (with_reducible show wpAny _ _ (PySem.assign (PySem.Expr.Tuple _ _ _) _ _) _ _ _)); (fail_if_success (with_reducible show wpAny _ _ (PySem.call (Value.ref _) _ _) _ _ _)); first | walk1 | (dsimp only; walk1)))); all_goals (try (with_reducible show P _ _; subst hP; (repeat' (first | (k_unfold; (try dsimp only)) | ((fail_if_success (with_reducible show wpAny _ _ (PySem.exec (PySem.Stmt.While _ _ _ _) _) _ _ _)); (fail_if_success (with_reducible show KswEnd _ _ _ _ _ _ _ _ _ _ _ _)); (fail_if_success (with_reducible show wpAny _ _ (pyIter (Value.ref _)) _ _ _)); (fail_if_success (with_reducible show TurnEnd _ _ _ _ _ _ _)); (fail_if_success (with_reducible show wpAny _ _ (PySem.eval (PySem.Expr.ListComp _ _ _ _) _) _ _ _)); (fail_if_success (with_reducible show wpAny _ _ (PySem.exec (PySem.Stmt.Assign _ (PySem.Expr.ListComp _ _ _ _) _) _) _ _ _)); (fail_if_success (with_reducible show wpAny _ _ (PySem.call (Value.type "zip") _ _) _ _ _)); (fail_if_success (with_reducible show wpAny _ _ (PySem.call (Value.builtin "list.sort") _ _) _ _ _)); (fail_if_success (with_reducible show wpAny _ _ (PySem.assign (PySem.Expr.Tuple _ _ _) _ _) _ _ _)); (fail_if_success (with_reducible show wpAny _ _ (PySem.call (Value.ref _) _ _) _ _ _)); first | walk1 | (dsimp only; walk1))))))
  refine hK A _ _ _ L _ _ _ _ hh (by omega) (by omega) F N (fun p hp => .tail _ (.tail _ (.tail _ (.tail _ (hled _ (hbase p hp)))))) ?_
  intro h3 tk3 t3 F3 N3
  clear F N
  (repeat' (first | (k_unfold; (try dsimp only)) | ((fail_if_success (with_reducible show wpAny _ _ (PySem.exec (PySem.Stmt.While _ _ _ _) _) _ _ _)); (fail_if_success (with_reducible show KswEnd _ _ _ _ _ _ _ _ _ _ _ _)); (fail_if_success (with_reducible show wpAny _ _ (pyIter (Value.ref _)) _ _ _)); (fail_if_success (with_reducible show TurnEnd _ _ _ _ _ _ _)); (fail_if_success (with_reducible show wpAny _ _ (PySem.eval (PySem.Expr.ListComp _ _ _ _) _) _ _ _)); (fail_if_success (with_reducible show wpAny _ _ (PySem.exec (PySem.Stmt.Assign _ (PySem.Expr.ListComp _ _ _ _) _) _) _ _ _)); (fail_if_success (with_reducible show wpAny _ _ (PySem.call (Value.type "zip") _ _) _ _ _)); (fail_if_success (with_reducible show wpAny _ _ (PySem.call (Value.builtin "list.sort") _ _) _ _ _)); (fail_if_success (with_reducible show wpAny _ _ (PySem.assign (PySem.Expr.Tuple _ _ _) _ _) _ _ _)); (fail_if_success (with_reducible show wpAny _ _ (PySem.call (Value.ref _) _ _) _ _ _)); first | walk1 | (dsimp only; walk1)))); all_goals (try (with_reducible show P _ _; subst hP; (repeat' (first | (k_unfold; (try dsimp only)) | ((fail_if_success (with_reducible show wpAny _ _ (PySem.exec (PySem.Stmt.While _ _ _ _) _) _ _ _)); (fail_if_success (with_reducible show KswEnd _ _ _ _ _ _ _ _ _ _ _ _)); (fail_if_success (with_reducible show wpAny _ _ (pyIter (Value.ref _)) _ _ _)); (fail_if_success (with_reducible show TurnEnd _ _ _ _ _ _ _)); (fail_if_success (with_reducible show wpAny _ _ (PySem.eval (PySem.Expr.ListComp _ _ _ _) _) _ _ _)); (fail_if_success (with_reducible show wpAny _ _ (PySem.exec (PySem.Stmt.Assign _ (PySem.Expr.ListComp _ _ _ _) _) _) _ _ _)); (fail_if_success (with_reducible show wpAny _ _ (PySem.call (Value.type "zip") _ _) _ _ _)); (fail_if_success (with_reducible show wpAny _ _ (PySem.call (Value.builtin "list.sort") _ _) _ _ _)); (fail_if_success (with_reducible show wpAny _ _ (PySem.assign (PySem.Expr.Tuple _ _ _) _ _) _ _ _)); (fail_if_success (with_reducible show wpAny _ _ (PySem.call (Value.ref _) _ _) _ _ _)); first | walk1 | (dsimp only; walk1))))))
  · -- the item goes into the heap
    rename _ < _ => hlt
    (try dsimp only at hlt)
    rename Fr _ _ _ _ => F4
    with_reducible rename News _ _ _ _ => N4
    rename _ ∧ _ => l4
    rename_i T' _
    obtain ⟨oT, hmk, N4⟩ := tup_head N4 (ks := Fm false g ns (fun j => [ns.getD j 0]) (n + i, ord)) ⟨rfl, [_, _, _], _, rfl, .cons _ _ (.cons _ _ (.cons _ _ .nil))⟩
    have hTD : @Ne Nat T' D := Nat.ne_of_gt l4.2.1
    have hTI : @Ne Nat T' I := Nat.ne_of_gt l4.1
    have hTW : @LT.lt Nat _ (L + 1) T' := l4.2.2.1
    have hlen4 := hinv.len
    refine heapreplaceT false (N := 3) (tups := (T', oT) :: tail) (x := .ref T') (kx := Fm false g ns (fun j => [ns.getD j 0]) (n + i, ord)) F4 N4 (.tail hTD (.tail (Ne.symm hDI) (.head (List.forall_mem_cons.mpr ⟨hWD, List.forall_mem_cons.mpr ⟨hqD, hD⟩⟩)))) X T5 (by omega) (by omega) hh (hal.mono fun p hp => .tail _ hp)
      ⟨T', oT, rfl, .head _, hmk⟩ ?hsub ?hN rfl ?hlen ?hne hf ?_
    case hsub =>
      intro p hp
      rcases List.mem_cons.mp hp with rfl | hp
      · exact ⟨.head _, hTD⟩
      · exact ⟨.tail _ (.tail _ (.tail _ (.tail _ (.tail _ hp)))), hD p hp⟩
    case hN =>
      intro ks hks
      obtain ⟨q, _, rfl⟩ := List.mem_map.mp hks
      rfl
    case hlen => rw [List.length_map]; exact len_small hlen hi hlv hlen4
    case hne => simp
    intro h5 tk5 c5 ws5 es5 v5 F5 N5 hal5 hp5 hf5
    obtain ⟨K, hK, rfl⟩ := perm_lift (l := (n + i, ord) :: T) (f := Fm false g ns (fun j => [ns.getD j 0])) hp5
    have hinv5 := (hinv.yes (topOf_of (k := 1) (fun _ => rfl) hf) (by unfold kap; simp only [sgn, Bool.false_eq_true, if_false, if_true]; omega)).perm hK
    obtain ⟨k0, K', rfl⟩ : ∃ k0 K', K = k0 :: K' := by
      cases K with
      | nil => have := hK.length_eq; simp at this
      | cons a l => exact ⟨a, l, rfl⟩
    clear hal hf F4 hK hp5
    have N6 : News h₀ L h5 ((I, o) :: (D, PySem.W.listOf ws5.toArray c5) :: (L + 1, wK) :: (q, ⟨oc, od, .func fd, osl⟩) :: ((T', oT) :: tail)) := fun q hq => N5 q (by
      rcases List.mem_cons.mp hq with rfl | hq
      · exact .tail _ (.head _)
      · rcases List.mem_cons.mp hq with rfl | hq
        · exact .tail _ (.tail _ (.head _))
        · rcases List.mem_cons.mp hq with rfl | hq
          · exact .tail _ (.tail _ (.tail _ (.head _)))
          · rcases List.mem_cons.mp hq with rfl | hq
            · exact .tail _ (.tail _ (.tail _ (.tail _ (.head _))))
            · rcases List.mem_cons.mp hq with rfl | hq
              · exact .head _
              · exact .tail _ (.tail _ (.tail _ (.tail _ (.tail _ hq)))))
    have hD6 : ∀ p ∈ (T', oT) :: tail, p.1 ≠ D := List.forall_mem_cons.mpr ⟨hTD, hD⟩
    have hI6 : ∀ p ∈ (T', oT) :: tail, p.1 ≠ I := List.forall_mem_cons.mpr ⟨hTI, hIt⟩
    have hled6 : ∀ p ∈ led, p ∈ (T', oT) :: tail := fun p hp => .tail _ (hled p hp)
    clear N5 N4 hD hled
    generalize (T', oT) :: tail = tail6 at *
    have hds : 0 < ((k0 :: K').map (Fm false g ns (fun j => [ns.getD j 0]))).length := by simp
    (all_goals try k_fold)
    (repeat' (first | (k_unfold; (try dsimp only)) | ((fail_if_success (with_reducible show wpAny _ _ (PySem.exec (PySem.Stmt.While _ _ _ _) _) _ _ _)); (fail_if_success (with_reducible show KswEnd _ _ _ _ _ _ _ _ _ _ _ _)); (fail_if_success (with_reducible show wpAny _ _ (pyIter (Value.ref _)) _ _ _)); (fail_if_success (with_reducible show TurnEnd _ _ _ _ _ _ _)); (fail_if_success (with_reducible show wpAny _ _ (PySem.eval (PySem.Expr.ListComp _ _ _ _) _) _ _ _)); (fail_if_success (with_reducible show wpAny _ _ (PySem.exec (PySem.Stmt.Assign _ (PySem.Expr.ListComp _ _ _ _) _) _) _ _ _)); (fail_if_success (with_reducible show wpAny _ _ (PySem.call (Value.type "zip") _ _) _ _ _)); (fail_if_success (with_reducible show wpAny _ _ (PySem.call (Value.builtin "list.sort") _ _) _ _ _)); (fail_if_success (with_reducible show wpAny _ _ (PySem.assign (PySem.Expr.Tuple _ _ _) _ _) _ _ _)); (fail_if_success (with_reducible show wpAny _ _ (PySem.call (Value.ref _) _ _) _ _ _)); first | walk1 | (dsimp only; walk1)))); all_goals (try (with_reducible show P _ _; subst hP; (repeat' (first | (k_unfold; (try dsimp only)) | ((fail_if_success (with_reducible show wpAny _ _ (PySem.exec (PySem.Stmt.While _ _ _ _) _) _ _ _)); (fail_if_success (with_reducible show KswEnd _ _ _ _ _ _ _ _ _ _ _ _)); (fail_if_success (with_reducible show wpAny _ _ (pyIter (Value.ref _)) _ _ _)); (fail_if_success (with_reducible show TurnEnd _ _ _ _ _ _ _)); (fail_if_success (with_reducible show wpAny _ _ (PySem.eval (PySem.Expr.ListComp _ _ _ _) _) _ _ _)); (fail_if_success (with_reducible show wpAny _ _ (PySem.exec (PySem.Stmt.Assign _ (PySem.Expr.ListComp _ _ _ _) _) _) _ _ _)); (fail_if_success (with_reducible show wpAny _ _ (PySem.call (Value.type "zip") _ _) _ _ _)); (fail_if_success (with_reducible show wpAny _ _ (PySem.call (Value.builtin "list.sort") _ _) _ _ _)); (fail_if_success (with_reducible show wpAny _ _ (PySem.assign (PySem.Expr.Tuple _ _ _) _ _) _ _ _)); (fail_if_success (with_reducible show wpAny _ _ (PySem.call (Value.ref _) _ _) _ _ _)); first | walk1 | (dsimp only; walk1))))))
    rename IsTup _ _ _ => ht6
    rename IntsAre _ (List.getD _ _ _) => hi6
    replace hi6 : IntsAre _ [g (ns.getD k0.1 0), sgn false k0.2, ns.getD k0.1 0] := hi6
    cases hi6 with
    | cons _ tt6 hi6 =>
      cases hi6 with
      | cons _ to6 hi6 =>
        cases hi6 with
        | cons _ te6 hi6 =>
          cases hi6
          refine unpackN3 hh F5 N6 ht6 (by rfl) (by rfl) (by rfl) (by rfl) ?_
          intro h7 tk7 F7 N7
          clear F5 N6 ht6
          (all_goals try k_fold)
          (repeat' (first | (k_unfold; (try dsimp only)) | ((fail_if_success (with_reducible show wpAny _ _ (PySem.exec (PySem.Stmt.While _ _ _ _) _) _ _ _)); (fail_if_success (with_reducible show KswEnd _ _ _ _ _ _ _ _ _ _ _ _)); (fail_if_success (with_reducible show wpAny _ _ (pyIter (Value.ref _)) _ _ _)); (fail_if_success (with_reducible show TurnEnd _ _ _ _ _ _ _)); (fail_if_success (with_reducible show wpAny _ _ (PySem.eval (PySem.Expr.ListComp _ _ _ _) _) _ _ _)); (fail_if_success (with_reducible show wpAny _ _ (PySem.exec (PySem.Stmt.Assign _ (PySem.Expr.ListComp _ _ _ _) _) _) _ _ _)); (fail_if_success (with_reducible show wpAny _ _ (PySem.call (Value.type "zip") _ _) _ _ _)); (fail_if_success (with_reducible show wpAny _ _ (PySem.call (Value.builtin "list.sort") _ _) _ _ _)); (fail_if_success (with_reducible show wpAny _ _ (PySem.assign (PySem.Expr.Tuple _ _ _) _ _) _ _ _)); (fail_if_success (with_reducible show wpAny _ _ (PySem.call (Value.ref _) _ _) _ _ _)); first | walk1 | (dsimp only; walk1)))); all_goals (try (with_reducible show P _ _; subst hP; (repeat' (first | (k_unfold; (try dsimp only)) | ((fail_if_success (with_reducible show wpAny _ _ (PySem.exec (PySem.Stmt.While _ _ _ _) _) _ _ _)); (fail_if_success (with_reducible show KswEnd _ _ _ _ _ _ _ _ _ _ _ _)); (fail_if_success (with_reducible show wpAny _ _ (pyIter (Value.ref _)) _ _ _)); (fail_if_success (with_reducible show TurnEnd _ _ _ _ _ _ _)); (fail_if_success (with_reducible show wpAny _ _ (PySem.eval (PySem.Expr.ListComp _ _ _ _) _) _ _ _)); (fail_if_success (with_reducible show wpAny _ _ (PySem.exec (PySem.Stmt.Assign _ (PySem.Expr.ListComp _ _ _ _) _) _) _ _ _)); (fail_if_success (with_reducible show wpAny _ _ (PySem.call (Value.type "zip") _ _) _ _ _)); (fail_if_success (with_reducible show wpAny _ _ (PySem.call (Value.builtin "list.sort") _ _) _ _ _)); (fail_if_success (with_reducible show wpAny _ _ (PySem.assign (PySem.Expr.Tuple _ _ _) _ _) _ _ _)); (fail_if_success (with_reducible show wpAny _ _ (PySem.call (Value.ref _) _ _) _ _ _)); first | walk1 | (dsimp only; walk1))))))
          rename Fr _ _ _ _ => F8
          with_reducible rename News _ _ _ _ => N8
          have hso : sgn false ord + 1 = sgn false (ord + 1) := by unfold sgn; simp only [Bool.false_eq_true, if_false, if_true]
          have F9 := fr4 (x := Str.ofString "result") (y := Str.ofString "top") (z := Str.ofString "order") (v := Str.ofString "_heapreplace") F8 rfl rfl (congrArg (fun z => some (Value.int z _)) hso) rfl
          refine ⟨_, _, _, _, rfl, F9, N8, List.forall_mem_cons.mpr ⟨hDI, List.forall_mem_cons.mpr ⟨hWI, List.forall_mem_cons.mpr ⟨hqI, hI6⟩⟩⟩, ws5, c5, k0, K', ord + 1, _, _, tail6, _, rfl, rfl, List.forall_mem_cons.mpr ⟨hWD, List.forall_mem_cons.mpr ⟨hqD, hD6⟩⟩, hled6, hal5, hf5, ?_⟩
          exact hinv5
  · -- the heap stays
    rename ¬ _ < _ => hnlt
    (try dsimp only at hnlt)
    rename Fr _ _ _ _ => F8
    with_reducible rename News _ _ _ _ => N8
    have F9 := fr4 (x := Str.ofString "result") (y := Str.ofString "top") (z := Str.ofString "order") (v := Str.ofString "_heapreplace") F8 rfl rfl rfl rfl
    refine ⟨_, _, _, _, rfl, F9, N8, hoff, vs, c, q0, T, ord, tt, to, tail, _, rfl, rfl, List.forall_mem_cons.mpr ⟨hWD, List.forall_mem_cons.mpr ⟨hqD, hD⟩⟩, hled, hal, hf, ?_⟩
    exact hinv.no (topOf_of (k := 1) (fun _ => rfl) hf) (by unfold kap; simp only [sgn, Bool.false_eq_true, if_false, if_true]; omega)
end

-- WK2
section
theorem nsK_tail {w : World} {A : Around} {s : Shared} {Q : Flow → Shared → Prop} {mg mb : Str → Option Value} {p : Program} {loose : List Str} {h₀ : Heap} {L sl D I : Addr} {oI : Obj} {svs ys : List Value} {ns ms : List Int} {led tail : List (Addr × Obj)} {u : Str → Option Value} {n c : Nat} {t : Tok} {g : Int → Int} {q : Addr} {base : List (Addr × Obj)} {wK : Obj} {oc : Value} {od : Option Addr} {fd : FuncData} {osl : Array (Option Value)}
    (X : (hd.heap_1 w.params).In h₀) (T5 : TopRead p loose mg mb h₀) (hsl : h₀.IsList sl svs.toArray) (hK : KeyOk w h₀ q base g) (hw : wK.data = .cell (some (.ref q))) (hbase : ∀ p ∈ base, p ∈ led) (hwm : (L + 1, wK) ∈ led) (hqm : (q, ⟨oc, od, .func fd, osl⟩) ∈ led) (hI : IntsAre svs ns) (hlen : ns.length < 64) (hd : A.depth < 850) (hu : A.units < 8500) (hh : A.handled = none) (hn2 : n = 0 ∨ 2 ≤ n) (hnl : n < ns.length)
    (F : Fr h₀ L s.heap (fun y => if y = Str.ofString "result" then some (.ref D) else if y = Str.ofString "it" then some (.ref I) else if y = Str.ofString "n" then some (.int (n : Nat) t) else u y)) (N : News h₀ L s.heap ((D, PySem.W.listOf ys.toArray c) :: (I, oI) :: tail))
    (hID : @Ne Nat I D) (hD : ∀ p ∈ tail, p.1 ≠ D) (hIo : ∀ p ∈ tail, p.1 ≠ I) (hlit : IsLit oI sl n) (hled : ∀ p ∈ led, p ∈ tail) (hbel : ∀ p ∈ led, @LT.lt Nat _ p.1 D)
    (hal : Al tail ys ((List.range n).map fun i => fD false g ns (fun j => [ns.getD j 0]) i ((i : Nat) : Int))) (hst : Stab (fun x => sgn false (g x)) ns ms)
    (h : ∀ D ws c h' tk m', Fr h₀ L h' m' → News h₀ L h' ((D, PySem.W.listOf (List.toArray ws) c) :: led) → (∀ q ∈ led, @LT.lt Nat _ q.1 D) → IntsAre ws (ms.take n) → Q (.ret (.ref D)) { s with heap := h', toks := tk }) :
    wpAny (model PG w) A (execs [nsK2, nsK3, nsK4, nsK5, nsK6, nsK7, nsK8, nsK9] (nsEnv L)) Q (fun _ _ => False) s := by
  have hlv := hI.length
  have hys := hal.length
  rw [List.length_map, List.length_range] at hys
  obtain ⟨r3, hr3⟩ : ∃ r, r = [nsK3, nsK4, nsK5, nsK6, nsK7, nsK8, nsK9] := ⟨_, rfl⟩
  rw [← hr3]
  refine wpAny_execs_cons ?_
  conv in (occs := *) nsK2 => all_goals whnf
  (all_goals try k_fold)
  (repeat' (first | (k_unfold; (try dsimp only)) | ((fail_if_success (with_reducible show wpAny _ _ (PySem.exec (PySem.Stmt.While _ _ _ _) _) _ _ _)); (fail_if_success (with_reducible show KswEnd _ _ _ _ _ _ _ _ _ _ _ _)); (fail_if_success (with_reducible show wpAny _ _ (pyIter (Value.ref _)) _ _ _)); (fail_if_success (with_reducible show TurnEnd _ _ _ _ _ _ _)); (fail_if_success (with_reducible show wpAny _ _ (PySem.eval (PySem.Expr.ListComp _ _ _ _) _) _ _ _)); (fail_if_success (with_reducible show wpAny _ _ (PySem.exec (PySem.Stmt.Assign _ (PySem.Expr.ListComp _ _ _ _) _) _) _ _ _)); (fail_if_success (with_reducible show wpAny _ _ (PySem.call (Value.type "zip") _ _) _ _ _)); (fail_if_success (with_reducible show wpAny _ _ (PySem.call (Value.builtin "list.sort") _ _) _ _ _)); (fail_if_success (with_reducible show wpAny _ _ (PySem.assign (PySem.Expr.Tuple _ _ _) _ _) _ _ _)); (fail_if_success (with_reducible show wpAny _ _ (PySem.call (Value.ref _) _ _) _ _ _)); first | walk1 | (dsimp only; walk1))))
  rotate_left
  · -- the list is empty
    rename ¬ _ < _ => hz
    have hn0 : n = 0 := by omega
    subst hn0
    obtain rfl := List.length_eq_zero_iff.mp hys
    exact h D [] c _ _ _ F (fun q hq => N q (by
      rcases List.mem_cons.mp hq with rfl | hq
      · exact .head _
      · exact .tail _ (.tail _ (hled q hq)))) hbel (by rw [List.take_zero]; exact .nil)
  rename 0 < _ => hpos
  subst hr3
  refine wpAny_execs_cons ?_
  obtain ⟨r4, hr4⟩ : ∃ r, r = [nsK4, nsK5, nsK6, nsK7, nsK8, nsK9] := ⟨_, rfl⟩
  rw [← hr4]
  conv in (occs := *) nsK3 => all_goals whnf
  (all_goals try k_fold)
  (repeat' (first | (k_unfold; (try dsimp only)) | ((fail_if_success (with_reducible show wpAny _ _ (PySem.exec (PySem.Stmt.While _ _ _ _) _) _ _ _)); (fail_if_success (with_reducible show KswEnd _ _ _ _ _ _ _ _ _ _ _ _)); (fail_if_success (with_reducible show wpAny _ _ (pyIter (Value.ref _)) _ _ _)); (fail_if_success (with_reducible show TurnEnd _ _ _ _ _ _ _)); (fail_if_success (with_reducible show wpAny _ _ (PySem.eval (PySem.Expr.ListComp _ _ _ _) _) _ _ _)); (fail_if_success (with_reducible show wpAny _ _ (PySem.exec (PySem.Stmt.Assign _ (PySem.Expr.ListComp _ _ _ _) _) _) _ _ _)); (fail_if_success (with_reducible show wpAny _ _ (PySem.call (Value.type "zip") _ _) _ _ _)); (fail_if_success (with_reducible show wpAny _ _ (PySem.call (Value.builtin "list.sort") _ _) _ _ _)); (fail_if_success (with_reducible show wpAny _ _ (PySem.assign (PySem.Expr.Tuple _ _ _) _ _) _ _ _)); (fail_if_success (with_reducible show wpAny _ _ (PySem.call (Value.ref _) _ _) _ _ _)); first | walk1 | (dsimp only; walk1))))
  refine heapifyT false (N := 3) F N (.head (List.forall_mem_cons.mpr ⟨hID, hD⟩)) X T5 (by omega) (by omega) hh hal (fun p hp => ⟨.tail _ (.tail _ hp), hD p hp⟩) (by
    intro ks hks
    obtain ⟨i, _, rfl⟩ := List.mem_map.mp hks
    rfl) (by simp only [List.length_map, List.length_range]; omega) ?_
  intro h1 tk1 c1 ws1 es1 F1 N1 hal1 hp1 hf1
  clear F N
  (repeat' (first | (k_unfold; (try dsimp only)) | ((fail_if_success (with_reducible show wpAny _ _ (PySem.exec (PySem.Stmt.While _ _ _ _) _) _ _ _)); (fail_if_success (with_reducible show KswEnd _ _ _ _ _ _ _ _ _ _ _ _)); (fail_if_success (with_reducible show wpAny _ _ (pyIter (Value.ref _)) _ _ _)); (fail_if_success (with_reducible show TurnEnd _ _ _ _ _ _ _)); (fail_if_success (with_reducible show wpAny _ _ (PySem.eval (PySem.Expr.ListComp _ _ _ _) _) _ _ _)); (fail_if_success (with_reducible show wpAny _ _ (PySem.exec (PySem.Stmt.Assign _ (PySem.Expr.ListComp _ _ _ _) _) _) _ _ _)); (fail_if_success (with_reducible show wpAny _ _ (PySem.call (Value.type "zip") _ _) _ _ _)); (fail_if_success (with_reducible show wpAny _ _ (PySem.call (Value.builtin "list.sort") _ _) _ _ _)); (fail_if_success (with_reducible show wpAny _ _ (PySem.assign (PySem.Expr.Tuple _ _ _) _ _) _ _ _)); (fail_if_success (with_reducible show wpAny _ _ (PySem.call (Value.ref _) _ _) _ _ _)); first | walk1 | (dsimp only; walk1))))
  have hes : es1.length = n := by rw [hp1.length_eq, List.length_map, List.length_range]
  -- the data as the first n indices
  have emap : (List.range n).map (fun i => fD false g ns (fun j => [ns.getD j 0]) i ((i : Nat) : Int)) = ((List.range n).map fun i => (i, ((i : Nat) : Int))).map (Fm false g ns (fun j => [ns.getD j 0])) := by rw [List.map_map]; rfl
  rw [emap] at hp1
  obtain ⟨K, hK, rfl⟩ := perm_lift hp1
  have hinv1 := (HInv.start (b := false) (g := g) (ns := ns) (n := n)).perm hK
  obtain ⟨k0, K', rfl⟩ : ∃ k0 K', K = k0 :: K' := by
    cases K with
    | nil => rw [List.length_map, List.length_nil] at hes; omega
    | cons a l => exact ⟨a, l, rfl⟩
  clear hal hp1 emap hK
  subst hr4
  refine wpAny_execs_cons ?_
  obtain ⟨r5, hr5⟩ : ∃ r, r = [nsK5, nsK6, nsK7, nsK8, nsK9] := ⟨_, rfl⟩
  rw [← hr5]
  conv in (occs := *) nsK4 => all_goals whnf
  have hds : 0 < ((k0 :: K').map (Fm false g ns (fun j => [ns.getD j 0]))).length := by simp
  have hk0 : 0 < (((k0 :: K').map (Fm false g ns (fun j => [ns.getD j 0]))).getD 0 []).length := by
    show 0 < (fD false g ns (fun j => [ns.getD j 0]) k0.1 k0.2).length
    simp [fD]
  (all_goals try k_fold)
  (repeat' (first | (k_unfold; (try dsimp only)) | ((fail_if_success (with_reducible show wpAny _ _ (PySem.exec (PySem.Stmt.While _ _ _ _) _) _ _ _)); (fail_if_success (with_reducible show KswEnd _ _ _ _ _ _ _ _ _ _ _ _)); (fail_if_success (with_reducible show wpAny _ _ (pyIter (Value.ref _)) _ _ _)); (fail_if_success (with_reducible show TurnEnd _ _ _ _ _ _ _)); (fail_if_success (with_reducible show wpAny _ _ (PySem.eval (PySem.Expr.ListComp _ _ _ _) _) _ _ _)); (fail_if_success (with_reducible show wpAny _ _ (PySem.exec (PySem.Stmt.Assign _ (PySem.Expr.ListComp _ _ _ _) _) _) _ _ _)); (fail_if_success (with_reducible show wpAny _ _ (PySem.call (Value.type "zip") _ _) _ _ _)); (fail_if_success (with_reducible show wpAny _ _ (PySem.call (Value.builtin "list.sort") _ _) _ _ _)); (fail_if_success (with_reducible show wpAny _ _ (PySem.assign (PySem.Expr.Tuple _ _ _) _ _) _ _ _)); (fail_if_success (with_reducible show wpAny _ _ (PySem.call (Value.ref _) _ _) _ _ _)); first | walk1 | (dsimp only; walk1))))
  rename Fr _ _ _ _ => F2
  with_reducible rename News _ _ _ _ => N2
  (try clear F1); (try clear N1)
  subst hr5
  refine wpAny_execs_cons ?_
  obtain ⟨r6, hr6⟩ : ∃ r, r = [nsK6, nsK7, nsK8, nsK9] := ⟨_, rfl⟩
  rw [← hr6]
  conv in (occs := *) nsK5 => all_goals whnf
  (all_goals try k_fold)
  (repeat' (first | (k_unfold; (try dsimp only)) | ((fail_if_success (with_reducible show wpAny _ _ (PySem.exec (PySem.Stmt.While _ _ _ _) _) _ _ _)); (fail_if_success (with_reducible show KswEnd _ _ _ _ _ _ _ _ _ _ _ _)); (fail_if_success (with_reducible show wpAny _ _ (pyIter (Value.ref _)) _ _ _)); (fail_if_success (with_reducible show TurnEnd _ _ _ _ _ _ _)); (fail_if_success (with_reducible show wpAny _ _ (PySem.eval (PySem.Expr.ListComp _ _ _ _) _) _ _ _)); (fail_if_success (with_reducible show wpAny _ _ (PySem.exec (PySem.Stmt.Assign _ (PySem.Expr.ListComp _ _ _ _) _) _) _ _ _)); (fail_if_success (with_reducible show wpAny _ _ (PySem.call (Value.type "zip") _ _) _ _ _)); (fail_if_success (with_reducible show wpAny _ _ (PySem.call (Value.builtin "list.sort") _ _) _ _ _)); (fail_if_success (with_reducible show wpAny _ _ (PySem.assign (PySem.Expr.Tuple _ _ _) _ _) _ _ _)); (fail_if_success (with_reducible show wpAny _ _ (PySem.call (Value.ref _) _ _) _ _ _)); first | walk1 | (dsimp only; walk1))))
  rename Fr _ _ _ _ => F3
  with_reducible rename News _ _ _ _ => N3
  (try clear F2); (try clear N2)
  subst hr6
  refine wpAny_execs_cons ?_
  obtain ⟨r7, hr7⟩ : ∃ r, r = [nsK7, nsK8, nsK9] := ⟨_, rfl⟩
  rw [← hr7]
  conv in (occs := *) nsK6 => all_goals whnf
  (all_goals try k_fold)
  (repeat' (first | (k_unfold; (try dsimp only)) | ((fail_if_success (with_reducible show wpAny _ _ (PySem.exec (PySem.Stmt.While _ _ _ _) _) _ _ _)); (fail_if_success (with_reducible show KswEnd _ _ _ _ _ _ _ _ _ _ _ _)); (fail_if_success (with_reducible show wpAny _ _ (pyIter (Value.ref _)) _ _ _)); (fail_if_success (with_reducible show TurnEnd _ _ _ _ _ _ _)); (fail_if_success (with_reducible show wpAny _ _ (PySem.eval (PySem.Expr.ListComp _ _ _ _) _) _ _ _)); (fail_if_success (with_reducible show wpAny _ _ (PySem.exec (PySem.Stmt.Assign _ (PySem.Expr.ListComp _ _ _ _) _) _) _ _ _)); (fail_if_success (with_reducible show wpAny _ _ (PySem.call (Value.type "zip") _ _) _ _ _)); (fail_if_success (with_reducible show wpAny _ _ (PySem.call (Value.builtin "list.sort") _ _) _ _ _)); (fail_if_success (with_reducible show wpAny _ _ (PySem.assign (PySem.Expr.Tuple _ _ _) _ _) _ _ _)); (fail_if_success (with_reducible show wpAny _ _ (PySem.call (Value.ref _) _ _) _ _ _)); first | walk1 | (dsimp only; walk1))))
  rename Fr _ _ _ _ => F4
  with_reducible rename News _ _ _ _ => N4
  subst hr7
  refine wpAny_execs_cons ?_
  obtain ⟨r8, hr8⟩ : ∃ r, r = [nsK8, nsK9] := ⟨_, rfl⟩
  rw [← hr8]
  conv in (occs := *) nsK7 => all_goals whnf
  refine For_invVF F4 (by with_unfolding_all rfl) (by with_unfolding_all rfl) ?_
  (all_goals try k_fold)
  (repeat' (first | (k_unfold; (try dsimp only)) | ((fail_if_success (with_reducible show wpAny _ _ (PySem.exec (PySem.Stmt.While _ _ _ _) _) _ _ _)); (fail_if_success (with_reducible show KswEnd _ _ _ _ _ _ _ _ _ _ _ _)); (fail_if_success (with_reducible show wpAny _ _ (pyIter (Value.ref _)) _ _ _)); (fail_if_success (with_reducible show TurnEnd _ _ _ _ _ _ _)); (fail_if_success (with_reducible show wpAny _ _ (PySem.eval (PySem.Expr.ListComp _ _ _ _) _) _ _ _)); (fail_if_success (with_reducible show wpAny _ _ (PySem.exec (PySem.Stmt.Assign _ (PySem.Expr.ListComp _ _ _ _) _) _) _ _ _)); (fail_if_success (with_reducible show wpAny _ _ (PySem.call (Value.type "zip") _ _) _ _ _)); (fail_if_success (with_reducible show wpAny _ _ (PySem.call (Value.builtin "list.sort") _ _) _ _ _)); (fail_if_success (with_reducible show wpAny _ _ (PySem.assign (PySem.Expr.Tuple _ _ _) _ _) _ _ _)); (fail_if_success (with_reducible show wpAny _ _ (PySem.call (Value.ref _) _ _) _ _ _)); first | walk1 | (dsimp only; walk1))))
  refine iter_lit_g (env := nsEnv L) (HJ false g ns (fun j => [ns.getD j 0]) D 56 n [(L + 1, wK), (q, ⟨oc, od, .func fd, osl⟩)] led) hh hlit (by omega) hsl (news := (D, PySem.W.listOf ws1.toArray c1) :: (L + 1, wK) :: (q, ⟨oc, od, .func fd, osl⟩) :: tail) (List.forall_mem_cons.mpr ⟨Ne.symm hID, List.forall_mem_cons.mpr ⟨hIo _ (hled _ hwm), List.forall_mem_cons.mpr ⟨hIo _ (hled _ hqm), hIo⟩⟩⟩)
    (fr4 (x := Str.ofString "result") (y := Str.ofString "top") (z := Str.ofString "order") (v := Str.ofString "_heapreplace") F4 rfl rfl rfl rfl) (fun q hq => N4 q ?_) ⟨ws1, c1, k0, K', n, _, _, tail, _, rfl, rfl, List.forall_mem_cons.mpr ⟨hD _ (hled _ hwm), List.forall_mem_cons.mpr ⟨hD _ (hled _ hqm), hD⟩⟩, hled, hal1, hf1, hinv1⟩ ?_ ?_
  · rcases List.mem_cons.mp hq with rfl | hq
    · exact .tail _ (.head _)
    · rcases List.mem_cons.mp hq with rfl | hq
      · exact .head _
      · rcases List.mem_cons.mp hq with rfl | hq
        · exact .tail _ (.tail _ (hled _ hwm))
        · rcases List.mem_cons.mp hq with rfl | hq
          · exact .tail _ (.tail _ (hled _ hqm))
          · exact .tail _ (.tail _ hq)
  · intro i m₁ nx h5 tk5 o hi hJ hoff F5 N5
    exact nsK_turn X T5 hK hw hbase hI hlen hd hu hh hi hJ hoff F5 N5
  clear hal1 hf1 hinv1 hes hds hk0
  rintro _ _ h5 tk5 ⟨vs, c5, q0, T, ord, tt, to, tail5, u5, rfl, rfl, hD5, hled5, hal5, hf5, hinv5⟩ F5 N5
  replace N5 : News h₀ (nsEnv L).locals h5 ((D, PySem.W.listOf vs.toArray c5) :: tail5) := fun p hp => N5 p (by
    rcases List.mem_cons.mp hp with rfl | hp
    · exact .head _
    · exact .tail _ (.tail _ (.tail _ hp)))
  replace hD5 : ∀ p ∈ tail5, p.1 ≠ D := fun p hp => hD5 p (.tail _ (.tail _ hp))
  clear F4 N4
  subst hr8
  dsimp only
  refine wpAny_execs_cons ?_
  obtain ⟨r9, hr9⟩ : ∃ r, r = [nsK9] := ⟨_, rfl⟩
  rw [← hr9]
  conv in (occs := *) nsK8 => all_goals whnf
  (all_goals try k_fold)
  (repeat' (first | (k_unfold; (try dsimp only)) | ((fail_if_success (with_reducible show wpAny _ _ (PySem.exec (PySem.Stmt.While _ _ _ _) _) _ _ _)); (fail_if_success (with_reducible show KswEnd _ _ _ _ _ _ _ _ _ _ _ _)); (fail_if_success (with_reducible show wpAny _ _ (pyIter (Value.ref _)) _ _ _)); (fail_if_success (with_reducible show TurnEnd _ _ _ _ _ _ _)); (fail_if_success (with_reducible show wpAny _ _ (PySem.eval (PySem.Expr.ListComp _ _ _ _) _) _ _ _)); (fail_if_success (with_reducible show wpAny _ _ (PySem.exec (PySem.Stmt.Assign _ (PySem.Expr.ListComp _ _ _ _) _) _) _ _ _)); (fail_if_success (with_reducible show wpAny _ _ (PySem.call (Value.type "zip") _ _) _ _ _)); (fail_if_success (with_reducible show wpAny _ _ (PySem.call (Value.builtin "list.sort") _ _) _ _ _)); (fail_if_success (with_reducible show wpAny _ _ (PySem.assign (PySem.Expr.Tuple _ _ _) _ _) _ _ _)); (fail_if_success (with_reducible show wpAny _ _ (PySem.call (Value.ref _) _ _) _ _ _)); first | walk1 | (dsimp only; walk1))))
  have hlq := hinv5.len
  refine tsort false (N := 3) (tups := tail5) F5 N5 (.head hD5) hal5 (fun p hp => ⟨.tail _ hp, hD5 p hp⟩) (by
    intro ks hks
    obtain ⟨q, _, rfl⟩ := List.mem_map.mp hks
    rfl) (by decide) (by rw [List.length_map]; omega) (by rw [List.length_map]; omega) (args_list_sort _) rfl ?_
  intro h6 c6 ws6 es6 F6 N6 hal6 hp6 hs6
  obtain ⟨K, hK, rfl⟩ := perm_lift hp6
  have hinv6 := hinv5.perm hK
  rw [show n + (svs.length - n) = ns.length by omega] at hinv6
  clear hal5 hf5 hinv5 hp6 hK F5 N5
  (repeat' (first | (k_unfold; (try dsimp only)) | ((fail_if_success (with_reducible show wpAny _ _ (PySem.exec (PySem.Stmt.While _ _ _ _) _) _ _ _)); (fail_if_success (with_reducible show KswEnd _ _ _ _ _ _ _ _ _ _ _ _)); (fail_if_success (with_reducible show wpAny _ _ (pyIter (Value.ref _)) _ _ _)); (fail_if_success (with_reducible show TurnEnd _ _ _ _ _ _ _)); (fail_if_success (with_reducible show wpAny _ _ (PySem.eval (PySem.Expr.ListComp _ _ _ _) _) _ _ _)); (fail_if_success (with_reducible show wpAny _ _ (PySem.exec (PySem.Stmt.Assign _ (PySem.Expr.ListComp _ _ _ _) _) _) _ _ _)); (fail_if_success (with_reducible show wpAny _ _ (PySem.call (Value.type "zip") _ _) _ _ _)); (fail_if_success (with_reducible show wpAny _ _ (PySem.call (Value.builtin "list.sort") _ _) _ _ _)); (fail_if_success (with_reducible show wpAny _ _ (PySem.assign (PySem.Expr.Tuple _ _ _) _ _) _ _ _)); (fail_if_success (with_reducible show wpAny _ _ (PySem.call (Value.ref _) _ _) _ _ _)); first | walk1 | (dsimp only; walk1))))
  rename Fr _ _ _ _ => F7
  with_reducible rename News _ _ _ _ => N7
  subst hr9
  refine wpAny_execs_cons ?_
  conv in (occs := *) nsK9 => all_goals whnf
  (all_goals try k_fold)
  (repeat' (first | (k_unfold; (try dsimp only)) | ((fail_if_success (with_reducible show wpAny _ _ (PySem.exec (PySem.Stmt.While _ _ _ _) _) _ _ _)); (fail_if_success (with_reducible show KswEnd _ _ _ _ _ _ _ _ _ _ _ _)); (fail_if_success (with_reducible show wpAny _ _ (pyIter (Value.ref _)) _ _ _)); (fail_if_success (with_reducible show TurnEnd _ _ _ _ _ _ _)); (fail_if_success (with_reducible show wpAny _ _ (PySem.eval (PySem.Expr.ListComp _ _ _ _) _) _ _ _)); (fail_if_success (with_reducible show wpAny _ _ (PySem.exec (PySem.Stmt.Assign _ (PySem.Expr.ListComp _ _ _ _) _) _) _ _ _)); (fail_if_success (with_reducible show wpAny _ _ (PySem.call (Value.type "zip") _ _) _ _ _)); (fail_if_success (with_reducible show wpAny _ _ (PySem.call (Value.builtin "list.sort") _ _) _ _ _)); (fail_if_success (with_reducible show wpAny _ _ (PySem.assign (PySem.Expr.Tuple _ _ _) _ _) _ _ _)); (fail_if_success (with_reducible show wpAny _ _ (PySem.call (Value.ref _) _ _) _ _ _)); first | walk1 | (dsimp only; walk1))))
  refine ListComp_J F7 (by with_unfolding_all rfl) (by decide) (by rfl) (by decide) ?_
  (all_goals try k_fold)
  (repeat' (first | (k_unfold; (try dsimp only)) | ((fail_if_success (with_reducible show wpAny _ _ (PySem.exec (PySem.Stmt.While _ _ _ _) _) _ _ _)); (fail_if_success (with_reducible show KswEnd _ _ _ _ _ _ _ _ _ _ _ _)); (fail_if_success (with_reducible show wpAny _ _ (pyIter (Value.ref _)) _ _ _)); (fail_if_success (with_reducible show TurnEnd _ _ _ _ _ _ _)); (fail_if_success (with_reducible show wpAny _ _ (PySem.eval (PySem.Expr.ListComp _ _ _ _) _) _ _ _)); (fail_if_success (with_reducible show wpAny _ _ (PySem.exec (PySem.Stmt.Assign _ (PySem.Expr.ListComp _ _ _ _) _) _) _ _ _)); (fail_if_success (with_reducible show wpAny _ _ (PySem.call (Value.type "zip") _ _) _ _ _)); (fail_if_success (with_reducible show wpAny _ _ (PySem.call (Value.builtin "list.sort") _ _) _ _ _)); (fail_if_success (with_reducible show wpAny _ _ (PySem.assign (PySem.Expr.Tuple _ _ _) _ _) _ _ _)); (fail_if_success (with_reducible show wpAny _ _ (PySem.call (Value.ref _) _ _) _ _ _)); first | walk1 | (dsimp only; walk1))))
  refine tups_src (N := 3) (j := 2) hh F7 N7 (.head _) (hal6.mono fun p hp => .tail _ hp) (by
    intro ks hks
    obtain ⟨q, _, rfl⟩ := List.mem_map.mp hks
    rfl) (by rw [List.length_map, hinv6.len, PySem.sizeLine_eq]; omega) (picks3 hh (by rfl) (by rfl) (by rfl) (by rfl) (by rfl)) ?_
  rintro D' ys' hbelD hys' s₂ ⟨hx, tx, rfl⟩ h8 tk8 F8 N8
  refine h D' ys' ys'.length h8 tk8 _ F8 (fun q hq => N8 q ?_) (fun q hq => hbelD q (.tail _ (hled5 q hq))) ?_
  · rcases List.mem_cons.mp hq with rfl | hq
    · exact .head _
    · exact .tail _ (.tail _ (hled5 q hq))
  · rw [List.map_map] at hys'
    have hfin := hinv6.fin (ms := ms) (by
      rw [List.pairwise_map] at hs6
      exact hs6.imp fun {x y} hxy => ltD_f false g ns (fun j => [ns.getD j 0]) hxy) hst
    rw [← hfin]
    exact hys'
end

-- WK1
section
local macro_rules | `(tactic| walk_at "callWith ref") => `(tactic| (k_here; k_dflt (refine' callWith_F ?k1 ?_; (case k1 => exact FnAt.of (by k_asm) (by k_mem)); k_whole)))
theorem nsK_ok {w : World} {A : Around} {s : Shared} {Q : Flow → Shared → Prop} {mg mb : Str → Option Value} {p : Program} {loose : List Str} {h₀ : Heap} {L sl : Addr} {svs : List Value} {ns : List Int} {led : List (Addr × Obj)} {u : Str → Option Value} {n : Nat} {t : Tok} {g : Int → Int} {q : Addr} {base : List (Addr × Obj)} {wK : Obj} {oc : Value} {od : Option Addr} {fd : FuncData} {osl : Array (Option Value)}
    (X : (hd.heap_1 w.params).In h₀) (T5 : TopRead p loose mg mb h₀) (hsl : h₀.IsList sl svs.toArray) (hK : KeyOk w h₀ q base g) (hw : wK.data = .cell (some (.ref q))) (hbase : ∀ p ∈ base, p ∈ led) (hwm : (L + 1, wK) ∈ led) (hqm : (q, ⟨oc, od, .func fd, osl⟩) ∈ led) (hI : IntsAre svs ns) (hlen : ns.length < 64) (hd : A.depth < 850) (hu : A.units < 8500) (hh : A.handled = none) (hn2 : n = 0 ∨ 2 ≤ n) (hnl : n < ns.length)
    (F : Fr h₀ L s.heap (fun y => if y = Str.ofString "n" then some (.int (n : Nat) t) else if y = Str.ofString "iterable" then some (.ref sl) else u y)) (N : News h₀ L s.heap led)
    (h : ∀ D ws ms c h' tk m', Fr h₀ L h' m' → News h₀ L h' ((D, PySem.W.listOf (List.toArray ws) c) :: led) → (∀ q ∈ led, @LT.lt Nat _ q.1 D) → IntsAre ws (ms.take n) → Stab (fun x => sgn false (g x)) ns ms → Q (.ret (.ref D)) { s with heap := h', toks := tk }) :
    wpAny (model PG w) A (execs nsK (nsEnv L)) Q (fun _ _ => False) s := by
  have hlv := hI.length
  obtain ⟨ms, hms⟩ := stab_ex (fun x => sgn false (g x)) ns
  rw [nsK_eq]
  obtain ⟨r1, hr1⟩ : ∃ r, r = [nsK1, nsK2, nsK3, nsK4, nsK5, nsK6, nsK7, nsK8, nsK9] := ⟨_, rfl⟩
  rw [← hr1]
  refine wpAny_execs_cons ?_
  conv in (occs := *) nsK0 => all_goals whnf
  (all_goals try k_fold)
  (repeat' (first | (k_unfold; (try dsimp only)) | ((fail_if_success (with_reducible show wpAny _ _ (PySem.exec (PySem.Stmt.While _ _ _ _) _) _ _ _)); (fail_if_success (with_reducible show KswEnd _ _ _ _ _ _ _ _ _ _ _ _)); (fail_if_success (with_reducible show wpAny _ _ (pyIter (Value.ref _)) _ _ _)); (fail_if_success (with_reducible show TurnEnd _ _ _ _ _ _ _)); (fail_if_success (with_reducible show wpAny _ _ (PySem.eval (PySem.Expr.ListComp _ _ _ _) _) _ _ _)); (fail_if_success (with_reducible show wpAny _ _ (PySem.exec (PySem.Stmt.Assign _ (PySem.Expr.ListComp _ _ _ _) _) _) _ _ _)); (fail_if_success (with_reducible show wpAny _ _ (PySem.call (Value.type "zip") _ _) _ _ _)); (fail_if_success (with_reducible show wpAny _ _ (PySem.call (Value.builtin "list.sort") _ _) _ _ _)); (fail_if_success (with_reducible show wpAny _ _ (PySem.assign (PySem.Expr.Tuple _ _ _) _ _) _ _ _)); (fail_if_success (with_reducible show wpAny _ _ (PySem.call (Value.ref _) _ _) _ _ _)); first | walk1 | (dsimp only; walk1))))
  rename_i I1 _ l1 h1 F1 N1
  subst hr1
  refine wpAny_execs_cons ?_
  obtain ⟨r2, hr2⟩ : ∃ r, r = [nsK2, nsK3, nsK4, nsK5, nsK6, nsK7, nsK8, nsK9] := ⟨_, rfl⟩
  rw [← hr2]
  conv in (occs := *) nsK1 => all_goals whnf
  refine Assign_ListComp_J F1 rfl (by with_unfolding_all rfl) (by with_unfolding_all rfl) (by decide) (by rfl) (by decide) (by rfl) (by rfl) ?_
  (all_goals try k_fold)
  (repeat' (first | (k_unfold; (try dsimp only)) | ((fail_if_success (with_reducible show wpAny _ _ (PySem.exec (PySem.Stmt.While _ _ _ _) _) _ _ _)); (fail_if_success (with_reducible show KswEnd _ _ _ _ _ _ _ _ _ _ _ _)); (fail_if_success (with_reducible show wpAny _ _ (pyIter (Value.ref _)) _ _ _)); (fail_if_success (with_reducible show TurnEnd _ _ _ _ _ _ _)); (fail_if_success (with_reducible show wpAny _ _ (PySem.eval (PySem.Expr.ListComp _ _ _ _) _) _ _ _)); (fail_if_success (with_reducible show wpAny _ _ (PySem.exec (PySem.Stmt.Assign _ (PySem.Expr.ListComp _ _ _ _) _) _) _ _ _)); (fail_if_success (with_reducible show wpAny _ _ (PySem.call (Value.type "zip") _ _) _ _ _)); (fail_if_success (with_reducible show wpAny _ _ (PySem.call (Value.builtin "list.sort") _ _) _ _ _)); (fail_if_success (with_reducible show wpAny _ _ (PySem.assign (PySem.Expr.Tuple _ _ _) _ _) _ _ _)); (fail_if_success (with_reducible show wpAny _ _ (PySem.call (Value.ref _) _ _) _ _ _)); first | walk1 | (dsimp only; walk1))))
  rename IsRange _ _ _ _ _ _ _ _ => hr
  rename Fr _ _ _ _ => F2
  with_reducible rename News _ _ _ _ => N2
  refine zip_src (n := n) (dk := fun i => fD false g ns (fun j => [ns.getD j 0]) i ((i : Nat) : Int)) hh F2 N2 ⟨rfl, rfl⟩ (fun p hp => Nat.ne_of_lt (l1 p hp)) hsl hr (rsm_up (by omega)) (rsz_up n) (by omega) (by rw [PySem.sizeLine_eq]; omega) (by rfl) (by rfl) (by rfl) (by decide) ?helt ?fin
  case helt =>
    intro i C D oC m₂ ys led' h3 tk3 E' Q' hi hoC hxi hxe F3 N3 hsub hQ
    obtain ⟨ti, hxi⟩ := hxi
    clear F2 N2
    have N3w : News h₀ L h3 ((C, oC) :: (D, LCg.lst ys) :: (L + 1, wK) :: (q, ⟨oc, od, .func fd, osl⟩) :: led') := fun p hp => N3 p (by
      rcases List.mem_cons.mp hp with rfl | hp
      · exact .head _
      · rcases List.mem_cons.mp hp with rfl | hp
        · exact .tail _ (.head _)
        · rcases List.mem_cons.mp hp with rfl | hp
          · exact .tail _ (.tail _ (hsub _ hwm))
          · rcases List.mem_cons.mp hp with rfl | hp
            · exact .tail _ (.tail _ (hsub _ hqm))
            · exact .tail _ (.tail _ hp))
    obtain ⟨te, ee⟩ := ints_getD hI i (by omega)
    rw [ee] at hxe
    clear N3
    (all_goals try k_fold)
    (repeat' (first | (k_unfold; (try dsimp only)) | ((fail_if_success (with_reducible show wpAny _ _ (PySem.exec (PySem.Stmt.While _ _ _ _) _) _ _ _)); (fail_if_success (with_reducible show KswEnd _ _ _ _ _ _ _ _ _ _ _ _)); (fail_if_success (with_reducible show wpAny _ _ (pyIter (Value.ref _)) _ _ _)); (fail_if_success (with_reducible show TurnEnd _ _ _ _ _ _ _)); (fail_if_success (with_reducible show wpAny _ _ (PySem.eval (PySem.Expr.ListComp _ _ _ _) _) _ _ _)); (fail_if_success (with_reducible show wpAny _ _ (PySem.exec (PySem.Stmt.Assign _ (PySem.Expr.ListComp _ _ _ _) _) _) _ _ _)); (fail_if_success (with_reducible show wpAny _ _ (PySem.call (Value.type "zip") _ _) _ _ _)); (fail_if_success (with_reducible show wpAny _ _ (PySem.call (Value.builtin "list.sort") _ _) _ _ _)); (fail_if_success (with_reducible show wpAny _ _ (PySem.assign (PySem.Expr.Tuple _ _ _) _ _) _ _ _)); (fail_if_success (with_reducible show wpAny _ _ (PySem.call (Value.ref _) _ _) _ _ _)); first | walk1 | (dsimp only; walk1))))
    refine hK A _ _ _ L _ _ _ _ hh (by omega) (by omega) F3 N3w (fun p hp => .tail _ (.tail _ (.tail _ (.tail _ (hsub _ (hbase p hp)))))) ?_
    intro h5 tk5 t5 F5 N5
    clear F3 N3w
    (repeat' (first | (k_unfold; (try dsimp only)) | ((fail_if_success (with_reducible show wpAny _ _ (PySem.exec (PySem.Stmt.While _ _ _ _) _) _ _ _)); (fail_if_success (with_reducible show KswEnd _ _ _ _ _ _ _ _ _ _ _ _)); (fail_if_success (with_reducible show wpAny _ _ (pyIter (Value.ref _)) _ _ _)); (fail_if_success (with_reducible show TurnEnd _ _ _ _ _ _ _)); (fail_if_success (with_reducible show wpAny _ _ (PySem.eval (PySem.Expr.ListComp _ _ _ _) _) _ _ _)); (fail_if_success (with_reducible show wpAny _ _ (PySem.exec (PySem.Stmt.Assign _ (PySem.Expr.ListComp _ _ _ _) _) _) _ _ _)); (fail_if_success (with_reducible show wpAny _ _ (PySem.call (Value.type "zip") _ _) _ _ _)); (fail_if_success (with_reducible show wpAny _ _ (PySem.call (Value.builtin "list.sort") _ _) _ _ _)); (fail_if_success (with_reducible show wpAny _ _ (PySem.assign (PySem.Expr.Tuple _ _ _) _ _) _ _ _)); (fail_if_success (with_reducible show wpAny _ _ (PySem.call (Value.ref _) _ _) _ _ _)); first | walk1 | (dsimp only; walk1))))
    rename Fr _ _ _ _ => F4
    with_reducible rename News _ _ _ _ => N4
    rename _ ∧ _ => l4
    obtain ⟨oT, hmk, N4⟩ := tup_head N4 (ks := [g (ns.getD i 0), (0 : Int) + (i : Nat) * 1, ns.getD i 0]) ⟨rfl, [_, _, _], _, rfl, .cons _ _ (.cons _ _ (.cons _ _ .nil))⟩
    have e1 : (0 : Int) + (i : Nat) * 1 = sgn false ((i : Nat) : Int) := by simp [sgn]
    rw [e1] at hmk
    refine hQ _ _ _ _ F4 (fun p hp => N4 p ?_) (List.forall_mem_cons.mpr ⟨l4.1, List.forall_mem_cons.mpr ⟨l4.2.1, allLt_mem l4.2.2.2.2⟩⟩) hmk
    rcases List.mem_cons.mp hp with rfl | hp
    · exact .head _
    · rcases List.mem_cons.mp hp with rfl | hp
      · exact .tail _ (.head _)
      · rcases List.mem_cons.mp hp with rfl | hp
        · exact .tail _ (.tail _ (.head _))
        · exact .tail _ (.tail _ (.tail _ (.tail _ (.tail _ hp))))
  case fin =>
    rintro s₂ D ys oI' tups ⟨hx, tx, rfl⟩ hoff hbel hlit hnI hal h3 tk3 F3 N3
    subst hr2
    dsimp only
    have hIm : @Ne Nat I1 D := hoff _ (.head _)
    refine nsK_tail X T5 hsl hK hw hbase hwm hqm hI hlen hd hu hh hn2 hnl (fr3b (x := Str.ofString "result") (y := Str.ofString "it") (z := Str.ofString "n") F3 rfl rfl rfl) N3 hIm (fun p hp => hoff p (.tail _ hp)) hnI hlit (fun p hp => List.mem_append_right _ hp) (fun p hp => hbel p (.tail _ hp)) (hal.mono fun p hp => List.mem_append_left _ hp) hms ?_
    intro D' ws c h' tk m' F' N' hb' hi'
    exact h D' ws ms c h' tk m' F' N' hb' hi' hms
end

-- VK3
section
local macro_rules | `(tactic| walk_at "callWith ref") => `(tactic| (k_here; k_dflt (refine' callWith_F ?k1 ?_; (case k1 => exact FnAt.of (by k_asm) (by k_mem)); k_whole)))
noncomputable def nlK7b : List Stmt := forBody nlK7
theorem nlK_turn {w : World} {A : Around} {s : Shared} {E : Value → Shared → Prop} {Q : Flow → Shared → Prop} {mg mb : Str → Option Value} {p : Program} {loose : List Str} {h₀ : Heap} {L D I : Addr} {o : Obj} {svs : List Value} {ns : List Int} {led nx : List (Addr × Obj)} {m₁ : Str → Option Value} {n i : Nat} {g : Int → Int} {q : Addr} {base : List (Addr × Obj)} {wK : Obj} {oc : Value} {od : Option Addr} {fd : FuncData} {osl : Array (Option Value)}
    (X : (hd.heap_1 w.params).In h₀) (T5 : TopRead p loose mg mb h₀) (hK : KeyOk w h₀ q base g) (hw : wK.data = .cell (some (.ref q))) (hbase : ∀ p ∈ base, p ∈ led) (hI : IntsAre svs ns) (hlen : ns.length < 64) (hd : A.depth < 850) (hu : A.units < 8500) (hh : A.handled = none) (hi : i < svs.length - n)
    (hJ : HJ true g ns (fun j => [ns.getD j 0]) D 35 n [(L + 1, wK), (q, ⟨oc, od, .func fd, osl⟩)] led i m₁ nx) (hoff : ∀ p ∈ nx, p.1 ≠ I)
    (F : Fr h₀ L s.heap (fun y => if y = Str.ofString "elem" then some (svs.getD (n + i) .none) else m₁ y)) (N : News h₀ L s.heap ((I, o) :: nx)) :
    wpAny (model PG w) A (execs nlK7b (nlEnv L)) (TurnPost h₀ L I o (HJ true g ns (fun j => [ns.getD j 0]) D 35 n [(L + 1, wK), (q, ⟨oc, od, .func fd, osl⟩)] led (i + 1)) s Q) E s := by
  have hlv := hI.length
  obtain ⟨vs, c, q0, T, ord, tt, to, tail, u, rfl, rfl, hD, hled, hal, hf, hinv⟩ := hJ
  dsimp only [List.cons_append, List.nil_append] at N hD hoff
  have hDI : @Ne Nat D I := hoff _ (.head _)
  have hWI : @Ne Nat (L + 1) I := hoff (L + 1, wK) (.tail _ (.head _))
  have hWD : @Ne Nat (L + 1) D := hD (L + 1, wK) (.head _)
  have hqI : @Ne Nat q I := hoff (q, _) (.tail _ (.tail _ (.head _)))
  have hqD : @Ne Nat q D := hD (q, _) (.tail _ (.head _))
  have hIt : ∀ p ∈ tail, p.1 ≠ I := fun p hp => hoff p (.tail _ (.tail _ (.tail _ hp)))
  replace hD : ∀ p ∈ tail, p.1 ≠ D := fun p hp => hD p (.tail _ (.tail _ hp))
  obtain ⟨te, ee⟩ := ints_getD hI (n + i) (lt_rest hi hlv)
  rw [ee] at F
  conv in (occs := *) nlK7b => all_goals whnf
  (all_goals try k_fold)
  refine post_gen fun P hP => ?_
  (repeat' (first | (k_unfold; (try dsimp only)) | ((fail_if_success (with_reducible show wpAny _ _ (PySem.exec (PySem.Stmt.While _ _ _ _) _) _ _ _)); (fail_if_success (with_reducible show KswEnd _ _ _ _ _ _ _ _ _ _ _ _)); (fail_if_success (with_reducible show wpAny _ _ (pyIter (Value.ref _)) _ _ _)); (fail_if_success (with_reducible show TurnEnd _ _ _ _ _ _ _)); (fail_if_success (with_reducible show wpAny _ _ (PySem.eval (PySem.Expr.ListComp _ _ _ _) _) _ _ _)); (fail_if_success (with_reducible show wpAny _ _ (PySem.exec (PySem.Stmt.Assign _ (PySem.Expr.ListComp _ _ _ _) _) _) _ _ _)); (fail_if_success (with_reducible show wpAny _ _ (PySem.call (Value.type "zip") _ _) _ _ _)); (fail_if_success (with_reducible show wpAny _ _ (PySem.call (Value.builtin "list.sort") _ _) _ _ _)); (fail_if_success (with_reducible show wpAny _ _ (PySem.assign (PySem.Expr.Tuple _ _ _) _ _) _ _ _)); (fail_if_success (with_reducible show wpAny _ _ (PySem.call (Value.ref _) _ _) _ _ _)); first | walk1 | (dsimp only; walk1)))); all_goals (try (with_reducible show P _ _; subst hP; (repeat' (first | (k_unfold; (try dsimp only)) | ((fail_if_success (with_reducible show wpAny _ _ (PySem.exec (PySem.Stmt.While _ _ _ _) _) _ _ _)); (fail_if_success (with_reducible show KswEnd _ _ _ _ _ _ _ _ _ _ _ _)); (fail_if_success (with_reducible show wpAny _ _ (pyIter (Value.ref _)) _ _ _)); (fail_if_success (with_reducible show TurnEnd _ _ _ _ _ _ _)); (fail_if_success (with_reducible show wpAny _ _ (PySem.eval (PySem.Expr.ListComp _ _ _ _) _) _ _ _)); (fail_if_success (with_reducible show wpAny _ _ (PySem.exec (PySem.Stmt.Assign _ (PySem.Expr.ListComp _ _ _ _) _) _) _ _ _)); (fail_if_success (with_reducible show wpAny _ _ (PySem.call (Value.type "zip") _ _) _ _ _)); (fail_if_success (with_reducible show wpAny _ _ (PySem.call (Value.builtin "list.sort") _ _) _ _ _)); (fail_if_success (with_reducible show wpAny _ _ (PySem.assign (PySem.Expr.Tuple _ _ _) _ _) _ _ _)); (fail_if_success (with_reducible show wpAny _ _ (PySem.call (Value.ref _) _ _) _ _ _)); first | walk1 | (dsimp only; walk1))))))
  refine hK A _ _ _ L _ _ _ _ hh (by omega) (by omega) F N (fun p hp => .tail _ (.tail _ (.tail _ (.tail _ (hled _ (hbase p hp)))))) ?_
  intro h3 tk3 t3 F3 N3
  clear F N
  (repeat' (first | (k_unfold; (try dsimp only)) | ((fail_if_success (with_reducible show wpAny _ _ (PySem.exec (PySem.Stmt.While _ _ _ _) _) _ _ _)); (fail_if_success (with_reducible show KswEnd _ _ _ _ _ _ _ _ _ _ _ _)); (fail_if_success (with_reducible show wpAny _ _ (pyIter (Value.ref _)) _ _ _)); (fail_if_success (with_reducible show TurnEnd _ _ _ _ _ _ _)); (fail_if_success (with_reducible show wpAny _ _ (PySem.eval (PySem.Expr.ListComp _ _ _ _) _) _ _ _)); (fail_if_success (with_reducible show wpAny _ _ (PySem.exec (PySem.Stmt.Assign _ (PySem.Expr.ListComp _ _ _ _) _) _) _ _ _)); (fail_if_success (with_reducible show wpAny _ _ (PySem.call (Value.type "zip") _ _) _ _ _)); (fail_if_success (with_reducible show wpAny _ _ (PySem.call (Value.builtin "list.sort") _ _) _ _ _)); (fail_if_success (with_reducible show wpAny _ _ (PySem.assign (PySem.Expr.Tuple _ _ _) _ _) _ _ _)); (fail_if_success (with_reducible show wpAny _ _ (PySem.call (Value.ref _) _ _) _ _ _)); first | walk1 | (dsimp only; walk1)))); all_goals (try (with_reducible show P _ _; subst hP; (repeat' (first | (k_unfold; (try dsimp only)) | ((fail_if_success (with_reducible show wpAny _ _ (PySem.exec (PySem.Stmt.While _ _ _ _) _) _ _ _)); (fail_if_success (with_reducible show KswEnd _ _ _ _ _ _ _ _ _ _ _ _)); (fail_if_success (with_reducible show wpAny _ _ (pyIter (Value.ref _)) _ _ _)); (fail_if_success (with_reducible show TurnEnd _ _ _ _ _ _ _)); (fail_if_success (with_reducible show wpAny _ _ (PySem.eval (PySem.Expr.ListComp _ _ _ _) _) _ _ _)); (fail_if_success (with_reducible show wpAny _ _ (PySem.exec (PySem.Stmt.Assign _ (PySem.Expr.ListComp _ _ _ _) _) _) _ _ _)); (fail_if_success (with_reducible show wpAny _ _ (PySem.call (Value.type "zip") _ _) _ _ _)); (fail_if_success (with_reducible show wpAny _ _ (PySem.call (Value.builtin "list.sort") _ _) _ _ _)); (fail_if_success (with_reducible show wpAny _ _ (PySem.assign (PySem.Expr.Tuple _ _ _) _ _) _ _ _)); (fail_if_success (with_reducible show wpAny _ _ (PySem.call (Value.ref _) _ _) _ _ _)); first | walk1 | (dsimp only; walk1))))))
  · -- the item goes into the heap
    rename _ < _ => hlt
    (try dsimp only at hlt)
    rename Fr _ _ _ _ => F4
    with_reducible rename News _ _ _ _ => N4
    rename _ ∧ _ => l4
    rename_i T' _
    obtain ⟨oT, hmk, N4⟩ := tup_head N4 (ks := Fm true g ns (fun j => [ns.getD j 0]) (n + i, ord)) ⟨rfl, [_, _, _], _, rfl, .cons _ _ (.cons _ _ (.cons _ _ .nil))⟩
    have hTD : @Ne Nat T' D := Nat.ne_of_gt l4.2.1
    have hTI : @Ne Nat T' I := Nat.ne_of_gt l4.1
    have hTW : @LT.lt Nat _ (L + 1) T' := l4.2.2.1
    have hlen4 := hinv.len
    refine heapreplaceT true (N := 3) (tups := (T', oT) :: tail) (x := .ref T') (kx := Fm true g ns (fun j => [ns.getD j 0]) (n + i, ord)) F4 N4 (.tail hTD (.tail (Ne.symm hDI) (.head (List.forall_mem_cons.mpr ⟨hWD, List.forall_mem_cons.mpr ⟨hqD, hD⟩⟩)))) X T5 (by omega) (by omega) hh (hal.mono fun p hp => .tail _ hp)
      ⟨T', oT, rfl, .head _, hmk⟩ ?hsub ?hN rfl ?hlen ?hne hf ?_
    case hsub =>
      intro p hp
      rcases List.mem_cons.mp hp with rfl | hp
      · exact ⟨.head _, hTD⟩
      · exact ⟨.tail _ (.tail _ (.tail _ (.tail _ (.tail _ hp)))), hD p hp⟩
    case hN =>
      intro ks hks
      obtain ⟨q, _, rfl⟩ := List.mem_map.mp hks
      rfl
    case hlen => rw [List.length_map]; exact len_small hlen hi hlv hlen4
    case hne => simp
    intro h5 tk5 c5 ws5 es5 v5 F5 N5 hal5 hp5 hf5
    obtain ⟨K, hK, rfl⟩ := perm_lift (l := (n + i, ord) :: T) (f := Fm true g ns (fun j => [ns.getD j 0])) hp5
    have hinv5 := (hinv.yes (topOf_of (k := 1) (fun _ => rfl) hf) (by unfold kap; simp only [sgn, Bool.false_eq_true, if_false, if_true]; omega)).perm hK
    obtain ⟨k0, K', rfl⟩ : ∃ k0 K', K = k0 :: K' := by
      cases K with
      | nil => have := hK.length_eq; simp at this
      | cons a l => exact ⟨a, l, rfl⟩
    clear hal hf F4 hK hp5
    have N6 : News h₀ L h5 ((I, o) :: (D, PySem.W.listOf ws5.toArray c5) :: (L + 1, wK) :: (q, ⟨oc, od, .func fd, osl⟩) :: ((T', oT) :: tail)) := fun q hq => N5 q (by
      rcases List.mem_cons.mp hq with rfl | hq
      · exact .tail _ (.head _)
      · rcases List.mem_cons.mp hq with rfl | hq
        · exact .tail _ (.tail _ (.head _))
        · rcases List.mem_cons.mp hq with rfl | hq
          · exact .tail _ (.tail _ (.tail _ (.head _)))
          · rcases List.mem_cons.mp hq with rfl | hq
            · exact .tail _ (.tail _ (.tail _ (.tail _ (.head _))))
            · rcases List.mem_cons.mp hq with rfl | hq
              · exact .head _
              · exact .tail _ (.tail _ (.tail _ (.tail _ (.tail _ hq)))))
    have hD6 : ∀ p ∈ (T', oT) :: tail, p.1 ≠ D := List.forall_mem_cons.mpr ⟨hTD, hD⟩
    have hI6 : ∀ p ∈ (T', oT) :: tail, p.1 ≠ I := List.forall_mem_cons.mpr ⟨hTI, hIt⟩
    have hled6 : ∀ p ∈ led, p ∈ (T', oT) :: tail := fun p hp => .tail _ (hled p hp)
    clear N5 N4 hD hled
    generalize (T', oT) :: tail = tail6 at *
    have hds : 0 < ((k0 :: K').map (Fm true g ns (fun j => [ns.getD j 0]))).length := by simp
    (all_goals try k_fold)
    (repeat' (first | (k_unfold; (try dsimp only)) | ((fail_if_success (with_reducible show wpAny _ _ (PySem.exec (PySem.Stmt.While _ _ _ _) _) _ _ _)); (fail_if_success (with_reducible show KswEnd _ _ _ _ _ _ _ _ _ _ _ _)); (fail_if_success (with_reducible show wpAny _ _ (pyIter (Value.ref _)) _ _ _)); (fail_if_success (with_reducible show TurnEnd _ _ _ _ _ _ _)); (fail_if_success (with_reducible show wpAny _ _ (PySem.eval (PySem.Expr.ListComp _ _ _ _) _) _ _ _)); (fail_if_success (with_reducible show wpAny _ _ (PySem.exec (PySem.Stmt.Assign _ (PySem.Expr.ListComp _ _ _ _) _) _) _ _ _)); (fail_if_success (with_reducible show wpAny _ _ (PySem.call (Value.type "zip") _ _) _ _ _)); (fail_if_success (with_reducible show wpAny _ _ (PySem.call (Value.builtin "list.sort") _ _) _ _ _)); (fail_if_success (with_reducible show wpAny _ _ (PySem.assign (PySem.Expr.Tuple _ _ _) _ _) _ _ _)); (fail_if_success (with_reducible show wpAny _ _ (PySem.call (Value.ref _) _ _) _ _ _)); first | walk1 | (dsimp only; walk1)))); all_goals (try (with_reducible show P _ _; subst hP; (repeat' (first | (k_unfold; (try dsimp only)) | ((fail_if_success (with_reducible show wpAny _ _ (PySem.exec (PySem.Stmt.While _ _ _ _) _) _ _ _)); (fail_if_success (with_reducible show KswEnd _ _ _ _ _ _ _ _ _ _ _ _)); (fail_if_success (with_reducible show wpAny _ _ (pyIter (Value.ref _)) _ _ _)); (fail_if_success (with_reducible show TurnEnd _ _ _ _ _ _ _)); (fail_if_success (with_reducible show wpAny _ _ (PySem.eval (PySem.Expr.ListComp _ _ _ _) _) _ _ _)); (fail_if_success (with_reducible show wpAny _ _ (PySem.exec (PySem.Stmt.Assign _ (PySem.Expr.ListComp _ _ _ _) _) _) _ _ _)); (fail_if_success (with_reducible show wpAny _ _ (PySem.call (Value.type "zip") _ _) _ _ _)); (fail_if_success (with_reducible show wpAny _ _ (PySem.call (Value.builtin "list.sort") _ _) _ _ _)); (fail_if_success (with_reducible show wpAny _ _ (PySem.assign (PySem.Expr.Tuple _ _ _) _ _) _ _ _)); (fail_if_success (with_reducible show wpAny _ _ (PySem.call (Value.ref _) _ _) _ _ _)); first | walk1 | (dsimp only; walk1))))))
    rename IsTup _ _ _ => ht6
    rename IntsAre _ (List.getD _ _ _) => hi6
    replace hi6 : IntsAre _ [g (ns.getD k0.1 0), sgn true k0.2, ns.getD k0.1 0] := hi6
    cases hi6 with
    | cons _ tt6 hi6 =>
      cases hi6 with
      | cons _ to6 hi6 =>
        cases hi6 with
        | cons _ te6 hi6 =>
          cases hi6
          refine unpackN3 hh F5 N6 ht6 (by rfl) (by rfl) (by rfl) (by rfl) ?_
          intro h7 tk7 F7 N7
          clear F5 N6 ht6
          (all_goals try k_fold)
          (repeat' (first | (k_unfold; (try dsimp only)) | ((fail_if_success (with_reducible show wpAny _ _ (PySem.exec (PySem.Stmt.While _ _ _ _) _) _ _ _)); (fail_if_success (with_reducible show KswEnd _ _ _ _ _ _ _ _ _ _ _ _)); (fail_if_success (with_reducible show wpAny _ _ (pyIter (Value.ref _)) _ _ _)); (fail_if_success (with_reducible show TurnEnd _ _ _ _ _ _ _)); (fail_if_success (with_reducible show wpAny _ _ (PySem.eval (PySem.Expr.ListComp _ _ _ _) _) _ _ _)); (fail_if_success (with_reducible show wpAny _ _ (PySem.exec (PySem.Stmt.Assign _ (PySem.Expr.ListComp _ _ _ _) _) _) _ _ _)); (fail_if_success (with_reducible show wpAny _ _ (PySem.call (Value.type "zip") _ _) _ _ _)); (fail_if_success (with_reducible show wpAny _ _ (PySem.call (Value.builtin "list.sort") _ _) _ _ _)); (fail_if_success (with_reducible show wpAny _ _ (PySem.assign (PySem.Expr.Tuple _ _ _) _ _) _ _ _)); (fail_if_success (with_reducible show wpAny _ _ (PySem.call (Value.ref _) _ _) _ _ _)); first | walk1 | (dsimp only; walk1)))); all_goals (try (with_reducible show P _ _; subst hP; (repeat' (first | (k_unfold; (try dsimp only)) | ((fail_if_success (with_reducible show wpAny _ _ (PySem.exec (PySem.Stmt.While _ _ _ _) _) _ _ _)); (fail_if_success (with_reducible show KswEnd _ _ _ _ _ _ _ _ _ _ _ _)); (fail_if_success (with_reducible show wpAny _ _ (pyIter (Value.ref _)) _ _ _)); (fail_if_success (with_reducible show TurnEnd _ _ _ _ _ _ _)); (fail_if_success (with_reducible show wpAny _ _ (PySem.eval (PySem.Expr.ListComp _ _ _ _) _) _ _ _)); (fail_if_success (with_reducible show wpAny _ _ (PySem.exec (PySem.Stmt.Assign _ (PySem.Expr.ListComp _ _ _ _) _) _) _ _ _)); (fail_if_success (with_reducible show wpAny _ _ (PySem.call (Value.type "zip") _ _) _ _ _)); (fail_if_success (with_reducible show wpAny _ _ (PySem.call (Value.builtin "list.sort") _ _) _ _ _)); (fail_if_success (with_reducible show wpAny _ _ (PySem.assign (PySem.Expr.Tuple _ _ _) _ _) _ _ _)); (fail_if_success (with_reducible show wpAny _ _ (PySem.call (Value.ref _) _ _) _ _ _)); first | walk1 | (dsimp only; walk1))))))
          rename Fr _ _ _ _ => F8
          with_reducible rename News _ _ _ _ => N8
          have hso : sgn true ord - 1 = sgn true (ord + 1) := by unfold sgn; simp only [if_true]; omega
          have F9 := fr4 (x := Str.ofString "result") (y := Str.ofString "top") (z := Str.ofString "order") (v := Str.ofString "_heapreplace") F8 rfl rfl (congrArg (fun z => some (Value.int z _)) hso) rfl
          refine ⟨_, _, _, _, rfl, F9, N8, List.forall_mem_cons.mpr ⟨hDI, List.forall_mem_cons.mpr ⟨hWI, List.forall_mem_cons.mpr ⟨hqI, hI6⟩⟩⟩, ws5, c5, k0, K', ord + 1, _, _, tail6, _, rfl, rfl, List.forall_mem_cons.mpr ⟨hWD, List.forall_mem_cons.mpr ⟨hqD, hD6⟩⟩, hled6, hal5, hf5, ?_⟩
          exact hinv5
  · -- the heap stays
    rename ¬ _ < _ => hnlt
    (try dsimp only at hnlt)
    rename Fr _ _ _ _ => F8
    with_reducible rename News _ _ _ _ => N8
    have F9 := fr4 (x := Str.ofString "result") (y := Str.ofString "top") (z := Str.ofString "order") (v := Str.ofString "_heapreplace") F8 rfl rfl rfl rfl
    refine ⟨_, _, _, _, rfl, F9, N8, hoff, vs, c, q0, T, ord, tt, to, tail, _, rfl, rfl, List.forall_mem_cons.mpr ⟨hWD, List.forall_mem_cons.mpr ⟨hqD, hD⟩⟩, hled, hal, hf, ?_⟩
    exact hinv.no (topOf_of (k := 1) (fun _ => rfl) hf) (by unfold kap; simp only [sgn, Bool.false_eq_true, if_false, if_true]; omega)
end

-- VK2
section
theorem nlK_tail {w : World} {A : Around} {s : Shared} {Q : Flow → Shared → Prop} {mg mb : Str → Option Value} {p : Program} {loose : List Str} {h₀ : Heap} {L sl D I : Addr} {oI : Obj} {svs ys : List Value} {ns ms : List Int} {led tail : List (Addr × Obj)} {u : Str → Option Value} {n c : Nat} {t : Tok} {g : Int → Int} {q : Addr} {base : List (Addr × Obj)} {wK : Obj} {oc : Value} {od : Option Addr} {fd : FuncData} {osl : Array (Option Value)}
    (X : (hd.heap_1 w.params).In h₀) (T5 : TopRead p loose mg mb h₀) (hsl : h₀.IsList sl svs.toArray) (hK : KeyOk w h₀ q base g) (hw : wK.data = .cell (some (.ref q))) (hbase : ∀ p ∈ base, p ∈ led) (hwm : (L + 1, wK) ∈ led) (hqm : (q, ⟨oc, od, .func fd, osl⟩) ∈ led) (hI : IntsAre svs ns) (hlen : ns.length < 64) (hd : A.depth < 850) (hu : A.units < 8500) (hh : A.handled = none) (hn2 : n = 0 ∨ 2 ≤ n) (hnl : n < ns.length)
    (F : Fr h₀ L s.heap (fun y => if y = Str.ofString "result" then some (.ref D) else if y = Str.ofString "it" then some (.ref I) else if y = Str.ofString "n" then some (.int (n : Nat) t) else u y)) (N : News h₀ L s.heap ((D, PySem.W.listOf ys.toArray c) :: (I, oI) :: tail))
    (hID : @Ne Nat I D) (hD : ∀ p ∈ tail, p.1 ≠ D) (hIo : ∀ p ∈ tail, p.1 ≠ I) (hlit : IsLit oI sl n) (hled : ∀ p ∈ led, p ∈ tail) (hbel : ∀ p ∈ led, @LT.lt Nat _ p.1 D)
    (hal : Al tail ys ((List.range n).map fun i => fD true g ns (fun j => [ns.getD j 0]) i ((i : Nat) : Int))) (hst : Stab (fun x => sgn true (g x)) ns ms)
    (h : ∀ D ws c h' tk m', Fr h₀ L h' m' → News h₀ L h' ((D, PySem.W.listOf (List.toArray ws) c) :: led) → (∀ q ∈ led, @LT.lt Nat _ q.1 D) → IntsAre ws (ms.take n) → Q (.ret (.ref D)) { s with heap := h', toks := tk }) :
    wpAny (model PG w) A (execs [nlK2, nlK3, nlK4, nlK5, nlK6, nlK7, nlK8, nlK9] (nlEnv L)) Q (fun _ _ => False) s := by
  have hlv := hI.length
  have hys := hal.length
  rw [List.length_map, List.length_range] at hys
  obtain ⟨r3, hr3⟩ : ∃ r, r = [nlK3, nlK4, nlK5, nlK6, nlK7, nlK8, nlK9] := ⟨_, rfl⟩
  rw [← hr3]
  refine wpAny_execs_cons ?_
  conv in (occs := *) nlK2 => all_goals whnf
  (all_goals try k_fold)
  (repeat' (first | (k_unfold; (try dsimp only)) | ((fail_if_success (with_reducible show wpAny _ _ (PySem.exec (PySem.Stmt.While _ _ _ _) _) _ _ _)); (fail_if_success (with_reducible show KswEnd _ _ _ _ _ _ _ _ _ _ _ _)); (fail_if_success (with_reducible show wpAny _ _ (pyIter (Value.ref _)) _ _ _)); (fail_if_success (with_reducible show TurnEnd _ _ _ _ _ _ _)); (fail_if_success (with_reducible show wpAny _ _ (PySem.eval (PySem.Expr.ListComp _ _ _ _) _) _ _ _)); (fail_if_success (with_reducible show wpAny _ _ (PySem.exec (PySem.Stmt.Assign _ (PySem.Expr.ListComp _ _ _ _) _) _) _ _ _)); (fail_if_success (with_reducible show wpAny _ _ (PySem.call (Value.type "zip") _ _) _ _ _)); (fail_if_success (with_reducible show wpAny _ _ (PySem.call (Value.builtin "list.sort") _ _) _ _ _)); (fail_if_success (with_reducible show wpAny _ _ (PySem.assign (PySem.Expr.Tuple _ _ _) _ _) _ _ _)); (fail_if_success (with_reducible show wpAny _ _ (PySem.call (Value.ref _) _ _) _ _ _)); first | walk1 | (dsimp only; walk1))))
  rotate_left
  · -- the list is empty
    rename ¬ _ < _ => hz
    have hn0 : n = 0 := by omega
    subst hn0
    obtain rfl := List.length_eq_zero_iff.mp hys
    exact h D [] c _ _ _ F (fun q hq => N q (by
      rcases List.mem_cons.mp hq with rfl | hq
      · exact .head _
      · exact .tail _ (.tail _ (hled q hq)))) hbel (by rw [List.take_zero]; exact .nil)
  rename 0 < _ => hpos
  subst hr3
  refine wpAny_execs_cons ?_
  obtain ⟨r4, hr4⟩ : ∃ r, r = [nlK4, nlK5, nlK6, nlK7, nlK8, nlK9] := ⟨_, rfl⟩
  rw [← hr4]
  conv in (occs := *) nlK3 => all_goals whnf
  (all_goals try k_fold)
  (repeat' (first | (k_unfold; (try dsimp only)) | ((fail_if_success (with_reducible show wpAny _ _ (PySem.exec (PySem.Stmt.While _ _ _ _) _) _ _ _)); (fail_if_success (with_reducible show KswEnd _ _ _ _ _ _ _ _ _ _ _ _)); (fail_if_success (with_reducible show wpAny _ _ (pyIter (Value.ref _)) _ _ _)); (fail_if_success (with_reducible show TurnEnd _ _ _ _ _ _ _)); (fail_if_success (with_reducible show wpAny _ _ (PySem.eval (PySem.Expr.ListComp _ _ _ _) _) _ _ _)); (fail_if_success (with_reducible show wpAny _ _ (PySem.exec (PySem.Stmt.Assign _ (PySem.Expr.ListComp _ _ _ _) _) _) _ _ _)); (fail_if_success (with_reducible show wpAny _ _ (PySem.call (Value.type "zip") _ _) _ _ _)); (fail_if_success (with_reducible show wpAny _ _ (PySem.call (Value.builtin "list.sort") _ _) _ _ _)); (fail_if_success (with_reducible show wpAny _ _ (PySem.assign (PySem.Expr.Tuple _ _ _) _ _) _ _ _)); (fail_if_success (with_reducible show wpAny _ _ (PySem.call (Value.ref _) _ _) _ _ _)); first | walk1 | (dsimp only; walk1))))
  refine heapifyT true (N := 3) F N (.head (List.forall_mem_cons.mpr ⟨hID, hD⟩)) X T5 (by omega) (by omega) hh hal (fun p hp => ⟨.tail _ (.tail _ hp), hD p hp⟩) (by
    intro ks hks
    obtain ⟨i, _, rfl⟩ := List.mem_map.mp hks
    rfl) (by simp only [List.length_map, List.length_range]; omega) ?_
  intro h1 tk1 c1 ws1 es1 F1 N1 hal1 hp1 hf1
  clear F N
  (repeat' (first | (k_unfold; (try dsimp only)) | ((fail_if_success (with_reducible show wpAny _ _ (PySem.exec (PySem.Stmt.While _ _ _ _) _) _ _ _)); (fail_if_success (with_reducible show KswEnd _ _ _ _ _ _ _ _ _ _ _ _)); (fail_if_success (with_reducible show wpAny _ _ (pyIter (Value.ref _)) _ _ _)); (fail_if_success (with_reducible show TurnEnd _ _ _ _ _ _ _)); (fail_if_success (with_reducible show wpAny _ _ (PySem.eval (PySem.Expr.ListComp _ _ _ _) _) _ _ _)); (fail_if_success (with_reducible show wpAny _ _ (PySem.exec (PySem.Stmt.Assign _ (PySem.Expr.ListComp _ _ _ _) _) _) _ _ _)); (fail_if_success (with_reducible show wpAny _ _ (PySem.call (Value.type "zip") _ _) _ _ _)); (fail_if_success (with_reducible show wpAny _ _ (PySem.call (Value.builtin "list.sort") _ _) _ _ _)); (fail_if_success (with_reducible show wpAny _ _ (PySem.assign (PySem.Expr.Tuple _ _ _) _ _) _ _ _)); (fail_if_success (with_reducible show wpAny _ _ (PySem.call (Value.ref _) _ _) _ _ _)); first | walk1 | (dsimp only; walk1))))
  have hes : es1.length = n := by rw [hp1.length_eq, List.length_map, List.length_range]
  -- the data as the first n indices
  have emap : (List.range n).map (fun i => fD true g ns (fun j => [ns.getD j 0]) i ((i : Nat) : Int)) = ((List.range n).map fun i => (i, ((i : Nat) : Int))).map (Fm true g ns (fun j => [ns.getD j 0])) := by rw [List.map_map]; rfl
  rw [emap] at hp1
  obtain ⟨K, hK, rfl⟩ := perm_lift hp1
  have hinv1 := (HInv.start (b := true) (g := g) (ns := ns) (n := n)).perm hK
  obtain ⟨k0, K', rfl⟩ : ∃ k0 K', K = k0 :: K' := by
    cases K with
    | nil => rw [List.length_map, List.length_nil] at hes; omega
    | cons a l => exact ⟨a, l, rfl⟩
  clear hal hp1 emap hK
  subst hr4
  refine wpAny_execs_cons ?_
  obtain ⟨r5, hr5⟩ : ∃ r, r = [nlK5, nlK6, nlK7, nlK8, nlK9] := ⟨_, rfl⟩
  rw [← hr5]
  conv in (occs := *) nlK4 => all_goals whnf
  have hds : 0 < ((k0 :: K').map (Fm true g ns (fun j => [ns.getD j 0]))).length := by simp
  have hk0 : 0 < (((k0 :: K').map (Fm true g ns (fun j => [ns.getD j 0]))).getD 0 []).length := by
    show 0 < (fD true g ns (fun j => [ns.getD j 0]) k0.1 k0.2).length
    simp [fD]
  (all_goals try k_fold)
  (repeat' (first | (k_unfold; (try dsimp only)) | ((fail_if_success (with_reducible show wpAny _ _ (PySem.exec (PySem.Stmt.While _ _ _ _) _) _ _ _)); (fail_if_success (with_reducible show KswEnd _ _ _ _ _ _ _ _ _ _ _ _)); (fail_if_success (with_reducible show wpAny _ _ (pyIter (Value.ref _)) _ _ _)); (fail_if_success (with_reducible show TurnEnd _ _ _ _ _ _ _)); (fail_if_success (with_reducible show wpAny _ _ (PySem.eval (PySem.Expr.ListComp _ _ _ _) _) _ _ _)); (fail_if_success (with_reducible show wpAny _ _ (PySem.exec (PySem.Stmt.Assign _ (PySem.Expr.ListComp _ _ _ _) _) _) _ _ _)); (fail_if_success (with_reducible show wpAny _ _ (PySem.call (Value.type "zip") _ _) _ _ _)); (fail_if_success (with_reducible show wpAny _ _ (PySem.call (Value.builtin "list.sort") _ _) _ _ _)); (fail_if_success (with_reducible show wpAny _ _ (PySem.assign (PySem.Expr.Tuple _ _ _) _ _) _ _ _)); (fail_if_success (with_reducible show wpAny _ _ (PySem.call (Value.ref _) _ _) _ _ _)); first | walk1 | (dsimp only; walk1))))
  rename Fr _ _ _ _ => F2
  with_reducible rename News _ _ _ _ => N2
  (try clear F1); (try clear N1)
  subst hr5
  refine wpAny_execs_cons ?_
  obtain ⟨r6, hr6⟩ : ∃ r, r = [nlK6, nlK7, nlK8, nlK9] := ⟨_, rfl⟩
  rw [← hr6]
  conv in (occs := *) nlK5 => all_goals whnf
  (all_goals try k_fold)
  (repeat' (first | (k_unfold; (try dsimp only)) | ((fail_if_success (with_reducible show wpAny _ _ (PySem.exec (PySem.Stmt.While _ _ _ _) _) _ _ _)); (fail_if_success (with_reducible show KswEnd _ _ _ _ _ _ _ _ _ _ _ _)); (fail_if_success (with_reducible show wpAny _ _ (pyIter (Value.ref _)) _ _ _)); (fail_if_success (with_reducible show TurnEnd _ _ _ _ _ _ _)); (fail_if_success (with_reducible show wpAny _ _ (PySem.eval (PySem.Expr.ListComp _ _ _ _) _) _ _ _)); (fail_if_success (with_reducible show wpAny _ _ (PySem.exec (PySem.Stmt.Assign _ (PySem.Expr.ListComp _ _ _ _) _) _) _ _ _)); (fail_if_success (with_reducible show wpAny _ _ (PySem.call (Value.type "zip") _ _) _ _ _)); (fail_if_success (with_reducible show wpAny _ _ (PySem.call (Value.builtin "list.sort") _ _) _ _ _)); (fail_if_success (with_reducible show wpAny _ _ (PySem.assign (PySem.Expr.Tuple _ _ _) _ _) _ _ _)); (fail_if_success (with_reducible show wpAny _ _ (PySem.call (Value.ref _) _ _) _ _ _)); first | walk1 | (dsimp only; walk1))))
  rename Fr _ _ _ _ => F3
  with_reducible rename News _ _ _ _ => N3
  (try clear F2); (try clear N2)
  subst hr6
  refine wpAny_execs_cons ?_
  obtain ⟨r7, hr7⟩ : ∃ r, r = [nlK7, nlK8, nlK9] := ⟨_, rfl⟩
  rw [← hr7]
  conv in (occs := *) nlK6 => all_goals whnf
  (all_goals try k_fold)
  (repeat' (first | (k_unfold; (try dsimp only)) | ((fail_if_success (with_reducible show wpAny _ _ (PySem.exec (PySem.Stmt.While _ _ _ _) _) _ _ _)); (fail_if_success (with_reducible show KswEnd _ _ _ _ _ _ _ _ _ _ _ _)); (fail_if_success (with_reducible show wpAny _ _ (pyIter (Value.ref _)) _ _ _)); (fail_if_success (with_reducible show TurnEnd _ _ _ _ _ _ _)); (fail_if_success (with_reducible show wpAny _ _ (PySem.eval (PySem.Expr.ListComp _ _ _ _) _) _ _ _)); (fail_if_success (with_reducible show wpAny _ _ (PySem.exec (PySem.Stmt.Assign _ (PySem.Expr.ListComp _ _ _ _) _) _) _ _ _)); (fail_if_success (with_reducible show wpAny _ _ (PySem.call (Value.type "zip") _ _) _ _ _)); (fail_if_success (with_reducible show wpAny _ _ (PySem.call (Value.builtin "list.sort") _ _) _ _ _)); (fail_if_success (with_reducible show wpAny _ _ (PySem.assign (PySem.Expr.Tuple _ _ _) _ _) _ _ _)); (fail_if_success (with_reducible show wpAny _ _ (PySem.call (Value.ref _) _ _) _ _ _)); first | walk1 | (dsimp only; walk1))))
  rename Fr _ _ _ _ => F4
  with_reducible rename News _ _ _ _ => N4
  subst hr7
  refine wpAny_execs_cons ?_
  obtain ⟨r8, hr8⟩ : ∃ r, r = [nlK8, nlK9] := ⟨_, rfl⟩
  rw [← hr8]
  conv in (occs := *) nlK7 => all_goals whnf
  refine For_invVF F4 (by with_unfolding_all rfl) (by with_unfolding_all rfl) ?_
  (all_goals try k_fold)
  (repeat' (first | (k_unfold; (try dsimp only)) | ((fail_if_success (with_reducible show wpAny _ _ (PySem.exec (PySem.Stmt.While _ _ _ _) _) _ _ _)); (fail_if_success (with_reducible show KswEnd _ _ _ _ _ _ _ _ _ _ _ _)); (fail_if_success (with_reducible show wpAny _ _ (pyIter (Value.ref _)) _ _ _)); (fail_if_success (with_reducible show TurnEnd _ _ _ _ _ _ _)); (fail_if_success (with_reducible show wpAny _ _ (PySem.eval (PySem.Expr.ListComp _ _ _ _) _) _ _ _)); (fail_if_success (with_reducible show wpAny _ _ (PySem.exec (PySem.Stmt.Assign _ (PySem.Expr.ListComp _ _ _ _) _) _) _ _ _)); (fail_if_success (with_reducible show wpAny _ _ (PySem.call (Value.type "zip") _ _) _ _ _)); (fail_if_success (with_reducible show wpAny _ _ (PySem.call (Value.builtin "list.sort") _ _) _ _ _)); (fail_if_success (with_reducible show wpAny _ _ (PySem.assign (PySem.Expr.Tuple _ _ _) _ _) _ _ _)); (fail_if_success (with_reducible show wpAny _ _ (PySem.call (Value.ref _) _ _) _ _ _)); first | walk1 | (dsimp only; walk1))))
  refine iter_lit_g (env := nlEnv L) (HJ true g ns (fun j => [ns.getD j 0]) D 35 n [(L + 1, wK), (q, ⟨oc, od, .func fd, osl⟩)] led) hh hlit (by omega) hsl (news := (D, PySem.W.listOf ws1.toArray c1) :: (L + 1, wK) :: (q, ⟨oc, od, .func fd, osl⟩) :: tail) (List.forall_mem_cons.mpr ⟨Ne.symm hID, List.forall_mem_cons.mpr ⟨hIo _ (hled _ hwm), List.forall_mem_cons.mpr ⟨hIo _ (hled _ hqm), hIo⟩⟩⟩)
    (fr4 (x := Str.ofString "result") (y := Str.ofString "top") (z := Str.ofString "order") (v := Str.ofString "_heapreplace") F4 rfl rfl rfl rfl) (fun q hq => N4 q ?_) ⟨ws1, c1, k0, K', n, _, _, tail, _, rfl, rfl, List.forall_mem_cons.mpr ⟨hD _ (hled _ hwm), List.forall_mem_cons.mpr ⟨hD _ (hled _ hqm), hD⟩⟩, hled, hal1, hf1, hinv1⟩ ?_ ?_
  · rcases List.mem_cons.mp hq with rfl | hq
    · exact .tail _ (.head _)
    · rcases List.mem_cons.mp hq with rfl | hq
      · exact .head _
      · rcases List.mem_cons.mp hq with rfl | hq
        · exact .tail _ (.tail _ (hled _ hwm))
        · rcases List.mem_cons.mp hq with rfl | hq
          · exact .tail _ (.tail _ (hled _ hqm))
          · exact .tail _ (.tail _ hq)
  · intro i m₁ nx h5 tk5 o hi hJ hoff F5 N5
    exact nlK_turn X T5 hK hw hbase hI hlen hd hu hh hi hJ hoff F5 N5
  clear hal1 hf1 hinv1 hes hds hk0
  rintro _ _ h5 tk5 ⟨vs, c5, q0, T, ord, tt, to, tail5, u5, rfl, rfl, hD5, hled5, hal5, hf5, hinv5⟩ F5 N5
  replace N5 : News h₀ (nlEnv L).locals h5 ((D, PySem.W.listOf vs.toArray c5) :: tail5) := fun p hp => N5 p (by
    rcases List.mem_cons.mp hp with rfl | hp
    · exact .head _
    · exact .tail _ (.tail _ (.tail _ hp)))
  replace hD5 : ∀ p ∈ tail5, p.1 ≠ D := fun p hp => hD5 p (.tail _ (.tail _ hp))
  clear F4 N4
  subst hr8
  dsimp only
  refine wpAny_execs_cons ?_
  obtain ⟨r9, hr9⟩ : ∃ r, r = [nlK9] := ⟨_, rfl⟩
  rw [← hr9]
  conv in (occs := *) nlK8 => all_goals whnf
  (all_goals try k_fold)
  (repeat' (first | (k_unfold; (try dsimp only)) | ((fail_if_success (with_reducible show wpAny _ _ (PySem.exec (PySem.Stmt.While _ _ _ _) _) _ _ _)); (fail_if_success (with_reducible show KswEnd _ _ _ _ _ _ _ _ _ _ _ _)); (fail_if_success (with_reducible show wpAny _ _ (pyIter (Value.ref _)) _ _ _)); (fail_if_success (with_reducible show TurnEnd _ _ _ _ _ _ _)); (fail_if_success (with_reducible show wpAny _ _ (PySem.eval (PySem.Expr.ListComp _ _ _ _) _) _ _ _)); (fail_if_success (with_reducible show wpAny _ _ (PySem.exec (PySem.Stmt.Assign _ (PySem.Expr.ListComp _ _ _ _) _) _) _ _ _)); (fail_if_success (with_reducible show wpAny _ _ (PySem.call (Value.type "zip") _ _) _ _ _)); (fail_if_success (with_reducible show wpAny _ _ (PySem.call (Value.builtin "list.sort") _ _) _ _ _)); (fail_if_success (with_reducible show wpAny _ _ (PySem.assign (PySem.Expr.Tuple _ _ _) _ _) _ _ _)); (fail_if_success (with_reducible show wpAny _ _ (PySem.call (Value.ref _) _ _) _ _ _)); first | walk1 | (dsimp only; walk1))))
  have hlq := hinv5.len
  refine tsort true (N := 3) (tups := tail5) F5 N5 (.head hD5) hal5 (fun p hp => ⟨.tail _ hp, hD5 p hp⟩) (by
    intro ks hks
    obtain ⟨q, _, rfl⟩ := List.mem_map.mp hks
    rfl) (by decide) (by rw [List.length_map]; omega) (by rw [List.length_map]; omega) (args_list_sort_rev _ _) rfl ?_
  intro h6 c6 ws6 es6 F6 N6 hal6 hp6 hs6
  obtain ⟨K, hK, rfl⟩ := perm_lift hp6
  have hinv6 := hinv5.perm hK
  rw [show n + (svs.length - n) = ns.length by omega] at hinv6
  clear hal5 hf5 hinv5 hp6 hK F5 N5
  (repeat' (first | (k_unfold; (try dsimp only)) | ((fail_if_success (with_reducible show wpAny _ _ (PySem.exec (PySem.Stmt.While _ _ _ _) _) _ _ _)); (fail_if_success (with_reducible show KswEnd _ _ _ _ _ _ _ _ _ _ _ _)); (fail_if_success (with_reducible show wpAny _ _ (pyIter (Value.ref _)) _ _ _)); (fail_if_success (with_reducible show TurnEnd _ _ _ _ _ _ _)); (fail_if_success (with_reducible show wpAny _ _ (PySem.eval (PySem.Expr.ListComp _ _ _ _) _) _ _ _)); (fail_if_success (with_reducible show wpAny _ _ (PySem.exec (PySem.Stmt.Assign _ (PySem.Expr.ListComp _ _ _ _) _) _) _ _ _)); (fail_if_success (with_reducible show wpAny _ _ (PySem.call (Value.type "zip") _ _) _ _ _)); (fail_if_success (with_reducible show wpAny _ _ (PySem.call (Value.builtin "list.sort") _ _) _ _ _)); (fail_if_success (with_reducible show wpAny _ _ (PySem.assign (PySem.Expr.Tuple _ _ _) _ _) _ _ _)); (fail_if_success (with_reducible show wpAny _ _ (PySem.call (Value.ref _) _ _) _ _ _)); first | walk1 | (dsimp only; walk1))))
  rename Fr _ _ _ _ => F7
  with_reducible rename News _ _ _ _ => N7
  subst hr9
  refine wpAny_execs_cons ?_
  conv in (occs := *) nlK9 => all_goals whnf
  (all_goals try k_fold)
  (repeat' (first | (k_unfold; (try dsimp only)) | ((fail_if_success (with_reducible show wpAny _ _ (PySem.exec (PySem.Stmt.While _ _ _ _) _) _ _ _)); (fail_if_success (with_reducible show KswEnd _ _ _ _ _ _ _ _ _ _ _ _)); (fail_if_success (with_reducible show wpAny _ _ (pyIter (Value.ref _)) _ _ _)); (fail_if_success (with_reducible show TurnEnd _ _ _ _ _ _ _)); (fail_if_success (with_reducible show wpAny _ _ (PySem.eval (PySem.Expr.ListComp _ _ _ _) _) _ _ _)); (fail_if_success (with_reducible show wpAny _ _ (PySem.exec (PySem.Stmt.Assign _ (PySem.Expr.ListComp _ _ _ _) _) _) _ _ _)); (fail_if_success (with_reducible show wpAny _ _ (PySem.call (Value.type "zip") _ _) _ _ _)); (fail_if_success (with_reducible show wpAny _ _ (PySem.call (Value.builtin "list.sort") _ _) _ _ _)); (fail_if_success (with_reducible show wpAny _ _ (PySem.assign (PySem.Expr.Tuple _ _ _) _ _) _ _ _)); (fail_if_success (with_reducible show wpAny _ _ (PySem.call (Value.ref _) _ _) _ _ _)); first | walk1 | (dsimp only; walk1))))
  refine ListComp_J F7 (by with_unfolding_all rfl) (by decide) (by rfl) (by decide) ?_
  (all_goals try k_fold)
  (repeat' (first | (k_unfold; (try dsimp only)) | ((fail_if_success (with_reducible show wpAny _ _ (PySem.exec (PySem.Stmt.While _ _ _ _) _) _ _ _)); (fail_if_success (with_reducible show KswEnd _ _ _ _ _ _ _ _ _ _ _ _)); (fail_if_success (with_reducible show wpAny _ _ (pyIter (Value.ref _)) _ _ _)); (fail_if_success (with_reducible show TurnEnd _ _ _ _ _ _ _)); (fail_if_success (with_reducible show wpAny _ _ (PySem.eval (PySem.Expr.ListComp _ _ _ _) _) _ _ _)); (fail_if_success (with_reducible show wpAny _ _ (PySem.exec (PySem.Stmt.Assign _ (PySem.Expr.ListComp _ _ _ _) _) _) _ _ _)); (fail_if_success (with_reducible show wpAny _ _ (PySem.call (Value.type "zip") _ _) _ _ _)); (fail_if_success (with_reducible show wpAny _ _ (PySem.call (Value.builtin "list.sort") _ _) _ _ _)); (fail_if_success (with_reducible show wpAny _ _ (PySem.assign (PySem.Expr.Tuple _ _ _) _ _) _ _ _)); (fail_if_success (with_reducible show wpAny _ _ (PySem.call (Value.ref _) _ _) _ _ _)); first | walk1 | (dsimp only; walk1))))
  refine tups_src (N := 3) (j := 2) hh F7 N7 (.head _) (hal6.mono fun p hp => .tail _ hp) (by
    intro ks hks
    obtain ⟨q, _, rfl⟩ := List.mem_map.mp hks
    rfl) (by rw [List.length_map, hinv6.len, PySem.sizeLine_eq]; omega) (picks3 hh (by rfl) (by rfl) (by rfl) (by rfl) (by rfl)) ?_
  rintro D' ys' hbelD hys' s₂ ⟨hx, tx, rfl⟩ h8 tk8 F8 N8
  refine h D' ys' ys'.length h8 tk8 _ F8 (fun q hq => N8 q ?_) (fun q hq => hbelD q (.tail _ (hled5 q hq))) ?_
  · rcases List.mem_cons.mp hq with rfl | hq
    · exact .head _
    · exact .tail _ (.tail _ (hled5 q hq))
  · rw [List.map_map] at hys'
    have hfin := hinv6.fin (ms := ms) (by
      rw [List.pairwise_map] at hs6
      exact hs6.imp fun {x y} hxy => ltD_f true g ns (fun j => [ns.getD j 0]) hxy) hst
    rw [← hfin]
    exact hys'
end

-- VK1
section
local macro_rules | `(tactic| walk_at "callWith ref") => `(tactic| (k_here; k_dflt (refine' callWith_F ?k1 ?_; (case k1 => exact FnAt.of (by k_asm) (by k_mem)); k_whole)))
theorem nlK_ok {w : World} {A : Around} {s : Shared} {Q : Flow → Shared → Prop} {mg mb : Str → Option Value} {p : Program} {loose : List Str} {h₀ : Heap} {L sl : Addr} {svs : List Value} {ns : List Int} {led : List (Addr × Obj)} {u : Str → Option Value} {n : Nat} {t : Tok} {g : Int → Int} {q : Addr} {base : List (Addr × Obj)} {wK : Obj} {oc : Value} {od : Option Addr} {fd : FuncData} {osl : Array (Option Value)}
    (X : (hd.heap_1 w.params).In h₀) (T5 : TopRead p loose mg mb h₀) (hsl : h₀.IsList sl svs.toArray) (hK : KeyOk w h₀ q base g) (hw : wK.data = .cell (some (.ref q))) (hbase : ∀ p ∈ base, p ∈ led) (hwm : (L + 1, wK) ∈ led) (hqm : (q, ⟨oc, od, .func fd, osl⟩) ∈ led) (hI : IntsAre svs ns) (hlen : ns.length < 64) (hd : A.depth < 850) (hu : A.units < 8500) (hh : A.handled = none) (hn2 : n = 0 ∨ 2 ≤ n) (hnl : n < ns.length)
    (F : Fr h₀ L s.heap (fun y => if y = Str.ofString "n" then some (.int (n : Nat) t) else if y = Str.ofString "iterable" then some (.ref sl) else u y)) (N : News h₀ L s.heap led)
    (h : ∀ D ws ms c h' tk m', Fr h₀ L h' m' → News h₀ L h' ((D, PySem.W.listOf (List.toArray ws) c) :: led) → (∀ q ∈ led, @LT.lt Nat _ q.1 D) → IntsAre ws (ms.take n) → Stab (fun x => sgn true (g x)) ns ms → Q (.ret (.ref D)) { s with heap := h', toks := tk }) :
    wpAny (model PG w) A (execs nlK (nlEnv L)) Q (fun _ _ => False) s := by
  have hlv := hI.length
  obtain ⟨ms, hms⟩ := stab_ex (fun x => sgn true (g x)) ns
  rw [nlK_eq]
  obtain ⟨r1, hr1⟩ : ∃ r, r = [nlK1, nlK2, nlK3, nlK4, nlK5, nlK6, nlK7, nlK8, nlK9] := ⟨_, rfl⟩
  rw [← hr1]
  refine wpAny_execs_cons ?_
  conv in (occs := *) nlK0 => all_goals whnf
  (all_goals try k_fold)
  (repeat' (first | (k_unfold; (try dsimp only)) | ((fail_if_success (with_reducible show wpAny _ _ (PySem.exec (PySem.Stmt.While _ _ _ _) _) _ _ _)); (fail_if_success (with_reducible show KswEnd _ _ _ _ _ _ _ _ _ _ _ _)); (fail_if_success (with_reducible show wpAny _ _ (pyIter (Value.ref _)) _ _ _)); (fail_if_success (with_reducible show TurnEnd _ _ _ _ _ _ _)); (fail_if_success (with_reducible show wpAny _ _ (PySem.eval (PySem.Expr.ListComp _ _ _ _) _) _ _ _)); (fail_if_success (with_reducible show wpAny _ _ (PySem.exec (PySem.Stmt.Assign _ (PySem.Expr.ListComp _ _ _ _) _) _) _ _ _)); (fail_if_success (with_reducible show wpAny _ _ (PySem.call (Value.type "zip") _ _) _ _ _)); (fail_if_success (with_reducible show wpAny _ _ (PySem.call (Value.builtin "list.sort") _ _) _ _ _)); (fail_if_success (with_reducible show wpAny _ _ (PySem.assign (PySem.Expr.Tuple _ _ _) _ _) _ _ _)); (fail_if_success (with_reducible show wpAny _ _ (PySem.call (Value.ref _) _ _) _ _ _)); first | walk1 | (dsimp only; walk1))))
  rename_i I1 _ l1 h1 F1 N1
  subst hr1
  refine wpAny_execs_cons ?_
  obtain ⟨r2, hr2⟩ : ∃ r, r = [nlK2, nlK3, nlK4, nlK5, nlK6, nlK7, nlK8, nlK9] := ⟨_, rfl⟩
  rw [← hr2]
  conv in (occs := *) nlK1 => all_goals whnf
  refine Assign_ListComp_J F1 rfl (by with_unfolding_all rfl) (by with_unfolding_all rfl) (by decide) (by rfl) (by decide) (by rfl) (by rfl) ?_
  (all_goals try k_fold)
  (repeat' (first | (k_unfold; (try dsimp only)) | ((fail_if_success (with_reducible show wpAny _ _ (PySem.exec (PySem.Stmt.While _ _ _ _) _) _ _ _)); (fail_if_success (with_reducible show KswEnd _ _ _ _ _ _ _ _ _ _ _ _)); (fail_if_success (with_reducible show wpAny _ _ (pyIter (Value.ref _)) _ _ _)); (fail_if_success (with_reducible show TurnEnd _ _ _ _ _ _ _)); (fail_if_success (with_reducible show wpAny _ _ (PySem.eval (PySem.Expr.ListComp _ _ _ _) _) _ _ _)); (fail_if_success (with_reducible show wpAny _ _ (PySem.exec (PySem.Stmt.Assign _ (PySem.Expr.ListComp _ _ _ _) _) _) _ _ _)); (fail_if_success (with_reducible show wpAny _ _ (PySem.call (Value.type "zip") _ _) _ _ _)); (fail_if_success (with_reducible show wpAny _ _ (PySem.call (Value.builtin "list.sort") _ _) _ _ _)); (fail_if_success (with_reducible show wpAny _ _ (PySem.assign (PySem.Expr.Tuple _ _ _) _ _) _ _ _)); (fail_if_success (with_reducible show wpAny _ _ (PySem.call (Value.ref _) _ _) _ _ _)); first | walk1 | (dsimp only; walk1))))
  rename IsRange _ _ _ _ _ _ _ _ => hr
  rename Fr _ _ _ _ => F2
  with_reducible rename News _ _ _ _ => N2
  refine zip_src (n := n) (dk := fun i => fD true g ns (fun j => [ns.getD j 0]) i ((i : Nat) : Int)) hh F2 N2 ⟨rfl, rfl⟩ (fun p hp => Nat.ne_of_lt (l1 p hp)) hsl hr (rsm_down (by omega)) (rsz_down n) (by omega) (by rw [PySem.sizeLine_eq]; omega) (by rfl) (by rfl) (by rfl) (by decide) ?helt ?fin
  case helt =>
    intro i C D oC m₂ ys led' h3 tk3 E' Q' hi hoC hxi hxe F3 N3 hsub hQ
    obtain ⟨ti, hxi⟩ := hxi
    clear F2 N2
    have N3w : News h₀ L h3 ((C, oC) :: (D, LCg.lst ys) :: (L + 1, wK) :: (q, ⟨oc, od, .func fd, osl⟩) :: led') := fun p hp => N3 p (by
      rcases List.mem_cons.mp hp with rfl | hp
      · exact .head _
      · rcases List.mem_cons.mp hp with rfl | hp
        · exact .tail _ (.head _)
        · rcases List.mem_cons.mp hp with rfl | hp
          · exact .tail _ (.tail _ (hsub _ hwm))
          · rcases List.mem_cons.mp hp with rfl | hp
            · exact .tail _ (.tail _ (hsub _ hqm))
            · exact .tail _ (.tail _ hp))
    obtain ⟨te, ee⟩ := ints_getD hI i (by omega)
    rw [ee] at hxe
    clear N3
    (all_goals try k_fold)
    (repeat' (first | (k_unfold; (try dsimp only)) | ((fail_if_success (with_reducible show wpAny _ _ (PySem.exec (PySem.Stmt.While _ _ _ _) _) _ _ _)); (fail_if_success (with_reducible show KswEnd _ _ _ _ _ _ _ _ _ _ _ _)); (fail_if_success (with_reducible show wpAny _ _ (pyIter (Value.ref _)) _ _ _)); (fail_if_success (with_reducible show TurnEnd _ _ _ _ _ _ _)); (fail_if_success (with_reducible show wpAny _ _ (PySem.eval (PySem.Expr.ListComp _ _ _ _) _) _ _ _)); (fail_if_success (with_reducible show wpAny _ _ (PySem.exec (PySem.Stmt.Assign _ (PySem.Expr.ListComp _ _ _ _) _) _) _ _ _)); (fail_if_success (with_reducible show wpAny _ _ (PySem.call (Value.type "zip") _ _) _ _ _)); (fail_if_success (with_reducible show wpAny _ _ (PySem.call (Value.builtin "list.sort") _ _) _ _ _)); (fail_if_success (with_reducible show wpAny _ _ (PySem.assign (PySem.Expr.Tuple _ _ _) _ _) _ _ _)); (fail_if_success (with_reducible show wpAny _ _ (PySem.call (Value.ref _) _ _) _ _ _)); first | walk1 | (dsimp only; walk1))))
    refine hK A _ _ _ L _ _ _ _ hh (by omega) (by omega) F3 N3w (fun p hp => .tail _ (.tail _ (.tail _ (.tail _ (hsub _ (hbase p hp)))))) ?_
    intro h5 tk5 t5 F5 N5
    clear F3 N3w
    (repeat' (first | (k_unfold; (try dsimp only)) | ((fail_if_success (with_reducible show wpAny _ _ (PySem.exec (PySem.Stmt.While _ _ _ _) _) _ _ _)); (fail_if_success (with_reducible show KswEnd _ _ _ _ _ _ _ _ _ _ _ _)); (fail_if_success (with_reducible show wpAny _ _ (pyIter (Value.ref _)) _ _ _)); (fail_if_success (with_reducible show TurnEnd _ _ _ _ _ _ _)); (fail_if_success (with_reducible show wpAny _ _ (PySem.eval (PySem.Expr.ListComp _ _ _ _) _) _ _ _)); (fail_if_success (with_reducible show wpAny _ _ (PySem.exec (PySem.Stmt.Assign _ (PySem.Expr.ListComp _ _ _ _) _) _) _ _ _)); (fail_if_success (with_reducible show wpAny _ _ (PySem.call (Value.type "zip") _ _) _ _ _)); (fail_if_success (with_reducible show wpAny _ _ (PySem.call (Value.builtin "list.sort") _ _) _ _ _)); (fail_if_success (with_reducible show wpAny _ _ (PySem.assign (PySem.Expr.Tuple _ _ _) _ _) _ _ _)); (fail_if_success (with_reducible show wpAny _ _ (PySem.call (Value.ref _) _ _) _ _ _)); first | walk1 | (dsimp only; walk1))))
    rename Fr _ _ _ _ => F4
    with_reducible rename News _ _ _ _ => N4
    rename _ ∧ _ => l4
    obtain ⟨oT, hmk, N4⟩ := tup_head N4 (ks := [g (ns.getD i 0), (0 : Int) + (i : Nat) * -1, ns.getD i 0]) ⟨rfl, [_, _, _], _, rfl, .cons _ _ (.cons _ _ (.cons _ _ .nil))⟩
    have e1 : (0 : Int) + (i : Nat) * -1 = sgn true ((i : Nat) : Int) := by unfold sgn; simp only [if_true]; omega
    rw [e1] at hmk
    refine hQ _ _ _ _ F4 (fun p hp => N4 p ?_) (List.forall_mem_cons.mpr ⟨l4.1, List.forall_mem_cons.mpr ⟨l4.2.1, allLt_mem l4.2.2.2.2⟩⟩) hmk
    rcases List.mem_cons.mp hp with rfl | hp
    · exact .head _
    · rcases List.mem_cons.mp hp with rfl | hp
      · exact .tail _ (.head _)
      · rcases List.mem_cons.mp hp with rfl | hp
        · exact .tail _ (.tail _ (.head _))
        · exact .tail _ (.tail _ (.tail _ (.tail _ (.tail _ hp))))
  case fin =>
    rintro s₂ D ys oI' tups ⟨hx, tx, rfl⟩ hoff hbel hlit hnI hal h3 tk3 F3 N3
    subst hr2
    dsimp only
    have hIm : @Ne Nat I1 D := hoff _ (.head _)
    refine nlK_tail X T5 hsl hK hw hbase hwm hqm hI hlen hd hu hh hn2 hnl (fr3b (x := Str.ofString "result") (y := Str.ofString "it") (z := Str.ofString "n") F3 rfl rfl rfl) N3 hIm (fun p hp => hoff p (.tail _ hp)) hnI hlit (fun p hp => List.mem_append_right _ hp) (fun p hp => hbel p (.tail _ hp)) (hal.mono fun p hp => List.mem_append_left _ hp) hms ?_
    intro D' ws c h' tk m' F' N' hb' hi'
    exact h D' ws ms c h' tk m' F' N' hb' hi' hms
end
end Mine

-- P1
namespace Mine
local macro_rules | `(tactic| k_all) => `(tactic| first | exact List.forall_mem_nil _ | (refine' List.forall_mem_cons.mpr ⟨?a, ?b⟩; (case a => k_ne); (case b => k_all)) | assumption)
local macro_rules | `(tactic| walk_at "exec Try") => `(tactic| (refine wpAny_Try_except ?_))
local macro_rules | `(tactic| walk_at "call builtin:iter") => `(tactic| (k_here; k_dflt (refine' iter_g ?k1 ?k2 ?k3 ?_; (case k1 => k_asm); (case k2 => k_asm); (case k3 => assumption); k_whole); intro I' h' F' N' l1; (try k_sweep)))
local macro_rules | `(tactic| walk_at "call type:object") => `(tactic| (k_here; k_dflt (refine' object_g ?k1 ?k2 ?_; (case k1 => k_asm); (case k2 => k_asm); k_whole); intro S' h' F' N' l1; (try k_sweep)))
local macro_rules | `(tactic| walk_at "compareOp Is") => `(tactic| (k_here; (with_reducible show wpAny _ _ (compareOp CmpOp.Is (Value.int _ _) (Value.ref _)) _ _ _); refine wpAny_is_other (by rfl) (by intro x; cases x) ?_))
theorem nsN_body {w : World} {A : Around} {s : Shared} {Q : Flow → Shared → Prop} {mg mb : Str → Option Value} {p : Program} {loose : List Str} {h₀ : Heap} {L sl : Addr} {svs : List Value} {ns : List Int} {rest : List (Addr × Obj)} {u : Str → Option Value} {n : Nat} {t : Tok} {wK : Obj}
    (X : (hd.heap_1 w.params).In h₀) (T5 : TopRead p loose mg mb h₀) (hsl : h₀.IsList sl svs.toArray) (hI : IntsAre svs ns) (hlen : ns.length < 64) (hd : A.depth < 850) (hu : A.units < 8500) (hh : A.handled = none) (hnb : n < 100) (hw : wK.data = .cell (some .none))
    (F : Fr h₀ L s.heap (fun y => if y = Str.ofString "n" then some (.int (n : Nat) t) else if y = Str.ofString "iterable" then some (.ref sl) else u y)) (N : News h₀ L s.heap ((L + 1, wK) :: rest))
    (h : ∀ D ws ms c h' tk m', Fr h₀ L h' m' → News h₀ L h' ((D, PySem.W.listOf (List.toArray ws) c) :: (L + 1, wK) :: rest) → (∀ q ∈ (L + 1, wK) :: rest, @LT.lt Nat _ q.1 D) → IntsAre ws (ms.take n) → Stab (sgn false) ns ms → Q (.ret (.ref D)) { s with heap := h', toks := tk }) :
    wpAny (model PG w) A (execs nsParts.1 (nsEnv L)) Q (fun _ _ => False) s := by
  have hlv := hI.length
  rw [nsB_eq]
  obtain ⟨r1, hr1⟩ : ∃ r, r = nsB1 :: nsB2 :: nsK := ⟨_, rfl⟩
  rw [← hr1]
  refine wpAny_execs_cons ?_
  conv in (occs := *) nsB0 => all_goals whnf
  by_cases hn1 : n = 1
  · subst hn1
    (all_goals try k_fold)
    (repeat' (first | (k_unfold; (try dsimp only)) | ((fail_if_success (with_reducible show wpAny _ _ (PySem.execs (PySem.Stmt.Assign _ _ ⟨100, _, _, _⟩ :: _) _) _ _ _)); (fail_if_success (with_reducible show wpAny _ _ (PySem.execs (PySem.Stmt.Assign _ _ ⟨145, _, _, _⟩ :: _) _) _ _ _)); (fail_if_success (with_reducible show wpAny _ _ (PySem.call (Value.builtin "min") _ _) _ _ _)); (fail_if_success (with_reducible show wpAny _ _ (PySem.call (Value.builtin "max") _ _) _ _ _)); (fail_if_success (with_reducible show wpAny _ _ (PySem.call (Value.builtin "sorted") _ _) _ _ _)); (fail_if_success (with_reducible show wpAny _ _ (subscriptTail _ _ (Value.ref _) (Value.ref _)) _ _ _)); (fail_if_success (with_reducible show wpAny _ _ (PySem.call (Value.ref _) _ _) _ _ _)); first | walk1 | (dsimp only; walk1))))
    · rename Fr _ _ _ _ => F2
      with_reducible rename News _ _ _ _ => N2
      with_reducible rename (∀ p ∈ _, _) => l2
      rename_i I2 _ l1 _ S2 _ _
      have hIS : @Ne Nat S2 I2 := Nat.ne_of_gt (l2 _ (.head _))
      have hIr : ∀ p ∈ (S2, { cls := .type "object", data := .plain }) :: (L + 1, wK) :: rest, p.1 ≠ I2 := List.forall_mem_cons.mpr ⟨hIS, fun p hp => Nat.ne_of_lt (l1 p hp)⟩
      have N3 : News h₀ L _ ((I2, litObj sl 0) :: (S2, { cls := .type "object", data := .plain }) :: (L + 1, wK) :: rest) := fun q hq => N2 q (by
        rcases List.mem_cons.mp hq with rfl | hq
        · exact .tail _ (.head _)
        · rcases List.mem_cons.mp hq with rfl | hq
          · exact .head _
          · exact .tail _ (.tail _ hq))
      obtain ⟨ms, hms⟩ := stab_ex (sgn false) ns
      show wpAny _ _ (call (Value.builtin "min") [Value.ref I2] [(Str.ofString "default", .ref S2), (Str.ofString "key", keyV none)]) _ _ _
      refine min_it (fun i => ns.getD i 0) hh F2 N3 ⟨rfl, rfl⟩ hIr hsl ?_ ?_ ?_ ?_
      · intro _ i v hv
        have hi : i < svs.length := by
          rcases Nat.lt_or_ge i svs.length with h | h
          · exact h
          · rw [List.getElem?_eq_none h] at hv; cases hv
        obtain ⟨t, e⟩ := ints_getD hI i (by omega)
        refine ⟨t, ?_⟩
        rw [← e]
        simp [List.getD_eq_getElem?_getD, hv]
      · intro q hq; cases hq
      · intro h5 tk5 hnil F5 N5
        (try clear F2); (try clear N2); clear N3
        (repeat' (first | (k_unfold; (try dsimp only)) | ((fail_if_success (with_reducible show wpAny _ _ (PySem.execs (PySem.Stmt.Assign _ _ ⟨100, _, _, _⟩ :: _) _) _ _ _)); (fail_if_success (with_reducible show wpAny _ _ (PySem.execs (PySem.Stmt.Assign _ _ ⟨145, _, _, _⟩ :: _) _) _ _ _)); (fail_if_success (with_reducible show wpAny _ _ (PySem.call (Value.builtin "min") _ _) _ _ _)); (fail_if_success (with_reducible show wpAny _ _ (PySem.call (Value.builtin "max") _ _) _ _ _)); (fail_if_success (with_reducible show wpAny _ _ (PySem.call (Value.builtin "sorted") _ _) _ _ _)); (fail_if_success (with_reducible show wpAny _ _ (subscriptTail _ _ (Value.ref _) (Value.ref _)) _ _ _)); (fail_if_success (with_reducible show wpAny _ _ (PySem.call (Value.ref _) _ _) _ _ _)); first | walk1 | (dsimp only; walk1))))
        rename Fr _ _ _ _ => F9
        with_reducible rename News _ _ _ _ => N9
        rename _ ∧ _ => l9
        have hns0 : ns = [] := List.length_eq_zero_iff.mp (by rw [← hlv, hnil]; rfl)
        have hms0 : ms = [] := List.length_eq_zero_iff.mp (by rw [(stab_perm hms).length_eq, hns0]; rfl)
        refine h _ [] ms 0 _ _ _ F9 (fun q hq => N9 q ?_) (List.forall_mem_cons.mpr ⟨l9.2.1, allLt_mem l9.2.2⟩) (by rw [hms0]; exact .nil) hms
        rcases List.mem_cons.mp hq with rfl | hq
        · exact .head _
        · exact .tail _ (.tail _ hq)
      · intro i v h5 tk5 hv hbest F5 N5
        have hi : i < svs.length := by
          rcases Nat.lt_or_ge i svs.length with h | h
          · exact h
          · rw [List.getElem?_eq_none h] at hv; cases hv
        obtain ⟨tv, ev⟩ := ints_getD hI i (by omega)
        have hv' : v = .int (ns.getD i 0) tv := by rw [← ev]; simp [List.getD_eq_getElem?_getD, hv]
        subst hv'
        (try clear F2); (try clear N2); clear N3
        (repeat' (first | (k_unfold; (try dsimp only)) | ((fail_if_success (with_reducible show wpAny _ _ (PySem.execs (PySem.Stmt.Assign _ _ ⟨100, _, _, _⟩ :: _) _) _ _ _)); (fail_if_success (with_reducible show wpAny _ _ (PySem.execs (PySem.Stmt.Assign _ _ ⟨145, _, _, _⟩ :: _) _) _ _ _)); (fail_if_success (with_reducible show wpAny _ _ (PySem.call (Value.builtin "min") _ _) _ _ _)); (fail_if_success (with_reducible show wpAny _ _ (PySem.call (Value.builtin "max") _ _) _ _ _)); (fail_if_success (with_reducible show wpAny _ _ (PySem.call (Value.builtin "sorted") _ _) _ _ _)); (fail_if_success (with_reducible show wpAny _ _ (subscriptTail _ _ (Value.ref _) (Value.ref _)) _ _ _)); (fail_if_success (with_reducible show wpAny _ _ (PySem.call (Value.ref _) _ _) _ _ _)); first | walk1 | (dsimp only; walk1))))
        rename Fr _ _ _ _ => F9
        with_reducible rename News _ _ _ _ => N9
        rename _ ∧ _ => l9
        have hhead := stab_head (b := false) (g := fun x => x) (ns := ns) (ms := ms) (i := i) (by omega) (fun j hj => by
          have := hbest j (by omega)
          unfold kap; simp only [sgn, Bool.false_eq_true, if_false, if_true]; omega) hms
        refine h _ [.int (ns.getD i 0) tv] ms 0 _ _ _ F9 (fun q hq => N9 q ?_) (List.forall_mem_cons.mpr ⟨l9.2.1, allLt_mem l9.2.2⟩) (by rw [← hhead]; exact .cons _ _ .nil) hms
        rcases List.mem_cons.mp hq with rfl | hq
        · exact .head _
        · exact .tail _ (.tail _ hq)
    all_goals exact absurd rfl (by assumption)
  · have hn1' : ((n : Nat) : Int) ≠ 1 := by omega
    (all_goals try k_fold)
    (repeat' (first | (k_unfold; (try dsimp only)) | ((fail_if_success (with_reducible show wpAny _ _ (PySem.execs (PySem.Stmt.Assign _ _ ⟨100, _, _, _⟩ :: _) _) _ _ _)); (fail_if_success (with_reducible show wpAny _ _ (PySem.execs (PySem.Stmt.Assign _ _ ⟨145, _, _, _⟩ :: _) _) _ _ _)); (fail_if_success (with_reducible show wpAny _ _ (PySem.call (Value.builtin "min") _ _) _ _ _)); (fail_if_success (with_reducible show wpAny _ _ (PySem.call (Value.builtin "max") _ _) _ _ _)); (fail_if_success (with_reducible show wpAny _ _ (PySem.call (Value.builtin "sorted") _ _) _ _ _)); (fail_if_success (with_reducible show wpAny _ _ (subscriptTail _ _ (Value.ref _) (Value.ref _)) _ _ _)); (fail_if_success (with_reducible show wpAny _ _ (PySem.call (Value.ref _) _ _) _ _ _)); first | walk1 | (dsimp only; walk1))))
    · exact absurd (by assumption) hn1'
    rename Fr _ _ _ _ => F2
    with_reducible rename News _ _ _ _ => N2
    subst hr1
    refine wpAny_execs_cons ?_
    obtain ⟨r2, hr2⟩ : ∃ r, r = nsB2 :: nsK := ⟨_, rfl⟩
    rw [← hr2]
    conv in (occs := *) nsB1 => all_goals whnf
    (all_goals try k_fold)
    (repeat' (first | (k_unfold; (try dsimp only)) | ((fail_if_success (with_reducible show wpAny _ _ (PySem.execs (PySem.Stmt.Assign _ _ ⟨100, _, _, _⟩ :: _) _) _ _ _)); (fail_if_success (with_reducible show wpAny _ _ (PySem.execs (PySem.Stmt.Assign _ _ ⟨145, _, _, _⟩ :: _) _) _ _ _)); (fail_if_success (with_reducible show wpAny _ _ (PySem.call (Value.builtin "min") _ _) _ _ _)); (fail_if_success (with_reducible show wpAny _ _ (PySem.call (Value.builtin "max") _ _) _ _ _)); (fail_if_success (with_reducible show wpAny _ _ (PySem.call (Value.builtin "sorted") _ _) _ _ _)); (fail_if_success (with_reducible show wpAny _ _ (subscriptTail _ _ (Value.ref _) (Value.ref _)) _ _ _)); (fail_if_success (with_reducible show wpAny _ _ (PySem.call (Value.ref _) _ _) _ _ _)); first | walk1 | (dsimp only; walk1))))
    · -- sorted
      rename Fr _ _ _ _ => F3
      with_reducible rename News _ _ _ _ => N3
      show wpAny _ _ (call (Value.builtin "sorted") [Value.ref _] [(PySem.Str.ofString "key", Value.none)]) _ _ _
      refine sortedPlain_ok (b := false) F3 N3 (hsl.at fun o e => F3.keep _ _ e) hI (by omega) (ksk_s1 _ _) (fun _ => ksk_l1 _ _) (fun _ => rfl) ?_
      intro D8 ws8 ms8 c8 h8 F4 N4 l4 hI4 st4
      (try clear F3); (try clear N3)
      (repeat' (first | (k_unfold; (try dsimp only)) | ((fail_if_success (with_reducible show wpAny _ _ (PySem.execs (PySem.Stmt.Assign _ _ ⟨100, _, _, _⟩ :: _) _) _ _ _)); (fail_if_success (with_reducible show wpAny _ _ (PySem.execs (PySem.Stmt.Assign _ _ ⟨145, _, _, _⟩ :: _) _) _ _ _)); (fail_if_success (with_reducible show wpAny _ _ (PySem.call (Value.builtin "min") _ _) _ _ _)); (fail_if_success (with_reducible show wpAny _ _ (PySem.call (Value.builtin "max") _ _) _ _ _)); (fail_if_success (with_reducible show wpAny _ _ (PySem.call (Value.builtin "sorted") _ _) _ _ _)); (fail_if_success (with_reducible show wpAny _ _ (subscriptTail _ _ (Value.ref _) (Value.ref _)) _ _ _)); (fail_if_success (with_reducible show wpAny _ _ (PySem.call (Value.ref _) _ _) _ _ _)); first | walk1 | (dsimp only; walk1))))
      have hl9 := (stab_perm st4).length_eq
      refine kba_turn (value' := PySem.Expr.Name (PySem.Str.ofString "_") ⟨0, 0, 0, 0⟩) (fun _ => rfl) ?_
      refine upto_g F4 N4 (.head _) hI4 (by omega) ?_ (by with_unfolding_all rfl) (by intro _; with_unfolding_all rfl)
      intro D9 ws9 h9 F9 N9 l9 hI9
      (repeat' (first | (k_unfold; (try dsimp only)) | ((fail_if_success (with_reducible show wpAny _ _ (PySem.execs (PySem.Stmt.Assign _ _ ⟨100, _, _, _⟩ :: _) _) _ _ _)); (fail_if_success (with_reducible show wpAny _ _ (PySem.execs (PySem.Stmt.Assign _ _ ⟨145, _, _, _⟩ :: _) _) _ _ _)); (fail_if_success (with_reducible show wpAny _ _ (PySem.call (Value.builtin "min") _ _) _ _ _)); (fail_if_success (with_reducible show wpAny _ _ (PySem.call (Value.builtin "max") _ _) _ _ _)); (fail_if_success (with_reducible show wpAny _ _ (PySem.call (Value.builtin "sorted") _ _) _ _ _)); (fail_if_success (with_reducible show wpAny _ _ (subscriptTail _ _ (Value.ref _) (Value.ref _)) _ _ _)); (fail_if_success (with_reducible show wpAny _ _ (PySem.call (Value.ref _) _ _) _ _ _)); first | walk1 | (dsimp only; walk1))))
      refine h _ _ _ 0 _ _ _ F9 (fun q hq => N9 q ?_) (fun q hq => l9 q (.tail _ hq)) hI9 st4
      rcases List.mem_cons.mp hq with rfl | hq
      · exact .head _
      · exact .tail _ (.tail _ hq)
    rename ¬ _ ≥ _ => hlt
    rename Fr _ _ _ _ => F3
    with_reducible rename News _ _ _ _ => N3
    subst hr2
    refine wpAny_execs_cons ?_
    conv in (occs := *) nsB2 => all_goals whnf
    (all_goals try k_fold)
    (repeat' (first | (k_unfold; (try dsimp only)) | ((fail_if_success (with_reducible show wpAny _ _ (PySem.execs (PySem.Stmt.Assign _ _ ⟨100, _, _, _⟩ :: _) _) _ _ _)); (fail_if_success (with_reducible show wpAny _ _ (PySem.execs (PySem.Stmt.Assign _ _ ⟨145, _, _, _⟩ :: _) _) _ _ _)); (fail_if_success (with_reducible show wpAny _ _ (PySem.call (Value.builtin "min") _ _) _ _ _)); (fail_if_success (with_reducible show wpAny _ _ (PySem.call (Value.builtin "max") _ _) _ _ _)); (fail_if_success (with_reducible show wpAny _ _ (PySem.call (Value.builtin "sorted") _ _) _ _ _)); (fail_if_success (with_reducible show wpAny _ _ (subscriptTail _ _ (Value.ref _) (Value.ref _)) _ _ _)); (fail_if_success (with_reducible show wpAny _ _ (PySem.call (Value.ref _) _ _) _ _ _)); first | walk1 | (dsimp only; walk1))))
    rename Fr _ _ _ _ => F5
    with_reducible rename News _ _ _ _ => N5
    refine nsN_ok X T5 hsl hI hlen hd hu hh (by omega) (by omega) (fr2b (x := Str.ofString "n") (y := Str.ofString "iterable") F5 rfl rfl) N5 ?_
    intro D ws ms c h9 tk9 m9 F9 N9 l9 hI9 st9
    exact h D ws ms c h9 tk9 m9 F9 N9 l9 hI9 st9

-- R1
section
theorem nlN_body {w : World} {A : Around} {s : Shared} {Q : Flow → Shared → Prop} {mg mb : Str → Option Value} {p : Program} {loose : List Str} {h₀ : Heap} {L sl : Addr} {svs : List Value} {ns : List Int} {rest : List (Addr × Obj)} {u : Str → Option Value} {n : Nat} {t : Tok} {wK : Obj}
    (X : (hd.heap_1 w.params).In h₀) (T5 : TopRead p loose mg mb h₀) (hsl : h₀.IsList sl svs.toArray) (hI : IntsAre svs ns) (hlen : ns.length < 64) (hd : A.depth < 850) (hu : A.units < 8500) (hh : A.handled = none) (hnb : n < 100) (hw : wK.data = .cell (some .none))
    (F : Fr h₀ L s.heap (fun y => if y = Str.ofString "n" then some (.int (n : Nat) t) else if y = Str.ofString "iterable" then some (.ref sl) else u y)) (N : News h₀ L s.heap ((L + 1, wK) :: rest))
    (h : ∀ D ws ms c h' tk m', Fr h₀ L h' m' → News h₀ L h' ((D, PySem.W.listOf (List.toArray ws) c) :: (L + 1, wK) :: rest) → (∀ q ∈ (L + 1, wK) :: rest, @LT.lt Nat _ q.1 D) → IntsAre ws (ms.take n) → Stab (sgn true) ns ms → Q (.ret (.ref D)) { s with heap := h', toks := tk }) :
    wpAny (model PG w) A (execs nlParts.1 (nlEnv L)) Q (fun _ _ => False) s := by
  have hlv := hI.length
  rw [nlB_eq]
  obtain ⟨r1, hr1⟩ : ∃ r, r = nlB1 :: nlB2 :: nlK := ⟨_, rfl⟩
  rw [← hr1]
  refine wpAny_execs_cons ?_
  conv in (occs := *) nlB0 => all_goals whnf
  by_cases hn1 : n = 1
  · subst hn1
    (all_goals try k_fold)
    (repeat' (first | (k_unfold; (try dsimp only)) | ((fail_if_success (with_reducible show wpAny _ _ (PySem.execs (PySem.Stmt.Assign _ _ ⟨100, _, _, _⟩ :: _) _) _ _ _)); (fail_if_success (with_reducible show wpAny _ _ (PySem.execs (PySem.Stmt.Assign _ _ ⟨145, _, _, _⟩ :: _) _) _ _ _)); (fail_if_success (with_reducible show wpAny _ _ (PySem.call (Value.builtin "min") _ _) _ _ _)); (fail_if_success (with_reducible show wpAny _ _ (PySem.call (Value.builtin "max") _ _) _ _ _)); (fail_if_success (with_reducible show wpAny _ _ (PySem.call (Value.builtin "sorted") _ _) _ _ _)); (fail_if_success (with_reducible show wpAny _ _ (subscriptTail _ _ (Value.ref _) (Value.ref _)) _ _ _)); (fail_if_success (with_reducible show wpAny _ _ (PySem.call (Value.ref _) _ _) _ _ _)); first | walk1 | (dsimp only; walk1))))
    · rename Fr _ _ _ _ => F2
      with_reducible rename News _ _ _ _ => N2
      with_reducible rename (∀ p ∈ _, _) => l2
      rename_i I2 _ l1 _ S2 _ _
      have hIS : @Ne Nat S2 I2 := Nat.ne_of_gt (l2 _ (.head _))
      have hIr : ∀ p ∈ (S2, { cls := .type "object", data := .plain }) :: (L + 1, wK) :: rest, p.1 ≠ I2 := List.forall_mem_cons.mpr ⟨hIS, fun p hp => Nat.ne_of_lt (l1 p hp)⟩
      have N3 : News h₀ L _ ((I2, litObj sl 0) :: (S2, { cls := .type "object", data := .plain }) :: (L + 1, wK) :: rest) := fun q hq => N2 q (by
        rcases List.mem_cons.mp hq with rfl | hq
        · exact .tail _ (.head _)
        · rcases List.mem_cons.mp hq with rfl | hq
          · exact .head _
          · exact .tail _ (.tail _ hq))
      obtain ⟨ms, hms⟩ := stab_ex (sgn true) ns
      show wpAny _ _ (call (Value.builtin "max") [Value.ref I2] [(Str.ofString "default", .ref S2), (Str.ofString "key", keyV none)]) _ _ _
      refine max_it (fun i => ns.getD i 0) hh F2 N3 ⟨rfl, rfl⟩ hIr hsl ?_ ?_ ?_ ?_
      · intro _ i v hv
        have hi : i < svs.length := by
          rcases Nat.lt_or_ge i svs.length with h | h
          · exact h
          · rw [List.getElem?_eq_none h] at hv; cases hv
        obtain ⟨t, e⟩ := ints_getD hI i (by omega)
        refine ⟨t, ?_⟩
        rw [← e]
        simp [List.getD_eq_getElem?_getD, hv]
      · intro q hq; cases hq
      · intro h5 tk5 hnil F5 N5
        (try clear F2); (try clear N2); clear N3
        (repeat' (first | (k_unfold; (try dsimp only)) | ((fail_if_success (with_reducible show wpAny _ _ (PySem.execs (PySem.Stmt.Assign _ _ ⟨100, _, _, _⟩ :: _) _) _ _ _)); (fail_if_success (with_reducible show wpAny _ _ (PySem.execs (PySem.Stmt.Assign _ _ ⟨145, _, _, _⟩ :: _) _) _ _ _)); (fail_if_success (with_reducible show wpAny _ _ (PySem.call (Value.builtin "min") _ _) _ _ _)); (fail_if_success (with_reducible show wpAny _ _ (PySem.call (Value.builtin "max") _ _) _ _ _)); (fail_if_success (with_reducible show wpAny _ _ (PySem.call (Value.builtin "sorted") _ _) _ _ _)); (fail_if_success (with_reducible show wpAny _ _ (subscriptTail _ _ (Value.ref _) (Value.ref _)) _ _ _)); (fail_if_success (with_reducible show wpAny _ _ (PySem.call (Value.ref _) _ _) _ _ _)); first | walk1 | (dsimp only; walk1))))
        rename Fr _ _ _ _ => F9
        with_reducible rename News _ _ _ _ => N9
        rename _ ∧ _ => l9
        have hns0 : ns = [] := List.length_eq_zero_iff.mp (by rw [← hlv, hnil]; rfl)
        have hms0 : ms = [] := List.length_eq_zero_iff.mp (by rw [(stab_perm hms).length_eq, hns0]; rfl)
        refine h _ [] ms 0 _ _ _ F9 (fun q hq => N9 q ?_) (List.forall_mem_cons.mpr ⟨l9.2.1, allLt_mem l9.2.2⟩) (by rw [hms0]; exact .nil) hms
        rcases List.mem_cons.mp hq with rfl | hq
        · exact .head _
        · exact .tail _ (.tail _ hq)
      · intro i v h5 tk5 hv hbest F5 N5
        have hi : i < svs.length := by
          rcases Nat.lt_or_ge i svs.length with h | h
          · exact h
          · rw [List.getElem?_eq_none h] at hv; cases hv
        obtain ⟨tv, ev⟩ := ints_getD hI i (by omega)
        have hv' : v = .int (ns.getD i 0) tv := by rw [← ev]; simp [List.getD_eq_getElem?_getD, hv]
        subst hv'
        (try clear F2); (try clear N2); clear N3
        (repeat' (first | (k_unfold; (try dsimp only)) | ((fail_if_success (with_reducible show wpAny _ _ (PySem.execs (PySem.Stmt.Assign _ _ ⟨100, _, _, _⟩ :: _) _) _ _ _)); (fail_if_success (with_reducible show wpAny _ _ (PySem.execs (PySem.Stmt.Assign _ _ ⟨145, _, _, _⟩ :: _) _) _ _ _)); (fail_if_success (with_reducible show wpAny _ _ (PySem.call (Value.builtin "min") _ _) _ _ _)); (fail_if_success (with_reducible show wpAny _ _ (PySem.call (Value.builtin "max") _ _) _ _ _)); (fail_if_success (with_reducible show wpAny _ _ (PySem.call (Value.builtin "sorted") _ _) _ _ _)); (fail_if_success (with_reducible show wpAny _ _ (subscriptTail _ _ (Value.ref _) (Value.ref _)) _ _ _)); (fail_if_success (with_reducible show wpAny _ _ (PySem.call (Value.ref _) _ _) _ _ _)); first | walk1 | (dsimp only; walk1))))
        rename Fr _ _ _ _ => F9
        with_reducible rename News _ _ _ _ => N9
        rename _ ∧ _ => l9
        have hhead := stab_head (b := true) (g := fun x => x) (ns := ns) (ms := ms) (i := i) (by omega) (fun j hj => by
          have := hbest j (by omega)
          unfold kap; simp only [sgn, Bool.false_eq_true, if_false, if_true]; omega) hms
        refine h _ [.int (ns.getD i 0) tv] ms 0 _ _ _ F9 (fun q hq => N9 q ?_) (List.forall_mem_cons.mpr ⟨l9.2.1, allLt_mem l9.2.2⟩) (by rw [← hhead]; exact .cons _ _ .nil) hms
        rcases List.mem_cons.mp hq with rfl | hq
        · exact .head _
        · exact .tail _ (.tail _ hq)
    all_goals exact absurd rfl (by assumption)
  · have hn1' : ((n : Nat) : Int) ≠ 1 := by omega
    (all_goals try k_fold)
    (repeat' (first | (k_unfold; (try dsimp only)) | ((fail_if_success (with_reducible show wpAny _ _ (PySem.execs (PySem.Stmt.Assign _ _ ⟨100, _, _, _⟩ :: _) _) _ _ _)); (fail_if_success (with_reducible show wpAny _ _ (PySem.execs (PySem.Stmt.Assign _ _ ⟨145, _, _, _⟩ :: _) _) _ _ _)); (fail_if_success (with_reducible show wpAny _ _ (PySem.call (Value.builtin "min") _ _) _ _ _)); (fail_if_success (with_reducible show wpAny _ _ (PySem.call (Value.builtin "max") _ _) _ _ _)); (fail_if_success (with_reducible show wpAny _ _ (PySem.call (Value.builtin "sorted") _ _) _ _ _)); (fail_if_success (with_reducible show wpAny _ _ (subscriptTail _ _ (Value.ref _) (Value.ref _)) _ _ _)); (fail_if_success (with_reducible show wpAny _ _ (PySem.call (Value.ref _) _ _) _ _ _)); first | walk1 | (dsimp only; walk1))))
    · exact absurd (by assumption) hn1'
    rename Fr _ _ _ _ => F2
    with_reducible rename News _ _ _ _ => N2
    subst hr1
    refine wpAny_execs_cons ?_
    obtain ⟨r2, hr2⟩ : ∃ r, r = nlB2 :: nlK := ⟨_, rfl⟩
    rw [← hr2]
    conv in (occs := *) nlB1 => all_goals whnf
    (all_goals try k_fold)
    (repeat' (first | (k_unfold; (try dsimp only)) | ((fail_if_success (with_reducible show wpAny _ _ (PySem.execs (PySem.Stmt.Assign _ _ ⟨100, _, _, _⟩ :: _) _) _ _ _)); (fail_if_success (with_reducible show wpAny _ _ (PySem.execs (PySem.Stmt.Assign _ _ ⟨145, _, _, _⟩ :: _) _) _ _ _)); (fail_if_success (with_reducible show wpAny _ _ (PySem.call (Value.builtin "min") _ _) _ _ _)); (fail_if_success (with_reducible show wpAny _ _ (PySem.call (Value.builtin "max") _ _) _ _ _)); (fail_if_success (with_reducible show wpAny _ _ (PySem.call (Value.builtin "sorted") _ _) _ _ _)); (fail_if_success (with_reducible show wpAny _ _ (subscriptTail _ _ (Value.ref _) (Value.ref _)) _ _ _)); (fail_if_success (with_reducible show wpAny _ _ (PySem.call (Value.ref _) _ _) _ _ _)); first | walk1 | (dsimp only; walk1))))
    · -- sorted
      rename Fr _ _ _ _ => F3
      with_reducible rename News _ _ _ _ => N3
      show wpAny _ _ (call (Value.builtin "sorted") [Value.ref _] [(PySem.Str.ofString "key", Value.none), (PySem.Str.ofString "reverse", Value.bool true)]) _ _ _
      refine sortedPlain_ok (b := true) F3 N3 (hsl.at fun o e => F3.keep _ _ e) hI (by omega) (ksk_s2 _ _ _) (fun _ => ksk_l2 _ _ _) (fun _ => rfl) ?_
      intro D8 ws8 ms8 c8 h8 F4 N4 l4 hI4 st4
      (try clear F3); (try clear N3)
      (repeat' (first | (k_unfold; (try dsimp only)) | ((fail_if_success (with_reducible show wpAny _ _ (PySem.execs (PySem.Stmt.Assign _ _ ⟨100, _, _, _⟩ :: _) _) _ _ _)); (fail_if_success (with_reducible show wpAny _ _ (PySem.execs (PySem.Stmt.Assign _ _ ⟨145, _, _, _⟩ :: _) _) _ _ _)); (fail_if_success (with_reducible show wpAny _ _ (PySem.call (Value.builtin "min") _ _) _ _ _)); (fail_if_success (with_reducible show wpAny _ _ (PySem.call (Value.builtin "max") _ _) _ _ _)); (fail_if_success (with_reducible show wpAny _ _ (PySem.call (Value.builtin "sorted") _ _) _ _ _)); (fail_if_success (with_reducible show wpAny _ _ (subscriptTail _ _ (Value.ref _) (Value.ref _)) _ _ _)); (fail_if_success (with_reducible show wpAny _ _ (PySem.call (Value.ref _) _ _) _ _ _)); first | walk1 | (dsimp only; walk1))))
      have hl9 := (stab_perm st4).length_eq
      refine kba_turn (value' := PySem.Expr.Name (PySem.Str.ofString "_") ⟨0, 0, 0, 0⟩) (fun _ => rfl) ?_
      refine upto_g F4 N4 (.head _) hI4 (by omega) ?_ (by with_unfolding_all rfl) (by intro _; with_unfolding_all rfl)
      intro D9 ws9 h9 F9 N9 l9 hI9
      (repeat' (first | (k_unfold; (try dsimp only)) | ((fail_if_success (with_reducible show wpAny _ _ (PySem.execs (PySem.Stmt.Assign _ _ ⟨100, _, _, _⟩ :: _) _) _ _ _)); (fail_if_success (with_reducible show wpAny _ _ (PySem.execs (PySem.Stmt.Assign _ _ ⟨145, _, _, _⟩ :: _) _) _ _ _)); (fail_if_success (with_reducible show wpAny _ _ (PySem.call (Value.builtin "min") _ _) _ _ _)); (fail_if_success (with_reducible show wpAny _ _ (PySem.call (Value.builtin "max") _ _) _ _ _)); (fail_if_success (with_reducible show wpAny _ _ (PySem.call (Value.builtin "sorted") _ _) _ _ _)); (fail_if_success (with_reducible show wpAny _ _ (subscriptTail _ _ (Value.ref _) (Value.ref _)) _ _ _)); (fail_if_success (with_reducible show wpAny _ _ (PySem.call (Value.ref _) _ _) _ _ _)); first | walk1 | (dsimp only; walk1))))
      refine h _ _ _ 0 _ _ _ F9 (fun q hq => N9 q ?_) (fun q hq => l9 q (.tail _ hq)) hI9 st4
      rcases List.mem_cons.mp hq with rfl | hq
      · exact .head _
      · exact .tail _ (.tail _ hq)
    rename ¬ _ ≥ _ => hlt
    rename Fr _ _ _ _ => F3
    with_reducible rename News _ _ _ _ => N3
    subst hr2
    refine wpAny_execs_cons ?_
    conv in (occs := *) nlB2 => all_goals whnf
    (all_goals try k_fold)
    (repeat' (first | (k_unfold; (try dsimp only)) | ((fail_if_success (with_reducible show wpAny _ _ (PySem.execs (PySem.Stmt.Assign _ _ ⟨100, _, _, _⟩ :: _) _) _ _ _)); (fail_if_success (with_reducible show wpAny _ _ (PySem.execs (PySem.Stmt.Assign _ _ ⟨145, _, _, _⟩ :: _) _) _ _ _)); (fail_if_success (with_reducible show wpAny _ _ (PySem.call (Value.builtin "min") _ _) _ _ _)); (fail_if_success (with_reducible show wpAny _ _ (PySem.call (Value.builtin "max") _ _) _ _ _)); (fail_if_success (with_reducible show wpAny _ _ (PySem.call (Value.builtin "sorted") _ _) _ _ _)); (fail_if_success (with_reducible show wpAny _ _ (subscriptTail _ _ (Value.ref _) (Value.ref _)) _ _ _)); (fail_if_success (with_reducible show wpAny _ _ (PySem.call (Value.ref _) _ _) _ _ _)); first | walk1 | (dsimp only; walk1))))
    rename Fr _ _ _ _ => F5
    with_reducible rename News _ _ _ _ => N5
    refine nlN_ok X T5 hsl hI hlen hd hu hh (by omega) (by omega) (fr2b (x := Str.ofString "n") (y := Str.ofString "iterable") F5 rfl rfl) N5 ?_
    intro D ws ms c h9 tk9 m9 F9 N9 l9 hI9 st9
    exact h D ws ms c h9 tk9 m9 F9 N9 l9 hI9 st9
end

-- PK1
section
theorem nsK_body {w : World} {A : Around} {s : Shared} {Q : Flow → Shared → Prop} {mg mb : Str → Option Value} {p : Program} {loose : List Str} {h₀ : Heap} {L sl : Addr} {svs : List Value} {ns : List Int} {rest : List (Addr × Obj)} {u : Str → Option Value} {n : Nat} {t : Tok} {wK : Obj} {g : Int → Int} {ka : Addr} {base : List (Addr × Obj)} {oc : Value} {od : Option Addr} {fd : FuncData} {osl : Array (Option Value)}
    (X : (hd.heap_1 w.params).In h₀) (T5 : TopRead p loose mg mb h₀) (hsl : h₀.IsList sl svs.toArray) (hI : IntsAre svs ns) (hlen : ns.length < 64) (hd : A.depth < 850) (hu : A.units < 8500) (hh : A.handled = none) (hnb : n < 100) (hK : KeyOk w h₀ ka base g) (hw : wK.data = .cell (some (.ref ka))) (hbase : ∀ p ∈ base, p ∈ (L + 1, wK) :: (ka, ⟨oc, od, .func fd, osl⟩) :: rest)
    (F : Fr h₀ L s.heap (fun y => if y = Str.ofString "n" then some (.int (n : Nat) t) else if y = Str.ofString "iterable" then some (.ref sl) else u y)) (N : News h₀ L s.heap ((L + 1, wK) :: (ka, ⟨oc, od, .func fd, osl⟩) :: rest))
    (h : ∀ D ws ms c h' tk m', Fr h₀ L h' m' → News h₀ L h' ((D, PySem.W.listOf (List.toArray ws) c) :: (L + 1, wK) :: (ka, ⟨oc, od, .func fd, osl⟩) :: rest) → (∀ q ∈ (L + 1, wK) :: (ka, ⟨oc, od, .func fd, osl⟩) :: rest, @LT.lt Nat _ q.1 D) → IntsAre ws (ms.take n) → Stab (fun x => sgn false (g x)) ns ms → Q (.ret (.ref D)) { s with heap := h', toks := tk }) :
    wpAny (model PG w) A (execs nsParts.1 (nsEnv L)) Q (fun _ _ => False) s := by
  have hlv := hI.length
  rw [nsB_eq]
  obtain ⟨r1, hr1⟩ : ∃ r, r = nsB1 :: nsB2 :: nsK := ⟨_, rfl⟩
  rw [← hr1]
  refine wpAny_execs_cons ?_
  conv in (occs := *) nsB0 => all_goals whnf
  by_cases hn1 : n = 1
  · subst hn1
    (all_goals try k_fold)
    (repeat' (first | (k_unfold; (try dsimp only)) | ((fail_if_success (with_reducible show wpAny _ _ (PySem.execs (PySem.Stmt.Assign _ _ ⟨100, _, _, _⟩ :: _) _) _ _ _)); (fail_if_success (with_reducible show wpAny _ _ (PySem.execs (PySem.Stmt.Assign _ _ ⟨145, _, _, _⟩ :: _) _) _ _ _)); (fail_if_success (with_reducible show wpAny _ _ (PySem.call (Value.builtin "min") _ _) _ _ _)); (fail_if_success (with_reducible show wpAny _ _ (PySem.call (Value.builtin "max") _ _) _ _ _)); (fail_if_success (with_reducible show wpAny _ _ (PySem.call (Value.builtin "sorted") _ _) _ _ _)); (fail_if_success (with_reducible show wpAny _ _ (subscriptTail _ _ (Value.ref _) (Value.ref _)) _ _ _)); (fail_if_success (with_reducible show wpAny _ _ (PySem.call (Value.ref _) _ _) _ _ _)); first | walk1 | (dsimp only; walk1))))
    · rename Fr _ _ _ _ => F2
      with_reducible rename News _ _ _ _ => N2
      with_reducible rename (∀ p ∈ _, _) => l2
      rename_i I2 _ l1 _ S2 _ _
      have hIS : @Ne Nat S2 I2 := Nat.ne_of_gt (l2 _ (.head _))
      have hIr : ∀ p ∈ (S2, { cls := .type "object", data := .plain }) :: (L + 1, wK) :: (ka, ⟨oc, od, .func fd, osl⟩) :: rest, p.1 ≠ I2 := List.forall_mem_cons.mpr ⟨hIS, fun p hp => Nat.ne_of_lt (l1 p hp)⟩
      have N3 : News h₀ L _ ((I2, litObj sl 0) :: (S2, { cls := .type "object", data := .plain }) :: (L + 1, wK) :: (ka, ⟨oc, od, .func fd, osl⟩) :: rest) := fun q hq => N2 q (by
        rcases List.mem_cons.mp hq with rfl | hq
        · exact .tail _ (.head _)
        · rcases List.mem_cons.mp hq with rfl | hq
          · exact .head _
          · exact .tail _ (.tail _ hq))
      obtain ⟨ms, hms⟩ := stab_ex (fun x => sgn false (g x)) ns
      show wpAny _ _ (call (Value.builtin "min") [Value.ref I2] [(Str.ofString "default", .ref S2), (Str.ofString "key", keyV (some ka))]) _ _ _
      refine min_it (fun i => g (ns.getD i 0)) hh F2 N3 ⟨rfl, rfl⟩ hIr hsl ?_ ?_ ?_ ?_
      · intro hq; cases hq
      · intro q' hq i v hv h5 tk5 own F5 N5
        cases hq
        have hi : i < svs.length := by
          rcases Nat.lt_or_ge i svs.length with h | h
          · exact h
          · rw [List.getElem?_eq_none h] at hv; cases hv
        obtain ⟨tv, ev⟩ := ints_getD hI i (by omega)
        have hv' : v = .int (ns.getD i 0) tv := by rw [← ev]; simp [List.getD_eq_getElem?_getD, hv]
        subst hv'
        refine hK _ _ _ _ L _ _ _ _ hh (by show A.depth < 900; omega) (by simp only [units_in1]; omega) F5 N5 (fun p hp => List.mem_append_left _ (.tail _ (hbase p hp))) ?_
        intro h6 tk6 t6 F6 N6
        exact KskEnd.intro F6 N6 (fun p hp => hp)
      · intro h5 tk5 hnil F5 N5
        (try clear F2); (try clear N2); clear N3
        (repeat' (first | (k_unfold; (try dsimp only)) | ((fail_if_success (with_reducible show wpAny _ _ (PySem.execs (PySem.Stmt.Assign _ _ ⟨100, _, _, _⟩ :: _) _) _ _ _)); (fail_if_success (with_reducible show wpAny _ _ (PySem.execs (PySem.Stmt.Assign _ _ ⟨145, _, _, _⟩ :: _) _) _ _ _)); (fail_if_success (with_reducible show wpAny _ _ (PySem.call (Value.builtin "min") _ _) _ _ _)); (fail_if_success (with_reducible show wpAny _ _ (PySem.call (Value.builtin "max") _ _) _ _ _)); (fail_if_success (with_reducible show wpAny _ _ (PySem.call (Value.builtin "sorted") _ _) _ _ _)); (fail_if_success (with_reducible show wpAny _ _ (subscriptTail _ _ (Value.ref _) (Value.ref _)) _ _ _)); (fail_if_success (with_reducible show wpAny _ _ (PySem.call (Value.ref _) _ _) _ _ _)); first | walk1 | (dsimp only; walk1))))
        rename Fr _ _ _ _ => F9
        with_reducible rename News _ _ _ _ => N9
        rename _ ∧ _ => l9
        have hns0 : ns = [] := List.length_eq_zero_iff.mp (by rw [← hlv, hnil]; rfl)
        have hms0 : ms = [] := List.length_eq_zero_iff.mp (by rw [(stab_perm hms).length_eq, hns0]; rfl)
        refine h _ [] ms 0 _ _ _ F9 (fun q hq => N9 q ?_) (List.forall_mem_cons.mpr ⟨l9.2.1, List.forall_mem_cons.mpr ⟨l9.2.2.1, allLt_mem l9.2.2.2⟩⟩) (by rw [hms0]; exact .nil) hms
        rcases List.mem_cons.mp hq with rfl | hq
        · exact .head _
        · exact .tail _ (.tail _ hq)
      · intro i v h5 tk5 hv hbest F5 N5
        have hi : i < svs.length := by
          rcases Nat.lt_or_ge i svs.length with h | h
          · exact h
          · rw [List.getElem?_eq_none h] at hv; cases hv
        obtain ⟨tv, ev⟩ := ints_getD hI i (by omega)
        have hv' : v = .int (ns.getD i 0) tv := by rw [← ev]; simp [List.getD_eq_getElem?_getD, hv]
        subst hv'
        (try clear F2); (try clear N2); clear N3
        (repeat' (first | (k_unfold; (try dsimp only)) | ((fail_if_success (with_reducible show wpAny _ _ (PySem.execs (PySem.Stmt.Assign _ _ ⟨100, _, _, _⟩ :: _) _) _ _ _)); (fail_if_success (with_reducible show wpAny _ _ (PySem.execs (PySem.Stmt.Assign _ _ ⟨145, _, _, _⟩ :: _) _) _ _ _)); (fail_if_success (with_reducible show wpAny _ _ (PySem.call (Value.builtin "min") _ _) _ _ _)); (fail_if_success (with_reducible show wpAny _ _ (PySem.call (Value.builtin "max") _ _) _ _ _)); (fail_if_success (with_reducible show wpAny _ _ (PySem.call (Value.builtin "sorted") _ _) _ _ _)); (fail_if_success (with_reducible show wpAny _ _ (subscriptTail _ _ (Value.ref _) (Value.ref _)) _ _ _)); (fail_if_success (with_reducible show wpAny _ _ (PySem.call (Value.ref _) _ _) _ _ _)); first | walk1 | (dsimp only; walk1))))
        rename Fr _ _ _ _ => F9
        with_reducible rename News _ _ _ _ => N9
        rename _ ∧ _ => l9
        have hhead := stab_head (b := false) (g := g) (ns := ns) (ms := ms) (i := i) (by omega) (fun j hj => by
          have := hbest j (by omega)
          unfold kap; simp only [sgn, Bool.false_eq_true, if_false, if_true]; omega) hms
        refine h _ [.int (ns.getD i 0) tv] ms 0 _ _ _ F9 (fun q hq => N9 q ?_) (List.forall_mem_cons.mpr ⟨l9.2.1, List.forall_mem_cons.mpr ⟨l9.2.2.1, allLt_mem l9.2.2.2⟩⟩) (by rw [← hhead]; exact .cons _ _ .nil) hms
        rcases List.mem_cons.mp hq with rfl | hq
        · exact .head _
        · exact .tail _ (.tail _ hq)
    all_goals exact absurd rfl (by assumption)
  · have hn1' : ((n : Nat) : Int) ≠ 1 := by omega
    (all_goals try k_fold)
    (repeat' (first | (k_unfold; (try dsimp only)) | ((fail_if_success (with_reducible show wpAny _ _ (PySem.execs (PySem.Stmt.Assign _ _ ⟨100, _, _, _⟩ :: _) _) _ _ _)); (fail_if_success (with_reducible show wpAny _ _ (PySem.execs (PySem.Stmt.Assign _ _ ⟨145, _, _, _⟩ :: _) _) _ _ _)); (fail_if_success (with_reducible show wpAny _ _ (PySem.call (Value.builtin "min") _ _) _ _ _)); (fail_if_success (with_reducible show wpAny _ _ (PySem.call (Value.builtin "max") _ _) _ _ _)); (fail_if_success (with_reducible show wpAny _ _ (PySem.call (Value.builtin "sorted") _ _) _ _ _)); (fail_if_success (with_reducible show wpAny _ _ (subscriptTail _ _ (Value.ref _) (Value.ref _)) _ _ _)); (fail_if_success (with_reducible show wpAny _ _ (PySem.call (Value.ref _) _ _) _ _ _)); first | walk1 | (dsimp only; walk1))))
    · exact absurd (by assumption) hn1'
    rename Fr _ _ _ _ => F2
    with_reducible rename News _ _ _ _ => N2
    subst hr1
    refine wpAny_execs_cons ?_
    obtain ⟨r2, hr2⟩ : ∃ r, r = nsB2 :: nsK := ⟨_, rfl⟩
    rw [← hr2]
    conv in (occs := *) nsB1 => all_goals whnf
    (all_goals try k_fold)
    (repeat' (first | (k_unfold; (try dsimp only)) | ((fail_if_success (with_reducible show wpAny _ _ (PySem.execs (PySem.Stmt.Assign _ _ ⟨100, _, _, _⟩ :: _) _) _ _ _)); (fail_if_success (with_reducible show wpAny _ _ (PySem.execs (PySem.Stmt.Assign _ _ ⟨145, _, _, _⟩ :: _) _) _ _ _)); (fail_if_success (with_reducible show wpAny _ _ (PySem.call (Value.builtin "min") _ _) _ _ _)); (fail_if_success (with_reducible show wpAny _ _ (PySem.call (Value.builtin "max") _ _) _ _ _)); (fail_if_success (with_reducible show wpAny _ _ (PySem.call (Value.builtin "sorted") _ _) _ _ _)); (fail_if_success (with_reducible show wpAny _ _ (subscriptTail _ _ (Value.ref _) (Value.ref _)) _ _ _)); (fail_if_success (with_reducible show wpAny _ _ (PySem.call (Value.ref _) _ _) _ _ _)); first | walk1 | (dsimp only; walk1))))
    · -- sorted
      rename Fr _ _ _ _ => F3
      with_reducible rename News _ _ _ _ => N3
      show wpAny _ _ (call (Value.builtin "sorted") [Value.ref _] [(PySem.Str.ofString "key", Value.ref ka)]) _ _ _
      refine sortedKey_ok (b := false) g F3 N3 (hsl.at fun o e => F3.keep _ _ e) hI (by omega) (by ksk_a1) (fun x => by ksk_a2) (fun x => by ksk_a3) ?_ ?_
      · intro x5 t5 h5 tk5 own _ F5 N5
        refine hK _ _ _ _ L _ _ _ _ hh (by show A.depth < 900; omega) (by simp only [units_in1]; omega) F5 N5 (fun p hp => List.mem_append_left _ (hbase p hp)) ?_
        intro h6 tk6 t6 F6 N6
        exact KskEnd.intro F6 N6 (fun p hp => hp)
      intro D8 ws8 ms8 c8 h8 tk8 F4 N4 l4 hI4 st4
      (try clear F3); (try clear N3)
      (repeat' (first | (k_unfold; (try dsimp only)) | ((fail_if_success (with_reducible show wpAny _ _ (PySem.execs (PySem.Stmt.Assign _ _ ⟨100, _, _, _⟩ :: _) _) _ _ _)); (fail_if_success (with_reducible show wpAny _ _ (PySem.execs (PySem.Stmt.Assign _ _ ⟨145, _, _, _⟩ :: _) _) _ _ _)); (fail_if_success (with_reducible show wpAny _ _ (PySem.call (Value.builtin "min") _ _) _ _ _)); (fail_if_success (with_reducible show wpAny _ _ (PySem.call (Value.builtin "max") _ _) _ _ _)); (fail_if_success (with_reducible show wpAny _ _ (PySem.call (Value.builtin "sorted") _ _) _ _ _)); (fail_if_success (with_reducible show wpAny _ _ (subscriptTail _ _ (Value.ref _) (Value.ref _)) _ _ _)); (fail_if_success (with_reducible show wpAny _ _ (PySem.call (Value.ref _) _ _) _ _ _)); first | walk1 | (dsimp only; walk1))))
      have hl9 := (stab_perm st4).length_eq
      refine kba_turn (value' := PySem.Expr.Name (PySem.Str.ofString "_") ⟨0, 0, 0, 0⟩) (fun _ => rfl) ?_
      refine upto_g F4 N4 (.head _) hI4 (by omega) ?_ (by with_unfolding_all rfl) (by intro _; with_unfolding_all rfl)
      intro D9 ws9 h9 F9 N9 l9 hI9
      (repeat' (first | (k_unfold; (try dsimp only)) | ((fail_if_success (with_reducible show wpAny _ _ (PySem.execs (PySem.Stmt.Assign _ _ ⟨100, _, _, _⟩ :: _) _) _ _ _)); (fail_if_success (with_reducible show wpAny _ _ (PySem.execs (PySem.Stmt.Assign _ _ ⟨145, _, _, _⟩ :: _) _) _ _ _)); (fail_if_success (with_reducible show wpAny _ _ (PySem.call (Value.builtin "min") _ _) _ _ _)); (fail_if_success (with_reducible show wpAny _ _ (PySem.call (Value.builtin "max") _ _) _ _ _)); (fail_if_success (with_reducible show wpAny _ _ (PySem.call (Value.builtin "sorted") _ _) _ _ _)); (fail_if_success (with_reducible show wpAny _ _ (subscriptTail _ _ (Value.ref _) (Value.ref _)) _ _ _)); (fail_if_success (with_reducible show wpAny _ _ (PySem.call (Value.ref _) _ _) _ _ _)); first | walk1 | (dsimp only; walk1))))
      refine h _ _ _ 0 _ _ _ F9 (fun q hq => N9 q ?_) (fun q hq => l9 q (.tail _ hq)) hI9 st4
      rcases List.mem_cons.mp hq with rfl | hq
      · exact .head _
      · exact .tail _ (.tail _ hq)
    rename ¬ _ ≥ _ => hlt
    rename Fr _ _ _ _ => F3
    with_reducible rename News _ _ _ _ => N3
    subst hr2
    obtain ⟨r3, hr3⟩ : ∃ r, r = nsK := ⟨_, rfl⟩
    rw [← hr3]
    refine wpAny_execs_cons ?_
    conv in (occs := *) nsB2 => all_goals whnf
    (all_goals try k_fold)
    (repeat' (first | (k_unfold; (try dsimp only)) | ((fail_if_success (with_reducible show wpAny _ _ (PySem.execs (PySem.Stmt.Assign _ _ ⟨100, _, _, _⟩ :: _) _) _ _ _)); (fail_if_success (with_reducible show wpAny _ _ (PySem.execs (PySem.Stmt.Assign _ _ ⟨145, _, _, _⟩ :: _) _) _ _ _)); (fail_if_success (with_reducible show wpAny _ _ (PySem.call (Value.builtin "min") _ _) _ _ _)); (fail_if_success (with_reducible show wpAny _ _ (PySem.call (Value.builtin "max") _ _) _ _ _)); (fail_if_success (with_reducible show wpAny _ _ (PySem.call (Value.builtin "sorted") _ _) _ _ _)); (fail_if_success (with_reducible show wpAny _ _ (subscriptTail _ _ (Value.ref _) (Value.ref _)) _ _ _)); (fail_if_success (with_reducible show wpAny _ _ (PySem.call (Value.ref _) _ _) _ _ _)); first | walk1 | (dsimp only; walk1))))
    rename Fr _ _ _ _ => F5
    with_reducible rename News _ _ _ _ => N5
    subst hr3
    refine nsK_ok X T5 hsl hK hw hbase (.head _) (.tail _ (.head _)) hI hlen hd hu hh (by omega) (by omega) (fr2b (x := Str.ofString "n") (y := Str.ofString "iterable") F5 rfl rfl) N5 ?_
    intro D ws ms c h9 tk9 m9 F9 N9 l9 hI9 st9
    exact h D ws ms c h9 tk9 m9 F9 N9 l9 hI9 st9
end

-- RK1
section
theorem nlK_body {w : World} {A : Around} {s : Shared} {Q : Flow → Shared → Prop} {mg mb : Str → Option Value} {p : Program} {loose : List Str} {h₀ : Heap} {L sl : Addr} {svs : List Value} {ns : List Int} {rest : List (Addr × Obj)} {u : Str → Option Value} {n : Nat} {t : Tok} {wK : Obj} {g : Int → Int} {ka : Addr} {base : List (Addr × Obj)} {oc : Value} {od : Option Addr} {fd : FuncData} {osl : Array (Option Value)}
    (X : (hd.heap_1 w.params).In h₀) (T5 : TopRead p loose mg mb h₀) (hsl : h₀.IsList sl svs.toArray) (hI : IntsAre svs ns) (hlen : ns.length < 64) (hd : A.depth < 850) (hu : A.units < 8500) (hh : A.handled = none) (hnb : n < 100) (hK : KeyOk w h₀ ka base g) (hw : wK.data = .cell (some (.ref ka))) (hbase : ∀ p ∈ base, p ∈ (L + 1, wK) :: (ka, ⟨oc, od, .func fd, osl⟩) :: rest)
    (F : Fr h₀ L s.heap (fun y => if y = Str.ofString "n" then some (.int (n : Nat) t) else if y = Str.ofString "iterable" then some (.ref sl) else u y)) (N : News h₀ L s.heap ((L + 1, wK) :: (ka, ⟨oc, od, .func fd, osl⟩) :: rest))
    (h : ∀ D ws ms c h' tk m', Fr h₀ L h' m' → News h₀ L h' ((D, PySem.W.listOf (List.toArray ws) c) :: (L + 1, wK) :: (ka, ⟨oc, od, .func fd, osl⟩) :: rest) → (∀ q ∈ (L + 1, wK) :: (ka, ⟨oc, od, .func fd, osl⟩) :: rest, @LT.lt Nat _ q.1 D) → IntsAre ws (ms.take n) → Stab (fun x => sgn true (g x)) ns ms → Q (.ret (.ref D)) { s with heap := h', toks := tk }) :
    wpAny (model PG w) A (execs nlParts.1 (nlEnv L)) Q (fun _ _ => False) s := by
  have hlv := hI.length
  rw [nlB_eq]
  obtain ⟨r1, hr1⟩ : ∃ r, r = nlB1 :: nlB2 :: nlK := ⟨_, rfl⟩
  rw [← hr1]
  refine wpAny_execs_cons ?_
  conv in (occs := *) nlB0 => all_goals whnf
  by_cases hn1 : n = 1
  · subst hn1
    (all_goals try k_fold)
    (repeat' (first | (k_unfold; (try dsimp only)) | ((fail_if_success (with_reducible show wpAny _ _ (PySem.execs (PySem.Stmt.Assign _ _ ⟨100, _, _, _⟩ :: _) _) _ _ _)); (fail_if_success (with_reducible show wpAny _ _ (PySem.execs (PySem.Stmt.Assign _ _ ⟨145, _, _, _⟩ :: _) _) _ _ _)); (fail_if_success (with_reducible show wpAny _ _ (PySem.call (Value.builtin "min") _ _) _ _ _)); (fail_if_success (with_reducible show wpAny _ _ (PySem.call (Value.builtin "max") _ _) _ _ _)); (fail_if_success (with_reducible show wpAny _ _ (PySem.call (Value.builtin "sorted") _ _) _ _ _)); (fail_if_success (with_reducible show wpAny _ _ (subscriptTail _ _ (Value.ref _) (Value.ref _)) _ _ _)); (fail_if_success (with_reducible show wpAny _ _ (PySem.call (Value.ref _) _ _) _ _ _)); first | walk1 | (dsimp only; walk1))))
    · rename Fr _ _ _ _ => F2
      with_reducible rename News _ _ _ _ => N2
      with_reducible rename (∀ p ∈ _, _) => l2
      rename_i I2 _ l1 _ S2 _ _
      have hIS : @Ne Nat S2 I2 := Nat.ne_of_gt (l2 _ (.head _))
      have hIr : ∀ p ∈ (S2, { cls := .type "object", data := .plain }) :: (L + 1, wK) :: (ka, ⟨oc, od, .func fd, osl⟩) :: rest, p.1 ≠ I2 := List.forall_mem_cons.mpr ⟨hIS, fun p hp => Nat.ne_of_lt (l1 p hp)⟩
      have N3 : News h₀ L _ ((I2, litObj sl 0) :: (S2, { cls := .type "object", data := .plain }) :: (L + 1, wK) :: (ka, ⟨oc, od, .func fd, osl⟩) :: rest) := fun q hq => N2 q (by
        rcases List.mem_cons.mp hq with rfl | hq
        · exact .tail _ (.head _)
        · rcases List.mem_cons.mp hq with rfl | hq
          · exact .head _
          · exact .tail _ (.tail _ hq))
      obtain ⟨ms, hms⟩ := stab_ex (fun x => sgn true (g x)) ns
      show wpAny _ _ (call (Value.builtin "max") [Value.ref I2] [(Str.ofString "default", .ref S2), (Str.ofString "key", keyV (some ka))]) _ _ _
      refine max_it (fun i => g (ns.getD i 0)) hh F2 N3 ⟨rfl, rfl⟩ hIr hsl ?_ ?_ ?_ ?_
      · intro hq; cases hq
      · intro q' hq i v hv h5 tk5 own F5 N5
        cases hq
        have hi : i < svs.length := by
          rcases Nat.lt_or_ge i svs.length with h | h
          · exact h
          · rw [List.getElem?_eq_none h] at hv; cases hv
        obtain ⟨tv, ev⟩ := ints_getD hI i (by omega)
        have hv' : v = .int (ns.getD i 0) tv := by rw [← ev]; simp [List.getD_eq_getElem?_getD, hv]
        subst hv'
        refine hK _ _ _ _ L _ _ _ _ hh (by show A.depth < 900; omega) (by simp only [units_in1]; omega) F5 N5 (fun p hp => List.mem_append_left _ (.tail _ (hbase p hp))) ?_
        intro h6 tk6 t6 F6 N6
        exact KskEnd.intro F6 N6 (fun p hp => hp)
      · intro h5 tk5 hnil F5 N5
        (try clear F2); (try clear N2); clear N3
        (repeat' (first | (k_unfold; (try dsimp only)) | ((fail_if_success (with_reducible show wpAny _ _ (PySem.execs (PySem.Stmt.Assign _ _ ⟨100, _, _, _⟩ :: _) _) _ _ _)); (fail_if_success (with_reducible show wpAny _ _ (PySem.execs (PySem.Stmt.Assign _ _ ⟨145, _, _, _⟩ :: _) _) _ _ _)); (fail_if_success (with_reducible show wpAny _ _ (PySem.call (Value.builtin "min") _ _) _ _ _)); (fail_if_success (with_reducible show wpAny _ _ (PySem.call (Value.builtin "max") _ _) _ _ _)); (fail_if_success (with_reducible show wpAny _ _ (PySem.call (Value.builtin "sorted") _ _) _ _ _)); (fail_if_success (with_reducible show wpAny _ _ (subscriptTail _ _ (Value.ref _) (Value.ref _)) _ _ _)); (fail_if_success (with_reducible show wpAny _ _ (PySem.call (Value.ref _) _ _) _ _ _)); first | walk1 | (dsimp only; walk1))))
        rename Fr _ _ _ _ => F9
        with_reducible rename News _ _ _ _ => N9
        rename _ ∧ _ => l9
        have hns0 : ns = [] := List.length_eq_zero_iff.mp (by rw [← hlv, hnil]; rfl)
        have hms0 : ms = [] := List.length_eq_zero_iff.mp (by rw [(stab_perm hms).length_eq, hns0]; rfl)
        refine h _ [] ms 0 _ _ _ F9 (fun q hq => N9 q ?_) (List.forall_mem_cons.mpr ⟨l9.2.1, List.forall_mem_cons.mpr ⟨l9.2.2.1, allLt_mem l9.2.2.2⟩⟩) (by rw [hms0]; exact .nil) hms
        rcases List.mem_cons.mp hq with rfl | hq
        · exact .head _
        · exact .tail _ (.tail _ hq)
      · intro i v h5 tk5 hv hbest F5 N5
        have hi : i < svs.length := by
          rcases Nat.lt_or_ge i svs.length with h | h
          · exact h
          · rw [List.getElem?_eq_none h] at hv; cases hv
        obtain ⟨tv, ev⟩ := ints_getD hI i (by omega)
        have hv' : v = .int (ns.getD i 0) tv := by rw [← ev]; simp [List.getD_eq_getElem?_getD, hv]
        subst hv'
        (try clear F2); (try clear N2); clear N3
        (repeat' (first | (k_unfold; (try dsimp only)) | ((fail_if_success (with_reducible show wpAny _ _ (PySem.execs (PySem.Stmt.Assign _ _ ⟨100, _, _, _⟩ :: _) _) _ _ _)); (fail_if_success (with_reducible show wpAny _ _ (PySem.execs (PySem.Stmt.Assign _ _ ⟨145, _, _, _⟩ :: _) _) _ _ _)); (fail_if_success (with_reducible show wpAny _ _ (PySem.call (Value.builtin "min") _ _) _ _ _)); (fail_if_success (with_reducible show wpAny _ _ (PySem.call (Value.builtin "max") _ _) _ _ _)); (fail_if_success (with_reducible show wpAny _ _ (PySem.call (Value.builtin "sorted") _ _) _ _ _)); (fail_if_success (with_reducible show wpAny _ _ (subscriptTail _ _ (Value.ref _) (Value.ref _)) _ _ _)); (fail_if_success (with_reducible show wpAny _ _ (PySem.call (Value.ref _) _ _) _ _ _)); first | walk1 | (dsimp only; walk1))))
        rename Fr _ _ _ _ => F9
        with_reducible rename News _ _ _ _ => N9
        rename _ ∧ _ => l9
        have hhead := stab_head (b := true) (g := g) (ns := ns) (ms := ms) (i := i) (by omega) (fun j hj => by
          have := hbest j (by omega)
          unfold kap; simp only [sgn, Bool.false_eq_true, if_false, if_true]; omega) hms
        refine h _ [.int (ns.getD i 0) tv] ms 0 _ _ _ F9 (fun q hq => N9 q ?_) (List.forall_mem_cons.mpr ⟨l9.2.1, List.forall_mem_cons.mpr ⟨l9.2.2.1, allLt_mem l9.2.2.2⟩⟩) (by rw [← hhead]; exact .cons _ _ .nil) hms
        rcases List.mem_cons.mp hq with rfl | hq
        · exact .head _
        · exact .tail _ (.tail _ hq)
    all_goals exact absurd rfl (by assumption)
  · have hn1' : ((n : Nat) : Int) ≠ 1 := by omega
    (all_goals try k_fold)
    (repeat' (first | (k_unfold; (try dsimp only)) | ((fail_if_success (with_reducible show wpAny _ _ (PySem.execs (PySem.Stmt.Assign _ _ ⟨100, _, _, _⟩ :: _) _) _ _ _)); (fail_if_success (with_reducible show wpAny _ _ (PySem.execs (PySem.Stmt.Assign _ _ ⟨145, _, _, _⟩ :: _) _) _ _ _)); (fail_if_success (with_reducible show wpAny _ _ (PySem.call (Value.builtin "min") _ _) _ _ _)); (fail_if_success (with_reducible show wpAny _ _ (PySem.call (Value.builtin "max") _ _) _ _ _)); (fail_if_success (with_reducible show wpAny _ _ (PySem.call (Value.builtin "sorted") _ _) _ _ _)); (fail_if_success (with_reducible show wpAny _ _ (subscriptTail _ _ (Value.ref _) (Value.ref _)) _ _ _)); (fail_if_success (with_reducible show wpAny _ _ (PySem.call (Value.ref _) _ _) _ _ _)); first | walk1 | (dsimp only; walk1))))
    · exact absurd (by assumption) hn1'
    rename Fr _ _ _ _ => F2
    with_reducible rename News _ _ _ _ => N2
    subst hr1
    refine wpAny_execs_cons ?_
    obtain ⟨r2, hr2⟩ : ∃ r, r = nlB2 :: nlK := ⟨_, rfl⟩
    rw [← hr2]
    conv in (occs := *) nlB1 => all_goals whnf
    (all_goals try k_fold)
    (repeat' (first | (k_unfold; (try dsimp only)) | ((fail_if_success (with_reducible show wpAny _ _ (PySem.execs (PySem.Stmt.Assign _ _ ⟨100, _, _, _⟩ :: _) _) _ _ _)); (fail_if_success (with_reducible show wpAny _ _ (PySem.execs (PySem.Stmt.Assign _ _ ⟨145, _, _, _⟩ :: _) _) _ _ _)); (fail_if_success (with_reducible show wpAny _ _ (PySem.call (Value.builtin "min") _ _) _ _ _)); (fail_if_success (with_reducible show wpAny _ _ (PySem.call (Value.builtin "max") _ _) _ _ _)); (fail_if_success (with_reducible show wpAny _ _ (PySem.call (Value.builtin "sorted") _ _) _ _ _)); (fail_if_success (with_reducible show wpAny _ _ (subscriptTail _ _ (Value.ref _) (Value.ref _)) _ _ _)); (fail_if_success (with_reducible show wpAny _ _ (PySem.call (Value.ref _) _ _) _ _ _)); first | walk1 | (dsimp only; walk1))))
    · -- sorted
      rename Fr _ _ _ _ => F3
      with_reducible rename News _ _ _ _ => N3
      show wpAny _ _ (call (Value.builtin "sorted") [Value.ref _] [(PySem.Str.ofString "key", Value.ref ka), (PySem.Str.ofString "reverse", Value.bool true)]) _ _ _
      refine sortedKey_ok (b := true) g F3 N3 (hsl.at fun o e => F3.keep _ _ e) hI (by omega) (by ksk_a1) (fun x => by ksk_a2) (fun x => by ksk_a3) ?_ ?_
      · intro x5 t5 h5 tk5 own _ F5 N5
        refine hK _ _ _ _ L _ _ _ _ hh (by show A.depth < 900; omega) (by simp only [units_in1]; omega) F5 N5 (fun p hp => List.mem_append_left _ (hbase p hp)) ?_
        intro h6 tk6 t6 F6 N6
        exact KskEnd.intro F6 N6 (fun p hp => hp)
      intro D8 ws8 ms8 c8 h8 tk8 F4 N4 l4 hI4 st4
      (try clear F3); (try clear N3)
      (repeat' (first | (k_unfold; (try dsimp only)) | ((fail_if_success (with_reducible show wpAny _ _ (PySem.execs (PySem.Stmt.Assign _ _ ⟨100, _, _, _⟩ :: _) _) _ _ _)); (fail_if_success (with_reducible show wpAny _ _ (PySem.execs (PySem.Stmt.Assign _ _ ⟨145, _, _, _⟩ :: _) _) _ _ _)); (fail_if_success (with_reducible show wpAny _ _ (PySem.call (Value.builtin "min") _ _) _ _ _)); (fail_if_success (with_reducible show wpAny _ _ (PySem.call (Value.builtin "max") _ _) _ _ _)); (fail_if_success (with_reducible show wpAny _ _ (PySem.call (Value.builtin "sorted") _ _) _ _ _)); (fail_if_success (with_reducible show wpAny _ _ (subscriptTail _ _ (Value.ref _) (Value.ref _)) _ _ _)); (fail_if_success (with_reducible show wpAny _ _ (PySem.call (Value.ref _) _ _) _ _ _)); first | walk1 | (dsimp only; walk1))))
      have hl9 := (stab_perm st4).length_eq
      refine kba_turn (value' := PySem.Expr.Name (PySem.Str.ofString "_") ⟨0, 0, 0, 0⟩) (fun _ => rfl) ?_
      refine upto_g F4 N4 (.head _) hI4 (by omega) ?_ (by with_unfolding_all rfl) (by intro _; with_unfolding_all rfl)
      intro D9 ws9 h9 F9 N9 l9 hI9
      (repeat' (first | (k_unfold; (try dsimp only)) | ((fail_if_success (with_reducible show wpAny _ _ (PySem.execs (PySem.Stmt.Assign _ _ ⟨100, _, _, _⟩ :: _) _) _ _ _)); (fail_if_success (with_reducible show wpAny _ _ (PySem.execs (PySem.Stmt.Assign _ _ ⟨145, _, _, _⟩ :: _) _) _ _ _)); (fail_if_success (with_reducible show wpAny _ _ (PySem.call (Value.builtin "min") _ _) _ _ _)); (fail_if_success (with_reducible show wpAny _ _ (PySem.call (Value.builtin "max") _ _) _ _ _)); (fail_if_success (with_reducible show wpAny _ _ (PySem.call (Value.builtin "sorted") _ _) _ _ _)); (fail_if_success (with_reducible show wpAny _ _ (subscriptTail _ _ (Value.ref _) (Value.ref _)) _ _ _)); (fail_if_success (with_reducible show wpAny _ _ (PySem.call (Value.ref _) _ _) _ _ _)); first | walk1 | (dsimp only; walk1))))
      refine h _ _ _ 0 _ _ _ F9 (fun q hq => N9 q ?_) (fun q hq => l9 q (.tail _ hq)) hI9 st4
      rcases List.mem_cons.mp hq with rfl | hq
      · exact .head _
      · exact .tail _ (.tail _ hq)
    rename ¬ _ ≥ _ => hlt
    rename Fr _ _ _ _ => F3
    with_reducible rename News _ _ _ _ => N3
    subst hr2
    obtain ⟨r3, hr3⟩ : ∃ r, r = nlK := ⟨_, rfl⟩
    rw [← hr3]
    refine wpAny_execs_cons ?_
    conv in (occs := *) nlB2 => all_goals whnf
    (all_goals try k_fold)
    (repeat' (first | (k_unfold; (try dsimp only)) | ((fail_if_success (with_reducible show wpAny _ _ (PySem.execs (PySem.Stmt.Assign _ _ ⟨100, _, _, _⟩ :: _) _) _ _ _)); (fail_if_success (with_reducible show wpAny _ _ (PySem.execs (PySem.Stmt.Assign _ _ ⟨145, _, _, _⟩ :: _) _) _ _ _)); (fail_if_success (with_reducible show wpAny _ _ (PySem.call (Value.builtin "min") _ _) _ _ _)); (fail_if_success (with_reducible show wpAny _ _ (PySem.call (Value.builtin "max") _ _) _ _ _)); (fail_if_success (with_reducible show wpAny _ _ (PySem.call (Value.builtin "sorted") _ _) _ _ _)); (fail_if_success (with_reducible show wpAny _ _ (subscriptTail _ _ (Value.ref _) (Value.ref _)) _ _ _)); (fail_if_success (with_reducible show wpAny _ _ (PySem.call (Value.ref _) _ _) _ _ _)); first | walk1 | (dsimp only; walk1))))
    rename Fr _ _ _ _ => F5
    with_reducible rename News _ _ _ _ => N5
    subst hr3
    refine nlK_ok X T5 hsl hK hw hbase (.head _) (.tail _ (.head _)) hI hlen hd hu hh (by omega) (by omega) (fr2b (x := Str.ofString "n") (y := Str.ofString "iterable") F5 rfl rfl) N5 ?_
    intro D ws ms c h9 tk9 m9 F9 N9 l9 hI9 st9
    exact h D ws ms c h9 tk9 m9 F9 N9 l9 hI9 st9
end
end Mine

-- C1
namespace Mine
theorem nsm_call {w : World} {A : Around} {s : Shared} {E : Value → Shared → Prop} {Q : Value → Shared → Prop} {mg mb : Str → Option Value} {p : Program} {loose : List Str} {h₀ : Heap} {L sl : Addr} {svs : List Value} {ns : List Int} {rest : List (Addr × Obj)} {m : Str → Option Value} {n : Nat} {t : Tok}
    (X : (hd.heap_1 w.params).In h₀) (T5 : TopRead p loose mg mb h₀) (hsl : h₀.IsList sl svs.toArray) (hI : IntsAre svs ns) (hlen : ns.length < 64) (hd : A.depth < 800) (hu : A.units < 8000) (hh : A.handled = none) (hnb : n < 100)
    (F : Fr h₀ L s.heap m) (N : News h₀ L s.heap rest)
    (h : ∀ D ws ms c h' tk, Fr h₀ L h' m → News h₀ L h' ((D, PySem.W.listOf (List.toArray ws) c) :: rest) → (∀ q ∈ rest, @LT.lt Nat _ q.1 D) → IntsAre ws (ms.take n) → Stab (sgn false) ns ms → Q (.ref D) { s with heap := h', toks := tk }) :
    wpAny (model PG w) A (call (.ref 97) [.int (n : Nat) t, .ref sl]) Q E s := by
  refine wpAny_call (enter_cells F N X T5 (by k_is) (by k_is) (by rw [show recursionLimit = 1000 from rfl]; omega) (bindsD (by k_is) X F rfl rfl rfl rfl) (by rfl) (by decide) ?_)
  intro h₁ L1 tk1 cells oL es ep hoL hdL hk1 hlt1 hb1 F1 N1 Y1
  cells_open Y1
  rename _ = Data.cell _ => hw
  dsimp only [List.cons_append, List.nil_append] at N1
  refine wpAny_mono (nsN_body X T5 hsl hI hlen (by show A.depth + 1 < 850; omega) (by simp only [units_deeper]; omega) hh hnb hw (fr2b (x := Str.ofString "n") (y := Str.ofString "iterable") F1 rfl rfl) N1 ?_) (fun _ _ q => q) (fun _ _ q => q.elim)
  intro D ws ms c h9 tk9 m9 F9 N9 l9 hI9 st9
  obtain ⟨Fz, Nz, bz⟩ := leave_D F N hoL F9 N9 (.tail _ (.head _)) (fun q hq => .tail _ (.tail _ hq)) l9
  exact h _ _ _ _ _ _ Fz Nz bz hI9 st9
theorem nsm_callK {w : World} {A : Around} {s : Shared} {E : Value → Shared → Prop} {Q : Value → Shared → Prop} {mg mb : Str → Option Value} {p : Program} {loose : List Str} {h₀ : Heap} {L sl : Addr} {svs : List Value} {ns : List Int} {rest : List (Addr × Obj)} {m : Str → Option Value} {n : Nat} {t : Tok} {g : Int → Int} {ka : Addr} {base : List (Addr × Obj)} {oc : Value} {od : Option Addr} {fd : FuncData} {osl : Array (Option Value)}
    (X : (hd.heap_1 w.params).In h₀) (T5 : TopRead p loose mg mb h₀) (hsl : h₀.IsList sl svs.toArray) (hK : KeyOk w h₀ ka base g) (hbase : ∀ p ∈ base, p ∈ rest) (hka : (ka, ⟨oc, od, .func fd, osl⟩) ∈ rest) (hI : IntsAre svs ns) (hlen : ns.length < 64) (hd : A.depth < 800) (hu : A.units < 8000) (hh : A.handled = none) (hnb : n < 100)
    (F : Fr h₀ L s.heap m) (N : News h₀ L s.heap rest)
    (h : ∀ D ws ms c h' tk, Fr h₀ L h' m → News h₀ L h' ((D, PySem.W.listOf (List.toArray ws) c) :: rest) → (∀ q ∈ rest, @LT.lt Nat _ q.1 D) → IntsAre ws (ms.take n) → Stab (fun x => sgn false (g x)) ns ms → Q (.ref D) { s with heap := h', toks := tk }) :
    wpAny (model PG w) A (call (.ref 97) [.int (n : Nat) t, .ref sl] [(Str.ofString "key", .ref ka)]) Q E s := by
  refine wpAny_call (enter_cells F N X T5 (by k_is) (by k_is) (by rw [show recursionLimit = 1000 from rfl]; omega) (bindsD (by k_is) X F rfl rfl rfl rfl) (by rfl) (by decide) ?_)
  intro h₁ L1 tk1 cells oL es ep hoL hdL hk1 hlt1 hb1 F1 N1 Y1
  cells_open Y1
  rename _ = Data.cell _ => hw
  dsimp only [List.cons_append, List.nil_append] at N1
  have N2 : News h₀ L1 h₁ ((L1 + 1, _) :: (ka, ⟨oc, od, .func fd, osl⟩) :: (L, oL) :: rest) := fun q hq => N1 q (by
    rcases List.mem_cons.mp hq with rfl | hq
    · exact .head _
    · rcases List.mem_cons.mp hq with rfl | hq
      · exact .tail _ (.tail _ hka)
      · exact .tail _ hq)
  refine wpAny_mono (nsK_body X T5 hsl hI hlen (by show A.depth + 1 < 850; omega) (by simp only [units_deeper]; omega) hh hnb hK hw (fun p hp => .tail _ (.tail _ (.tail _ (hbase p hp)))) (fr2b (x := Str.ofString "n") (y := Str.ofString "iterable") F1 rfl rfl) N2 ?_) (fun _ _ q => q) (fun _ _ q => q.elim)
  intro D ws ms c h9 tk9 m9 F9 N9 l9 hI9 st9
  obtain ⟨Fz, Nz, bz⟩ := leave_D F N hoL F9 N9 (.tail _ (.tail _ (.head _))) (fun q hq => .tail _ (.tail _ (.tail _ hq))) l9
  exact h _ _ _ _ _ _ Fz Nz bz hI9 st9
theorem nlm_call {w : World} {A : Around} {s : Shared} {E : Value → Shared → Prop} {Q : Value → Shared → Prop} {mg mb : Str → Option Value} {p : Program} {loose : List Str} {h₀ : Heap} {L sl : Addr} {svs : List Value} {ns : List Int} {rest : List (Addr × Obj)} {m : Str → Option Value} {n : Nat} {t : Tok}
    (X : (hd.heap_1 w.params).In h₀) (T5 : TopRead p loose mg mb h₀) (hsl : h₀.IsList sl svs.toArray) (hI : IntsAre svs ns) (hlen : ns.length < 64) (hd : A.depth < 800) (hu : A.units < 8000) (hh : A.handled = none) (hnb : n < 100)
    (F : Fr h₀ L s.heap m) (N : News h₀ L s.heap rest)
    (h : ∀ D ws ms c h' tk, Fr h₀ L h' m → News h₀ L h' ((D, PySem.W.listOf (List.toArray ws) c) :: rest) → (∀ q ∈ rest, @LT.lt Nat _ q.1 D) → IntsAre ws (ms.take n) → Stab (sgn true) ns ms → Q (.ref D) { s with heap := h', toks := tk }) :
    wpAny (model PG w) A (call (.ref 103) [.int (n : Nat) t, .ref sl]) Q E s := by
  refine wpAny_call (enter_cells F N X T5 (by k_is) (by k_is) (by rw [show recursionLimit = 1000 from rfl]; omega) (bindsD (by k_is) X F rfl rfl rfl rfl) (by rfl) (by decide) ?_)
  intro h₁ L1 tk1 cells oL es ep hoL hdL hk1 hlt1 hb1 F1 N1 Y1
  cells_open Y1
  rename _ = Data.cell _ => hw
  dsimp only [List.cons_append, List.nil_append] at N1
  refine wpAny_mono (nlN_body X T5 hsl hI hlen (by show A.depth + 1 < 850; omega) (by simp only [units_deeper]; omega) hh hnb hw (fr2b (x := Str.ofString "n") (y := Str.ofString "iterable") F1 rfl rfl) N1 ?_) (fun _ _ q => q) (fun _ _ q => q.elim)
  intro D ws ms c h9 tk9 m9 F9 N9 l9 hI9 st9
  obtain ⟨Fz, Nz, bz⟩ := leave_D F N hoL F9 N9 (.tail _ (.head _)) (fun q hq => .tail _ (.tail _ hq)) l9
  exact h _ _ _ _ _ _ Fz Nz bz hI9 st9
theorem nlm_callK {w : World} {A : Around} {s : Shared} {E : Value → Shared → Prop} {Q : Value → Shared → Prop} {mg mb : Str → Option Value} {p : Program} {loose : List Str} {h₀ : Heap} {L sl : Addr} {svs : List Value} {ns : List Int} {rest : List (Addr × Obj)} {m : Str → Option Value} {n : Nat} {t : Tok} {g : Int → Int} {ka : Addr} {base : List (Addr × Obj)} {oc : Value} {od : Option Addr} {fd : FuncData} {osl : Array (Option Value)}
    (X : (hd.heap_1 w.params).In h₀) (T5 : TopRead p loose mg mb h₀) (hsl : h₀.IsList sl svs.toArray) (hK : KeyOk w h₀ ka base g) (hbase : ∀ p ∈ base, p ∈ rest) (hka : (ka, ⟨oc, od, .func fd, osl⟩) ∈ rest) (hI : IntsAre svs ns) (hlen : ns.length < 64) (hd : A.depth < 800) (hu : A.units < 8000) (hh : A.handled = none) (hnb : n < 100)
    (F : Fr h₀ L s.heap m) (N : News h₀ L s.heap rest)
    (h : ∀ D ws ms c h' tk, Fr h₀ L h' m → News h₀ L h' ((D, PySem.W.listOf (List.toArray ws) c) :: rest) → (∀ q ∈ rest, @LT.lt Nat _ q.1 D) → IntsAre ws (ms.take n) → Stab (fun x => sgn true (g x)) ns ms → Q (.ref D) { s with heap := h', toks := tk }) :
    wpAny (model PG w) A (call (.ref 103) [.int (n : Nat) t, .ref sl] [(Str.ofString "key", .ref ka)]) Q E s := by
  refine wpAny_call (enter_cells F N X T5 (by k_is) (by k_is) (by rw [show recursionLimit = 1000 from rfl]; omega) (bindsD (by k_is) X F rfl rfl rfl rfl) (by rfl) (by decide) ?_)
  intro h₁ L1 tk1 cells oL es ep hoL hdL hk1 hlt1 hb1 F1 N1 Y1
  cells_open Y1
  rename _ = Data.cell _ => hw
  dsimp only [List.cons_append, List.nil_append] at N1
  have N2 : News h₀ L1 h₁ ((L1 + 1, _) :: (ka, ⟨oc, od, .func fd, osl⟩) :: (L, oL) :: rest) := fun q hq => N1 q (by
    rcases List.mem_cons.mp hq with rfl | hq
    · exact .head _
    · rcases List.mem_cons.mp hq with rfl | hq
      · exact .tail _ (.tail _ hka)
      · exact .tail _ hq)
  refine wpAny_mono (nlK_body X T5 hsl hI hlen (by show A.depth + 1 < 850; omega) (by simp only [units_deeper]; omega) hh hnb hK hw (fun p hp => .tail _ (.tail _ (.tail _ (hbase p hp)))) (fr2b (x := Str.ofString "n") (y := Str.ofString "iterable") F1 rfl rfl) N2 ?_) (fun _ _ q => q) (fun _ _ q => q.elim)
  intro D ws ms c h9 tk9 m9 F9 N9 l9 hI9 st9
  obtain ⟨Fz, Nz, bz⟩ := leave_D F N hoL F9 N9 (.tail _ (.tail _ (.head _))) (fun q hq => .tail _ (.tail _ (.tail _ hq))) l9
  exact h _ _ _ _ _ _ Fz Nz bz hI9 st9
end Mine

-- F1
namespace Mine
noncomputable def secStmts : List Stmt := forBody (lawParts.1.getD 3 (.Pass ⟨0,0,0,0⟩))
noncomputable def far : Arguments × PySem.Expr × Scope := match assignRhs (secStmts.getD 1 nopS) with
  | .Lambda a b sc _ => (a, b, sc)
  | _ => (⟨[], [], none, [], [], none, []⟩, .Constant .none 0 ⟨0,0,0,0⟩, { kind := .function, names := [], isGenerator := false, isCoroutine := false, more := [] })
noncomputable abbrev farObj (pm ctv : Value) (c' : Addr) : Obj := kla_obj (Str.ofString "<lambda>") lamQual far.1 far.2.1 far.2.2 [] pm c' ctv
noncomputable def farG (x : Int) : Int := (if x < 0 then -x else x).fmod 5
theorem far_ok {w : World} {mg mb : Str → Option Value} {p : Program} {loose : List Str} {h₀ : Heap} {f c' : Addr} {oc : Obj} {pm ctv : Value} {vs' : Array Value} {t' : Tok}
    (X : (hd.heap_1 w.params).In h₀) (T5 : TopRead p loose mg mb h₀) (hv2 : oc.data = .fields vs') (hv1 : vs'[1]? = some (.str lamQual t')) :
    KeyOk w h₀ f [(f, farObj pm ctv c'), (c', oc)] farG := by
  intro A E Q s L m led x t hh hd hu F N hb h
  have hb1 := hb _ (.head _)
  have hb2 := hb _ (.tail _ (.head _))
  dsimp only [farObj] at hb1
  conv at hb1 in (occs := *) far => all_goals whnf
  refine wpAny_call (enter_lam F N T5 hb1 (codeRec_news N hb2 hv2 hv1) (by rw [show recursionLimit = 1000 from rfl]; omega) rfl (locs rfl) ?_)
  intro h₂ L2 oL es ep hoL hdL hk2 hlt2 hb3 F2 N2
  (all_goals try k_fold)
  k_steps
  obtain ⟨Fz, Nz⟩ := leave_fr F hoL F2 N2 fun q hq => (N q hq).2.1
  exact h _ _ _ Fz Nz
noncomputable def farExpr : PySem.Expr := assignRhs (secStmts.getD 1 nopS)
/-- the codes lie apart from the list that is looped over -/
noncomputable def OffX (ax : Addr) (codes : List (Addr × Obj)) : Prop := ∀ p ∈ codes, @Ne Nat p.1 ax ∧ @LT.lt Nat _ 119 p.1
theorem offX_cons {ax c' : Addr} {oc : Obj} {codes : List (Addr × Obj)} (h : OffX ax codes) (h1 : @Ne Nat c' ax) (h2 : @LT.lt Nat _ 119 c') : OffX ax ((c', oc) :: codes) := by
  intro p hp
  rcases List.mem_cons.mp hp with rfl | hp
  · exact ⟨h1, h2⟩
  · exact h p hp
local macro_rules | `(tactic| k_all) => `(tactic| first | exact List.forall_mem_nil _ | (refine' List.forall_mem_cons.mpr ⟨?a, ?b⟩; (case a => k_ne); (case b => k_all)) | ((with_reducible rename OffX _ _ => hofc); intro p9 hp9; have hq9 := hofc p9 hp9; refine neN ?_; omega) | assumption)
local macro_rules | `(tactic| walk_at "eval Lambda") => `(tactic| (k_here; k_dflt (refine' kla_eval ?d0 ?_; (case d0 => exact rfl)); first | (k_dflt (refine' kla_nest ?F ?N ?T ?C ?cd ?U ?t ?n ?cl ?_; (case F => k_asm); (case N => k_asm); (case T => k_asm); (case cd => exact rfl); (case C => k_asm); (case U => k_updF); (case t => assumption); (case n => assumption); (case cl => exact rfl); k_whole); intro f' c' oc' vs' t' ct' h' tk' F' N' d1' d2' l1 l2; (try dsimp only at N'); (try k_lt l1); (try k_lt2 l2)) | (k_dflt (refine' kla_hit ?F ?N ?T ?C ?cd ?mem ?t ?n ?cl ?_; (case F => k_asm); (case N => k_asm); (case T => k_asm); (case cd => exact rfl); (case C => k_asm); (case mem => k_mem); (case t => assumption); (case n => assumption); (case cl => exact rfl); k_whole); intro f' ct' h' tk' F' N' l1; (try dsimp only at N'); (try k_lt l1))))
theorem far_eval {w : World} {s : Shared} {E : Value → Shared → Prop} {Q : Value → Shared → Prop} {mg mb : Str → Option Value} {p : Program} {loose : List Str} {mean : ExcName → Option Value} {h₀ : Heap} {L fa I ax : Addr} {o oax : Obj} {ps : Array Value} {codes : List (Addr × Obj)} {m : Str → Option Value}
    (X : (hd.heap_1 w.params).In h₀) (T : Top p loose mean mg mb h₀) (C : CodeHd h₀ 121 119) (tab : TabOk ps codes) (off : OffX ax codes) (hI9 : @Ne Nat I 119) (ha9 : @Ne Nat ax 119) (hIa : @Ne Nat I ax) (hcI : ∀ p ∈ codes, @Ne Nat p.1 I)
    (F : Fr h₀ L s.heap m) (N : News h₀ L s.heap ((I, o) :: (ax, oax) :: (119, tabObj ps) :: codes))
    (h : ∀ h' tk f c' oc vs' t' pm ctv ps' codes', Fr h₀ L h' m → News h₀ L h' ((f, farObj pm ctv c') :: (I, o) :: (ax, oax) :: (119, tabObj ps') :: codes') → (c', oc) ∈ codes' → oc.data = .fields vs' → vs'[1]? = some (.str lamQual t') → TabOk ps' codes' → OffX ax codes' → (∀ p ∈ codes', @Ne Nat p.1 I) → Q (.ref f) { s with heap := h', toks := tk }) :
    wpAny (model PG w) (callerA.deeper (lawEnv L fa)) (eval farExpr (lawEnv L fa)) Q E s := by
  have tr := tab.1
  have T5 := topRead_of T
  cases hca : codeAmong ⟨216, 14, 216, 38⟩ ps.toList with
  | none =>
    conv in (occs := *) farExpr => all_goals whnf
    dsimp only [lawEnv] at F N ⊢
    conv in (occs := *) lawParts.2 => all_goals whnf
    (all_goals try k_fold)
    k_steps
    rename Fr _ _ _ _ => F5
    with_reducible rename News _ _ _ _ => N5
    rename _[1]? = some _ => hv1
    rename _ = Data.fields _ => hv2
    rename _ ∧ _ => l1
    rename (_ : Nat) < _ => l2
    rename_i f' c' oc' vs' t' ct' h9 tk9
    refine h _ _ f' c' oc' vs' t' ((mg (Str.ofString "__name__")).getD .none) ct' _ ((c', oc') :: codes) F5 (fun q hq => N5 q ?_) (.head _) hv2 hv1 (tabOk_snoc (pos := ⟨216, 14, 216, 38⟩) tab hv2 hv1) (by refine offX_cons off ?_ ?_ <;> omega) (List.forall_mem_cons.mpr ⟨by show @Ne Nat c' I; omega, hcI⟩)
    rcases List.mem_cons.mp hq with rfl | hq
    · exact .head _
    · rcases List.mem_cons.mp hq with rfl | hq
      · exact .tail _ (.tail _ (.head _))
      · rcases List.mem_cons.mp hq with rfl | hq
        · exact .tail _ (.tail _ (.tail _ (.head _)))
        · rcases List.mem_cons.mp hq with rfl | hq
          · exact .tail _ (.tail _ (.tail _ (.tail _ (.head _))))
          · rcases List.mem_cons.mp hq with rfl | hq
            · exact .tail _ (.head _)
            · exact .tail _ (.tail _ (.tail _ (.tail _ (.tail _ hq))))
  | some v =>
    obtain ⟨c', oc, vs', t', rfl, hmem, hv2, hv1⟩ := tab.2 _ _ hca
    have ho := off _ hmem
    conv in (occs := *) farExpr => all_goals whnf
    dsimp only [lawEnv] at F N ⊢
    conv in (occs := *) lawParts.2 => all_goals whnf
    (all_goals try k_fold)
    k_steps
    rename Fr _ _ _ _ => F5
    with_reducible rename News _ _ _ _ => N5
    rename_i f' ct' h9 tk9
    exact h _ _ _ c' oc vs' t' ((mg (Str.ofString "__name__")).getD .none) _ _ codes F5 N5 hmem hv2 hv1 tab off hcI
end Mine

-- G1
namespace Mine
noncomputable def ce1 : PySem.Expr := (boolParts (ifTest (secStmts.getD 0 nopS))).getD 0 (.Constant .none 0 ⟨0,0,0,0⟩)
noncomputable def ce2 : PySem.Expr := (boolParts (ifTest (secStmts.getD 0 nopS))).getD 1 (.Constant .none 0 ⟨0,0,0,0⟩)
noncomputable def ce3 : PySem.Expr := ifTest (secStmts.getD 2 nopS)
noncomputable def ce4 : PySem.Expr := ifTest (secStmts.getD 3 nopS)
theorem ce1_eval {w : World} {s : Shared} {E : Value → Shared → Prop} {Q : Bool → Shared → Prop} {mg mb : Str → Option Value} {p : Program} {loose : List Str} {mean : ExcName → Option Value} {h₀ : Heap} {L fa sl : Addr} {svs : List Value} {ns : List Int} {led : List (Addr × Obj)} {u : Str → Option Value} {n : Nat} {t : Tok}
    (X : (hd.heap_1 w.params).In h₀) (T : Top p loose mean mg mb h₀) (hsl : h₀.IsList sl svs.toArray) (hI : IntsAre svs ns) (hlen : ns.length < 64) (hnb : n < 100)
    (F : Fr h₀ L s.heap (fun y => if y = Str.ofString "many" then some (.int (n : Nat) t) else if y = Str.ofString "script" then some (.ref sl) else u y)) (N : News h₀ L s.heap led)
    (h : ∀ h' tk, Fr h₀ L h' (fun y => if y = Str.ofString "many" then some (.int (n : Nat) t) else if y = Str.ofString "script" then some (.ref sl) else u y) → News h₀ L h' led → Q false { s with heap := h', toks := tk }) :
    wpAny (model PG w) (callerA.deeper (lawEnv L fa)) (isTrue ce1 (lawEnv L fa) (eval ce1 (lawEnv L fa))) Q E s := by
  have T5 := topRead_of T
  conv in (occs := *) ce1 => all_goals whnf
  dsimp only [lawEnv] at F N ⊢
  conv in (occs := *) lawParts.2 => all_goals whnf
  (all_goals try k_fold)
  (repeat' (first | (k_unfold; (try dsimp only)) | ((fail_if_success (with_reducible show wpAny _ _ (PySem.call (Value.builtin "sorted") _ _) _ _ _)); (fail_if_success (with_reducible show wpAny _ _ (subscriptTail _ _ (Value.ref _) (Value.ref _)) _ _ _)); (fail_if_success (with_reducible show wpAny _ _ (PySem.compareOp CmpOp.NotEq (Value.ref _) (Value.ref _)) _ _ _)); (fail_if_success (with_reducible show wpAny _ _ (PySem.call (Value.ref _) _ _) _ _ _)); first | walk1 | (dsimp only; walk1))))
  refine nsm_call X T5 hsl hI hlen (by k_room) (by k_units) rfl hnb F N ?_
  intro D1 ws1 ms1 c1 h1 tk1 F1 N1 b1 hI1 st1
  clear F N
  (repeat' (first | (k_unfold; (try dsimp only)) | ((fail_if_success (with_reducible show wpAny _ _ (PySem.call (Value.builtin "sorted") _ _) _ _ _)); (fail_if_success (with_reducible show wpAny _ _ (subscriptTail _ _ (Value.ref _) (Value.ref _)) _ _ _)); (fail_if_success (with_reducible show wpAny _ _ (PySem.compareOp CmpOp.NotEq (Value.ref _) (Value.ref _)) _ _ _)); (fail_if_success (with_reducible show wpAny _ _ (PySem.call (Value.ref _) _ _) _ _ _)); first | walk1 | (dsimp only; walk1))))
  show wpAny _ _ (call (Value.builtin "sorted") [Value.ref _]) _ _ _
  refine sortedPlain_ok (b := false) F1 N1 (hsl.at fun o e => F1.keep _ _ e) hI hlen (args_sorted1 _) (fun _ => args_list_sort _) (fun _ => rfl) ?_
  intro D2 ws2 ms2 c2 h2 F2 N2 l2 hI2 st2
  have hms := stab_unique st1 st2
  (try clear F1); (try clear N1)
  (repeat' (first | (k_unfold; (try dsimp only)) | ((fail_if_success (with_reducible show wpAny _ _ (PySem.call (Value.builtin "sorted") _ _) _ _ _)); (fail_if_success (with_reducible show wpAny _ _ (subscriptTail _ _ (Value.ref _) (Value.ref _)) _ _ _)); (fail_if_success (with_reducible show wpAny _ _ (PySem.compareOp CmpOp.NotEq (Value.ref _) (Value.ref _)) _ _ _)); (fail_if_success (with_reducible show wpAny _ _ (PySem.call (Value.ref _) _ _) _ _ _)); first | walk1 | (dsimp only; walk1))))
  have hl9 := (stab_perm st2).length_eq
  refine kba_turn (value' := PySem.Expr.Name (PySem.Str.ofString "_") ⟨0, 0, 0, 0⟩) (fun _ => rfl) ?_
  refine upto_g F2 N2 (.head _) hI2 (by omega) ?_ (by with_unfolding_all rfl) (by intro _; with_unfolding_all rfl)
  intro D9 ws9 h9 F9 N9 l9 hI9
  (try clear F2); (try clear N2)
  (repeat' (first | (k_unfold; (try dsimp only)) | ((fail_if_success (with_reducible show wpAny _ _ (PySem.call (Value.builtin "sorted") _ _) _ _ _)); (fail_if_success (with_reducible show wpAny _ _ (subscriptTail _ _ (Value.ref _) (Value.ref _)) _ _ _)); (fail_if_success (with_reducible show wpAny _ _ (PySem.compareOp CmpOp.NotEq (Value.ref _) (Value.ref _)) _ _ _)); (fail_if_success (with_reducible show wpAny _ _ (PySem.call (Value.ref _) _ _) _ _ _)); first | walk1 | (dsimp only; walk1))))
  refine same_g N9 (.tail _ (.tail _ (.head _))) hI1 (.head _) hI9 (by rw [hms]) (by k_units) ?_
  (repeat' (first | (k_unfold; (try dsimp only)) | ((fail_if_success (with_reducible show wpAny _ _ (PySem.call (Value.builtin "sorted") _ _) _ _ _)); (fail_if_success (with_reducible show wpAny _ _ (subscriptTail _ _ (Value.ref _) (Value.ref _)) _ _ _)); (fail_if_success (with_reducible show wpAny _ _ (PySem.compareOp CmpOp.NotEq (Value.ref _) (Value.ref _)) _ _ _)); (fail_if_success (with_reducible show wpAny _ _ (PySem.call (Value.ref _) _ _) _ _ _)); first | walk1 | (dsimp only; walk1))))
  exact h _ _ F9 (fun q hq => N9 q (.tail _ (.tail _ (.tail _ hq))))
theorem ce2_eval {w : World} {s : Shared} {E : Value → Shared → Prop} {Q : Bool → Shared → Prop} {mg mb : Str → Option Value} {p : Program} {loose : List Str} {mean : ExcName → Option Value} {h₀ : Heap} {L fa sl : Addr} {svs : List Value} {ns : List Int} {led : List (Addr × Obj)} {u : Str → Option Value} {n : Nat} {t : Tok}
    (X : (hd.heap_1 w.params).In h₀) (T : Top p loose mean mg mb h₀) (hsl : h₀.IsList sl svs.toArray) (hI : IntsAre svs ns) (hlen : ns.length < 64) (hnb : n < 100)
    (F : Fr h₀ L s.heap (fun y => if y = Str.ofString "many" then some (.int (n : Nat) t) else if y = Str.ofString "script" then some (.ref sl) else u y)) (N : News h₀ L s.heap led)
    (h : ∀ h' tk, Fr h₀ L h' (fun y => if y = Str.ofString "many" then some (.int (n : Nat) t) else if y = Str.ofString "script" then some (.ref sl) else u y) → News h₀ L h' led → Q false { s with heap := h', toks := tk }) :
    wpAny (model PG w) (callerA.deeper (lawEnv L fa)) (isTrue ce2 (lawEnv L fa) (eval ce2 (lawEnv L fa))) Q E s := by
  have T5 := topRead_of T
  conv in (occs := *) ce2 => all_goals whnf
  dsimp only [lawEnv] at F N ⊢
  conv in (occs := *) lawParts.2 => all_goals whnf
  (all_goals try k_fold)
  (repeat' (first | (k_unfold; (try dsimp only)) | ((fail_if_success (with_reducible show wpAny _ _ (PySem.call (Value.builtin "sorted") _ _) _ _ _)); (fail_if_success (with_reducible show wpAny _ _ (subscriptTail _ _ (Value.ref _) (Value.ref _)) _ _ _)); (fail_if_success (with_reducible show wpAny _ _ (PySem.compareOp CmpOp.NotEq (Value.ref _) (Value.ref _)) _ _ _)); (fail_if_success (with_reducible show wpAny _ _ (PySem.call (Value.ref _) _ _) _ _ _)); first | walk1 | (dsimp only; walk1))))
  refine nlm_call X T5 hsl hI hlen (by k_room) (by k_units) rfl hnb F N ?_
  intro D1 ws1 ms1 c1 h1 tk1 F1 N1 b1 hI1 st1
  clear F N
  (repeat' (first | (k_unfold; (try dsimp only)) | ((fail_if_success (with_reducible show wpAny _ _ (PySem.call (Value.builtin "sorted") _ _) _ _ _)); (fail_if_success (with_reducible show wpAny _ _ (subscriptTail _ _ (Value.ref _) (Value.ref _)) _ _ _)); (fail_if_success (with_reducible show wpAny _ _ (PySem.compareOp CmpOp.NotEq (Value.ref _) (Value.ref _)) _ _ _)); (fail_if_success (with_reducible show wpAny _ _ (PySem.call (Value.ref _) _ _) _ _ _)); first | walk1 | (dsimp only; walk1))))
  show wpAny _ _ (call (Value.builtin "sorted") [Value.ref _] [(PySem.Str.ofString "reverse", Value.bool true)]) _ _ _
  refine sortedPlain_ok (b := true) F1 N1 (hsl.at fun o e => F1.keep _ _ e) hI hlen (args_sorted_rev _ _) (fun _ => args_list_sort_rev _ _) (fun _ => rfl) ?_
  intro D2 ws2 ms2 c2 h2 F2 N2 l2 hI2 st2
  have hms := stab_unique st1 st2
  (try clear F1); (try clear N1)
  (repeat' (first | (k_unfold; (try dsimp only)) | ((fail_if_success (with_reducible show wpAny _ _ (PySem.call (Value.builtin "sorted") _ _) _ _ _)); (fail_if_success (with_reducible show wpAny _ _ (subscriptTail _ _ (Value.ref _) (Value.ref _)) _ _ _)); (fail_if_success (with_reducible show wpAny _ _ (PySem.compareOp CmpOp.NotEq (Value.ref _) (Value.ref _)) _ _ _)); (fail_if_success (with_reducible show wpAny _ _ (PySem.call (Value.ref _) _ _) _ _ _)); first | walk1 | (dsimp only; walk1))))
  have hl9 := (stab_perm st2).length_eq
  refine kba_turn (value' := PySem.Expr.Name (PySem.Str.ofString "_") ⟨0, 0, 0, 0⟩) (fun _ => rfl) ?_
  refine upto_g F2 N2 (.head _) hI2 (by omega) ?_ (by with_unfolding_all rfl) (by intro _; with_unfolding_all rfl)
  intro D9 ws9 h9 F9 N9 l9 hI9
  (try clear F2); (try clear N2)
  (repeat' (first | (k_unfold; (try dsimp only)) | ((fail_if_success (with_reducible show wpAny _ _ (PySem.call (Value.builtin "sorted") _ _) _ _ _)); (fail_if_success (with_reducible show wpAny _ _ (subscriptTail _ _ (Value.ref _) (Value.ref _)) _ _ _)); (fail_if_success (with_reducible show wpAny _ _ (PySem.compareOp CmpOp.NotEq (Value.ref _) (Value.ref _)) _ _ _)); (fail_if_success (with_reducible show wpAny _ _ (PySem.call (Value.ref _) _ _) _ _ _)); first | walk1 | (dsimp only; walk1))))
  refine same_g N9 (.tail _ (.tail _ (.head _))) hI1 (.head _) hI9 (by rw [hms]) (by k_units) ?_
  (repeat' (first | (k_unfold; (try dsimp only)) | ((fail_if_success (with_reducible show wpAny _ _ (PySem.call (Value.builtin "sorted") _ _) _ _ _)); (fail_if_success (with_reducible show wpAny _ _ (subscriptTail _ _ (Value.ref _) (Value.ref _)) _ _ _)); (fail_if_success (with_reducible show wpAny _ _ (PySem.compareOp CmpOp.NotEq (Value.ref _) (Value.ref _)) _ _ _)); (fail_if_success (with_reducible show wpAny _ _ (PySem.call (Value.ref _) _ _) _ _ _)); first | walk1 | (dsimp only; walk1))))
  exact h _ _ F9 (fun q hq => N9 q (.tail _ (.tail _ (.tail _ hq))))
theorem ce3_eval {w : World} {s : Shared} {E : Value → Shared → Prop} {Q : Bool → Shared → Prop} {mg mb : Str → Option Value} {p : Program} {loose : List Str} {mean : ExcName → Option Value} {h₀ : Heap} {L fa sl : Addr} {svs : List Value} {ns : List Int} {led : List (Addr × Obj)} {u : Str → Option Value} {n : Nat} {t : Tok} {g : Int → Int} {ka : Addr} {base : List (Addr × Obj)} {oc : Value} {od : Option Addr} {fd : FuncData} {osl : Array (Option Value)}
    (X : (hd.heap_1 w.params).In h₀) (T : Top p loose mean mg mb h₀) (hK : KeyOk w h₀ ka base g) (hbase : ∀ p ∈ base, p ∈ (ka, ⟨oc, od, .func fd, osl⟩) :: led) (hsl : h₀.IsList sl svs.toArray) (hI : IntsAre svs ns) (hlen : ns.length < 64) (hnb : n < 100)
    (F : Fr h₀ L s.heap (fun y => if y = Str.ofString "many" then some (.int (n : Nat) t) else if y = Str.ofString "script" then some (.ref sl) else if y = Str.ofString "far" then some (.ref ka) else u y)) (N : News h₀ L s.heap ((ka, ⟨oc, od, .func fd, osl⟩) :: led))
    (h : ∀ h' tk, Fr h₀ L h' (fun y => if y = Str.ofString "many" then some (.int (n : Nat) t) else if y = Str.ofString "script" then some (.ref sl) else if y = Str.ofString "far" then some (.ref ka) else u y) → News h₀ L h' ((ka, ⟨oc, od, .func fd, osl⟩) :: led) → Q false { s with heap := h', toks := tk }) :
    wpAny (model PG w) (callerA.deeper (lawEnv L fa)) (isTrue ce3 (lawEnv L fa) (eval ce3 (lawEnv L fa))) Q E s := by
  have T5 := topRead_of T
  conv in (occs := *) ce3 => all_goals whnf
  dsimp only [lawEnv] at F N ⊢
  conv in (occs := *) lawParts.2 => all_goals whnf
  (all_goals try k_fold)
  (repeat' (first | (k_unfold; (try dsimp only)) | ((fail_if_success (with_reducible show wpAny _ _ (PySem.call (Value.builtin "sorted") _ _) _ _ _)); (fail_if_success (with_reducible show wpAny _ _ (subscriptTail _ _ (Value.ref _) (Value.ref _)) _ _ _)); (fail_if_success (with_reducible show wpAny _ _ (PySem.compareOp CmpOp.NotEq (Value.ref _) (Value.ref _)) _ _ _)); (fail_if_success (with_reducible show wpAny _ _ (PySem.call (Value.ref _) _ _) _ _ _)); first | walk1 | (dsimp only; walk1))))
  refine nsm_callK X T5 hsl hK hbase (.head _) hI hlen (by k_room) (by k_units) rfl hnb F N ?_
  intro D1 ws1 ms1 c1 h1 tk1 F1 N1 b1 hI1 st1
  clear F N
  (repeat' (first | (k_unfold; (try dsimp only)) | ((fail_if_success (with_reducible show wpAny _ _ (PySem.call (Value.builtin "sorted") _ _) _ _ _)); (fail_if_success (with_reducible show wpAny _ _ (subscriptTail _ _ (Value.ref _) (Value.ref _)) _ _ _)); (fail_if_success (with_reducible show wpAny _ _ (PySem.compareOp CmpOp.NotEq (Value.ref _) (Value.ref _)) _ _ _)); (fail_if_success (with_reducible show wpAny _ _ (PySem.call (Value.ref _) _ _) _ _ _)); first | walk1 | (dsimp only; walk1))))
  show wpAny _ _ (call (Value.builtin "sorted") [Value.ref _] [(PySem.Str.ofString "key", Value.ref ka)]) _ _ _
  refine sortedKey_ok (b := false) g F1 N1 (hsl.at fun o e => F1.keep _ _ e) hI hlen (by ksk_a1) (fun x => by ksk_a2) (fun x => by ksk_a3) ?_ ?_
  · intro x5 t5 h5 tk5 own _ F5 N5
    refine hK _ _ _ _ L _ _ _ _ rfl (by k_room) (by k_units) F5 N5 (fun p hp => List.mem_append_left _ (.tail _ (hbase p hp))) ?_
    intro h6 tk6 t6 F6 N6
    exact KskEnd.intro F6 N6 (fun p hp => hp)
  intro D2 ws2 ms2 c2 h2 tk2 F2 N2 l2 hI2 st2
  have hms := stab_unique st1 st2
  (try clear F1); (try clear N1)
  (repeat' (first | (k_unfold; (try dsimp only)) | ((fail_if_success (with_reducible show wpAny _ _ (PySem.call (Value.builtin "sorted") _ _) _ _ _)); (fail_if_success (with_reducible show wpAny _ _ (subscriptTail _ _ (Value.ref _) (Value.ref _)) _ _ _)); (fail_if_success (with_reducible show wpAny _ _ (PySem.compareOp CmpOp.NotEq (Value.ref _) (Value.ref _)) _ _ _)); (fail_if_success (with_reducible show wpAny _ _ (PySem.call (Value.ref _) _ _) _ _ _)); first | walk1 | (dsimp only; walk1))))
  have hl9 := (stab_perm st2).length_eq
  refine kba_turn (value' := PySem.Expr.Name (PySem.Str.ofString "_") ⟨0, 0, 0, 0⟩) (fun _ => rfl) ?_
  refine upto_g F2 N2 (.head _) hI2 (by omega) ?_ (by with_unfolding_all rfl) (by intro _; with_unfolding_all rfl)
  intro D9 ws9 h9 F9 N9 l9 hI9
  (try clear F2); (try clear N2)
  (repeat' (first | (k_unfold; (try dsimp only)) | ((fail_if_success (with_reducible show wpAny _ _ (PySem.call (Value.builtin "sorted") _ _) _ _ _)); (fail_if_success (with_reducible show wpAny _ _ (subscriptTail _ _ (Value.ref _) (Value.ref _)) _ _ _)); (fail_if_success (with_reducible show wpAny _ _ (PySem.compareOp CmpOp.NotEq (Value.ref _) (Value.ref _)) _ _ _)); (fail_if_success (with_reducible show wpAny _ _ (PySem.call (Value.ref _) _ _) _ _ _)); first | walk1 | (dsimp only; walk1))))
  refine same_g N9 (.tail _ (.tail _ (.head _))) hI1 (.head _) hI9 (by rw [hms]) (by k_units) ?_
  (repeat' (first | (k_unfold; (try dsimp only)) | ((fail_if_success (with_reducible show wpAny _ _ (PySem.call (Value.builtin "sorted") _ _) _ _ _)); (fail_if_success (with_reducible show wpAny _ _ (subscriptTail _ _ (Value.ref _) (Value.ref _)) _ _ _)); (fail_if_success (with_reducible show wpAny _ _ (PySem.compareOp CmpOp.NotEq (Value.ref _) (Value.ref _)) _ _ _)); (fail_if_success (with_reducible show wpAny _ _ (PySem.call (Value.ref _) _ _) _ _ _)); first | walk1 | (dsimp only; walk1))))
  exact h _ _ F9 (fun q hq => N9 q (.tail _ (.tail _ (.tail _ hq))))
theorem ce4_eval {w : World} {s : Shared} {E : Value → Shared → Prop} {Q : Bool → Shared → Prop} {mg mb : Str → Option Value} {p : Program} {loose : List Str} {mean : ExcName → Option Value} {h₀ : Heap} {L fa sl : Addr} {svs : List Value} {ns : List Int} {led : List (Addr × Obj)} {u : Str → Option Value} {n : Nat} {t : Tok} {g : Int → Int} {ka : Addr} {base : List (Addr × Obj)} {oc : Value} {od : Option Addr} {fd : FuncData} {osl : Array (Option Value)}
    (X : (hd.heap_1 w.params).In h₀) (T : Top p loose mean mg mb h₀) (hK : KeyOk w h₀ ka base g) (hbase : ∀ p ∈ base, p ∈ (ka, ⟨oc, od, .func fd, osl⟩) :: led) (hsl : h₀.IsList sl svs.toArray) (hI : IntsAre svs ns) (hlen : ns.length < 64) (hnb : n < 100)
    (F : Fr h₀ L s.heap (fun y => if y = Str.ofString "many" then some (.int (n : Nat) t) else if y = Str.ofString "script" then some (.ref sl) else if y = Str.ofString "far" then some (.ref ka) else u y)) (N : News h₀ L s.heap ((ka, ⟨oc, od, .func fd, osl⟩) :: led))
    (h : ∀ h' tk, Fr h₀ L h' (fun y => if y = Str.ofString "many" then some (.int (n : Nat) t) else if y = Str.ofString "script" then some (.ref sl) else if y = Str.ofString "far" then some (.ref ka) else u y) → News h₀ L h' ((ka, ⟨oc, od, .func fd, osl⟩) :: led) → Q false { s with heap := h', toks := tk }) :
    wpAny (model PG w) (callerA.deeper (lawEnv L fa)) (isTrue ce4 (lawEnv L fa) (eval ce4 (lawEnv L fa))) Q E s := by
  have T5 := topRead_of T
  conv in (occs := *) ce4 => all_goals whnf
  dsimp only [lawEnv] at F N ⊢
  conv in (occs := *) lawParts.2 => all_goals whnf
  (all_goals try k_fold)
  (repeat' (first | (k_unfold; (try dsimp only)) | ((fail_if_success (with_reducible show wpAny _ _ (PySem.call (Value.builtin "sorted") _ _) _ _ _)); (fail_if_success (with_reducible show wpAny _ _ (subscriptTail _ _ (Value.ref _) (Value.ref _)) _ _ _)); (fail_if_success (with_reducible show wpAny _ _ (PySem.compareOp CmpOp.NotEq (Value.ref _) (Value.ref _)) _ _ _)); (fail_if_success (with_reducible show wpAny _ _ (PySem.call (Value.ref _) _ _) _ _ _)); first | walk1 | (dsimp only; walk1))))
  refine nlm_callK X T5 hsl hK hbase (.head _) hI hlen (by k_room) (by k_units) rfl hnb F N ?_
  intro D1 ws1 ms1 c1 h1 tk1 F1 N1 b1 hI1 st1
  clear F N
  (repeat' (first | (k_unfold; (try dsimp only)) | ((fail_if_success (with_reducible show wpAny _ _ (PySem.call (Value.builtin "sorted") _ _) _ _ _)); (fail_if_success (with_reducible show wpAny _ _ (subscriptTail _ _ (Value.ref _) (Value.ref _)) _ _ _)); (fail_if_success (with_reducible show wpAny _ _ (PySem.compareOp CmpOp.NotEq (Value.ref _) (Value.ref _)) _ _ _)); (fail_if_success (with_reducible show wpAny _ _ (PySem.call (Value.ref _) _ _) _ _ _)); first | walk1 | (dsimp only; walk1))))
  show wpAny _ _ (call (Value.builtin "sorted") [Value.ref _] [(PySem.Str.ofString "key", Value.ref ka), (PySem.Str.ofString "reverse", Value.bool true)]) _ _ _
  refine sortedKey_ok (b := true) g F1 N1 (hsl.at fun o e => F1.keep _ _ e) hI hlen (by ksk_a1) (fun x => by ksk_a2) (fun x => by ksk_a3) ?_ ?_
  · intro x5 t5 h5 tk5 own _ F5 N5
    refine hK _ _ _ _ L _ _ _ _ rfl (by k_room) (by k_units) F5 N5 (fun p hp => List.mem_append_left _ (.tail _ (hbase p hp))) ?_
    intro h6 tk6 t6 F6 N6
    exact KskEnd.intro F6 N6 (fun p hp => hp)
  intro D2 ws2 ms2 c2 h2 tk2 F2 N2 l2 hI2 st2
  have hms := stab_unique st1 st2
  (try clear F1); (try clear N1)
  (repeat' (first | (k_unfold; (try dsimp only)) | ((fail_if_success (with_reducible show wpAny _ _ (PySem.call (Value.builtin "sorted") _ _) _ _ _)); (fail_if_success (with_reducible show wpAny _ _ (subscriptTail _ _ (Value.ref _) (Value.ref _)) _ _ _)); (fail_if_success (with_reducible show wpAny _ _ (PySem.compareOp CmpOp.NotEq (Value.ref _) (Value.ref _)) _ _ _)); (fail_if_success (with_reducible show wpAny _ _ (PySem.call (Value.ref _) _ _) _ _ _)); first | walk1 | (dsimp only; walk1))))
  have hl9 := (stab_perm st2).length_eq
  refine kba_turn (value' := PySem.Expr.Name (PySem.Str.ofString "_") ⟨0, 0, 0, 0⟩) (fun _ => rfl) ?_
  refine upto_g F2 N2 (.head _) hI2 (by omega) ?_ (by with_unfolding_all rfl) (by intro _; with_unfolding_all rfl)
  intro D9 ws9 h9 F9 N9 l9 hI9
  (try clear F2); (try clear N2)
  (repeat' (first | (k_unfold; (try dsimp only)) | ((fail_if_success (with_reducible show wpAny _ _ (PySem.call (Value.builtin "sorted") _ _) _ _ _)); (fail_if_success (with_reducible show wpAny _ _ (subscriptTail _ _ (Value.ref _) (Value.ref _)) _ _ _)); (fail_if_success (with_reducible show wpAny _ _ (PySem.compareOp CmpOp.NotEq (Value.ref _) (Value.ref _)) _ _ _)); (fail_if_success (with_reducible show wpAny _ _ (PySem.call (Value.ref _) _ _) _ _ _)); first | walk1 | (dsimp only; walk1))))
  refine same_g N9 (.tail _ (.tail _ (.head _))) hI1 (.head _) hI9 (by rw [hms]) (by k_units) ?_
  (repeat' (first | (k_unfold; (try dsimp only)) | ((fail_if_success (with_reducible show wpAny _ _ (PySem.call (Value.builtin "sorted") _ _) _ _ _)); (fail_if_success (with_reducible show wpAny _ _ (subscriptTail _ _ (Value.ref _) (Value.ref _)) _ _ _)); (fail_if_success (with_reducible show wpAny _ _ (PySem.compareOp CmpOp.NotEq (Value.ref _) (Value.ref _)) _ _ _)); (fail_if_success (with_reducible show wpAny _ _ (PySem.call (Value.ref _) _ _) _ _ _)); first | walk1 | (dsimp only; walk1))))
  exact h _ _ F9 (fun q hq => N9 q (.tail _ (.tail _ (.tail _ hq))))
end Mine

-- H2
namespace Mine
local macro_rules | `(tactic| walk_at "TurnPost") => `(tactic| dsimp only [TurnPost])
noncomputable def sec0 : Stmt := secStmts.getD 0 nopS
noncomputable def sec1 : Stmt := secStmts.getD 1 nopS
noncomputable def sec2 : Stmt := secStmts.getD 2 nopS
noncomputable def sec3 : Stmt := secStmts.getD 3 nopS
theorem sec_eq : secStmts = [sec0, sec1, sec2, sec3] := rfl
/-- the second loop's invariant -/
noncomputable def SJ (sl ax : Addr) (vs5 : List Value) (c5 : Nat) (_i : Nat) (m : Str → Option Value) (nx : List (Addr × Obj)) : Prop := ∃ (ps : Array Value) (codes : List (Addr × Obj)) (u : Str → Option Value),
  m = (fun y => if y = Str.ofString "script" then some (.ref sl) else u y) ∧ nx = (ax, PySem.W.listOf vs5.toArray c5) :: (119, tabObj ps) :: codes ∧ TabOk ps codes ∧ OffX ax codes
theorem sec_turn {w : World} {s : Shared} {E : Value → Shared → Prop} {Q : Flow → Shared → Prop} {mg mb : Str → Option Value} {p : Program} {loose : List Str} {mean : ExcName → Option Value} {h₀ : Heap} {L fa sl ax I : Addr} {o : Obj} {svs vs5 : List Value} {ns : List Int} {m₁ : Str → Option Value} {nx : List (Addr × Obj)} {i n c5 : Nat} {t : Tok}
    (X : (hd.heap_1 w.params).In h₀) (T : Top p loose mean mg mb h₀) (C : CodeHd h₀ 121 119) (hsl : h₀.IsList sl svs.toArray) (hI : IntsAre svs ns) (hlen : ns.length < 64) (hnb : n < 100) (ha9 : @Ne Nat ax 119)
    (J : SJ sl ax vs5 c5 i m₁ nx) (hIo : ∀ p ∈ nx, p.1 ≠ I)
    (F : Fr h₀ L s.heap (fun y => if y = Str.ofString "many" then some (.int (n : Nat) t) else m₁ y)) (N : News h₀ L s.heap ((I, o) :: nx)) :
    wpAny (model PG w) (callerA.deeper (lawEnv L fa)) (execs secStmts (lawEnv L fa)) (TurnPost h₀ L I o (SJ sl ax vs5 c5 (i + 1)) s Q) E s := by
  obtain ⟨ps, codes, u, rfl, rfl, tab, off⟩ := J
  have hIa : @Ne Nat ax I := hIo _ (.head _)
  have hI9 : @Ne Nat 119 I := hIo _ (.tail _ (.head _))
  have hcI : ∀ p ∈ codes, @Ne Nat p.1 I := fun p hp => hIo p (.tail _ (.tail _ hp))
  have T5 := topRead_of T
  rw [sec_eq]
  obtain ⟨r1, hr1⟩ : ∃ r, r = [sec1, sec2, sec3] := ⟨_, rfl⟩
  rw [← hr1]
  refine wpAny_execs_cons ?_
  conv in (occs := *) sec0 => all_goals whnf
  (all_goals try k_fold)
  (repeat' (first | (k_unfold; (try dsimp only)) | ((fail_if_success (with_reducible show wpAny _ _ (PySem.isTrue (PySem.Expr.Compare _ _ _ _) _ _) _ _ _)); (fail_if_success (with_reducible show wpAny _ _ (PySem.eval (PySem.Expr.Lambda _ _ _ _) _) _ _ _)); (fail_if_success (with_reducible show TurnEnd _ _ _ _ _ _ _)); (fail_if_success (with_reducible show wpAny _ _ (PySem.call (Value.ref _) _ _) _ _ _)); first | walk1 | (dsimp only; walk1))))
  refine ce1_eval X T hsl hI hlen hnb F N ?_
  intro h1 tk1 F1 N1
  clear F N
  (repeat' (first | (k_unfold; (try dsimp only)) | ((fail_if_success (with_reducible show wpAny _ _ (PySem.isTrue (PySem.Expr.Compare _ _ _ _) _ _) _ _ _)); (fail_if_success (with_reducible show wpAny _ _ (PySem.eval (PySem.Expr.Lambda _ _ _ _) _) _ _ _)); (fail_if_success (with_reducible show TurnEnd _ _ _ _ _ _ _)); (fail_if_success (with_reducible show wpAny _ _ (PySem.call (Value.ref _) _ _) _ _ _)); first | walk1 | (dsimp only; walk1))))
  refine ce2_eval X T hsl hI hlen hnb F1 N1 ?_
  intro h2 tk2 F2 N2
  clear F1 N1
  (repeat' (first | (k_unfold; (try dsimp only)) | ((fail_if_success (with_reducible show wpAny _ _ (PySem.isTrue (PySem.Expr.Compare _ _ _ _) _ _) _ _ _)); (fail_if_success (with_reducible show wpAny _ _ (PySem.eval (PySem.Expr.Lambda _ _ _ _) _) _ _ _)); (fail_if_success (with_reducible show TurnEnd _ _ _ _ _ _ _)); (fail_if_success (with_reducible show wpAny _ _ (PySem.call (Value.ref _) _ _) _ _ _)); first | walk1 | (dsimp only; walk1))))
  subst hr1
  refine wpAny_execs_cons ?_
  obtain ⟨r2, hr2⟩ : ∃ r, r = [sec2, sec3] := ⟨_, rfl⟩
  rw [← hr2]
  conv in (occs := *) sec1 => all_goals whnf
  (all_goals try k_fold)
  (repeat' (first | (k_unfold; (try dsimp only)) | ((fail_if_success (with_reducible show wpAny _ _ (PySem.isTrue (PySem.Expr.Compare _ _ _ _) _ _) _ _ _)); (fail_if_success (with_reducible show wpAny _ _ (PySem.eval (PySem.Expr.Lambda _ _ _ _) _) _ _ _)); (fail_if_success (with_reducible show TurnEnd _ _ _ _ _ _ _)); (fail_if_success (with_reducible show wpAny _ _ (PySem.call (Value.ref _) _ _) _ _ _)); first | walk1 | (dsimp only; walk1))))
  refine far_eval X T C tab off (Ne.symm hI9) ha9 (Ne.symm hIa) hcI F2 N2 ?_
  intro h3 tk3 f c' oc vs' t' pm ctv ps3 codes3 F3 N3 hm3 hv2 hv1 tab3 off3 hcI3
  clear F2 N2
  (repeat' (first | (k_unfold; (try dsimp only)) | ((fail_if_success (with_reducible show wpAny _ _ (PySem.isTrue (PySem.Expr.Compare _ _ _ _) _ _) _ _ _)); (fail_if_success (with_reducible show wpAny _ _ (PySem.eval (PySem.Expr.Lambda _ _ _ _) _) _ _ _)); (fail_if_success (with_reducible show TurnEnd _ _ _ _ _ _ _)); (fail_if_success (with_reducible show wpAny _ _ (PySem.call (Value.ref _) _ _) _ _ _)); first | walk1 | (dsimp only; walk1))))
  rename Fr _ _ _ _ => F4
  with_reducible rename News _ _ _ _ => N4
  (try clear F3); (try clear N3)
  have hK := far_ok (f := f) (c' := c') (pm := pm) (ctv := ctv) X T5 hv2 hv1
  have hb : ∀ p ∈ [(f, farObj pm ctv c'), (c', oc)], p ∈ (f, farObj pm ctv c') :: (I, o) :: (ax, PySem.W.listOf vs5.toArray c5) :: (119, tabObj ps3) :: codes3 := by
    intro p hp
    rcases List.mem_cons.mp hp with rfl | hp
    · exact .head _
    · rw [List.mem_singleton.mp hp]
      exact .tail _ (.tail _ (.tail _ (.tail _ hm3)))
  have F5 := fr3b (x := Str.ofString "many") (y := Str.ofString "script") (z := Str.ofString "far") F4 rfl rfl rfl
  clear F4
  subst hr2
  refine wpAny_execs_cons ?_
  obtain ⟨r3, hr3⟩ : ∃ r, r = [sec3] := ⟨_, rfl⟩
  rw [← hr3]
  conv in (occs := *) sec2 => all_goals whnf
  (all_goals try k_fold)
  (repeat' (first | (k_unfold; (try dsimp only)) | ((fail_if_success (with_reducible show wpAny _ _ (PySem.isTrue (PySem.Expr.Compare _ _ _ _) _ _) _ _ _)); (fail_if_success (with_reducible show wpAny _ _ (PySem.eval (PySem.Expr.Lambda _ _ _ _) _) _ _ _)); (fail_if_success (with_reducible show TurnEnd _ _ _ _ _ _ _)); (fail_if_success (with_reducible show wpAny _ _ (PySem.call (Value.ref _) _ _) _ _ _)); first | walk1 | (dsimp only; walk1))))
  refine ce3_eval X T hK hb hsl hI hlen hnb F5 N4 ?_
  intro h6 tk6 F6 N6
  clear F5 N4
  (repeat' (first | (k_unfold; (try dsimp only)) | ((fail_if_success (with_reducible show wpAny _ _ (PySem.isTrue (PySem.Expr.Compare _ _ _ _) _ _) _ _ _)); (fail_if_success (with_reducible show wpAny _ _ (PySem.eval (PySem.Expr.Lambda _ _ _ _) _) _ _ _)); (fail_if_success (with_reducible show TurnEnd _ _ _ _ _ _ _)); (fail_if_success (with_reducible show wpAny _ _ (PySem.call (Value.ref _) _ _) _ _ _)); first | walk1 | (dsimp only; walk1))))
  subst hr3
  refine wpAny_execs_cons ?_
  conv in (occs := *) sec3 => all_goals whnf
  (all_goals try k_fold)
  (repeat' (first | (k_unfold; (try dsimp only)) | ((fail_if_success (with_reducible show wpAny _ _ (PySem.isTrue (PySem.Expr.Compare _ _ _ _) _ _) _ _ _)); (fail_if_success (with_reducible show wpAny _ _ (PySem.eval (PySem.Expr.Lambda _ _ _ _) _) _ _ _)); (fail_if_success (with_reducible show TurnEnd _ _ _ _ _ _ _)); (fail_if_success (with_reducible show wpAny _ _ (PySem.call (Value.ref _) _ _) _ _ _)); first | walk1 | (dsimp only; walk1))))
  refine ce4_eval X T hK hb hsl hI hlen hnb F6 N6 ?_
  intro h7 tk7 F7 N7
  clear F6 N6
  (repeat' (first | (k_unfold; (try dsimp only)) | ((fail_if_success (with_reducible show wpAny _ _ (PySem.isTrue (PySem.Expr.Compare _ _ _ _) _ _) _ _ _)); (fail_if_success (with_reducible show wpAny _ _ (PySem.eval (PySem.Expr.Lambda _ _ _ _) _) _ _ _)); (fail_if_success (with_reducible show TurnEnd _ _ _ _ _ _ _)); (fail_if_success (with_reducible show wpAny _ _ (PySem.call (Value.ref _) _ _) _ _ _)); first | walk1 | (dsimp only; walk1))))
  exact ⟨h7, tk7, _, _, rfl, F7, fun q hq => N7 q (.tail _ hq), List.forall_mem_cons.mpr ⟨hIa, List.forall_mem_cons.mpr ⟨hI9, hcI3⟩⟩, ps3, codes3, _, fr_pick rfl, rfl, tab3, off3⟩
end Mine

-- H3
namespace Mine
noncomputable def secFor : Stmt := lawParts.1.getD 3 (.Pass ⟨0,0,0,0⟩)
theorem SJ_mem {sl ax : Addr} {vs5 : List Value} {c5 i : Nat} {m : Str → Option Value} {nx : List (Addr × Obj)} (h : SJ sl ax vs5 c5 i m nx) : (ax, PySem.W.listOf vs5.toArray c5) ∈ nx := by
  obtain ⟨ps', codes', u', rfl, rfl, _⟩ := h
  exact .head _
theorem second_ok {w : World} {s : Shared} {Q : Flow → Shared → Prop} {mg mb : Str → Option Value} {p : Program} {loose : List Str} {mean : ExcName → Option Value} {h₀ : Heap} {L fa sl : Addr} {svs : List Value} {ns : List Int} {ps : Array Value} {codes : List (Addr × Obj)} {u : Str → Option Value}
    (X : (hd.heap_1 w.params).In h₀) (T : Top p loose mean mg mb h₀) (C : CodeHd h₀ 121 119) (hsl : h₀.IsList sl svs.toArray) (hI : IntsAre svs ns) (hns : ns.length ≤ 63) (tab : TabOk ps codes) (hoc : ∀ p ∈ codes, @LT.lt Nat _ 119 p.1)
    (F : Fr h₀ L s.heap (fun y => if y = Str.ofString "script" then some (.ref sl) else u y)) (N : News h₀ L s.heap ((119, tabObj ps) :: codes))
    (done : ∀ m ps' codes' h' tk, Fr h₀ L h' m → News h₀ L h' ((119, tabObj ps') :: codes') → TabOk ps' codes' → Q .next { s with heap := h', toks := tk }) :
    wpAny (model PG w) (callerA.deeper (lawEnv L fa)) (exec secFor (lawEnv L fa)) Q (fun _ _ => False) s := by
  have hlv := hI.length
  have T5 := topRead_of T
  conv in (occs := *) secFor => all_goals whnf
  dsimp only [lawEnv] at F N ⊢
  conv in (occs := *) lawParts.2 => all_goals whnf
  refine For_invVF F (by with_unfolding_all rfl) (by with_unfolding_all rfl) ?_
  (all_goals try k_fold)
  (repeat' (first | (k_unfold; (try dsimp only)) | ((fail_if_success (with_reducible show wpAny _ _ (pyIter (Value.ref _)) _ _ _)); (fail_if_success (with_reducible show wpAny _ _ (PySem.exec (PySem.Stmt.For _ (PySem.Expr.List _ _) _ _ _) _) _ _ _)); first | walk1 | (dsimp only; walk1))))
  rename Fr _ _ _ _ => F9
  rename News _ _ _ _ => N9
  rename _ ∧ _ => l9
  rename_i ax h9
  have hax := allLt_mem l9.2
  refine iter_made_g (env := lawEnv L fa) (SJ sl ax _ 0) rfl (fun i m nx => SJ_mem) F9 N9 ⟨ps, codes, u, rfl, rfl, tab, fun p hp => ⟨Nat.ne_of_lt (hax p hp), hoc p hp⟩⟩ ?_ ?_
  · intro i m₁ nx h tk I o hi hJ hoff _ F3 N3
    simp only [List.length_cons, List.length_nil] at hi
    rcases (by omega : i = 0 ∨ i = 1 ∨ i = 2 ∨ i = 3 ∨ i = 4) with rfl | rfl | rfl | rfl | rfl
    · exact sec_turn (n := 0) X T C hsl hI (by omega) (by omega) (Nat.ne_of_gt l9.1) hJ hoff F3 N3
    · exact sec_turn (n := 1) X T C hsl hI (by omega) (by omega) (Nat.ne_of_gt l9.1) hJ hoff F3 N3
    · exact sec_turn (n := 3) X T C hsl hI (by omega) (by omega) (Nat.ne_of_gt l9.1) hJ hoff F3 N3
    · exact sec_turn (n := ns.length) X T C hsl hI (by omega) (by omega) (Nat.ne_of_gt l9.1) hJ hoff F3 N3
    · exact sec_turn (n := ns.length + 2) X T C hsl hI (by omega) (by omega) (Nat.ne_of_gt l9.1) hJ hoff F3 N3
  · rintro m₁ _ h tk ⟨ps', codes', u', rfl, rfl, tab', _⟩ F3 N3
    exact done _ ps' codes' h tk F3 (fun q hq => N3 q (.tail _ hq)) tab'

-- TT
section
theorem tt : PySem.Challenge.rw_wy0007_01.Holds := hd (by 
  k_go0; (all_goals try k_fold)
  (repeat' (first | (k_unfold; (try dsimp only)) | ((fail_if_success (with_reducible show wpAny _ _ (pyIter (Value.ref _)) _ _ _)); (fail_if_success (with_reducible show wpAny _ _ (PySem.exec (PySem.Stmt.For _ (PySem.Expr.List _ _) _ _ _) _) _ _ _)); first | walk1 | (dsimp only; walk1))))
  rename Fr _ _ _ _ => F9
  rename News _ _ _ _ => N9
  rename IsRange _ _ _ _ _ _ _ _ => hr9
  rename Below _ _ _ _ => B9
  rename Top _ _ _ _ _ _ => T9
  refine first_ok B9 (by assumption) T9 codeHd lifted (by assumption) (by omega) (by rfl) (by assumption) (by assumption) ⟨_, by assumption⟩ (by assumption) (by omega) (by omega) F9 N9 hr9 ?_
  intro m7 nx7 h7 tk7 J7 F7 N7
  clear F9 N9 hr9
  obtain ⟨a, r, vs, us, hs, rs, n1, n2, ov, oh, orr, ps, codes, u, rfl, rfl, LF, hperm, hri⟩ := J7
  refine wpAny_execs_cons ?_
  refine wpAny_mono (second_ok (by assumption) T9 codeHd lifted (by assumption) (by omega) LF.tab (fun p hp => by have h1 := (LF.off p hp).2.2; have h2 := LF.l0; omega) F7 (fun q hq => N7 q (.tail _ (.tail _ (.tail _ (.tail _ (.tail _ hq)))))) ?_) (fun _ _ q => q) (fun _ _ q => q.elim)
  intro m8 ps8 codes8 h8 tk8 F8 N8 tab8
  clear F7 N7
  dsimp only
  (repeat' (first | (k_unfold; (try dsimp only)) | ((fail_if_success (with_reducible show wpAny _ _ (pyIter (Value.ref _)) _ _ _)); (fail_if_success (with_reducible show wpAny _ _ (PySem.exec (PySem.Stmt.For _ (PySem.Expr.List _ _) _ _ _) _) _ _ _)); first | walk1 | (dsimp only; walk1))))
  (try dsimp only)
  first
  | close_w
  | (refine goodW_bool (b := true) F8 ?hg ?hn ?hp
     case hg => assumption
     case hn => intro cls; first | rfl | (exact raisesW_false (by rfl)) | (simp; done)
     case hp => (refine' postW_of ?s ?v ?e; (case s => o_shape); (case v => wtm_val); (case e => w_fin))))
end
end Mine

set_option maxRecDepth 100000 in
set_option maxHeartbeats 8000000 in
theorem PySem.Challenge.cw_wy0007_01_holds : PySem.Challenge.rw_wy0007_01.Holds := by
  exact Mine.tt

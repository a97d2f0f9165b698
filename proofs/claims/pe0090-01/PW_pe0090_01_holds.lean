import PyProof.Rows.All
import Wide.All
import OpenK.AllK
import Wide.FinOn
import Lean
import PySem.Challenge.RW_pe0090_01
open PySem PySem.W PyProof.Rows PySem.Calls
set_option Elab.async false
set_option maxRecDepth 100000
set_option maxHeartbeats 8000000
namespace Mine
open_top hd for PySem.Challenge.rw_pe0090_01
/-- every object stays -/
def Kept (h h' : Heap) : Prop := ∀ b o, h.get? b = some o → h'.get? b = some o
theorem Kept.refl (h : Heap) : Kept h h := fun _ _ e => e
theorem Kept.trans {a b c : Heap} (x : Kept a b) (y : Kept b c) : Kept a c := fun _ _ e => y _ _ (x _ _ e)

section
variable {prog : Program} {w : World} {A A₀ : Around} {s : Shared} {K : Frag} {L : Addr} {h₀ base : Heap} {m mg mb : Str → Option Value} {p : Program} {loose : List Str} {mean : ExcName → Option Value}
/-- a call that stores into nothing that stood before it -/
theorem pure_call {env : Env} {outer : List Env} {R : Result → Shared → Prop} {name qual : Str} {params : Arguments} {body : List Stmt} {scope : Scope} {dV kV doc pm cdv ct oc : Value} {an od : Option Addr} {osl : Array (Option Value)} {f : Addr} {args : Args} {binds : List (Str × Value)}
    (B : Below A₀ base outer h₀) (F : Fr h₀ L s.heap m) (X₀ : K.In h₀) (T : Top p loose mean mg mb h₀) (hA : A.frames = some (env :: outer)) (hf : env.frame = some L) (hke : env.scope.kind = .function)
    (ho : K.lookup f = some ⟨oc, od, .func (fnOf name qual params body scope dV kV doc pm an cdv ct), osl⟩) (hcd : codeIn K cdv qual = true) (hroom : A.depth < recursionLimit)
    (hbind : BindsTo s (fnOf name qual params body scope dV kV doc pm an cdv ct) args binds) (hloc : ∀ y ∈ binds, scope.names.lookup y.1 = some .local)
    (h : ∀ g L' h₁, g = s.heap → Fr g L' h₁ (fun y => binds.reverse.lookup y) → News g L' h₁ [] → Below A base (env :: outer) g → K.In g → Top p loose mean mg mb g →
      wpAny (model prog w) (A.deeper (envOf qual scope L' f cdv)) (execs body (envOf qual scope L' f cdv))
        (fun fl s' => R (.ok (.ret (match fl with | .ret v => v | _ => .none))) s') (fun _ _ => False)
        { s with heap := h₁, toks := s.toks + binds.length })
    (hco : scope.isCoroutine = false) (hgen : scope.isGenerator = false) (hk : scope.kind = .function)
    (hcell : ∀ x ∈ scope.names, x.2 ≠ .cell) : codeAny (model prog w) A (.call (.ref f) args) R s := by
  have X := X₀.keeps F.keep
  have B₁ := pushX B F hf hke
  have B₂ : Below A base (env :: outer) s.heap := ⟨hA, B₁.stays, B₁.frames⟩
  refine codeAny_call_def (fd := fnOf name qual params body scope dV kV doc pm an cdv ct) (body := body) (binds := binds) hroom (X _ _ ho) rfl (T.nolimit.keeps F.keep) (codeRec_of X hcd) rfl hbind hcell hloc (fun h₁ hns hk₁ => ?_) hco hgen hk
  exact wpAny_mono (h s.heap s.heap.objs.size h₁ rfl ⟨hns, hk₁, Nat.le_refl _⟩ News.nil B₂ X (T.keeps F.keep)) (fun _ _ x => x) fun _ _ x => x.elim
end

/-- a weaker surrounding -/
theorem wp_around {α : Type} {M : Model} {A A' : Around} {t : Sem α} {Q : α → Shared → Prop} {E : Value → Shared → Prop} {s : Shared} (h : wpAny M A t Q E s)
    (h1 : A'.handled = A.handled) (h2 : A'.depth ≤ A.depth) (h3 : A'.frames = A.frames) (h4 : A.guards = none) (h5 : A'.units ≤ A.units) : wpAny M A' t Q E s :=
  fun Γ p hΓ => h Γ p ⟨hΓ.1.trans h1, Nat.le_trans hΓ.2.1 h2, fun l hl => hΓ.2.2.1 l (h3.trans hl), (fun g hg => by rw [h4] at hg; cases hg), Nat.le_trans hΓ.2.2.2.2 h5⟩

abbrev AX (dp un : Nat) (env : Env) (outer : List Env) : Around := { handled := none, depth := dp, frames := some (env :: outer), guards := none, units := un }
structure Halt (P : Prop) : Prop where
  go ::
  out : P
theorem halt {P : Prop} (h : Halt P) : P := h.out
structure Mark (n : Nat) : Prop where
theorem kept_of {g h₀ h : Heap} {L : Addr} {m : Str → Option Value} (hg : g = h₀) (F : Fr g L h m) : Kept h₀ h := hg ▸ F.keep
section
local macro_rules | `(tactic| walk_at "my enter") => `(tactic| (refine wpAny_call ?_; refine' pure_call ?k1 ?k2 ?k3 ?k5 ?kA ?kF ?kK ?k6 ?k7 ?k8 ?k9 ?kB ?_ ?c2 ?c3 ?c4 ?c5; (case kA => exact rfl); (case kF => first | assumption | exact rfl); (case kK => first | assumption | exact rfl); (case k1 => k_asm); (case k2 => k_asm); (case k3 => k_asm); (case k5 => k_asm); (case k6 => k_is); (case k7 => k_is); (case k8 => exact Nat.le_of_ble_eq_true rfl); (case k9 => exact BindsTo.of_eq rfl); (case c5 => decide); (case kB => exact locs rfl); (case c2 => exact rfl); (case c3 => exact rfl); (case c4 => exact rfl); k_whole; intro g' L' h' hg' F' N' B' X' T'; (try dsimp only)))
local macro_rules | `(tactic| walk_at "InvEndN") => `(tactic| refine halt ?_)
local macro_rules | `(tactic| walk_at "pyIter ref") => `(tactic| refine halt ?_)
local macro_rules | `(tactic| walk_at "pyIter str") => `(tactic| refine halt ?_)
local macro_rules | `(tactic| walk_at "loadName") => `(tactic| refine ldn (by assumption) (by rfl) ?_)
local macro_rules | `(tactic| walk_at "exec Assert") => `(tactic| ((fail_if_success (rename Mark 1 => mkX)); refine halt ?_))
local macro_rules | `(tactic| walk_at "truthy str") => `(tactic| (refine truthy_str (by omega) ?_))
section
def heightsF (cs : List Int) : List Int := cs.foldl (fun hs c => hs ++ [hs.getLastD 0 + (if c = 40 then 1 else -1)]) [0]
theorem heightsF_snoc (cs : List Int) (c : Int) : heightsF (cs ++ [c]) = heightsF cs ++ [(heightsF cs).getLastD 0 + (if c = 40 then 1 else -1)] := by
  unfold heightsF
  rw [List.foldl_append]
  rfl
theorem heightsF_len (cs : List Int) : (heightsF cs).length = cs.length + 1 := by
  have : ∀ (hs : List Int), (cs.foldl (fun hs c => hs ++ [hs.getLastD 0 + (if c = 40 then 1 else -1)]) hs).length = cs.length + hs.length := by
    induction cs with
    | nil => intro hs; simp
    | cons c r ih => intro hs; rw [List.foldl_cons, ih]; simp; omega
  unfold heightsF
  rw [this]; simp
section
variable {prog : Program} {w : World} {A : Around} {E : Value → Shared → Prop} {s : Shared}
/-- the last item of a list -/
theorem item_last {value slice : PySem.Expr} {l : Addr} {vs : List Value} {u : Tok} {v : Value} {Q : Value → Shared → Prop}
    (hl : s.heap.IsList l vs.toArray) (hx : vs.getLast? = some v) (h : Q v s)
    (hs : subscripted slice false (.ref l) (.int (-1) u) = operate [.ref l, .int (-1) u] (getItem (.ref l) (.int (-1) u)) := by with_unfolding_all rfl) :
    wpAny (model prog w) A (subscriptTail value slice (.ref l) (.int (-1) u)) Q E s := by
  have hne : vs ≠ [] := by rintro rfl; cases hx
  have hpos : 0 < vs.length := List.length_pos_iff.mpr hne
  refine tail_any hl.typeIs slot_list_getitem.lookup (wpAny_getItem_list_neg hl (by decide) ?_ (by decide) ?_ h) hs
  · simp only [List.size_toArray]; omega
  · rw [List.getLast?_eq_getElem?] at hx
    have e : ((-1 : Int) + (vs.toArray.size : Int)).toNat = vs.length - 1 := by simp only [List.size_toArray]; omega
    rw [e]; simpa using hx
end
theorem ints_last {vs : List Value} {ns : List Int} (h : IntsAre vs ns) (hne : ns ≠ []) : ∃ t, vs.getLast? = some (.int (ns.getLastD 0) t) := by
  induction h with
  | nil => exact absurd rfl hne
  | cons n t h ih =>
    rename_i vs' ns'
    cases h with
    | nil => exact ⟨t, rfl⟩
    | cons n' t' h' =>
      obtain ⟨t2, e⟩ := ih (by simp)
      refine ⟨t2, ?_⟩
      rw [List.getLast?_cons_cons, e]
      simp
theorem heightsF_ne (cs : List Int) : heightsF cs ≠ [] := by
  intro h
  have := heightsF_len cs
  rw [h] at this
  simp at this
theorem ints_snoc {vs : List Value} {ns : List Int} {n : Int} {t : Tok} (h : IntsAre vs ns) : IntsAre (vs ++ [.int n t]) (ns ++ [n]) := by
  induction h with
  | nil => exact .cons _ _ .nil
  | cons n t _ ih => exact .cons _ _ ih
theorem ints_end {h₀ : Heap} {L a : Addr} {x : Str} {m₀ m' : Str → Option Value} {own news' : List (Addr × Obj)} {s₁ : Shared} {h' : Heap} {tk : Nat} {vs : List Value} {ns pre : List Int} {z : Int} {t' : Tok} {e' : Nat}
    {P : List Int → (List Value × List Int × Nat) → Prop} (F : Fr h₀ L h' m') (N : News h₀ L h' news') (hm : (a, PySem.W.listOf (vs ++ [Value.int z t']).toArray e') ∈ news') (hi : IntsAre vs ns) (ho : ∀ p ∈ own, p ∈ news') (hr : ∀ z, z ≠ x → m' z = m₀ z)
    (hp : P pre (vs ++ [.int z t'], ns ++ [z], e')) :
    InvEndN h₀ L (KstS (fun c : List Value × List Int × Nat => [(a, PySem.W.listOf c.1.toArray c.2.2)]) (fun _ => []) (fun c => IntsAre c.1 c.2.1) x [] m₀ P pre) own [a] s₁ { s₁ with heap := h', toks := tk } :=
  kst_end (vs ++ [.int z t'], ns ++ [z], e') F N (fun p hp => by cases hp with | head => exact hm | tail _ h => cases h) ho rfl (ints_snoc hi) (fun _ h => (nomatch h)) (fun z h1 _ _ => hr z h1) hp
theorem heights_last (ns : List Int) (hne : ns ≠ []) : ns.getD (-1 + (ns.length : Int)).toNat 0 = ns.getLastD 0 := by
  have h : 0 < ns.length := List.length_pos_iff.mpr hne
  have e : (-1 + (ns.length : Int)).toNat = ns.length - 1 := by omega
  rw [e, List.getLastD_eq_getLast?, List.getLast?_eq_getElem?, List.getD_eq_getElem?_getD]
theorem heights_up (pre : List Int) (n : Nat) (h : (({ cps := #[n] } : Str) == Str.ofString "(") = true) :
    heightsF pre ++ [(heightsF pre).getD (-1 + ((heightsF pre).length : Int)).toNat 0 + 1] = heightsF (pre ++ [(n : Int)]) := by
  have e : n = 40 := by
    have := eq_of_beq h
    have h2 : (#[n] : Array Nat) = #[40] := congrArg Str.cps this
    simpa using h2
  subst e
  rw [heights_last _ (heightsF_ne pre), heightsF_snoc]
  rfl
theorem heights_down (pre : List Int) (n : Nat) (h : (({ cps := #[n] } : Str) == Str.ofString "(") = false) :
    heightsF pre ++ [(heightsF pre).getD (-1 + ((heightsF pre).length : Int)).toNat 0 + -1] = heightsF (pre ++ [(n : Int)]) := by
  have e : n ≠ 40 := by
    rintro rfl
    exact absurd h (by decide)
  rw [heights_last _ (heightsF_ne pre), heightsF_snoc, if_neg (by omega)]
/-- is the bracket at k without a partner -/
def loneF (line : Str) (hs : List Int) (k : Int) : Bool :=
  if (Txt.item line k == Str.ofString "(") = true then (hs.drop (k + 1).toNat).all fun a => decide (hs.getD k.toNat 0 < a) else (hs.take (k + 1).toNat).all fun a => decide (hs.getD (k + 1).toNat 0 < a)
def stepL (line : Str) (hs : List Int) (left : Str) (k : Int) : Str :=
  if loneF line hs k = true then left ++ Txt.item line k else if Txt.endswith left (Str.ofString "...") = true then left else left ++ Str.ofString "..."
/-- what _law_left hands back -/
def leftF (line : Str) : Str := (rangeKs 0 line.length).foldl (stepL line (heightsF (KStt.codes line))) (Str.ofString "")
theorem lone_up {line : Str} {hs : List Int} {k M : Int} (h1 : (Txt.item line k == Str.ofString "(") = true) (hM : M ∈ hs.drop (k + 1).toNat) (hle : ∀ a, a ∈ hs.drop (k + 1).toNat → M ≤ a) : loneF line hs k = decide (hs.getD k.toNat 0 < M) := by
  unfold loneF
  rw [if_pos h1]
  by_cases h : hs.getD k.toNat 0 < M
  · rw [decide_eq_true h, List.all_eq_true]
    exact fun a ha => decide_eq_true (Int.lt_of_lt_of_le h (hle a ha))
  · rw [decide_eq_false h]
    refine Bool.eq_false_iff.mpr fun q => ?_
    exact h (of_decide_eq_true (List.all_eq_true.mp q M hM))
theorem lone_down {line : Str} {hs : List Int} {k M : Int} (h1 : (Txt.item line k == Str.ofString "(") = false) (hM : M ∈ hs.take (k + 1).toNat) (hle : ∀ a, a ∈ hs.take (k + 1).toNat → M ≤ a) : loneF line hs k = decide (hs.getD (k + 1).toNat 0 < M) := by
  unfold loneF
  rw [if_neg (by rw [h1]; decide)]
  by_cases h : hs.getD (k + 1).toNat 0 < M
  · rw [decide_eq_true h, List.all_eq_true]
    exact fun a ha => decide_eq_true (Int.lt_of_lt_of_le h (hle a ha))
  · rw [decide_eq_false h]
    refine Bool.eq_false_iff.mpr fun q => ?_
    exact h (of_decide_eq_true (List.all_eq_true.mp q M hM))
theorem stepL_lone {line left : Str} {hs : List Int} {k : Int} (h : loneF line hs k = true) : stepL line hs left k = left ++ Txt.item line k := if_pos h
theorem stepL_same {line left : Str} {hs : List Int} {k : Int} (h : loneF line hs k = false) (h2 : Txt.endswith left (Str.ofString "...") = true) : stepL line hs left k = left := by
  unfold stepL; rw [if_neg (by rw [h]; decide), if_pos h2]
theorem stepL_dots {line left : Str} {hs : List Int} {k : Int} (h : loneF line hs k = false) (h2 : Txt.endswith left (Str.ofString "...") = false) : stepL line hs left k = left ++ Str.ofString "..." := by
  unfold stepL; rw [if_neg (by rw [h]; decide), if_neg (by rw [h2]; decide)]
theorem left_end {h₀ : Heap} {L a : Addr} {o : Obj} {m₀ m' : Str → Option Value} {own news' : List (Addr × Obj)} {s₁ : Shared} {h' : Heap} {tk : Nat} {left left' line : Str} {hs pre : List Int} {k : Int} {t' : Tok}
    (F : Fr h₀ L h' m') (N : News h₀ L h' news') (hm : (a, o) ∈ news') (ho : ∀ p ∈ own, p ∈ news') (hl : m' (Str.ofString "left") = some (.str left' t')) (hr : ∀ z, z ≠ Str.ofString "k" → z ≠ Str.ofString "left" → z ≠ Str.ofString "alone" → m' z = m₀ z)
    (hp : left = pre.foldl (stepL line hs) (Str.ofString "") ∧ left.length ≤ 3 * pre.length) (hst : stepL line hs left k = left') (hlen : left'.length ≤ left.length + 3) :
    InvEndN h₀ L (KstS (fun _ : Str × Tok => [(a, o)]) (fun c => [(Str.ofString "left", .str c.1 c.2)]) (fun _ => True) (Str.ofString "k") [Str.ofString "alone"] m₀ (fun pre c => c.1 = pre.foldl (stepL line hs) (Str.ofString "") ∧ c.1.length ≤ 3 * pre.length) (pre ++ [k])) own [a] s₁ { s₁ with heap := h', toks := tk } := by
  refine kst_end (left', t') F N (fun p hp => by cases hp with | head => exact hm | tail _ h => cases h) ho rfl trivial (fun p hp => by cases hp with | head => exact hl | tail _ h => cases h) (fun z h1 h2 h3 => hr z h1 (h2 _ (.head _)) ?_) ?_
  · rintro rfl
    exact absurd h3 (by decide)
  · refine ⟨?_, ?_⟩
    · rw [List.foldl_append, ← hp.1]; exact hst.symm
    · rw [List.length_append]
      have := hp.2
      show left'.length ≤ 3 * (pre.length + 1)
      omega
theorem left_spec {w : World} {env : Env} {outer : List Env} {A₀ : Around} {base h₀ : Heap} {L : Addr} {m mg mb : Str → Option Value} {loose : List Str} {mean : ExcName → Option Value} {s : Shared} {Q E : Value → Shared → Prop} {line : Str} {tk : Tok}
   (B : Below A₀ base outer h₀) (F : Fr h₀ L s.heap m) (X : (hd.heap_39 w.params).In h₀) (T : Top hd.view_39 loose mean mg mb h₀) (hf : env.frame = some L) (hke : env.scope.kind = .function)
   (hlen : line.length ≤ 100)
   (hret : ∀ t h' tk', Kept s.heap h' → Q (.str (leftF line) t) { s with heap := h', toks := tk' }) :
   wpAny (model PySem.Challenge.rw_pe0090_01.row.prog w) (AX 600 600 env outer) (call (.ref 49) [.str line tk]) Q E s := by
  w_top off
  k_dflt (walk_at "my enter")
  k_fold
  (k_with "pyIter str" => refine halt ?_)
  k_steps
  refine Halt.go ?_
  rename Fr _ _ _ _ => F1
  rename News _ _ _ _ => N1
  refine' KStt.kst_text (σ := List Value × List Int × Nat) (fun c => [(_, listOf c.1.toArray c.2.2)]) (fun _ => []) (fun c => IntsAre c.1 c.2.1) [] (fun pre c => c.2.1 = heightsF pre) ([_], [0], 0) rfl F1 N1 (.cons _ _ .nil) (fun _ h => (nomatch h)) rfl ?turn ?done
  case turn =>
    intro c pre post n t u h tk own he hoff hfacts hp F2 N2
    obtain ⟨vs, ns, e⟩ := c
    clear N1 F1
    dsimp only at hfacts hp N2
    subst hp
    have hpl : pre.length ≤ 100 := by
      have := KStt.codes_length line
      rw [he] at this
      simp at this
      omega
    have hvl := hfacts.length
    rw [heightsF_len] at hvl
    dsimp only
    k_steps
    all_goals refine Halt.go ?_
    all_goals (rename News _ _ _ _ => N3; rename Fr _ _ _ _ => F3; simp only [List.push_toArray] at N3)
    · refine ints_end F3 N3 (.head _) hfacts (by intro p hp; k_ownIn) (fun z h1 => if_neg h1) (heights_up _ _ (by assumption))
    · refine ints_end F3 N3 (.head _) hfacts (by intro p hp; k_ownIn) (fun z h1 => if_neg h1) (heights_down _ _ (by assumption))
  case done =>
    intro c u h tk hfacts hp F2 N2
    obtain ⟨vs, ns, e⟩ := c
    clear N1 F1
    dsimp only at hfacts hp N2
    subst hp
    obtain ⟨hs, hhs⟩ : ∃ hs, hs = heightsF (KStt.codes line) := ⟨_, rfl⟩
    rw [← hhs] at hfacts
    have hhl : hs.length = line.length + 1 := by rw [hhs, heightsF_len, KStt.codes_length]
    dsimp only
    k_steps
    refine Halt.go ?_
    clear N2 F2
    rename IsRange _ _ _ _ _ _ _ _ => hR
    rename Fr _ _ _ _ => F3
    rename News _ _ _ _ => N3
    refine' kst_range (σ := Str × Tok) (fun _ => [(_, PySem.W.listOf vs.toArray e)]) (fun c => [(Str.ofString "left", .str c.1 c.2)]) (fun _ => True) [Str.ofString "alone"] (fun pre c => c.1 = pre.foldl (stepL line hs) (Str.ofString "") ∧ c.1.length ≤ 3 * pre.length) (Str.ofString "", _) rfl hR ?small (n := line.length) ?size F3 N3 trivial ?ps ⟨rfl, Nat.zero_le _⟩ ?turn ?done
    case small => exact small_one (by decide) (by decide) (by omega) (by omega)
    case size => exact rangeSize_nat _ _
    case ps => intro p hp; cases hp with | head => exact rfl | tail _ h => cases h
    case turn =>
      intro c pre k t u h tk own hk hpl hoff _ hp F4 N4
      obtain ⟨left, tl⟩ := c
      clear N3 F3
      dsimp only at hp N4 F4
      have hk1 : 0 ≤ k + 1 := by omega
      have hlb := hp.2
      k_steps
      all_goals refine Halt.go ?_
      all_goals (rename News _ _ _ _ => N5; rename Fr _ _ _ _ => F5; rename ∀ a : Int, _ → _ ≤ a => hle; rename _ ∈ (_ : List Int) => hM)
      · refine left_end F5 N5 (.tail _ (.head _)) (by intro p hp; k_ownIn) rfl (by intro z h1 h2 h3; simp [kstB, h1, h2, h3]) hp (stepL_lone ((lone_up (by assumption) hM hle).trans (decide_eq_true (by assumption)))) ?_
        omega
      · refine left_end F5 N5 (.tail _ (.head _)) (by intro p hp; k_ownIn) rfl (by intro z h1 h2 h3; simp [kstB, h1, h2, h3]) hp (stepL_same ((lone_up (by assumption) hM hle).trans (decide_eq_false (by assumption))) (by assumption)) ?_
        omega
      · refine left_end F5 N5 (.tail _ (.head _)) (by intro p hp; k_ownIn) rfl (by intro z h1 h2 h3; simp [kstB, h1, h2, h3]) hp (stepL_dots ((lone_up (by assumption) hM hle).trans (decide_eq_false (by assumption))) (by assumption)) ?_
        have : (Str.ofString "...").length = 3 := rfl
        omega
      · refine left_end F5 N5 (.tail _ (.head _)) (by intro p hp; k_ownIn) rfl (by intro z h1 h2 h3; simp [kstB, h1, h2, h3]) hp (stepL_lone ((lone_down (by assumption) hM hle).trans (decide_eq_true (by assumption)))) ?_
        omega
      · refine left_end F5 N5 (.tail _ (.head _)) (by intro p hp; k_ownIn) rfl (by intro z h1 h2 h3; simp [kstB, h1, h2, h3]) hp (stepL_same ((lone_down (by assumption) hM hle).trans (decide_eq_false (by assumption))) (by assumption)) ?_
        omega
      · refine left_end F5 N5 (.tail _ (.head _)) (by intro p hp; k_ownIn) rfl (by intro z h1 h2 h3; simp [kstB, h1, h2, h3]) hp (stepL_dots ((lone_down (by assumption) hM hle).trans (decide_eq_false (by assumption))) (by assumption)) ?_
        have : (Str.ofString "...").length = 3 := rfl
        omega
    case done =>
      intro c u h tk _ hp F4 N4
      obtain ⟨left, tl⟩ := c
      clear N3 F3
      dsimp only at hp N4 F4
      k_steps
      show Q (Value.str left tl) _
      rw [hp.1, hhs]
      exact hret _ _ _ (kept_of (by assumption) F4)
/-- what _law_moved hands back -/
def movedF (left : Str) : Str :=
  if (Txt.slice left (some 1) (some 4) == Str.ofString "...") = true then Txt.slice left (some 4) none ++ Txt.slice left none (some 4) else Txt.slice left (some 1) none ++ Txt.slice left none (some 1)
theorem moved_spec {w : World} {env : Env} {outer : List Env} {A₀ : Around} {base h₀ : Heap} {L : Addr} {m mg mb : Str → Option Value} {loose : List Str} {mean : ExcName → Option Value} {s : Shared} {Q E : Value → Shared → Prop} {left : Str} {tk : Tok}
   (B : Below A₀ base outer h₀) (F : Fr h₀ L s.heap m) (X : (hd.heap_39 w.params).In h₀) (T : Top hd.view_39 loose mean mg mb h₀) (hf : env.frame = some L) (hke : env.scope.kind = .function)
   (hlen : left.length ≤ 100)
   (hret : ∀ t h' tk', Kept s.heap h' → Q (.str (movedF left) t) { s with heap := h', toks := tk' }) :
   wpAny (model PySem.Challenge.rw_pe0090_01.row.prog w) (AX 600 600 env outer) (call (.ref 56) [.str left tk]) Q E s := by
  w_top off
  k_dflt (walk_at "my enter")
  k_fold
  k_steps
  · show Q (Value.str _ _) _
    rename (_ == Str.ofString "...") = true => hc
    have e : movedF left = _ := if_pos hc
    rw [← e]
    exact hret _ _ _ (kept_of (by assumption) (by assumption))
  · show Q (Value.str _ _) _
    rename (_ == Str.ofString "...") = false => hc
    have e : movedF left = _ := if_neg (by rw [hc]; decide)
    rw [← e]
    exact hret _ _ _ (kept_of (by assumption) (by assumption))
end
section
theorem last_snoc {α : Type} (l : List α) (b : α) : (l ++ [b]).getLast? = some b := by simp
theorem last_cons_snoc {α : Type} (a : α) (l : List α) (b : α) : (a :: (l ++ [b])).getLast? = some b := last_snoc (a :: l) b
theorem two_ends {α : Type} : ∀ {l : List α}, 2 ≤ l.length → ∃ a mid b, l = a :: (mid ++ [b])
  | [], h => absurd h (by simp)
  | [_], h => absurd h (by simp)
  | a :: b :: r, _ => ⟨a, (b :: r).dropLast, (b :: r).getLast (by simp), by rw [List.dropLast_concat_getLast]⟩
section
variable {prog : Program} {w : World} {A : Around} {E : Value → Shared → Prop} {s : Shared}
/-- the first item of a list -/
theorem item_first {value slice : PySem.Expr} {l : Addr} {vs : List Value} {u : Tok} {v : Value} {Q : Value → Shared → Prop}
    (hl : s.heap.IsList l (v :: vs).toArray) (h : Q v s)
    (hs : subscripted slice false (.ref l) (.int 0 u) = operate [.ref l, .int 0 u] (getItem (.ref l) (.int 0 u)) := by with_unfolding_all rfl) :
    wpAny (model prog w) A (subscriptTail value slice (.ref l) (.int 0 u)) Q E s :=
  tail_any hl.typeIs slot_list_getitem.lookup (wpAny_getItem_list hl (by decide) (by decide) (by rfl) h) hs
variable {h₀ : Heap} {L D : Addr} {m : Str → Option Value} {news news' : List (Addr × Obj)} {n : Nat}
theorem len_vals {l : Addr} {vs : List Value} {k : Nat} {Q : Value → Shared → Prop} (hl : s.heap.IsList l vs.toArray) (e : vs.length = k) (hz : k < 1000) (h : Q (.int (k : Int) (s.toks + 1)) { s with toks := s.toks + 1 + 1 }) :
    wpAny (model prog w) A (call (.builtin "len") [.ref l]) Q E s := by
  have e2 : vs.toArray.size = k := by rw [List.size_toArray, e]
  exact len_list hl (by rw [e2]; omega) (by rw [e2]; exact h)
theorem delL_first (v : Value) (vs : List Value) : ki_delL (v :: vs) 0 = some vs := rfl
theorem delL_last (v : Value) : ∀ vs : List Value, ki_delL (vs ++ [v]) vs.length = some vs
  | [] => rfl
  | x :: r => by
    show (match ki_delL (r ++ [v]) r.length with | some q => some (x :: q) | none => none) = _
    rw [delL_last v r]
theorem del_first {u : Tok} {v : Value} {vs : List Value} {Q : Unit → Shared → Prop} (F : Fr h₀ L s.heap m) (N : News h₀ L s.heap news) (hz : vs.length < 1000) (U : Upd D (PySem.W.listOf (v :: vs).toArray n) (PySem.W.listOf vs.toArray (n + 1)) news news')
    (h : ∀ h', Fr h₀ L h' m → News h₀ L h' news' → Q () { s with heap := h' }) : wpAny (model prog w) A (delItem (.ref D) (.int 0 u)) Q E s :=
  ki_del (k := 0) F N rfl (by simp [seqIndex?]) (delL_first v vs) U (by simp [sizeLine_eq]; omega) h
theorem delL_back : ∀ {vs : List Value}, vs ≠ [] → ki_delL vs (vs.length - 1) = some vs.dropLast := by
  intro vs hne
  have e := delL_last (vs.getLast hne) vs.dropLast
  rw [List.dropLast_concat_getLast, List.length_dropLast] at e
  exact e
theorem del_last {u : Tok} {vs : List Value} {Q : Unit → Shared → Prop} (F : Fr h₀ L s.heap m) (N : News h₀ L s.heap news) (U : Upd D (PySem.W.listOf vs.toArray n) (PySem.W.listOf vs.dropLast.toArray (n + 1)) news news') (hne : vs ≠ []) (hz : vs.length < 1000)
    (h : ∀ h', Fr h₀ L h' m → News h₀ L h' news' → Q () { s with heap := h' }) : wpAny (model prog w) A (delItem (.ref D) (.int (-1) u)) Q E s := by
  have hp : 0 < vs.length := List.length_pos_iff.mpr hne
  have hk : seqIndex? (-1) vs.toArray.size = some (vs.length - 1) := by
    rw [PySem.seqIndex_neg (by decide) (by rw [List.size_toArray]; omega), List.size_toArray]
    congr 1
    omega
  refine ki_del (k := vs.length - 1) F N rfl hk (delL_back hne) U ?_ h
  show vs.length ≤ _
  rw [sizeLine_eq]; omega
end
section
variable {prog : Program} {w : World} {A : Around} {E : Value → Shared → Prop} {s : Shared} {env : Env} {h₀ : Heap} {x : Str} {body : List Stmt} {Q : Flow → Shared → Prop}
/-- a loop over a list that the body leaves alone -/
theorem loop_vals {l : Addr} {vs : List Value} {m₀ : Str → Option Value} {news : List (Addr × Obj)} (J : Nat → (Str → Option Value) → List (Addr × Obj) → Prop)
    (hh : A.handled = none) (hl : s.heap.IsList l vs.toArray) (hlL : env.locals ≠ l) (hln : ∀ p ∈ news, p.1 ≠ l) (F : Fr h₀ env.locals s.heap m₀) (N : News h₀ env.locals s.heap news) (hj : J 0 m₀ news)
    (turn : ∀ i v m₁ nx h tk own, vs[i]? = some v → nx.map (·.1) = news.map (·.1) → OwnOff own (news.map (·.1)) → J i m₁ nx → Fr h₀ env.locals h (fun y => if y = x then some v else m₁ y) → News h₀ env.locals h (nx ++ own) →
      wpAny (model prog w) A (execs body env) (InvPostN h₀ env.locals (J (i + 1)) own (news.map (·.1)) { s with heap := h, toks := tk } Q) E { s with heap := h, toks := tk })
    (done : ∀ m₁ nx h tk, J vs.length m₁ nx → Fr h₀ env.locals h m₁ → News h₀ env.locals h nx → Q .next { s with heap := h, toks := tk }) :
    wpAny (model prog w) A (pyIter (.ref l)) (fun it s₂ => LoopAtV prog w A h₀ env x body Q E it s₂) E s := by
  obtain ⟨ol, hol, hcl⟩ := id hl
  have hlt : l < s.heap.objs.size := Heap.lt_size hol
  have hne : l ≠ s.heap.objs.size := Nat.ne_of_lt hlt
  refine wpAny_pyIter_list hl ?_
  have W := Walks.list (prog := prog) (w := w) hh s.heap.objs.size l hne vs.toArray
  rw [List.size_toArray] at W
  refine loop_invN J W ?_ ?_ ?_ ?_ ⟨⟨_, Heap.get?_push_size _ rfl, rfl, rfl⟩, hl.at fun o e => Heap.get?_push_of_some _ e⟩ (F.push _) (fun p hp => ⟨Heap.get?_push_of_some _ (N p hp).1, (N p hp).2⟩) hj ?_ done
  · intro hm
    rcases List.mem_cons.mp hm with e | hm
    · exact absurd F.ns.lt (e ▸ Nat.lt_irrefl _)
    · exact hlL (List.mem_singleton.mp hm)
  · intro b hb
    rw [List.mem_singleton.mp hb]
    exact next_is_new F
  · intro p hp hI
    exact absurd (Heap.lt_size (N p hp).1) ((List.mem_singleton.mp hI) ▸ Nat.lt_irrefl _)
  · intro p hp hI
    rcases List.mem_cons.mp hI with e | hm
    · exact absurd (Heap.lt_size (N p hp).1) (e ▸ Nat.lt_irrefl _)
    · exact hln p hp (List.mem_singleton.mp hm)
  · intro i v m₁ nx h tk own hi hv hadr hoff hJ F₁ N₁
    exact turn i v m₁ nx h tk own (by simpa using hv) hadr hoff hJ F₁ N₁
end

/-- a loop's state: its ledger, its names, what is true of it -/
def KV {σ : Type} (Led : σ → List (Addr × Obj)) (ps : σ → List (Str × Value)) (x : Str) (stored : List Str) (m₀ : Str → Option Value) (P : σ → Prop) (m : Str → Option Value) (nx : List (Addr × Obj)) : Prop :=
  ∃ c : σ, nx = Led c ∧ (∀ p ∈ ps c, m p.1 = some p.2) ∧ (∀ z, z ≠ x → (∀ p ∈ ps c, z ≠ p.1) → stored.contains z = false → m z = m₀ z) ∧ P c
section
variable {prog : Program} {w : World} {A : Around} {E : Value → Shared → Prop} {s : Shared} {env : Env} {h₀ : Heap} {x : Str} {body : List Stmt} {Q : Flow → Shared → Prop}
theorem kv_vals {σ : Type} {l : Addr} {vs : List Value} {m₀ : Str → Option Value} (Led : σ → List (Addr × Obj)) (ps : σ → List (Str × Value)) (stored : List Str) (P : Nat → σ → Prop) (c₀ : σ)
    (hh : A.handled = none) (hl : s.heap.IsList l vs.toArray) (hlL : env.locals ≠ l) (hln : ∀ p ∈ Led c₀, p.1 ≠ l) (F : Fr h₀ env.locals s.heap m₀) (N : News h₀ env.locals s.heap (Led c₀)) (hk : ∀ p ∈ ps c₀, m₀ p.1 = some p.2) (hp : P 0 c₀)
    (turn : ∀ (c : σ) i v (u : Str → Option Value) h tk own, vs[i]? = some v → OwnOff own ((Led c₀).map (·.1)) → P i c →
      Fr h₀ env.locals h (fun y => if y = x then some v else kstB (fun z => if stored.contains z then u z else m₀ z) (ps c) y) → News h₀ env.locals h (Led c ++ own) →
      wpAny (model prog w) A (execs body env) (InvPostN h₀ env.locals (KV Led ps x stored m₀ (P (i + 1))) own ((Led c₀).map (·.1)) { s with heap := h, toks := tk } Q) E { s with heap := h, toks := tk })
    (done : ∀ (c : σ) (u : Str → Option Value) h tk, P vs.length c → Fr h₀ env.locals h (fun y => if y = x then u y else kstB (fun z => if stored.contains z then u z else m₀ z) (ps c) y) → News h₀ env.locals h (Led c) → Q .next { s with heap := h, toks := tk }) :
    wpAny (model prog w) A (pyIter (.ref l)) (fun it s₂ => LoopAtV prog w A h₀ env x body Q E it s₂) E s := by
  refine loop_vals (fun i m nx => KV Led ps x stored m₀ (P i) m nx) hh hl hlL hln F N ⟨c₀, rfl, hk, fun _ _ _ _ => rfl, hp⟩ ?_ ?_
  · rintro i v m₁ nx h tk own hv _ hoff ⟨c, rfl, h1, h2, hp'⟩ F₁ N₁
    exact turn c i v m₁ h tk own hv hoff hp' (kst_fr h1 h2 F₁) N₁
  · rintro m₁ nx h tk ⟨c, rfl, h1, h2, hp'⟩ F₁ N₁
    exact done c m₁ h tk hp' (kst_frOut h1 h2 F₁) N₁
theorem kv_end {σ : Type} {Led : σ → List (Addr × Obj)} {ps : σ → List (Str × Value)} {stored : List Str} {m₀ : Str → Option Value} {P : σ → Prop} (c : σ) {L : Addr} {m' : Str → Option Value} {own news' : List (Addr × Obj)} {adr : List Addr} {s₁ : Shared} {h' : Heap} {tk : Nat}
    (F : Fr h₀ L h' m') (N : News h₀ L h' news') (hn : ∀ p ∈ Led c, p ∈ news') (ho : ∀ p ∈ own, p ∈ news') (ha : (Led c).map (·.1) = adr) (hk : ∀ p ∈ ps c, m' p.1 = some p.2) (hr : ∀ z, z ≠ x → (∀ p ∈ ps c, z ≠ p.1) → stored.contains z = false → m' z = m₀ z) (hp : P c) :
    InvEndN h₀ L (KV Led ps x stored m₀ P) own adr s₁ { s₁ with heap := h', toks := tk } :=
  InvEndN.intro F N ⟨c, rfl, hk, hr, hp⟩ ha hn ho
end

/-- x.find(y, i, j) -/
def find4 (x y : Str) (i j : Int) : Int := match Builtin.Str.occurrences x y (fromIndex x.length i) (min (fromIndex x.length j) x.length) 1 with | k :: _ => (k : Int) | [] => -1
theorem gives_find4 (x y : Str) (i j : Int) (t u v z : Tok) : Gives (Builtin.«str.find» ⟨[.str x t, .str y u, .int i v, .int j z], []⟩) (.int (find4 x y i j)) := by
  show Gives (match Builtin.Str.occurrences x y (fromIndex x.length i) (min (fromIndex x.length j) x.length) 1 with | k :: _ => retInt k | [] => (do rule "str.find.not-found"; retInt (-1))) _
  unfold find4
  cases Builtin.Str.occurrences x y (fromIndex x.length i) (min (fromIndex x.length j) x.length) 1 with
  | nil => exact .rule (.of_eq rfl)
  | cons k _ => exact .of_eq rfl
theorem call_find4 {prog : Program} {w : World} {A : Around} {E : Value → Shared → Prop} {s : Shared} {x y : Str} {t u v z : Tok} {i j : Int} {Q : Value → Shared → Prop} (hq : Q (.int (find4 x y i j) s.toks) { s with toks := s.toks + 1 }) :
    wpAny (model prog w) A (call (.builtin "str.find") [.str x t, .str y u, .int i v, .int j z]) Q E s :=
  call_gives F.slot_str_find (typeIs_str _ _ _) F.entry_str_find (F.args_str_find_4 _ _ _ _) (gives_find4 x y i j t u v z) hq
/-- the search for the parts in their order -/
def ellLoop (got : Str) (ep : Int) : List Str → Int → Bool
  | [], _ => true
  | x :: r, sp => if find4 got x sp ep < 0 then false else ellLoop got ep r (find4 got x sp ep + (x.length : Int))
def ellG (got : Str) (w0 : Str) (mid : List Str) (wn : Str) : Bool :=
  if w0.length = 0 then
    if wn.length = 0 then ellLoop got got.length (w0 :: (mid ++ [wn])) 0
    else if Txt.endswith got wn = true then (if (got.length : Int) - wn.length < 0 then false else ellLoop got ((got.length : Int) - wn.length) (w0 :: mid) 0) else false
  else if Txt.startswith got w0 = true then
    if wn.length = 0 then (if (got.length : Int) < w0.length then false else ellLoop got got.length (mid ++ [wn]) w0.length)
    else if Txt.endswith got wn = true then (if (got.length : Int) - wn.length < w0.length then false else ellLoop got ((got.length : Int) - wn.length) mid w0.length) else false
  else false
/-- what _ellipsis_match hands back -/
def ellF (want got : Str) : Bool :=
  if (Builtin.Str.occurrences want (Str.ofString "...") 0 want.length 1).isEmpty = true then want == got
  else match Txt.split want (Str.ofString "...") with
    | [] => false
    | w0 :: r => ellG got w0 r.dropLast (r.getLastD (Str.ofString ""))
theorem ellF_none {want got : Str} (h : (Builtin.Str.occurrences want (Str.ofString "...") 0 want.length 1).isEmpty = true) : ellF want got = (want == got) := if_pos h
theorem ellF_some {want got w0 wn : Str} {t0 tn : Tok} {mid : List (Str × Tok)} (h : (Builtin.Str.occurrences want (Str.ofString "...") 0 want.length 1).isEmpty = false)
    (hs : List.map (fun x => x.1) ((w0, t0) :: (mid ++ [(wn, tn)])) = Txt.split want (Str.ofString "...")) : ellF want got = ellG got w0 (mid.map (·.1)) wn := by
  unfold ellF
  rw [if_neg (by rw [h]; decide), ← hs]
  simp

theorem ellLoop_stop {got x : Str} {ws : List Str} {i : Nat} {sp ep : Int} {R : Bool} (hx : ws[i]? = some x) (hn : find4 got x sp ep < 0) (hp : ellLoop got ep (ws.drop i) sp = R) : R = false := by
  obtain ⟨hl, he⟩ := List.getElem?_eq_some_iff.mp hx
  rw [List.drop_eq_getElem_cons hl, he] at hp
  rw [← hp]
  exact if_pos hn
theorem ellLoop_go {got x : Str} {ws : List Str} {i : Nat} {sp ep : Int} {R : Bool} (hx : ws[i]? = some x) (hn : ¬ find4 got x sp ep < 0) (hp : ellLoop got ep (ws.drop i) sp = R) : ellLoop got ep (ws.drop (i + 1)) (find4 got x sp ep + (x.length : Int)) = R := by
  obtain ⟨hl, he⟩ := List.getElem?_eq_some_iff.mp hx
  rw [List.drop_eq_getElem_cons hl, he] at hp
  rw [← hp]
  exact (if_neg hn).symm
theorem strs_at {ws : List (Str × Tok)} {i : Nat} {v : Value} (h : (strValues ws)[i]? = some v) : ∃ x t, ws[i]? = some (x, t) ∧ (ws.map (·.1))[i]? = some x ∧ v = Value.str x t := by
  rw [strValues, List.getElem?_map] at h
  cases hq : ws[i]? with
  | none => rw [hq] at h; cases h
  | some p => rw [hq] at h; exact ⟨p.1, p.2, rfl, by rw [List.getElem?_map, hq]; rfl, (Option.some.inj h).symm⟩
local macro_rules | `(tactic| walk_at "subscriptTail Name Constant ref int") => `(tactic| ((with_reducible show wpAny _ _ (subscriptTail _ _ (Value.ref _) (Value.int 0 _)) _ _ _); refine item_first (News.isList (by k_asm) (by k_mem)) ?_))
local macro_rules | `(tactic| walk_at "subscriptTail Name UnaryOp ref int") => `(tactic| ((with_reducible show wpAny _ _ (subscriptTail _ _ (Value.ref _) (Value.int (-1) _)) _ _ _); refine item_last (News.isList (by k_asm) (by k_mem)) (by first | exact last_snoc _ _ | exact last_cons_snoc _ _ _) ?_))
local macro_rules | `(tactic| walk_at "delItem ref int") => `(tactic| ((with_reducible show wpAny _ _ (delItem (Value.ref _) (Value.int 0 _)) _ _ _); refine' del_first ?F ?N ?z ?U ?_; (case F => k_asm); (case N => k_asm); (case U => k_upd); (case z => simp; omega); intro h' F' N'))
local macro_rules | `(tactic| walk_at "delItem ref int") => `(tactic| ((with_reducible show wpAny _ _ (delItem (Value.ref _) (Value.int (-1) _)) _ _ _); refine' del_last ?F ?N ?U ?n ?z ?_; (case F => k_asm); (case N => k_asm); (case U => k_upd); (case n => simp); (case z => simp; omega); intro h' F' N'))
local macro_rules | `(tactic| walk_at "call builtin:len") => `(tactic| ((with_reducible show wpAny _ _ (call (Value.builtin "len") [Value.ref _]) _ _ _); refine' len_vals (News.isList (by k_asm) (by k_mem)) ?e ?z ?_; (case e => ((simp only [List.length_cons, List.length_append, List.length_nil]); rfl)); (case z => omega)))
local macro_rules | `(tactic| walk_at "call builtin:str.find") => `(tactic| ((with_reducible show wpAny _ _ (call (Value.builtin "str.find") [Value.str _ _, Value.str _ _, Value.int _ _, Value.int _ _]) _ _ _); refine call_find4 ?_))
theorem ell_spec {w : World} {env : Env} {outer : List Env} {A₀ : Around} {base h₀ : Heap} {L : Addr} {m mg mb : Str → Option Value} {loose : List Str} {mean : ExcName → Option Value} {s : Shared} {Q E : Value → Shared → Prop} {want got : Str} {tw tg : Tok}
   (B : Below A₀ base outer h₀) (F : Fr h₀ L s.heap m) (X : (hd.heap_39 w.params).In h₀) (T : Top hd.view_39 loose mean mg mb h₀) (hf : env.frame = some L) (hke : env.scope.kind = .function)
   (hlw : want.length ≤ 100) (hlg : got.length ≤ 100)
   (h2 : (Builtin.Str.occurrences want (Str.ofString "...") 0 want.length 1).isEmpty = false → 2 ≤ (Txt.split want (Str.ofString "...")).length)
   (hn : (Txt.split want (Str.ofString "...")).length ≤ 100)
   (hret : ∀ h' tk', Kept s.heap h' → Q (.bool (ellF want got)) { s with heap := h', toks := tk' }) :
   wpAny (model PySem.Challenge.rw_pe0090_01.row.prog w) (AX 600 600 env outer) (call (.ref 35) [.str want tw, .str got tg]) Q E s := by
  w_top off
  k_dflt (walk_at "my enter")
  k_fold
  k_steps
  · rename (_ : Bool) = true => hocc
    show Q (Value.bool (want == got)) _
    rw [← ellF_none hocc]
    exact hret _ _ (kept_of (by assumption) (by assumption))
  · refine Halt.go ?_
    have mk1 : Mark 1 := ⟨⟩
    rename List (Str × Tok) => l
    rename List.map _ _ = Txt.split _ _ => hsp
    rename (_ : Bool) = false => hocc
    rename ∀ a : Str, _ → a.length ≤ _ => hlens
    rename StrsAre _ _ => hst
    rename Heap.IsList _ _ _ => hL
    rename News _ _ _ _ => N1
    have hl2 : 2 ≤ l.length := by
      have := h2 hocc
      rw [← hsp, List.length_map] at this
      exact this
    rw [← hsp, List.length_map] at hn
    obtain ⟨⟨w0, t0⟩, mid, ⟨wn, tn⟩, rfl⟩ := two_ends hl2
    have hw0 : w0.length ≤ want.length := hlens _ (by simp)
    have hwn : wn.length ≤ want.length := hlens _ (by simp)
    have hmid : (strValues mid).length ≤ 100 := by simp [strValues] at hn ⊢; omega
    clear hst hL
    have e1 : strValues ((w0, t0) :: (mid ++ [(wn, tn)])) = Value.str w0 t0 :: (strValues mid ++ [Value.str wn tn]) := by simp [strValues]
    rw [e1] at N1
    k_steps
    · have e : ellF want got = false := by
        rw [ellF_some hocc hsp]
        unfold ellG
        rw [if_neg (by omega), if_pos (by assumption), if_neg (by omega), if_pos (by assumption), if_pos (by omega)]
      show Q (Value.bool false) _
      rw [← e]
      exact hret _ _ (kept_of (by assumption) (by assumption))
    · refine Halt.go ?_
      rename News _ _ _ _ => N2
      rename Fr _ _ _ _ => F2
      obtain ⟨ws, hws⟩ : ∃ ws, ws = mid := ⟨_, rfl⟩
      have e2 : (strValues mid ++ [Value.str wn tn]).dropLast = strValues ws := by rw [hws]; simp [strValues]
      rw [e2] at N2
      have hR : ellLoop got ((got.length : Int) - wn.length) (ws.map (·.1)) (w0.length) = ellF want got := by
        rw [ellF_some hocc hsp, hws]
        unfold ellG
        rw [if_neg (by omega), if_pos (by assumption), if_neg (by omega), if_pos (by assumption), if_neg (by omega)]
      refine kv_vals (σ := Int × Tok) (fun _ => []) (fun c => [(Str.ofString "startpos", .int c.1 c.2)]) [] (fun i c => ellLoop got ((got.length : Int) - wn.length) ((ws.map (·.1)).drop i) c.1 = ellF want got) (_, _) rfl (News.isList N2 (by k_mem)) ?_ (fun _ h => nomatch h) F2 News.nil (fun p hp => by cases hp with | head => exact rfl | tail _ h => cases h) hR ?turn ?done
      · exact fun h => (N2 _ (.tail _ (.head _))).2.1 h.symm
      case turn =>
        intro c i v u h tk own hv hoff hp F3 N3
        obtain ⟨sp, tsp⟩ := c
        clear N2 F2
        obtain ⟨x, tx, hx, hx2, rfl⟩ := strs_at hv
        have hxl : x.length ≤ want.length := hlens _ (by
          have h1 := List.mem_of_getElem? hx2
          rw [hws] at h1
          simp at h1 ⊢
          grind)
        clear hlens hR
        dsimp only at hp F3 N3
        k_steps
        · have e := ellLoop_stop hx2 (by assumption) hp
          show Q (Value.bool false) _
          rw [← e]
          exact hret _ _ (kept_of (by assumption) (by assumption))
        · refine Halt.go ?_
          rename News _ _ _ _ => N5
          rename Fr _ _ _ _ => F5
          refine kv_end (_, _) F5 N5 (fun _ h => nomatch h) (by intro p hp; k_ownIn) rfl (fun p hp => by cases hp with | head => exact rfl | tail _ h => cases h) (by intro z h1 h2 h3; have h4 := h2 _ (.head _); dsimp only at h4; simp [kstB, h1, h4]) (ellLoop_go hx2 (by assumption) hp)
      case done =>
        intro c u h tk hp F3 N3
        obtain ⟨sp, tsp⟩ := c
        clear N2 F2 hlens hR
        dsimp only at hp F3 N3
        have hlv : (strValues ws).length = (ws.map (·.1)).length := by simp [strValues]
        rw [hlv, List.drop_length] at hp
        have e : ellF want got = true := hp.symm
        k_steps
        show Q (Value.bool true) _
        rw [← e]
        exact hret _ _ (kept_of (by assumption) (by assumption))
    · have e : ellF want got = false := by
        rw [ellF_some hocc hsp]
        unfold ellG
        rw [if_neg (by omega), if_pos (by assumption), if_neg (by omega), if_neg (by simp_all)]
      show Q (Value.bool false) _
      rw [← e]
      exact hret _ _ (kept_of (by assumption) (by assumption))
    · have e : ellF want got = false := by
        rw [ellF_some hocc hsp]
        unfold ellG
        rw [if_neg (by omega), if_pos (by assumption), if_pos (by omega), if_pos (by omega)]
      show Q (Value.bool false) _
      rw [← e]
      exact hret _ _ (kept_of (by assumption) (by assumption))
    · refine Halt.go ?_
      rename News _ _ _ _ => N2
      rename Fr _ _ _ _ => F2
      obtain ⟨ws, hws⟩ : ∃ ws, ws = mid ++ [(wn, tn)] := ⟨_, rfl⟩
      have e2 : strValues mid ++ [Value.str wn tn] = strValues ws := by rw [hws]; simp [strValues]
      rw [e2] at N2
      have hR : ellLoop got (got.length) (ws.map (·.1)) (w0.length) = ellF want got := by
        rw [ellF_some hocc hsp, hws]
        unfold ellG
        rw [if_neg (by omega), if_pos (by assumption), if_pos (by omega), if_neg (by omega)]; simp
      refine kv_vals (σ := Int × Tok) (fun _ => []) (fun c => [(Str.ofString "startpos", .int c.1 c.2)]) [] (fun i c => ellLoop got (got.length) ((ws.map (·.1)).drop i) c.1 = ellF want got) (_, _) rfl (News.isList N2 (by k_mem)) ?_ (fun _ h => nomatch h) F2 News.nil (fun p hp => by cases hp with | head => exact rfl | tail _ h => cases h) hR ?turn ?done
      · exact fun h => (N2 _ (.tail _ (.head _))).2.1 h.symm
      case turn =>
        intro c i v u h tk own hv hoff hp F3 N3
        obtain ⟨sp, tsp⟩ := c
        clear N2 F2
        obtain ⟨x, tx, hx, hx2, rfl⟩ := strs_at hv
        have hxl : x.length ≤ want.length := hlens _ (by
          have h1 := List.mem_of_getElem? hx2
          rw [hws] at h1
          simp at h1 ⊢
          grind)
        clear hlens hR
        dsimp only at hp F3 N3
        k_steps
        · have e := ellLoop_stop hx2 (by assumption) hp
          show Q (Value.bool false) _
          rw [← e]
          exact hret _ _ (kept_of (by assumption) (by assumption))
        · refine Halt.go ?_
          rename News _ _ _ _ => N5
          rename Fr _ _ _ _ => F5
          refine kv_end (_, _) F5 N5 (fun _ h => nomatch h) (by intro p hp; k_ownIn) rfl (fun p hp => by cases hp with | head => exact rfl | tail _ h => cases h) (by intro z h1 h2 h3; have h4 := h2 _ (.head _); dsimp only at h4; simp [kstB, h1, h4]) (ellLoop_go hx2 (by assumption) hp)
      case done =>
        intro c u h tk hp F3 N3
        obtain ⟨sp, tsp⟩ := c
        clear N2 F2 hlens hR
        dsimp only at hp F3 N3
        have hlv : (strValues ws).length = (ws.map (·.1)).length := by simp [strValues]
        rw [hlv, List.drop_length] at hp
        have e : ellF want got = true := hp.symm
        k_steps
        show Q (Value.bool true) _
        rw [← e]
        exact hret _ _ (kept_of (by assumption) (by assumption))
    · have e : ellF want got = false := by
        rw [ellF_some hocc hsp]
        unfold ellG
        rw [if_neg (by omega), if_neg (by simp_all)]
      show Q (Value.bool false) _
      rw [← e]
      exact hret _ _ (kept_of (by assumption) (by assumption))
    · have e : ellF want got = false := by
        rw [ellF_some hocc hsp]
        unfold ellG
        rw [if_pos (by omega), if_neg (by omega), if_pos (by assumption), if_pos (by omega)]
      show Q (Value.bool false) _
      rw [← e]
      exact hret _ _ (kept_of (by assumption) (by assumption))
    · refine Halt.go ?_
      rename News _ _ _ _ => N2
      rename Fr _ _ _ _ => F2
      obtain ⟨ws, hws⟩ : ∃ ws, ws = (w0, t0) :: mid := ⟨_, rfl⟩
      have e2 : (Value.str w0 t0 :: (strValues mid ++ [Value.str wn tn])).dropLast = strValues ws := by
        rw [hws, ← List.cons_append, List.dropLast_concat]; rfl
      rw [e2] at N2
      have hR : ellLoop got ((got.length : Int) - wn.length) (ws.map (·.1)) (0) = ellF want got := by
        rw [ellF_some hocc hsp, hws]
        unfold ellG
        rw [if_pos (by omega), if_neg (by omega), if_pos (by assumption), if_neg (by omega)]; rfl
      refine kv_vals (σ := Int × Tok) (fun _ => []) (fun c => [(Str.ofString "startpos", .int c.1 c.2)]) [] (fun i c => ellLoop got ((got.length : Int) - wn.length) ((ws.map (·.1)).drop i) c.1 = ellF want got) (_, _) rfl (News.isList N2 (by k_mem)) ?_ (fun _ h => nomatch h) F2 News.nil (fun p hp => by cases hp with | head => exact rfl | tail _ h => cases h) hR ?turn ?done
      · exact fun h => (N2 _ (.tail _ (.head _))).2.1 h.symm
      case turn =>
        intro c i v u h tk own hv hoff hp F3 N3
        obtain ⟨sp, tsp⟩ := c
        clear N2 F2
        obtain ⟨x, tx, hx, hx2, rfl⟩ := strs_at hv
        have hxl : x.length ≤ want.length := hlens _ (by
          have h1 := List.mem_of_getElem? hx2
          rw [hws] at h1
          simp at h1 ⊢
          grind)
        clear hlens hR
        dsimp only at hp F3 N3
        k_steps
        · have e := ellLoop_stop hx2 (by assumption) hp
          show Q (Value.bool false) _
          rw [← e]
          exact hret _ _ (kept_of (by assumption) (by assumption))
        · refine Halt.go ?_
          rename News _ _ _ _ => N5
          rename Fr _ _ _ _ => F5
          refine kv_end (_, _) F5 N5 (fun _ h => nomatch h) (by intro p hp; k_ownIn) rfl (fun p hp => by cases hp with | head => exact rfl | tail _ h => cases h) (by intro z h1 h2 h3; have h4 := h2 _ (.head _); dsimp only at h4; simp [kstB, h1, h4]) (ellLoop_go hx2 (by assumption) hp)
      case done =>
        intro c u h tk hp F3 N3
        obtain ⟨sp, tsp⟩ := c
        clear N2 F2 hlens hR
        dsimp only at hp F3 N3
        have hlv : (strValues ws).length = (ws.map (·.1)).length := by simp [strValues]
        rw [hlv, List.drop_length] at hp
        have e : ellF want got = true := hp.symm
        k_steps
        show Q (Value.bool true) _
        rw [← e]
        exact hret _ _ (kept_of (by assumption) (by assumption))
    · have e : ellF want got = false := by
        rw [ellF_some hocc hsp]
        unfold ellG
        rw [if_pos (by omega), if_neg (by omega), if_neg (by simp_all)]
      show Q (Value.bool false) _
      rw [← e]
      exact hret _ _ (kept_of (by assumption) (by assumption))
    · have e : ellF want got = false := by
        rw [ellF_some hocc hsp]
        unfold ellG
        exfalso; omega
      show Q (Value.bool false) _
      rw [← e]
      exact hret _ _ (kept_of (by assumption) (by assumption))
    · refine Halt.go ?_
      rename News _ _ _ _ => N2
      rename Fr _ _ _ _ => F2
      obtain ⟨ws, hws⟩ : ∃ ws, ws = (w0, t0) :: (mid ++ [(wn, tn)]) := ⟨_, rfl⟩
      have e2 : Value.str w0 t0 :: (strValues mid ++ [Value.str wn tn]) = strValues ws := by rw [hws]; simp [strValues]
      rw [e2] at N2
      have hR : ellLoop got (got.length) (ws.map (·.1)) (0) = ellF want got := by
        rw [ellF_some hocc hsp, hws]
        unfold ellG
        rw [if_pos (by omega), if_pos (by omega)]; simp
      refine kv_vals (σ := Int × Tok) (fun _ => []) (fun c => [(Str.ofString "startpos", .int c.1 c.2)]) [] (fun i c => ellLoop got (got.length) ((ws.map (·.1)).drop i) c.1 = ellF want got) (_, _) rfl (News.isList N2 (by k_mem)) ?_ (fun _ h => nomatch h) F2 News.nil (fun p hp => by cases hp with | head => exact rfl | tail _ h => cases h) hR ?turn ?done
      · exact fun h => (N2 _ (.tail _ (.head _))).2.1 h.symm
      case turn =>
        intro c i v u h tk own hv hoff hp F3 N3
        obtain ⟨sp, tsp⟩ := c
        clear N2 F2
        obtain ⟨x, tx, hx, hx2, rfl⟩ := strs_at hv
        have hxl : x.length ≤ want.length := hlens _ (by
          have h1 := List.mem_of_getElem? hx2
          rw [hws] at h1
          simp at h1 ⊢
          grind)
        clear hlens hR
        dsimp only at hp F3 N3
        k_steps
        · have e := ellLoop_stop hx2 (by assumption) hp
          show Q (Value.bool false) _
          rw [← e]
          exact hret _ _ (kept_of (by assumption) (by assumption))
        · refine Halt.go ?_
          rename News _ _ _ _ => N5
          rename Fr _ _ _ _ => F5
          refine kv_end (_, _) F5 N5 (fun _ h => nomatch h) (by intro p hp; k_ownIn) rfl (fun p hp => by cases hp with | head => exact rfl | tail _ h => cases h) (by intro z h1 h2 h3; have h4 := h2 _ (.head _); dsimp only at h4; simp [kstB, h1, h4]) (ellLoop_go hx2 (by assumption) hp)
      case done =>
        intro c u h tk hp F3 N3
        obtain ⟨sp, tsp⟩ := c
        clear N2 F2 hlens hR
        dsimp only at hp F3 N3
        have hlv : (strValues ws).length = (ws.map (·.1)).length := by simp [strValues]
        rw [hlv, List.drop_length] at hp
        have e : ellF want got = true := hp.symm
        k_steps
        show Q (Value.bool true) _
        rw [← e]
        exact hret _ _ (kept_of (by assumption) (by assumption))
end
section
set_option pp.maxSteps 1500
theorem bind_star {fd : FuncData} {a r : Arg} {v : Value} {vs : List Value} (hp : fd.params = { posonlyargs := [], args := [a], vararg := some r, kwonlyargs := [], kw_defaults := [], kwarg := none, defaults := [] }) (hd : seqItems? fd.defaults = pure none) :
    bindArgs fd ⟨v :: vs, []⟩ = (newTuple vs >>= fun D => pure [(a.arg, v), (r.arg, D)]) := by
  unfold bindArgs
  rw [hp, hd]
  simp
abbrev tupOf (vs : List Value) : Obj := { cls := .type "tuple", data := .seq vs.toArray }
section
variable {prog : Program} {w : World} {A A₀ : Around} {s : Shared} {K : Frag} {L : Addr} {h₀ base : Heap} {m mg mb : Str → Option Value} {p : Program} {loose : List Str} {mean : ExcName → Option Value}
/-- a call of a def with one parameter and a starred one, that stores into nothing that stood before it -/
theorem pure_rest {env : Env} {outer : List Env} {R : Result → Shared → Prop} {name qual : Str} {a r : Arg} {body : List Stmt} {scope : Scope} {dV kV doc pm cdv ct oc : Value} {an od : Option Addr} {osl : Array (Option Value)} {f : Addr} {v : Value} {vs : List Value}
    (B : Below A₀ base outer h₀) (F : Fr h₀ L s.heap m) (X₀ : K.In h₀) (T : Top p loose mean mg mb h₀) (hA : A.frames = some (env :: outer)) (hf : env.frame = some L) (hke : env.scope.kind = .function)
    (ho : K.lookup f = some ⟨oc, od, .func (fnOf name qual { posonlyargs := [], args := [a], vararg := some r, kwonlyargs := [], kw_defaults := [], kwarg := none, defaults := [] } body scope dV kV doc pm an cdv ct), osl⟩) (hcd : codeIn K cdv qual = true) (hroom : A.depth < recursionLimit)
    (hd : seqItems? dV = pure none) (hl1 : scope.names.lookup a.arg = some .local) (hl2 : scope.names.lookup r.arg = some .local) (hz : vs.length ≤ 1000)
    (h : ∀ g D L' h₁, g = s.heap → Fr g L' h₁ (fun y => [(r.arg, Value.ref D), (a.arg, v)].lookup y) → News g L' h₁ [(D, tupOf vs)] → Below A base (env :: outer) g → K.In g → Top p loose mean mg mb g →
      wpAny (model prog w) (A.deeper (envOf qual scope L' f cdv)) (execs body (envOf qual scope L' f cdv))
        (fun fl s' => R (.ok (.ret (match fl with | .ret v => v | _ => .none))) s') (fun _ _ => False)
        { s with heap := h₁, toks := s.toks + 2 })
    (hco : scope.isCoroutine = false) (hgen : scope.isGenerator = false) (hk : scope.kind = .function)
    (hcell : ∀ x ∈ scope.names, x.2 ≠ .cell) : codeAny (model prog w) A (.call (.ref f) ⟨v :: vs, []⟩) R s := by
  have X := X₀.keeps F.keep
  have B₁ := pushX B F hf hke
  have B₂ : Below A base (env :: outer) s.heap := ⟨hA, B₁.stays, B₁.frames⟩
  refine codeAny_call_function (fd := fnOf name qual { posonlyargs := [], args := [a], vararg := some r, kwonlyargs := [], kw_defaults := [], kwarg := none, defaults := [] } body scope dV kV doc pm an cdv ct) (body := body) hroom (X _ _ ho) rfl hco hgen rfl (codeRec_of X hcd) ?_
  rw [bind_star rfl hd]
  refine wpAny_bind (wpAny_newTuple (wpAny_pure ?_) (by rw [sizeLine_eq]; omega))
  have keep1 : ∀ b o, s.heap.get? b = some o → (s.heap.push (tupOf vs)).get? b = some o := fun b o e => Heap.get?_push_of_some _ e
  refine wpAny_newFunctionEnv hcell (fun x hx => ?_) (fun h₁ hns hsb => ⟨((T.nolimit.keeps F.keep).keeps keep1).fresh _ hsb, codeAny_func ?_⟩) hk
  · rcases List.mem_cons.mp hx with rfl | hx
    · exact hl1
    · rw [List.mem_singleton.mp hx]; exact hl2
  have keep2 : ∀ b o, (s.heap.push (tupOf vs)).get? b = some o → h₁.get? b = some o := fun b o e => hsb.extBut b o (Nat.ne_of_lt (Heap.lt_size e)) (Heap.get?_push_of_some _ e)
  have hsz : (s.heap.push (tupOf vs)).objs.size = s.heap.objs.size + 1 := Heap.size_push ..
  refine wpAny_mono (h s.heap s.heap.objs.size (s.heap.push (tupOf vs)).objs.size h₁ rfl ⟨hns, fun b o e => keep2 _ _ (keep1 _ _ e), by rw [hsz]; exact Nat.le_succ _⟩ (fun q hq => ?_) B₂ X (T.keeps F.keep)) (fun _ _ x => x) fun _ _ x => x.elim
  rw [List.mem_singleton.mp hq]
  refine ⟨keep2 _ _ (Heap.get?_push_size _ rfl), ?_, ?_⟩
  · show s.heap.objs.size ≠ _
    rw [hsz]; exact Nat.ne_of_lt (Nat.lt_succ_self _)
  · cases q : s.heap.get? s.heap.objs.size with
    | none => rfl
    | some o => exact absurd (Heap.lt_size q) (Nat.lt_irrefl _)
end
/-- the pairs one behind the other -/
def flatP : List (Str × Str) → List Str
  | [] => []
  | (p, q) :: r => p :: q :: flatP r
/-- what replace hands back -/
def replF : List (Str × Str) → Str → Str
  | [], x => x
  | (p, q) :: r, x => replF r (Txt.join q (Txt.split x p))
/-- the texts on the way are short -/
def replOk : List (Str × Str) → Str → Bool
  | [], _ => true
  | (p, q) :: r, x => decide (x.length ≤ 100) && decide (1 ≤ p.length) && decide (p.length ≤ 100) && decide (q.length ≤ 100) && replOk r (Txt.join q (Txt.split x p))
theorem flat_cons {l : List (Str × Tok)} {p q : Str} {r : List (Str × Str)} (h : l.map (·.1) = flatP ((p, q) :: r)) : ∃ tp tq l2, l = (p, tp) :: (q, tq) :: l2 ∧ l2.map (·.1) = flatP r := by
  match l, h with
  | [], h => cases h
  | [_], h => cases h
  | (a, ta) :: (b, tb) :: l2, h =>
    have h1 : a = p := (List.cons.inj h).1
    have h2 : b = q := (List.cons.inj (List.cons.inj h).2).1
    exact ⟨ta, tb, l2, by rw [h1, h2], (List.cons.inj (List.cons.inj h).2).2⟩
theorem repl_ok {p q x : Str} {r : List (Str × Str)} (h : replOk ((p, q) :: r) x = true) : x.length ≤ 100 ∧ 1 ≤ p.length ∧ p.length ≤ 100 ∧ q.length ≤ 100 ∧ replOk r (Txt.join q (Txt.split x p)) = true := by
  simp only [replOk, Bool.and_eq_true, decide_eq_true_eq] at h
  exact ⟨h.1.1.1.1, h.1.1.1.2, h.1.1.2, h.1.2, h.2⟩
section
variable {prog : Program} {w : World} {A : Around} {E : Value → Shared → Prop} {s : Shared}
theorem truthy_tup_cons {t : Addr} {v : Value} {vs : List Value} {Q : Bool → Shared → Prop} (ht : IsTup s.heap t (v :: vs).toArray) (hz : vs.length < 1000) (h : Q true { s with toks := s.toks + 1 + 1 }) : wpAny (model prog w) A (truthy (.ref t)) Q E s :=
  truthy_tuple ht (by simp; omega) (by simpa using h)
theorem item_tup0 {value slice : PySem.Expr} {t : Addr} {v : Value} {vs : List Value} {u : Tok} {Q : Value → Shared → Prop} (ht : IsTup s.heap t (v :: vs).toArray) (h : Q v s)
    (hs : subscripted slice false (.ref t) (.int 0 u) = operate [.ref t, .int 0 u] (getItem (.ref t) (.int 0 u)) := by with_unfolding_all rfl) :
    wpAny (model prog w) A (subscriptTail value slice (.ref t) (.int 0 u)) Q E s :=
  item_tupleT ht (by decide) (by decide) (j := 0) (by simp [seqIndex?]) rfl h hs
theorem item_tup1 {value slice : PySem.Expr} {t : Addr} {v x : Value} {vs : List Value} {u : Tok} {Q : Value → Shared → Prop} (ht : IsTup s.heap t (v :: x :: vs).toArray) (h : Q x s)
    (hs : subscripted slice false (.ref t) (.int 1 u) = operate [.ref t, .int 1 u] (getItem (.ref t) (.int 1 u)) := by with_unfolding_all rfl) :
    wpAny (model prog w) A (subscriptTail value slice (.ref t) (.int 1 u)) Q E s :=
  item_tupleT ht (by decide) (by decide) (j := 1) (by simp [seqIndex?]; omega) rfl h hs
end
theorem sum_le {ys : List Str} {k : Nat} (h : ∀ a ∈ ys, a.length ≤ k) : (ys.map (·.length)).sum ≤ ys.length * k := by
  induction ys with
  | nil => simp
  | cons y r ih =>
    have h1 := h y (.head _)
    have h2 := ih fun a ha => h a (.tail _ ha)
    simp only [List.map_cons, List.sum_cons, List.length_cons, Nat.succ_mul]
    omega
theorem join_ok {q : Str} {ys : List Str} (hc : ys.length ≤ 102) (he : ∀ a ∈ ys, a.length ≤ 100) (hq : q.length ≤ 100) : JoinOk q ys = true := by
  refine joinOk_of ?_
  have h1 := sum_le he
  have h2 : ys.length * 100 ≤ 102 * 100 := Nat.mul_le_mul_right _ hc
  have h3 : ys.length * q.length ≤ 102 * 100 := Nat.mul_le_mul hc hq
  omega
theorem join_split_ok {q x p : Str} {l : List (Str × Tok)} (h : l.map (·.1) = Txt.split x p) (he : ∀ a ∈ l.map (·.1), a.length ≤ x.length) (hx : x.length ≤ 100) (hq : q.length ≤ 100) : JoinOk q (l.map (·.1)) = true := by
  refine join_ok ?_ (fun a ha => Nat.le_trans (he a ha) hx) hq
  rw [h]
  have := (fact_split x p).2
  omega
local macro_rules | `(tactic| walk_at "my rest") => `(tactic| (refine wpAny_call ?_; refine' pure_rest ?k1 ?k2 ?k3 ?k5 ?kA ?kF ?kK ?k6 ?k7 ?k8 ?k9 ?kB ?kC ?kz ?_ ?c2 ?c3 ?c4 ?c5; (case kA => exact rfl); (case kF => first | assumption | exact rfl); (case kK => first | assumption | exact rfl); (case k1 => k_asm); (case k2 => k_asm); (case k3 => k_asm); (case k5 => k_asm); (case k6 => k_is); (case k7 => k_is); (case k8 => exact Nat.le_of_ble_eq_true rfl); (case k9 => exact rfl); (case c5 => decide); (case kB => exact rfl); (case kC => exact rfl); (case c2 => exact rfl); (case c3 => exact rfl); (case c4 => exact rfl); (case kz => omega); k_whole; intro g' D' L' h' hg' F' N' B' X' T'; (try dsimp only)))
local macro_rules | `(tactic| walk_at "exec While") => `(tactic| refine halt ?_)
local macro_rules | `(tactic| walk_at "truthy ref") => `(tactic| refine truthy_tup_cons (News.isTup (by k_asm) (by k_mem)) (by simp; omega) ?_)
local macro_rules | `(tactic| walk_at "subscriptTail Name Constant ref int") => `(tactic| first
  | ((with_reducible show wpAny _ _ (subscriptTail _ _ (Value.ref _) (Value.int 0 _)) _ _ _); refine item_tup0 (News.isTup (by k_asm) (by k_mem)) ?_)
  | ((with_reducible show wpAny _ _ (subscriptTail _ _ (Value.ref _) (Value.int 1 _)) _ _ _); refine item_tup1 (News.isTup (by k_asm) (by k_mem)) ?_))
local macro_rules | `(tactic| walk_at "subscriptTail Name Slice ref ref") => `(tactic| ((refine slice_tuple_from (a := 2) (by k_asm) (by k_asm) (News.isTup (by k_asm) (by k_mem)) (by decide) (by simp) ?_ (hsz := ?hz)); (case hz => (simp [sizeLine_eq]; omega)); intro h' F' N'))
local macro_rules | `(tactic| walk_at "call builtin:str.join") => `(tactic| ((refine SC.join (News.isList (by k_asm) (by k_mem)) rfl (join_split_ok (by assumption) (by assumption) (by assumption) (by assumption)) ?_); intro t' k'))
local macro_rules | `(tactic| walk_at "KswEnd") => `(tactic| refine halt ?_)
theorem rep_spec {w : World} {env : Env} {outer : List Env} {A₀ : Around} {base h₀ : Heap} {L : Addr} {m mg mb : Str → Option Value} {loose : List Str} {mean : ExcName → Option Value} {s : Shared} {Q E : Value → Shared → Prop} {text : Str} {tt : Tok} {l : List (Str × Tok)} {ps : List (Str × Str)}
   (B : Below A₀ base outer h₀) (F : Fr h₀ L s.heap m) (X : (hd.heap_39 w.params).In h₀) (T : Top hd.view_39 loose mean mg mb h₀) (hf : env.frame = some L) (hke : env.scope.kind = .function)
   (hl : l.map (·.1) = flatP ps) (hz : (strValues l).length ≤ 100) (hok : replOk ps text = true)
   (hret : ∀ t h' tk', Kept s.heap h' → Q (.str (replF ps text) t) { s with heap := h', toks := tk' }) :
   wpAny (model PySem.Challenge.rw_pe0090_01.row.prog w) (AX 600 600 env outer) (call (.ref 42) (.str text tt :: strValues l)) Q E s := by
  w_top off
  k_dflt (walk_at "my rest")
  k_fold
  k_steps
  refine Halt.go ?_
  rename Fr _ _ _ _ => F1
  rename News _ _ _ _ => N1
  refine ksw_while (σ := Str × Tok × Addr × List (Str × Tok) × List (Str × Str)) (fun c => [(c.2.2.1, tupOf (strValues c.2.2.2.1))]) (fun c => [(Str.ofString "text", .str c.1 c.2.1), (Str.ofString "pairs", .ref c.2.2.1)]) (fun _ => True) [] (fun c => c.2.2.2.1.map (·.1) = flatP c.2.2.2.2 ∧ (strValues c.2.2.2.1).length ≤ 100 ∧ replOk c.2.2.2.2 c.1 = true ∧ replF c.2.2.2.2 c.1 = replF ps text) (fun c => c.2.2.2.2.length) (text, tt, _, l, ps) F1 N1 trivial ?hk ⟨hl, hz, hok, rfl⟩ ?turn
  case hk =>
    intro p hp
    cases hp with
    | head => exact rfl
    | tail _ hp => cases hp with
      | head => exact rfl
      | tail _ h => cases h
  case turn =>
    rintro ⟨x, tx, D, l1, ps1⟩ u h tk _ ⟨hl1, hz1, hok1, hr1⟩ F2 N2
    clear F1 N1
    dsimp only at hl1 hz1 hok1 hr1 F2 N2
    cases ps1 with
    | nil =>
      have e0 : l1 = [] := by simpa [flatP] using hl1
      subst e0
      k_steps
      show Q (Value.str x tx) _
      have e : x = replF ps text := hr1
      rw [e]
      exact hret _ _ _ (kept_of (by assumption) F2)
    | cons pq r =>
      obtain ⟨p, q⟩ := pq
      obtain ⟨tp, tq, l2, rfl, hl2⟩ := flat_cons hl1
      have e1 : strValues ((p, tp) :: (q, tq) :: l2) = .str p tp :: .str q tq :: strValues l2 := rfl
      rw [e1] at N2 hz1
      have hz2 : (strValues l2).length ≤ 98 := by simp at hz1 ⊢; omega
      obtain ⟨hx, hp1, hp2, hq1, hok2⟩ := repl_ok hok1
      clear hl1 hz1 hok1
      have hpb : (p.length == 0) = false := by simp; omega
      k_steps
      refine Halt.go ?_
      rename List.map _ _ = Txt.split _ _ => hsp
      rename News _ _ _ _ => N3
      rename Fr _ _ _ _ => F3
      rw [hsp] at F3
      refine' ksw_end (Txt.join q (Txt.split x p), _, _, l2, r) F3 N3 ?hm trivial ?hk ?hr ⟨hl2, ?hz, hok2, hr1⟩ (Nat.lt_succ_self _)
      case hm => exact fun y hy => by cases hy with | head => exact .head _ | tail _ h => cases h
      case hz => dsimp only; omega
      case hk =>
        intro y hy
        cases hy with
        | head => exact rfl
        | tail _ hy => cases hy with
          | head => exact rfl
          | tail _ h => cases h
      case hr =>
        intro z h2 _
        have h3 := h2 _ (.head _)
        have h4 := h2 _ (.tail _ (.head _))
        dsimp only at h3 h4
        simp [kstB, h3, h4]
end
section
abbrev fl6 : UInt64 := 4618441417868443648
abbrev fl1 : UInt64 := 4607182418800017408
def hsvI (x : UInt64) : Int := Flt.toInt Float64.truncOf (Float64.mul x 4618441417868443648)
def hsvR (x : UInt64) : UInt64 := Float64.sub (Float64.mul x 4618441417868443648) (Float64.ofInt (Flt.toInt Float64.truncOf (Float64.mul x 4618441417868443648)))
def hsvP (y z : UInt64) : UInt64 := Float64.mul z (Float64.sub 4607182418800017408 y)
def hsvQ (x y z : UInt64) : UInt64 := Float64.mul z (Float64.sub 4607182418800017408 (Float64.mul y (hsvR x)))
def hsvT (x y z : UInt64) : UInt64 := Float64.mul z (Float64.sub 4607182418800017408 (Float64.mul y (Float64.sub 4607182418800017408 (hsvR x))))
/-- what hsv_to_rgb hands back -/
def hsvF (x y z : UInt64) : UInt64 × UInt64 × UInt64 :=
  if (hsvI x).fmod 6 = 0 then (z, hsvT x y z, hsvP y z) else if (hsvI x).fmod 6 = 1 then (hsvQ x y z, z, hsvP y z) else if (hsvI x).fmod 6 = 2 then (hsvP y z, z, hsvT x y z)
  else if (hsvI x).fmod 6 = 3 then (hsvP y z, hsvQ x y z, z) else if (hsvI x).fmod 6 = 4 then (hsvT x y z, hsvP y z, z) else (z, hsvP y z, hsvQ x y z)
theorem fmod6 (i : Int) (h0 : i.fmod 6 ≠ 0) (h1 : i.fmod 6 ≠ 1) (h2 : i.fmod 6 ≠ 2) (h3 : i.fmod 6 ≠ 3) (h4 : i.fmod 6 ≠ 4) (h5 : i.fmod 6 ≠ 5) : False := by
  have a := Int.fmod_nonneg_of_pos i (b := 6) (by decide)
  have b := Int.fmod_lt_of_pos i (b := 6) (by decide)
  omega
theorem hsv_over {x : UInt64} (hi : (hsvI x).natAbs < 100) (hc : 2 ^ 1024 - 2 ^ 970 ≤ (Flt.toInt Float64.truncOf (Float64.mul x 4618441417868443648)).natAbs) : False := by
  have hc' : 2 ^ 1024 - 2 ^ 970 ≤ (hsvI x).natAbs := hc
  have h100 : (100 : Nat) ≤ 2 ^ 1024 - 2 ^ 970 := by decide +kernel
  exact absurd (Nat.le_trans h100 hc') (Nat.not_le.mpr hi)
theorem got_new {h g s : Heap} {L a : Addr} {o : Obj} {r : List (Addr × Obj)} (N : News g L h ((a, o) :: r)) (e : g = s) : s.get? a = none := e ▸ (N _ (.head _)).2.2
theorem hsv_spec {w : World} {env : Env} {outer : List Env} {A₀ : Around} {base h₀ : Heap} {L : Addr} {m mg mb : Str → Option Value} {loose : List Str} {mean : ExcName → Option Value} {s : Shared} {Q E : Value → Shared → Prop} {x y z : UInt64} {tx ty tz : Tok}
   (B : Below A₀ base outer h₀) (F : Fr h₀ L s.heap m) (X : (hd.heap_39 w.params).In h₀) (T : Top hd.view_39 loose mean mg mb h₀) (hf : env.frame = some L) (hke : env.scope.kind = .function)
   (hy : (Float64.cmp y 0 == some Ordering.eq) = false) (hfin : Float64.isFinite (Float64.mul x 4618441417868443648) = true) (hnan : Float64.isNaN (Float64.mul x 4618441417868443648) = false) (hinf : Float64.isInf (Float64.mul x 4618441417868443648) = false) (hi : (hsvI x).natAbs < 100)
   (hret : ∀ a t1 t2 t3 h' tk', Kept s.heap h' → h'.get? a = some (tupOf [.float (hsvF x y z).1 t1, .float (hsvF x y z).2.1 t2, .float (hsvF x y z).2.2 t3]) → s.heap.get? a = none → Q (.ref a) { s with heap := h', toks := tk' }) :
   wpAny (model PySem.Challenge.rw_pe0090_01.row.prog w) (AX 600 600 env outer) (call (.ref 28) [.float x tx, .float y ty, .float z tz]) Q E s := by
  w_top off
  k_dflt (walk_at "my enter")
  k_fold
  k_steps
  · exact (hsv_over hi (by assumption)).elim
  · rename News _ _ _ _ => N9
    have e : hsvF x y z = (z, hsvT x y z, hsvP y z) := by unfold hsvF; rw [if_pos (by assumption)]
    refine' hret _ _ _ _ _ _ (kept_of (by assumption) (by assumption)) ?g9 (got_new N9 (by assumption))
    case g9 => rw [e]; exact (N9 _ (.head _)).1
  · rename News _ _ _ _ => N9
    have e : hsvF x y z = (hsvQ x y z, z, hsvP y z) := by unfold hsvF; rw [if_neg (by assumption), if_pos (by assumption)]
    refine' hret _ _ _ _ _ _ (kept_of (by assumption) (by assumption)) ?g9 (got_new N9 (by assumption))
    case g9 => rw [e]; exact (N9 _ (.head _)).1
  · rename News _ _ _ _ => N9
    have e : hsvF x y z = (hsvP y z, z, hsvT x y z) := by unfold hsvF; rw [if_neg (by assumption), if_neg (by assumption), if_pos (by assumption)]
    refine' hret _ _ _ _ _ _ (kept_of (by assumption) (by assumption)) ?g9 (got_new N9 (by assumption))
    case g9 => rw [e]; exact (N9 _ (.head _)).1
  · rename News _ _ _ _ => N9
    have e : hsvF x y z = (hsvP y z, hsvQ x y z, z) := by unfold hsvF; rw [if_neg (by assumption), if_neg (by assumption), if_neg (by assumption), if_pos (by assumption)]
    refine' hret _ _ _ _ _ _ (kept_of (by assumption) (by assumption)) ?g9 (got_new N9 (by assumption))
    case g9 => rw [e]; exact (N9 _ (.head _)).1
  · rename News _ _ _ _ => N9
    have e : hsvF x y z = (hsvT x y z, hsvP y z, z) := by unfold hsvF; rw [if_neg (by assumption), if_neg (by assumption), if_neg (by assumption), if_neg (by assumption), if_pos (by assumption)]
    refine' hret _ _ _ _ _ _ (kept_of (by assumption) (by assumption)) ?g9 (got_new N9 (by assumption))
    case g9 => rw [e]; exact (N9 _ (.head _)).1
  · rename News _ _ _ _ => N9
    have e : hsvF x y z = (z, hsvP y z, hsvQ x y z) := by unfold hsvF; rw [if_neg (by assumption), if_neg (by assumption), if_neg (by assumption), if_neg (by assumption), if_neg (by assumption)]
    refine' hret _ _ _ _ _ _ (kept_of (by assumption) (by assumption)) ?g9 (got_new N9 (by assumption))
    case g9 => rw [e]; exact (N9 _ (.head _)).1
  · exact (fmod6 _ (by assumption) (by assumption) (by assumption) (by assumption) (by assumption) (by assumption)).elim
/-- the count of made objects under a name, with the bound kept -/
theorem gen_toks {α : Type} {M : Model} {A : Around} {t : Sem α} {Q : α → Shared → Prop} {E : Value → Shared → Prop} {h : Heap} {ge : Array GenState} {dr : Drawn} {os : OsState} {Y Z : Nat} (H : ∀ tk, Y + Z ≤ tk → wpAny M A t Q E { heap := h, gens := ge, drawn := dr, toks := tk, os := os }) : wpAny M A t Q E { heap := h, gens := ge, drawn := dr, toks := Y + Z, os := os } := H _ (Nat.le_refl _)
def ltF (a b : UInt64) : Bool := Float64.cmp a b == some Ordering.lt
def max3 (x y z : UInt64) : UInt64 := if ltF (if ltF x y = true then y else x) z = true then z else (if ltF x y = true then y else x)
def min3 (x y z : UInt64) : UInt64 := if ltF z (if ltF y x = true then y else x) = true then z else (if ltF y x = true then y else x)
section
variable {prog : Program} {w : World} {A : Around} {E : Value → Shared → Prop} {s : Shared} {Q : Value → Shared → Prop} {h₀ : Heap} {L : Addr} {m : Str → Option Value} {news : List (Addr × Obj)} {x y z : UInt64} {t u v : Tok}
theorem max_three_ff (hh : A.handled = none) (F : Fr h₀ L s.heap m) (N : News h₀ L s.heap news)
    (h : ∀ h' tk v', s.toks ≤ tk → Fr h₀ L h' m → News h₀ L h' news → Q (.float (max3 x y z) v') { s with heap := h', toks := tk }) :
    wpAny (model prog w) A (call (.builtin "max") [.float x t, .float y u, .float z v]) Q E s := by
  have hT : (s.heap.push { cls := .type "tuple", data := .seq #[.float x t, .float y u, .float z v] }).IsTuple s.heap.objs.size #[.float x t, .float y u, .float z v] := ⟨_, Heap.get?_push_size _ rfl, rfl, 0, rfl⟩
  refine wpAny_with_toks (n := s.toks) (Nat.le_refl _) ?_
  refine call_max_three (wpAny_pyIter_tuple hT ?_)
  have hsz : (s.heap.push { cls := .type "tuple", data := .seq #[.float x t, .float y u, .float z v] }).objs.size = s.heap.objs.size + 1 := Heap.size_push ..
  refine ⟨_, [_, s.heap.objs.size], [_], _, _, _, _, rfl, Walks.tuple (A := A.in1) hh _ s.heap.objs.size (by rw [hsz]; exact Nat.ne_of_lt (Nat.lt_succ_self _)) #[.float x t, .float y u, .float z v],
    ⟨⟨_, Heap.get?_push_size _ rfl, rfl, rfl⟩, hT.push _⟩, fun d hd => ?_, by simp, Flt.cmpOf_gt #[.float x t, .float y u, .float z v] ?_, fun r h' tk hP hk => ?_⟩
  · show d < ((s.heap.push _).push _).objs.size
    rw [Heap.size_push, hsz]
    simp only [List.mem_cons, List.not_mem_nil, or_false] at hd
    rcases hd with rfl | rfl
    · rw [hsz]; exact Nat.lt_succ_self _
    · exact Nat.lt_succ_of_lt (Nat.lt_succ_self _)
  · intro q hq
    simp only [List.mem_toArray, List.mem_cons, List.not_mem_nil, or_false] at hq
    rcases hq with rfl | rfl | rfl <;> exact .float _ _
  · have hold : ∀ d o, s.heap.get? d = some o → h'.get? d = some o := fun d o e => by
      refine hk d o (fun hm => ?_) (Heap.get?_push_of_some _ (Heap.get?_push_of_some _ e))
      have hl := Heap.lt_size e
      rw [List.mem_singleton] at hm
      rw [hm, hsz] at hl
      exact absurd hl (Nat.not_lt.mpr (Nat.le_succ _))
    have F' := F.grownK hold
    have N' := N.grown hold
    have hv : ∃ v', r = .float (max3 x y z) v' := by
      unfold max3 ltF
      by_cases c1 : (Float64.cmp x y == some Ordering.lt) = true
      · by_cases c2 : (Float64.cmp y z == some Ordering.lt) = true
        · simp [argBest, Flt.ltV, c1, c2] at hP ⊢; exact ⟨_, hP.symm⟩
        · simp [argBest, Flt.ltV, c1, c2] at hP ⊢; exact ⟨_, hP.symm⟩
      · by_cases c2 : (Float64.cmp x z == some Ordering.lt) = true
        · simp [argBest, Flt.ltV, c1, c2] at hP ⊢; exact ⟨_, hP.symm⟩
        · simp [argBest, Flt.ltV, c1, c2] at hP ⊢; exact ⟨_, hP.symm⟩
    obtain ⟨v', rfl⟩ := hv
    exact fun hn => h h' tk v' hn F' N'
theorem min_three_ff (hh : A.handled = none) (F : Fr h₀ L s.heap m) (N : News h₀ L s.heap news)
    (h : ∀ h' tk v', s.toks ≤ tk → Fr h₀ L h' m → News h₀ L h' news → Q (.float (min3 x y z) v') { s with heap := h', toks := tk }) :
    wpAny (model prog w) A (call (.builtin "min") [.float x t, .float y u, .float z v]) Q E s := by
  have hT : (s.heap.push { cls := .type "tuple", data := .seq #[.float x t, .float y u, .float z v] }).IsTuple s.heap.objs.size #[.float x t, .float y u, .float z v] := ⟨_, Heap.get?_push_size _ rfl, rfl, 0, rfl⟩
  refine wpAny_with_toks (n := s.toks) (Nat.le_refl _) ?_
  refine call_min_three (wpAny_pyIter_tuple hT ?_)
  have hsz : (s.heap.push { cls := .type "tuple", data := .seq #[.float x t, .float y u, .float z v] }).objs.size = s.heap.objs.size + 1 := Heap.size_push ..
  refine ⟨_, [_, s.heap.objs.size], [_], _, _, _, _, rfl, Walks.tuple (A := A.in1) hh _ s.heap.objs.size (by rw [hsz]; exact Nat.ne_of_lt (Nat.lt_succ_self _)) #[.float x t, .float y u, .float z v],
    ⟨⟨_, Heap.get?_push_size _ rfl, rfl, rfl⟩, hT.push _⟩, fun d hd => ?_, by simp, Flt.cmpOf_lt #[.float x t, .float y u, .float z v] ?_, fun r h' tk hP hk => ?_⟩
  · show d < ((s.heap.push _).push _).objs.size
    rw [Heap.size_push, hsz]
    simp only [List.mem_cons, List.not_mem_nil, or_false] at hd
    rcases hd with rfl | rfl
    · rw [hsz]; exact Nat.lt_succ_self _
    · exact Nat.lt_succ_of_lt (Nat.lt_succ_self _)
  · intro q hq
    simp only [List.mem_toArray, List.mem_cons, List.not_mem_nil, or_false] at hq
    rcases hq with rfl | rfl | rfl <;> exact .float _ _
  · have hold : ∀ d o, s.heap.get? d = some o → h'.get? d = some o := fun d o e => by
      refine hk d o (fun hm => ?_) (Heap.get?_push_of_some _ (Heap.get?_push_of_some _ e))
      have hl := Heap.lt_size e
      rw [List.mem_singleton] at hm
      rw [hm, hsz] at hl
      exact absurd hl (Nat.not_lt.mpr (Nat.le_succ _))
    have F' := F.grownK hold
    have N' := N.grown hold
    have hv : ∃ v', r = .float (min3 x y z) v' := by
      unfold min3 ltF
      by_cases c1 : (Float64.cmp y x == some Ordering.lt) = true
      · by_cases c2 : (Float64.cmp z y == some Ordering.lt) = true
        · simp [argBest, Flt.ltV, c1, c2] at hP ⊢; exact ⟨_, hP.symm⟩
        · simp [argBest, Flt.ltV, c1, c2] at hP ⊢; exact ⟨_, hP.symm⟩
      · by_cases c2 : (Float64.cmp z x == some Ordering.lt) = true
        · simp [argBest, Flt.ltV, c1, c2] at hP ⊢; exact ⟨_, hP.symm⟩
        · simp [argBest, Flt.ltV, c1, c2] at hP ⊢; exact ⟨_, hP.symm⟩
    obtain ⟨v', rfl⟩ := hv
    exact fun hn => h h' tk v' hn F' N'
end
/-- the share of the range by which a colour lacks the greatest -/
def rgbC (x y z c : UInt64) : UInt64 := Float64.div (Float64.sub (max3 x y z) c) (Float64.sub (max3 x y z) (min3 x y z))
def rgbS (x y z : UInt64) : UInt64 := Float64.div (Float64.sub (max3 x y z) (min3 x y z)) (max3 x y z)
def rgbA (x y z : UInt64) : UInt64 :=
  if (Float64.cmp x (max3 x y z) == some Ordering.eq) = true then Float64.sub (rgbC x y z z) (rgbC x y z y)
  else if (Float64.cmp y (max3 x y z) == some Ordering.eq) = true then Float64.sub (Float64.add 4611686018427387904 (rgbC x y z x)) (rgbC x y z z)
  else Float64.sub (Float64.add 4616189618054758400 (rgbC x y z y)) (rgbC x y z x)
/-- the hue that rgb_to_hsv tells -/
def rgbH (x y z : UInt64) : UInt64 := (Float64.divmod (Float64.div (rgbA x y z) 4618441417868443648) 4607182418800017408).2
local macro_rules | `(tactic| walk_at "call builtin:max") => `(tactic| ((with_reducible show wpAny _ _ (call _ [Value.float _ _, Value.float _ _, Value.float _ _]) _ _ _); (rename News _ _ _ _ => N'); (rename Fr _ _ _ _ => F'); refine max_three_ff rfl F' N' ?_; clear N'; intro _ _ _ htk' _ _))
local macro_rules | `(tactic| walk_at "call builtin:min") => `(tactic| ((with_reducible show wpAny _ _ (call _ [Value.float _ _, Value.float _ _, Value.float _ _]) _ _ _); (rename News _ _ _ _ => N'); (rename Fr _ _ _ _ => F'); refine min_three_ff rfl F' N' ?_; clear N'; intro _ _ _ htk' _ _))
local macro_rules | `(tactic| walk_at "execs cons") => `(tactic| (with_reducible refine gen_toks ?_; intro tk' htk'))
local macro_rules | `(tactic| walk_at "execs nil") => `(tactic| (with_reducible refine gen_toks ?_; intro tk' htk'))
theorem rgb_spec {w : World} {env : Env} {outer : List Env} {A₀ : Around} {base h₀ : Heap} {L : Addr} {m mg mb : Str → Option Value} {loose : List Str} {mean : ExcName → Option Value} {s : Shared} {Q E : Value → Shared → Prop} {x y z : UInt64} {tx ty tz : Tok}
   (B : Below A₀ base outer h₀) (F : Fr h₀ L s.heap m) (X : (hd.heap_39 w.params).In h₀) (T : Top hd.view_39 loose mean mg mb h₀) (hf : env.frame = some L) (hke : env.scope.kind = .function)
   (hmm : (Float64.cmp (min3 x y z) (max3 x y z) == some Ordering.eq) = false) (hz1 : Float64.isZero (max3 x y z) = false) (hz2 : Float64.isZero (Float64.sub (max3 x y z) (min3 x y z)) = false)
   (hret : ∀ a t1 t2 t3 h' tk', s.toks ≤ t1 → t1 < tk' → Kept s.heap h' → h'.get? a = some (tupOf [.float (rgbH x y z) t1, .float (rgbS x y z) t2, .float (max3 x y z) t3]) → s.heap.get? a = none → Q (.ref a) { s with heap := h', toks := tk' }) :
   wpAny (model PySem.Challenge.rw_pe0090_01.row.prog w) (AX 600 600 env outer) (call (.ref 21) [.float x tx, .float y ty, .float z tz]) Q E s := by
  w_top off
  k_dflt (walk_at "my enter")
  k_fold
  k_steps
  · rename News _ _ _ _ => N9
    have e : rgbA x y z = Float64.sub (rgbC x y z z) (rgbC x y z y) := if_pos (by assumption)
    refine' hret _ _ _ _ _ _ ?u1 ?u2 (kept_of (by assumption) (by assumption)) ?g9 (got_new N9 (by assumption))
    case g9 => unfold rgbH; rw [e]; exact (N9 _ (.head _)).1
    case u1 => dsimp only at *; omega
    case u2 => dsimp only at *; omega
  · rename News _ _ _ _ => N9
    have e : rgbA x y z = Float64.sub (Float64.add 4611686018427387904 (rgbC x y z x)) (rgbC x y z z) := by unfold rgbA; rw [if_neg (by rw [show (Float64.cmp x (max3 x y z) == some Ordering.eq) = false from by assumption]; decide), if_pos (by assumption)]
    refine' hret _ _ _ _ _ _ ?u1 ?u2 (kept_of (by assumption) (by assumption)) ?g9 (got_new N9 (by assumption))
    case g9 => unfold rgbH; rw [e]; exact (N9 _ (.head _)).1
    case u1 => dsimp only at *; omega
    case u2 => dsimp only at *; omega
  · rename News _ _ _ _ => N9
    have e : rgbA x y z = Float64.sub (Float64.add 4616189618054758400 (rgbC x y z y)) (rgbC x y z x) := by unfold rgbA; rw [if_neg (by rw [show (Float64.cmp x (max3 x y z) == some Ordering.eq) = false from by assumption]; decide), if_neg (by rw [show (Float64.cmp y (max3 x y z) == some Ordering.eq) = false from by assumption]; decide)]
    refine' hret _ _ _ _ _ _ ?u1 ?u2 (kept_of (by assumption) (by assumption)) ?g9 (got_new N9 (by assumption))
    case g9 => unfold rgbH; rw [e]; exact (N9 _ (.head _)).1
    case u1 => dsimp only at *; omega
    case u2 => dsimp only at *; omega
end
end
section
/-- how a turn of for_grow ends -/
def GEnd (g : Heap) (L : Addr) (J : Nat → (Str → Option Value) → List (Addr × Obj) → Prop) (I : Addr) (oI : Obj) (s : Shared) (Q : Flow → Shared → Prop) (f : Flow) (s₃ : Shared) : Prop :=
  match f with
  | .ret v => Q (.ret v) s₃
  | .brk => Q .next s₃
  | _ => ∃ h' tk' m' nx', s₃ = { s with heap := h', toks := tk' } ∧ Fr g L h' m' ∧ News g L h' ((I, oI) :: nx') ∧ (∀ p ∈ nx', p.1 ≠ I) ∧ J tk' m' nx'
section
variable {prog : Program} {w : World} {A : Around} {E : Value → Shared → Prop} {s : Shared} {env : Env} {g : Heap} {body : List Stmt} {Q : Flow → Shared → Prop}
theorem GEnd.next {L : Addr} {J : Nat → (Str → Option Value) → List (Addr × Obj) → Prop} {I : Addr} {oI : Obj} {h' : Heap} {tk' : Nat} {m' : Str → Option Value} {nx' news' : List (Addr × Obj)} (F : Fr g L h' m') (N : News g L h' news') (hI : (I, oI) ∈ news') (hn : ∀ p ∈ nx', p ∈ news') (ho : ∀ p ∈ nx', p.1 ≠ I) (hj : J tk' m' nx') :
    GEnd g L J I oI s Q .next { s with heap := h', toks := tk' } :=
  ⟨h', tk', m', nx', rfl, F, fun p hp => (List.mem_cons.mp hp).elim (fun e => e ▸ N _ hI) fun q => N _ (hn p q), ho, hj⟩
/-- a for over a list, by an invariant over the names and a ledger that may grow -/
theorem for_grow {target iter : PySem.Expr} {pos : Pos} {l : Addr} {vs : List Value} {m₀ : Str → Option Value} {nx₀ : List (Addr × Obj)} (J : Nat → Nat → (Str → Option Value) → List (Addr × Obj) → Prop)
    (hh : A.handled = none) (F : Fr g env.locals s.heap m₀) (N : News g env.locals s.heap nx₀)
    (hev : ∀ (Q' : Value → Shared → Prop), Q' (.ref l) s → wpAny (model prog w) A (eval iter env) Q' E s)
    (hlist : ∀ i tk m nx h, J i tk m nx → Fr g env.locals h m → News g env.locals h nx → h.IsList l vs.toArray)
    (hgo : ∀ i v I (s : Shared) (Q' : Unit → Shared → Prop) (E' : Value → Shared → Prop), vs[i]? = some v → s.heap.IsListIter I l (i + 1) → Q' () s → wpAny (model prog w) A (letOwnedTupleGo target (.ref I) v) Q' E' s)
    (hj : J 0 s.toks m₀ nx₀)
    (turn : ∀ i v m₁ nx h tk I oI, vs[i]? = some v → J i tk m₁ nx → (∀ p ∈ nx, p.1 ≠ I) → Fr g env.locals h m₁ → News g env.locals h ((I, oI) :: nx) →
      wpAny (model prog w) A (assign target env v) (fun _ s₂ => wpAny (model prog w) A (execs body env) (GEnd g env.locals (J (i + 1)) I oI s Q) E s₂) E { s with heap := h, toks := tk })
    (done : ∀ m₁ nx h tk, J vs.length tk m₁ nx → Fr g env.locals h m₁ → News g env.locals h nx → Q .next { s with heap := h, toks := tk })
    (hs : ∀ x, foldedSetIterable iter env x = pure x := by intro _; rfl)
    (hE : PassesOwn (model prog w) A env E := by passes_own) :
    wpAny (model prog w) A (exec (.For target iter body [] pos) env) Q E s := by
  refine wpAny_For (hev _ ?_) hs
  have hl := hlist 0 s.toks m₀ nx₀ s.heap hj F N
  refine wpAny_pyIter_list hl ?_
  generalize hI : s.heap.objs.size = I
  have fresh : ∀ b o, s.heap.get? b = some o → b ≠ I := fun b o e => hI ▸ Nat.ne_of_lt (Heap.lt_size e)
  have keep : ∀ b o, s.heap.get? b = some o → (s.heap.push { cls := .type "list_iterator", data := .fields #[.ref l, .int 0 0] }).get? b = some o := fun b o e => Heap.get?_push_of_some _ e
  have hit0 : (s.heap.push { cls := .type "list_iterator", data := .fields #[.ref l, .int 0 0] }).IsListIter I l 0 := ⟨_, hI ▸ Heap.get?_push_size _ rfl, rfl, rfl⟩
  have gI : g.get? I = none := by
    cases q : g.get? I with
    | none => rfl
    | some o => exact absurd rfl (fresh I o (F.keep I o q))
  have LI : env.locals ≠ I := by
    obtain ⟨o, _, _, ho, _⟩ := F.ns
    exact fresh _ o ho
  refine codeAny_loop' rfl (fun k s' => ∃ h' tk m' nx i, s' = { s with heap := h', toks := tk } ∧ h'.IsListIter I l i ∧ Fr g env.locals h' m' ∧ News g env.locals h' nx ∧ (∀ p ∈ nx, p.1 ≠ I) ∧ J i tk m' nx ∧ i ≤ vs.length ∧ k = vs.length + 1 - i) ?_ (vs.length + 1)
    ⟨_, s.toks, m₀, nx₀, 0, rfl, hit0, F.grownK keep, N.grown keep, fun p hp => fresh _ _ (N p hp).1, hj, Nat.zero_le _, rfl⟩
  rintro k s' ⟨h', tk, m', nx, i, rfl, hit, F', N', hne, hJ, hi, rfl⟩
  show wpAny _ _ ((forTurn target (.ref I) body [] env).onRaise (fun x => do noteFrame x env; theTreesLotGoes x)) _ _ _
  refine wpAny_noted ?_
  simp only [forTurn]
  refine wpAny_bind (wpAny_standAt (wpAny_bind (wpAny_onRaise ?_)))
  have hl' := hlist i tk m' nx h' hJ F' N'
  by_cases hlt : i < vs.length
  · have hv : vs[i]? = some vs[i] := by simp [hlt]
    refine wpAny_pyNext_list_item (x := vs[i]) hit hl' (by simpa using hv) fun h₁ hit₁ hs₁ => ?_
    have F₁ : Fr g env.locals h₁ m' := ⟨F'.ns.sameBut hs₁ LI, fun b o e => (hs₁.2 b fun q => by rw [q, gI] at e; cases e).trans (F'.keep b o e), F'.above⟩
    have N₁ : News g env.locals h₁ nx := fun p hp => ⟨(hs₁.2 _ (hne p hp)).trans (N' p hp).1, (N' p hp).2⟩
    obtain ⟨oI, hoI, hc, hd⟩ := id hit₁
    have N₂ : News g env.locals h₁ ((I, oI) :: nx) := fun p hp => by
      rcases List.mem_cons.mp hp with rfl | hp
      · exact ⟨hoI, Ne.symm LI, gI⟩
      · exact N₁ p hp
    refine wpAny_bind (hgo i vs[i] I _ _ _ hv hit₁ ?_)
    refine wpAny_bind (wpAny_mono (wpAny_passesOwn hE (turn i vs[i] m' nx h₁ tk I oI hv hJ hne F₁ N₂)) (fun _ s₂ h₂ => wpAny_bind (wpAny_mono (wpAny_passesOwn hE h₂) (fun f s₃ h₃ => ?_) fun _ _ e => e)) fun _ _ e => e)
    have go : (∃ h' tk' m' nx', s₃ = { s with heap := h', toks := tk' } ∧ Fr g env.locals h' m' ∧ News g env.locals h' ((I, oI) :: nx') ∧ (∀ p ∈ nx', p.1 ≠ I) ∧ J (i + 1) tk' m' nx') →
        ∃ m, m < vs.length + 1 - i ∧ ∃ h' tk m' nx j, s₃ = { s with heap := h', toks := tk } ∧ h'.IsListIter I l j ∧ Fr g env.locals h' m' ∧ News g env.locals h' nx ∧ (∀ p ∈ nx, p.1 ≠ I) ∧ J j tk m' nx ∧ j ≤ vs.length ∧ m = vs.length + 1 - j := by
      rintro ⟨h₄, tk₄, m₄, nx₄, rfl, F₄, N₄, hne₄, hJ₄⟩
      exact ⟨_, by omega, h₄, tk₄, m₄, nx₄, i + 1, rfl, ⟨oI, (N₄ _ (.head _)).1, hc, hd⟩, F₄, fun p hp => N₄ p (.tail _ hp), hne₄, hJ₄, hlt, rfl⟩
    cases f with
    | next => exact wpAny_pure (.inl ⟨rfl, go h₃⟩)
    | cont => exact wpAny_pure (.inl ⟨rfl, go h₃⟩)
    | brk => exact wpAny_pure h₃
    | ret v => exact wpAny_pure h₃
  · have hin : i = vs.length := by omega
    subst hin
    refine wpAny_pyNext_list_end hh hit hl' (by simp) fun h₁ he₁ => ?_
    have F₁ : Fr g env.locals h₁ m' := ⟨F'.ns.at' fun o e => he₁ _ o LI e, fun b o e => he₁ b o (fun q => by rw [q, gI] at e; cases e) (F'.keep b o e), F'.above⟩
    have N₁ : News g env.locals h₁ nx := fun p hp => ⟨he₁ _ _ (hne p hp) (N' p hp).1, (N' p hp).2⟩
    exact wpAny_pure (.inr ⟨rfl, codeAny_block (wpAny_execs_nil (done m' nx h₁ tk hJ F₁ N₁))⟩)
theorem go_tuple {elts : List PySem.Expr} {x1 : Nat} {pos : Pos} {l : Addr} {vs : List Value} (h : ∀ (i : Nat) (v : Value), vs[i]? = some v → ∃ T, v = Value.ref T) :
    ∀ i v I (s : Shared) (Q' : Unit → Shared → Prop) (E' : Value → Shared → Prop), vs[i]? = some v → s.heap.IsListIter I l (i + 1) → Q' () s → wpAny (model prog w) A (letOwnedTupleGo (.Tuple elts x1 pos) (.ref I) v) Q' E' s := by
  intro i v I s Q' E' hv hit hq
  obtain ⟨T, rfl⟩ := h i v hv
  exact wpAny_letOwnedTupleGo_listiter hit hq
theorem go_name {x : Str} {pos : Pos} {l : Addr} {vs : List Value} :
    ∀ i v I (s : Shared) (Q' : Unit → Shared → Prop) (E' : Value → Shared → Prop), vs[i]? = some v → s.heap.IsListIter I l (i + 1) → Q' () s → wpAny (model prog w) A (letOwnedTupleGo (.Name x pos) (.ref I) v) Q' E' s :=
  fun _ _ _ _ _ _ _ _ hq => wpAny_pure hq
end

/-- a loop's state, all names in it -/
def KG {σ : Type} (Led : σ → List (Addr × Obj)) (ps : σ → List (Str × Value)) (stored : List Str) (m₀ : Str → Option Value) (P : Nat → σ → Prop) (tk : Nat) (m : Str → Option Value) (nx : List (Addr × Obj)) : Prop :=
  ∃ c : σ, nx = Led c ∧ (∀ p ∈ ps c, m p.1 = some p.2) ∧ (∀ z, (∀ p ∈ ps c, z ≠ p.1) → stored.contains z = false → m z = m₀ z) ∧ P tk c
section
variable {prog : Program} {w : World} {A : Around} {E : Value → Shared → Prop} {s : Shared} {env : Env} {g : Heap} {body : List Stmt} {Q : Flow → Shared → Prop}
theorem for_growK {σ : Type} {target iter : PySem.Expr} {pos : Pos} {l : Addr} {vs : List Value} {m₀ : Str → Option Value} (Led : σ → List (Addr × Obj)) (ps : σ → List (Str × Value)) (stored : List Str) (P : Nat → Nat → σ → Prop) (c₀ : σ)
    (hh : A.handled = none) (F : Fr g env.locals s.heap m₀) (N : News g env.locals s.heap (Led c₀)) (hk : ∀ p ∈ ps c₀, m₀ p.1 = some p.2)
    (hev : ∀ (Q' : Value → Shared → Prop), Q' (.ref l) s → wpAny (model prog w) A (eval iter env) Q' E s)
    (hlist : ∀ (c : σ) i tk m h, P i tk c → Fr g env.locals h m → News g env.locals h (Led c) → h.IsList l vs.toArray)
    (hgo : ∀ i v I (s : Shared) (Q' : Unit → Shared → Prop) (E' : Value → Shared → Prop), vs[i]? = some v → s.heap.IsListIter I l (i + 1) → Q' () s → wpAny (model prog w) A (letOwnedTupleGo target (.ref I) v) Q' E' s)
    (hp : P 0 s.toks c₀)
    (turn : ∀ (c : σ) i v (u : Str → Option Value) h tk I oI, vs[i]? = some v → P i tk c → (∀ p ∈ Led c, p.1 ≠ I) → Fr g env.locals h (kstB (fun z => if stored.contains z then u z else m₀ z) (ps c)) → News g env.locals h ((I, oI) :: Led c) →
      wpAny (model prog w) A (assign target env v) (fun _ s₂ => wpAny (model prog w) A (execs body env) (GEnd g env.locals (KG Led ps stored m₀ (P (i + 1))) I oI s Q) E s₂) E { s with heap := h, toks := tk })
    (done : ∀ (c : σ) (u : Str → Option Value) h tk, P vs.length tk c → Fr g env.locals h (kstB (fun z => if stored.contains z then u z else m₀ z) (ps c)) → News g env.locals h (Led c) → Q .next { s with heap := h, toks := tk })
    (hs : ∀ x, foldedSetIterable iter env x = pure x := by intro _; rfl)
    (hE : PassesOwn (model prog w) A env E := by passes_own) :
    wpAny (model prog w) A (exec (.For target iter body [] pos) env) Q E s := by
  refine for_grow (fun i tk m nx => KG Led ps stored m₀ (P i) tk m nx) hh F N hev ?_ hgo ⟨c₀, rfl, hk, fun _ _ _ => rfl, hp⟩ ?_ ?_ hs hE
  · rintro i tk m nx h ⟨c, rfl, _, _, hp⟩ F' N'
    exact hlist c i tk m h hp F' N'
  · rintro i v m₁ nx h tk I oI hv ⟨c, rfl, h1, h2, hp⟩ hne F' N'
    exact turn c i v m₁ h tk I oI hv hp hne (ksw_fr h1 h2 F') N'
  · rintro m₁ nx h tk ⟨c, rfl, h1, h2, hp⟩ F' N'
    exact done c m₁ h tk hp (ksw_fr h1 h2 F') N'
theorem kg_end {σ : Type} {Led : σ → List (Addr × Obj)} {ps : σ → List (Str × Value)} {stored : List Str} {m₀ : Str → Option Value} {P : Nat → σ → Prop} (c : σ) {L I : Addr} {oI : Obj} {m' : Str → Option Value} {news' : List (Addr × Obj)} {h' : Heap} {tk' : Nat}
    (F : Fr g L h' m') (N : News g L h' news') (hI : (I, oI) ∈ news') (hn : ∀ p ∈ Led c, p ∈ news') (ho : ∀ p ∈ Led c, p.1 ≠ I) (hk : ∀ p ∈ ps c, m' p.1 = some p.2) (hr : ∀ z, (∀ p ∈ ps c, z ≠ p.1) → stored.contains z = false → m' z = m₀ z) (hp : P tk' c) :
    GEnd g L (KG Led ps stored m₀ P) I oI s Q .next { s with heap := h', toks := tk' } := GEnd.next F N hI hn ho ⟨c, rfl, hk, hr, hp⟩
end
/-- n / d as Python reckons it -/
def divF (n d : Int) : UInt64 := Float64.ofFrac (decide (n < 0) != decide (d < 0)) n.natAbs d.natAbs
/-- what is asked of one lamp -/
def okOne (n a b : Nat) : Bool :=
  let x := divF n 16
  let y := divF a 4
  let z := divF b 2
  let c := hsvF x y z
  !(Float64.cmp y 0 == some Ordering.eq) && !Float64.isNaN (Float64.mul x 4618441417868443648) && !Float64.isInf (Float64.mul x 4618441417868443648) && Float64.isFinite (Float64.mul x 4618441417868443648) && decide ((hsvI x).natAbs < 100) &&
  !Float64.isInf x && !(Float64.cmp (min3 c.1 c.2.1 c.2.2) (max3 c.1 c.2.1 c.2.2) == some Ordering.eq) && !Float64.isZero (max3 c.1 c.2.1 c.2.2) && !Float64.isZero (Float64.sub (max3 c.1 c.2.1 c.2.2) (min3 c.1 c.2.1 c.2.2)) &&
  decide (rgbH c.1 c.2.1 c.2.2 = divF (n % 16 : Nat) 16) && decide (max3 c.1 c.2.1 c.2.2 = z)
theorem tab_1_1 : ((List.range 31).all fun n => okOne (n + 1) 1 1) = true := by decide +kernel
theorem tab_1_2 : ((List.range 31).all fun n => okOne (n + 1) 1 2) = true := by decide +kernel
theorem tab_2_1 : ((List.range 31).all fun n => okOne (n + 1) 2 1) = true := by decide +kernel
theorem tab_2_2 : ((List.range 31).all fun n => okOne (n + 1) 2 2) = true := by decide +kernel
theorem tab_3_1 : ((List.range 31).all fun n => okOne (n + 1) 3 1) = true := by decide +kernel
theorem tab_3_2 : ((List.range 31).all fun n => okOne (n + 1) 3 2) = true := by decide +kernel
theorem tab_4_1 : ((List.range 31).all fun n => okOne (n + 1) 4 1) = true := by decide +kernel
theorem tab_4_2 : ((List.range 31).all fun n => okOne (n + 1) 4 2) = true := by decide +kernel
theorem tab_all {n a b : Nat} (hn : 1 ≤ n) (hn2 : n ≤ 31) (ha : 1 ≤ a) (ha2 : a ≤ 4) (hb : 1 ≤ b) (hb2 : b ≤ 2) : okOne n a b = true := by
  obtain ⟨k, rfl⟩ : ∃ k, n = k + 1 := ⟨n - 1, by omega⟩
  have hk : k ∈ List.range 31 := List.mem_range.mpr (by omega)
  have h1 : a = 1 ∨ a = 2 ∨ a = 3 ∨ a = 4 := by omega
  have h2 : b = 1 ∨ b = 2 := by omega
  rcases h1 with rfl | rfl | rfl | rfl <;> rcases h2 with rfl | rfl
  · exact List.all_eq_true.mp tab_1_1 k hk
  · exact List.all_eq_true.mp tab_1_2 k hk
  · exact List.all_eq_true.mp tab_2_1 k hk
  · exact List.all_eq_true.mp tab_2_2 k hk
  · exact List.all_eq_true.mp tab_3_1 k hk
  · exact List.all_eq_true.mp tab_3_2 k hk
  · exact List.all_eq_true.mp tab_4_1 k hk
  · exact List.all_eq_true.mp tab_4_2 k hk
structure Lamp where
  a : Addr
  p : Int
  tp : Tok
  sh : UInt64
  ts : Tok
  lv : UInt64
  tl : Tok
abbrev Lamp.obj (x : Lamp) : Obj := tupOf [.int x.p x.tp, .float x.sh x.ts, .float x.lv x.tl]
abbrev refsOf (ls : List Lamp) : List Value := ls.map fun x => .ref x.a
structure Seen where
  a : Addr
  hue : UInt64
  th : Nat
  sg : Str
  tg : Tok
abbrev Seen.obj (x : Seen) : Obj := tupOf [.float x.hue x.th, .str x.sg x.tg]
abbrev seenRefs (ys : List Seen) : List Value := ys.map fun y => .ref y.a
abbrev seenLed (S : Addr) (c : List Seen × Nat) : List (Addr × Obj) := (S, PySem.W.listOf (seenRefs c.1).toArray c.2) :: c.1.map fun y => (y.a, y.obj)
/-- a lamp as the law builds it -/
def Lamp.Ok (x : Lamp) : Prop := 0 ≤ x.p ∧ x.p < 16 ∧ (∃ k : Nat, 1 ≤ k ∧ k ≤ 4 ∧ x.sh = divF k 4) ∧ ∃ k : Nat, 1 ≤ k ∧ k ≤ 2 ∧ x.lv = divF k 2
def Lamp.sign (x : Lamp) : Str := if (Float64.cmp x.lv 4604930618986332160 == some Ordering.gt) = true then Str.ofString "(" else Str.ofString ")"
def Lamp.hue (start : Int) (x : Lamp) : UInt64 := divF (((x.p + 16 - start).toNat % 16 : Nat)) 16
section
variable {w : World} {env : Env} {outer : List Env} {A A₀ : Around} {base g : Heap} {L : Addr} {m mg mb : Str → Option Value} {loose : List Str} {mean : ExcName → Option Value} {s : Shared} {Q E : Value → Shared → Prop} {nx : List (Addr × Obj)}
theorem led_new {a : Addr} {o : Obj} {h' : Heap} (F : Fr g L s.heap m) (N : News g L s.heap nx) (hk : Kept s.heap h') (ho : h'.get? a = some o) (hn : s.heap.get? a = none) : Fr g L h' m ∧ News g L h' ((a, o) :: nx) ∧ ∀ p ∈ nx, p.1 ≠ a := by
  refine ⟨F.grownK hk, fun p hp => ?_, fun p hp e => ?_⟩
  · rcases List.mem_cons.mp hp with rfl | hp
    · refine ⟨ho, ?_, ?_⟩
      · rintro rfl
        obtain ⟨oL, _, _, hL, _⟩ := F.ns
        rw [hL] at hn; cases hn
      · cases q : g.get? a with
        | none => rfl
        | some o' => rw [F.keep _ _ q] at hn; cases hn
    · exact ⟨hk _ _ (N p hp).1, (N p hp).2⟩
  · have := (N p hp).1
    rw [e, hn] at this; cases this
theorem call_hsv {x y z : UInt64} {tx ty tz : Tok} (B : Below A₀ base outer g) (F : Fr g L s.heap m) (N : News g L s.heap nx) (X : (hd.heap_39 w.params).In g) (T : Top hd.view_39 loose mean mg mb g)
    (hA : A.frames = some (env :: outer)) (hh : A.handled = none) (hd' : A.depth ≤ 600) (hu : A.units ≤ 600) (hf : env.frame = some L) (hke : env.scope.kind = .function)
    (hy : (Float64.cmp y 0 == some Ordering.eq) = false) (hfin : Float64.isFinite (Float64.mul x 4618441417868443648) = true) (hnan : Float64.isNaN (Float64.mul x 4618441417868443648) = false) (hinf : Float64.isInf (Float64.mul x 4618441417868443648) = false) (hi : (hsvI x).natAbs < 100)
    (h : ∀ a t1 t2 t3 h' tk', s.toks ≤ tk' → Fr g L h' m → News g L h' ((a, tupOf [.float (hsvF x y z).1 t1, .float (hsvF x y z).2.1 t2, .float (hsvF x y z).2.2 t3]) :: nx) → (∀ p ∈ nx, p.1 ≠ a) → Q (.ref a) { s with heap := h', toks := tk' }) :
    wpAny (model PySem.Challenge.rw_pe0090_01.row.prog w) A (call (.ref 28) [.float x tx, .float y ty, .float z tz]) Q E s := by
  refine wpAny_with_toks (n := s.toks) (Nat.le_refl _) ?_
  refine wp_around (A := AX 600 600 env outer) (hsv_spec B F X T hf hke hy hfin hnan hinf hi fun a t1 t2 t3 h' tk' hk ho hn htk => ?_) hh hd' hA rfl hu
  obtain ⟨F', N', hne⟩ := led_new F N hk ho hn
  exact h a t1 t2 t3 h' tk' htk F' N' hne
theorem call_rgb {x y z H V : UInt64} {tx ty tz : Tok} (B : Below A₀ base outer g) (F : Fr g L s.heap m) (N : News g L s.heap nx) (X : (hd.heap_39 w.params).In g) (T : Top hd.view_39 loose mean mg mb g)
    (hA : A.frames = some (env :: outer)) (hh : A.handled = none) (hd' : A.depth ≤ 600) (hu : A.units ≤ 600) (hf : env.frame = some L) (hke : env.scope.kind = .function)
    (hmm : (Float64.cmp (min3 x y z) (max3 x y z) == some Ordering.eq) = false) (hz1 : Float64.isZero (max3 x y z) = false) (hz2 : Float64.isZero (Float64.sub (max3 x y z) (min3 x y z)) = false) (eH : rgbH x y z = H) (eV : max3 x y z = V)
    (h : ∀ a t1 t2 t3 q h' tk', s.toks ≤ t1 → t1 < tk' → Fr g L h' m → News g L h' ((a, tupOf [.float H t1, .float q t2, .float V t3]) :: nx) → (∀ p ∈ nx, p.1 ≠ a) → Q (.ref a) { s with heap := h', toks := tk' }) :
    wpAny (model PySem.Challenge.rw_pe0090_01.row.prog w) A (call (.ref 21) [.float x tx, .float y ty, .float z tz]) Q E s := by
  refine wp_around (A := AX 600 600 env outer) (rgb_spec B F X T hf hke hmm hz1 hz2 fun a t1 t2 t3 h' tk' hu1 hu2 hk ho hn => ?_) hh hd' hA rfl hu
  rw [eH, eV] at ho
  obtain ⟨F', N', hne⟩ := led_new F N hk ho hn
  exact h a t1 t2 t3 _ h' tk' hu1 hu2 F' N' hne
end
end
section
section
variable {prog : Program} {w : World} {A : Around} {E : Value → Shared → Prop} {s : Shared} {g : Heap} {L S : Addr} {m : Str → Option Value} {nx : List (Addr × Obj)} {its : Array Value} {n : Nat} {x : Value}
theorem append_free {Q : Value → Shared → Prop} (F : Fr g L s.heap m) (N : News g L s.heap nx) (hS : (S, PySem.W.listOf its n) ∈ nx) (hz : its.size ≤ 1000)
    (h : ∀ h', Fr g L h' m → Heap.SameBut S s.heap h' → h'.get? S = some (PySem.W.listOf (its.push x) (n + 1)) → Q .none { s with heap := h' }) : wpAny (model prog w) A (call (.builtin "list.append") [.ref S, x]) Q E s := by
  have z := N _ hS
  exact append_at (hsz := by rw [sizeLine_eq]; omega) z.1 fun h' hs ho' => h h' (F.change hs z.2.1 z.2.2) hs ho'
theorem seen_grow {h h' : Heap} {I : Addr} {oI o : Obj} {ys : List Seen} {e : Nat} {d : Seen} (N : News g L h nx) (hd : (d.a, d.obj) ∈ nx) (hI : (I, oI) ∈ nx) (hys : ∀ y ∈ ys, (y.a, y.obj) ∈ nx) (hS : (S, o) ∈ nx) (hs : Heap.SameBut S h h') (ho : h'.get? S = some (PySem.W.listOf ((seenRefs ys).toArray.push (.ref d.a)) (e + 1)))
    (h1 : d.a ≠ S) (h2 : I ≠ S) (h3 : ∀ y ∈ ys, y.a ≠ S) : News g L h' ((I, oI) :: seenLed S (ys ++ [d], e + 1)) := by
  have one : ∀ p ∈ nx, p.1 ≠ S → h'.get? p.1 = some p.2 ∧ p.1 ≠ L ∧ g.get? p.1 = none := fun p hp hne => ⟨(hs.2 _ hne).trans (N p hp).1, (N p hp).2⟩
  intro p hp
  rcases List.mem_cons.mp hp with rfl | hp
  · exact one _ hI h2
  rcases List.mem_cons.mp hp with rfl | hp
  · refine ⟨?_, (N _ hS).2⟩
    rw [ho]
    simp [seenRefs]
  · obtain ⟨y, hy, rfl⟩ := List.mem_map.mp hp
    rcases List.mem_append.mp hy with hy | hy
    · exact one _ (hys y hy) (h3 y hy)
    · rw [List.mem_singleton.mp hy]; exact one _ hd h1
end
theorem seen_map {α β γ : Type} {f : α → γ} {k : β → γ} {ls : List β} {ys : List α} {i : Nat} {x : β} {d : α} (hx : ls[i]? = some x) (h : ys.map f = (ls.take i).map k) (hd : f d = k x) : (ys ++ [d]).map f = (ls.take (i + 1)).map k := by
  rw [List.map_append, h, List.take_add_one, hx]
  simp [hd]
theorem seen_off {S I : Addr} {ys : List Seen} {e : Nat} {d : Seen} {n : Nat} (hne : ∀ p ∈ seenLed S (ys, e), p.1 ≠ I) (hd : d.a ≠ I) : ∀ p ∈ seenLed S (ys ++ [d], n), p.1 ≠ I := by
  intro p hp
  rcases List.mem_cons.mp hp with rfl | hp
  · exact hne (S, PySem.W.listOf (seenRefs ys).toArray e) (.head _)
  · obtain ⟨y, hy, rfl⟩ := List.mem_map.mp hp
    rcases List.mem_append.mp hy with hy | hy
    · exact hne _ (.tail _ (List.mem_map_of_mem (f := fun y : Seen => (y.a, y.obj)) hy))
    · rw [List.mem_singleton.mp hy]; exact hd
theorem seen_offS {S : Addr} {ys : List Seen} {d : Seen} (h : ∀ y ∈ ys, y.a ≠ S) (hd : d.a ≠ S) : ∀ y ∈ ys ++ [d], y.a ≠ S := by
  intro y hy
  rcases List.mem_append.mp hy with hy | hy
  · exact h y hy
  · rw [List.mem_singleton.mp hy]; exact hd
theorem toks_grow {ys : List Seen} {d : Seen} {tk tk' : Nat} (h0 : 0 < tk) (h4 : ∀ y ∈ ys, 0 < y.th ∧ y.th < tk) (h5 : ys.Pairwise fun a b => a.th ≠ b.th) (hd1 : tk ≤ d.th) (hd2 : d.th < tk') : 0 < tk' ∧ (∀ y ∈ ys ++ [d], 0 < y.th ∧ y.th < tk') ∧ (ys ++ [d]).Pairwise fun a b => a.th ≠ b.th := by
  refine ⟨by omega, fun y hy => ?_, List.pairwise_append.mpr ⟨h5, List.pairwise_singleton _ _, fun a ha b hb => ?_⟩⟩
  · rcases List.mem_append.mp hy with hy | hy
    · have := h4 y hy; omega
    · rw [List.mem_singleton.mp hy]; omega
  · have := h4 a ha
    rw [List.mem_singleton.mp hb]; omega
section
variable {prog : Program} {w : World} {A : Around} {E : Value → Shared → Prop} {s : Shared} {Q : Bool → Shared → Prop} {a b : UInt64} {t u : Tok}
theorem eqBool_float (ht : 0 < t) (hu : 0 < u) (htu : t ≠ u) (hne : (a == b) = false) (hc : (Float64.cmp a b == some Ordering.eq) = false) (h : Q false s) : wpAny (model prog w) A (eqBool (.float a t) (.float b u)) Q E s := by
  unfold eqBool
  show wpAny _ _ (if (Value.float a t == Value.float b u) = true then _ else _) Q E s
  rw [if_neg (fun hab => by
    have : Value.float a t = Value.float b u := eq_of_beq hab
    injection this with e1 e2
    exact htu e2)]
  refine wpAny_bind ?_
  show wpAny _ _ (isSame.created (a == b && !Float64.isNaN a) t u) _ E s
  have e1 : (t == 0 || u == 0) = false := by
    have h1 : t ≠ 0 := Nat.ne_of_gt ht
    have h2 : u ≠ 0 := Nat.ne_of_gt hu
    simp [h1, h2]
  have e2 : (t == u) = false := by simpa using htu
  have e3 : isSame.created (a == b && !Float64.isNaN a) t u = pure false := by
    unfold isSame.created
    rw [hne, e1, e2]
    rfl
  rw [e3]
  refine wpAny_pure ?_
  simp only [Bool.false_eq_true, if_false]
  refine wpAny_bind (show wpAny (model prog w) A (compareOp .Eq (.float a t) (.float b u)) _ E s from AutoFloatOps.eq_0 ?_)
  rw [hc]
  exact wpAny_truthy_bool h
theorem oneLt_float (h : Q (Float64.cmp a b == some Ordering.lt) s) : wpAny (model prog w) A (oneLt' true (.float a t) (.float b u)) Q E s := by
  rw [oneLt'_eq]
  simp only [if_true]
  refine wpAny_bind (wpAny_cRoomFor_byValue rfl ?_)
  refine wpAny_bind (wpAny_callSpecialIfBound?_slot (typeIs_float s a t) F.slot_float_lt (call_gives F.slot_float_lt (typeIs_float s a t) F.entry_float_lt (F.args_float_lt_2 _ _) (AutoFloatG5.float___lt___float_float_0 a t b u) ?_))
  exact wpAny_truthy_bool h
end
/-- a sort's answer where the questions are answered by lt -/
def kasRun {α : Type} (lt : Nat → Nat → Bool) : KasT α → α
  | .ret a => a
  | .ask i j k => kasRun lt (k (lt i j))
def kasOk {α : Type} (lt : Nat → Nat → Bool) (n : Nat) : KasT α → Bool
  | .ret _ => true
  | .ask i j k => Nat.blt i n && Nat.blt j n && !(Nat.beq i j) && kasOk lt n (k (lt i j))
theorem kas_by {α : Type} {cmp : Nat → Nat → (Bool → Shared → Prop) → Shared → Prop} {lt : Nat → Nat → Bool} {n : Nat} {Q : α → Shared → Prop} {s : Shared}
    (hc : ∀ i j (C : Bool → Shared → Prop), i < n → j < n → i ≠ j → C (lt i j) s → cmp i j C s) : ∀ (t : KasT α), kasOk lt n t = true → Q (kasRun lt t) s → t.kasWp cmp Q s
  | .ret _, _, h => h
  | .ask i j k, ho, h => by
    simp only [kasOk, Bool.and_eq_true, Bool.not_eq_true'] at ho
    obtain ⟨⟨⟨h1, h2⟩, h3⟩, h4⟩ := ho
    exact hc i j _ (Nat.le_of_ble_eq_true h1) (Nat.le_of_ble_eq_true h2) (Nat.ne_of_beq_eq_false h3) (kas_by hc (k (lt i j)) h4 h)
def ltRot (n k i j : Nat) : Bool := Nat.blt ((i + n - k) % n) ((j + n - k) % n)
def rotOk (n k : Nat) : Bool := kasOk (ltRot n k) n (kas_sort n) && (kasRun (ltRot n k) (kas_sort n)).toList == (List.range n).map fun i => (i + k) % n
theorem rot_ok {n k : Nat} (h6 : 6 ≤ n) (h8 : n ≤ 8) (hk : k < n) : rotOk n k = true := by
  have all : ([6, 7, 8].all fun n => (List.range n).all fun k => rotOk n k) = true := by decide +kernel
  have hn : n ∈ [6, 7, 8] := by
    have : n = 6 ∨ n = 7 ∨ n = 8 := by omega
    rcases this with rfl | rfl | rfl <;> simp
  exact List.all_eq_true.mp (List.all_eq_true.mp all n hn) k (List.mem_range.mpr hk)
section
variable {prog : Program} {w : World} {A : Around} {E : Value → Shared → Prop} {s : Shared} {h₀ : Heap} {L : Addr} {m : Str → Option Value} {news : List (Addr × Obj)}
/-- sorted of a list of tuples, where the compares are known -/
theorem sorted_by {vs fs : List Value} {T : Value} {lt : Nat → Nat → Bool} {l : Addr} {Q : Value → Shared → Prop} (F : Fr h₀ L s.heap m) (N : News h₀ L s.heap news) (hl : s.heap.IsList l vs.toArray) (h2 : 2 ≤ vs.length) (h64 : vs.length < 64)
    (hok : kasOk lt vs.length (kas_sort vs.length) = true) (hne : 0 < fs.length) (hT2 : (T == T) = true) (hT3 : (T != Value.type "tuple") = true)
    (ht : ∀ h', Fr h₀ L h' m → News h₀ L h' news → KatTups h' vs fs) (hty : ∀ h', Fr h₀ L h' m → News h₀ L h' news → ∀ v ∈ fs, Looks (model prog w) h' (typeOf v) T)
    (hc : ∀ h', Fr h₀ L h' m → News h₀ L h' news → ∀ i j, i < vs.length → j < vs.length → i ≠ j → ∀ (C : Bool → Shared → Prop), C (lt i j) { s with heap := h' } → wpAny (model prog w) A.in1.in1 (keyLt' (tuples' true) (vs.getD i Value.none) (vs.getD j Value.none)) C (fun _ _ => False) { s with heap := h' })
    (h : ∀ D c h', Fr h₀ L h' m → News h₀ L h' ((D, PySem.W.listOf ((kasRun lt (kas_sort vs.length)).toList.map fun i => vs.getD i Value.none).toArray c) :: news) → (∀ q ∈ news, q.1 < D) → Q (.ref D) { s with heap := h' }) :
    wpAny (model prog w) A (call (.builtin "sorted") [.ref l]) Q E s := by
  refine kat_sorted F N hl h2 h64 fun D e1 h' F' N' hD => ?_
  have N'' : News h₀ L h' news := fun p hp => N' p (.tail _ hp)
  refine kat_kind (s := { s with heap := h' }) (ht h' F' N'') hne (hty h' F' N'') hT2 ?_
  rw [hT3]
  refine kas_by (lt := lt) (n := vs.length) (fun i j C hi hj hij hC => hc h' F' N'' i j hi hj hij C hC) _ hok ?_
  exact KasFin.intro F' N' (.head fun q hq => Nat.ne_of_lt (hD q hq)) fun h2 c F2 N2 => h D c h2 F2 N2 hD
theorem look_float {a : UInt64} {t : Tok} {hh : Heap} : Looks (model prog w) hh (typeOf (.float a t)) (.type "float") := .now
/-- two tuples with a float ahead, compared -/
theorem lt_floats {x y : Addr} {a b : UInt64} {t u : Tok} {p q : Value} {C : Bool → Shared → Prop} (hx : s.heap.get? x = some (tupOf [.float a t, p])) (hy : s.heap.get? y = some (tupOf [.float b u, q])) (ht : 0 < t) (hu : 0 < u) (htu : t ≠ u) (hne : (a == b) = false) (hc : (Float64.cmp a b == some Ordering.eq) = false)
    (h : C (Float64.cmp a b == some Ordering.lt) s) : wpAny (model prog w) A (keyLt' (tuples' true) (.ref x) (.ref y)) C (fun _ _ => False) s :=
  kat_lt hx rfl hy rfl (kat_cons (eqBool_float ht hu htu hne hc (kat_no (oneLt_float h))))
end
def hueOk (a b : Nat) : Bool := (Float64.cmp (divF a 16) (divF b 16) == some Ordering.lt) == Nat.blt a b && (Nat.beq a b || (!(divF a 16 == divF b 16) && !(Float64.cmp (divF a 16) (divF b 16) == some Ordering.eq)))
theorem hue_all : ((List.range 16).all fun a => (List.range 16).all fun b => hueOk a b) = true := by decide +kernel
theorem hue_cmp {a b : Nat} (ha : a < 16) (hb : b < 16) (hab : a ≠ b) : (divF a 16 == divF b 16) = false ∧ (Float64.cmp (divF a 16) (divF b 16) == some Ordering.eq) = false ∧ (Float64.cmp (divF a 16) (divF b 16) == some Ordering.lt) = Nat.blt a b := by
  have h := List.all_eq_true.mp (List.all_eq_true.mp hue_all a (List.mem_range.mpr ha)) b (List.mem_range.mpr hb)
  simp only [hueOk, Bool.and_eq_true, Bool.or_eq_true, Bool.not_eq_true', beq_iff_eq] at h
  obtain ⟨h1, h2⟩ := h
  rcases h2 with h2 | ⟨h2, h3⟩
  · exact absurd (Nat.eq_of_beq_eq_true h2) hab
  · exact ⟨by simpa using h2, by simpa using h3, h1⟩
theorem katTups_seen {hh : Heap} : ∀ (ys : List Seen), (∀ y ∈ ys, hh.get? y.a = some y.obj) → KatTups hh (seenRefs ys) (ys.map fun y => .float y.hue y.th)
  | [], _ => .nil
  | y :: ys, h => .cons (h y (.head _)) rfl rfl rfl (katTups_seen ys fun z hz => h z (.tail _ hz))
def Seen.dflt : Seen := ⟨0, 0, 0, ⟨#[]⟩, 0⟩
def turned {α : Type} (k : Nat) (ys : List α) (d : α) : List α := (List.range ys.length).map fun i => ys.getD ((i + k) % ys.length) d
theorem turned_mem {α : Type} {k : Nat} {ys : List α} {d x : α} (h0 : 0 < ys.length) (h : x ∈ turned k ys d) : x ∈ ys := by
  obtain ⟨i, _, rfl⟩ := List.mem_map.mp h
  have : (i + k) % ys.length < ys.length := Nat.mod_lt _ h0
  rw [List.getD_eq_getElem?_getD, List.getElem?_eq_getElem this]
  exact List.getElem_mem _
theorem turned_map {α β : Type} {k : Nat} {ys : List α} {d : α} {e : β} (f : α → β) (h0 : 0 < ys.length) : (turned k ys d).map f = turned k (ys.map f) e := by
  unfold turned
  rw [List.map_map, List.length_map]
  refine List.map_congr_left fun i _ => ?_
  have : (i + k) % ys.length < ys.length := Nat.mod_lt _ h0
  simp [this]
theorem turned_length {α : Type} {k : Nat} {ys : List α} {d : α} : (turned k ys d).length = ys.length := by simp [turned]
/-- the places seen from one of them -/
theorem rot_lt {ps : List Int} {k i j : Nat} {start : Int} (hord : ps.Pairwise (· < ·)) (hb : ∀ p ∈ ps, 0 ≤ p ∧ p < 16) (hk : ps[k]? = some start) {pi pj : Int} (hi : ps[i]? = some pi) (hj : ps[j]? = some pj) (hij : i ≠ j) :
    (pi + 16 - start).toNat % 16 ≠ (pj + 16 - start).toNat % 16 ∧ Nat.blt ((pi + 16 - start).toNat % 16) ((pj + 16 - start).toNat % 16) = ltRot ps.length k i j := by
  have mono : ∀ {a b : Nat} {x y : Int}, ps[a]? = some x → ps[b]? = some y → a < b → x < y := by
    intro a b x y ha hb' hab
    obtain ⟨ha1, ha2⟩ := List.getElem?_eq_some_iff.mp ha
    obtain ⟨hb1, hb2⟩ := List.getElem?_eq_some_iff.mp hb'
    have := List.pairwise_iff_getElem.mp hord a b ha1 hb1 hab
    rw [ha2, hb2] at this
    exact this
  have bk := hb _ (List.mem_of_getElem? hk)
  have bi := hb _ (List.mem_of_getElem? hi)
  have bj := hb _ (List.mem_of_getElem? hj)
  have lk := (List.getElem?_eq_some_iff.mp hk).1
  have li := (List.getElem?_eq_some_iff.mp hi).1
  have lj := (List.getElem?_eq_some_iff.mp hj).1
  have at_ : ∀ {a : Nat} {x : Int}, ps[a]? = some x → (k ≤ a ∧ start ≤ x ∧ (x + 16 - start).toNat % 16 = (x - start).toNat ∧ (a + ps.length - k) % ps.length = a - k) ∨ (a < k ∧ x < start ∧ (x + 16 - start).toNat % 16 = (x + 16 - start).toNat ∧ (a + ps.length - k) % ps.length = a + ps.length - k) := by
    intro a x ha
    have bx := hb _ (List.mem_of_getElem? ha)
    have la := (List.getElem?_eq_some_iff.mp ha).1
    rcases Nat.lt_trichotomy a k with h | h | h
    · have := mono ha hk h
      exact .inr ⟨h, this, Nat.mod_eq_of_lt (by omega), Nat.mod_eq_of_lt (by omega)⟩
    · subst h
      rw [hk] at ha
      cases ha
      refine .inl ⟨Nat.le_refl _, Int.le_refl _, by omega, ?_⟩
      rw [show a + ps.length - a = ps.length by omega, Nat.mod_self, Nat.sub_self]
    · have := mono hk ha h
      refine .inl ⟨Nat.le_of_lt h, Int.le_of_lt this, by omega, ?_⟩
      rw [show a + ps.length - k = a - k + ps.length by omega, Nat.add_mod_right]
      exact Nat.mod_eq_of_lt (by omega)
  have key : (i < j ∧ pi < pj) ∨ (j < i ∧ pj < pi) := by
    rcases Nat.lt_or_gt_of_ne hij with h | h
    · exact .inl ⟨h, mono hi hj h⟩
    · exact .inr ⟨h, mono hj hi h⟩
  unfold ltRot
  have e : ∀ a b c d : Nat, (a < b ↔ c < d) → Nat.blt a b = Nat.blt c d := by
    intro a b c d h
    rw [Bool.eq_iff_iff, Nat.blt_eq, Nat.blt_eq]; exact h
  rcases at_ hi with ⟨i1, i2, i3, i4⟩ | ⟨i1, i2, i3, i4⟩ <;> rcases at_ hj with ⟨j1, j2, j3, j4⟩ | ⟨j1, j2, j3, j4⟩ <;> rw [i3, j3, i4, j4] <;> rcases key with ⟨k1, k2⟩ | ⟨k1, k2⟩ <;> exact ⟨by omega, e _ _ _ _ (by omega)⟩
theorem turn_news {g hh : Heap} {L D S : Addr} {o : Obj} {k e : Nat} {ys : List Seen} (h0 : 0 < ys.length) (N : News g L hh ((D, o) :: seenLed S (ys, e))) : News g L hh ((D, o) :: (turned k ys Seen.dflt).map fun y => (y.a, y.obj)) := by
  intro p hp
  rcases List.mem_cons.mp hp with rfl | hp
  · exact N _ (.head _)
  · obtain ⟨y, hy, rfl⟩ := List.mem_map.mp hp
    exact N _ (.tail _ (.tail _ (List.mem_map_of_mem (f := fun y : Seen => (y.a, y.obj)) (turned_mem h0 hy))))
end
section
local macro_rules | `(tactic| walk_at "my enter") => `(tactic| (refine wpAny_call ?_; refine' pure_call ?k1 ?k2 ?k3 ?k5 ?kA ?kF ?kK ?k6 ?k7 ?k8 ?k9 ?kB ?_ ?c2 ?c3 ?c4 ?c5; (case kA => exact rfl); (case kF => first | assumption | exact rfl); (case kK => first | assumption | exact rfl); (case k1 => k_asm); (case k2 => k_asm); (case k3 => k_asm); (case k5 => k_asm); (case k6 => k_is); (case k7 => k_is); (case k8 => exact Nat.le_of_ble_eq_true rfl); (case k9 => exact BindsTo.of_eq rfl); (case c5 => decide); (case kB => exact locs rfl); (case c2 => exact rfl); (case c3 => exact rfl); (case c4 => exact rfl); k_whole; intro g' L' h' hg' F' N' B' X' T'; (try dsimp only)))
local macro_rules | `(tactic| walk_at "InvEndN") => `(tactic| refine halt ?_)
local macro_rules | `(tactic| walk_at "pyIter str") => `(tactic| refine halt ?_)
local macro_rules | `(tactic| walk_at "loadName") => `(tactic| refine ldn (by assumption) (by rfl) ?_)
local macro_rules | `(tactic| walk_at "exec Assert") => `(tactic| ((fail_if_success (rename Mark 1 => mkX)); refine halt ?_))
local macro_rules | `(tactic| walk_at "truthy str") => `(tactic| (refine truthy_str (by omega) ?_))
section
variable {prog : Program} {w : World} {A : Around} {h₀ : Heap} {L : Addr} {m : Str → Option Value} {env : Env} {s : Shared} {elt : PySem.Expr} {x : Str} {scope : Scope} {cl : List (Str × Addr)} {S : List (Addr × Obj) → Prop} {P : Nat → Value → Prop} {Fin : List Value → List (Addr × Obj) → Prop} {news : List (Addr × Obj)}
/-- the turns of a comprehension, by what each item gives -/
theorem comp_rest (f : Nat → Value → Prop) {n : Nat} (hS : S news)
    (one : ∀ i v I oI C oC D m₂ h tk ys (Q E : Value → Shared → Prop), i < n → P i v → LCg.NsObj oC m₂ → m₂ x = some v → Fr h₀ L h m → News h₀ L h ((I, oI) :: (C, oC) :: (D, LCg.lst ys) :: news) → (∀ y tk', f i y → Q y { s with heap := h, toks := tk' }) →
      wpAny (model prog w) A (eval elt (compEnvC scope cl C env)) Q E { s with heap := h, toks := tk })
    (fin : ∀ ys, ys.length = n → (∀ i y, ys[i]? = some y → f i y) → Fin ys news) : LCg.CompRest prog w A h₀ L m env elt x scope cl s S P Fin n 0 [] news := by
  have go : ∀ k i ys, i + k = n → ys.length = i → (∀ (j : Nat) (y : Value), ys[j]? = some y → f j y) → LCg.CompRest prog w A h₀ L m env elt x scope cl s S P Fin k i ys news := by
    intro k
    induction k with
    | zero => exact fun i ys hi hl hf => LCg.CompRest.zero (fin ys (by omega) hf)
    | succ k ih =>
      intro i ys hi hl hf
      refine LCg.CompRest.succ fun v I oI C oC D m₂ h tk E' hP hC hx F N off hne => ?_
      refine one i v I oI C oC D m₂ h tk ys _ _ (by omega) hP hC hx F N fun y tk' hy => ?_
      refine ⟨h, tk', news, rfl, F, N, off, hS, ih (i + 1) (ys ++ [y]) (by omega) (by simp [hl]) fun j z hz => ?_⟩
      rcases Nat.lt_or_ge j ys.length with hj | hj
      · rw [List.getElem?_append_left hj] at hz; exact hf j z hz
      · rw [List.getElem?_append_right hj] at hz
        have : j - ys.length = 0 := by
          rcases Nat.eq_zero_or_pos (j - ys.length) with e | e
          · exact e
          · rw [List.getElem?_eq_none (by simp; omega)] at hz; cases hz
        rw [this] at hz
        have hj' : j = i := by omega
        rw [hj']
        exact Option.some.inj hz ▸ hy
  exact go n 0 [] (by omega) rfl fun j y h => by simp at h
end
local macro_rules | `(tactic| walk_at "exec For Tuple Name") => `(tactic| refine halt ?_)
local macro_rules | `(tactic| walk_at "call ref") => `(tactic| first
  | ((with_reducible show wpAny _ _ (call (Value.ref 28) _) _ _ _); (refine' call_hsv ?k1 ?k2 ?k3 ?k4 ?k5 rfl rfl (Nat.le_of_ble_eq_true rfl) (Nat.le_of_ble_eq_true rfl) rfl rfl ?f1 ?f2 ?f3 ?f4 ?f5 ?_; (case k1 => k_asm); (case k2 => k_asm); (case k3 => k_asm); (case k4 => k_asm); (case k5 => k_asm); (case f1 => assumption); (case f2 => assumption); (case f3 => assumption); (case f4 => assumption); (case f5 => assumption); intro a' t1' t2' t3' h' tk' htk' F' N' hne'))
  | ((with_reducible show wpAny _ _ (call (Value.ref 21) _) _ _ _); (refine' call_rgb ?k1 ?k2 ?k3 ?k4 ?k5 rfl rfl (Nat.le_of_ble_eq_true rfl) (Nat.le_of_ble_eq_true rfl) rfl rfl ?f1 ?f2 ?f3 ?f4 ?f5 ?_; (case k1 => k_asm); (case k2 => k_asm); (case k3 => k_asm); (case k4 => k_asm); (case k5 => k_asm); (case f1 => assumption); (case f2 => assumption); (case f3 => assumption); (case f4 => assumption); (case f5 => assumption); intro a' t1' t2' t3' q' h' tk' hu1' hu2' F' N' hne'))
  | refine halt ?_)
local macro_rules | `(tactic| walk_at "call builtin:list.append") => `(tactic| refine halt ?_)
local macro_rules | `(tactic| walk_at "execs cons") => `(tactic| (with_reducible refine gen_toks ?_; intro tk' htk'))
local macro_rules | `(tactic| walk_at "execs nil") => `(tactic| (with_reducible refine gen_toks ?_; intro tk' htk'))
local macro_rules | `(tactic| walk_at "eval ListComp") => `(tactic| (k_dflt (refine LCg.ListComp_U (F₀ := by k_asm) (by rfl) (by decide) (by rfl) (by decide) (by rfl) ?_)))
local macro_rules | `(tactic| walk_at "subscriptTail Name Constant ref int") => `(tactic| refine halt ?_)
local macro_rules | `(tactic| walk_at "call builtin:str.join") => `(tactic| refine halt ?_)
theorem one_ok {n a b : Nat} {x y z : UInt64} (hx : x = divF n 16) (hy : y = divF a 4) (hz : z = divF b 2) (h : okOne n a b = true) : (Float64.cmp y 0 == some Ordering.eq) = false ∧ Float64.isNaN (Float64.mul x 4618441417868443648) = false ∧ Float64.isInf (Float64.mul x 4618441417868443648) = false ∧ Float64.isFinite (Float64.mul x 4618441417868443648) = true ∧ (hsvI x).natAbs < 100 ∧ Float64.isInf x = false ∧
    (Float64.cmp (min3 (hsvF x y z).1 (hsvF x y z).2.1 (hsvF x y z).2.2) (max3 (hsvF x y z).1 (hsvF x y z).2.1 (hsvF x y z).2.2) == some Ordering.eq) = false ∧ Float64.isZero (max3 (hsvF x y z).1 (hsvF x y z).2.1 (hsvF x y z).2.2) = false ∧ Float64.isZero (Float64.sub (max3 (hsvF x y z).1 (hsvF x y z).2.1 (hsvF x y z).2.2) (min3 (hsvF x y z).1 (hsvF x y z).2.1 (hsvF x y z).2.2)) = false ∧
    rgbH (hsvF x y z).1 (hsvF x y z).2.1 (hsvF x y z).2.2 = divF (n % 16 : Nat) 16 ∧ max3 (hsvF x y z).1 (hsvF x y z).2.1 (hsvF x y z).2.2 = z := by
  subst hx hy hz
  simp only [okOne, Bool.and_eq_true, Bool.not_eq_true', decide_eq_true_eq] at h
  obtain ⟨⟨⟨⟨⟨⟨⟨⟨⟨⟨h1, h2⟩, h3⟩, h4⟩, h5⟩, h6⟩, h7⟩, h8⟩, h9⟩, h10⟩, h11⟩ := h
  exact ⟨h1, h2, h3, h4, h5, h6, h7, h8, h9, h10, h11⟩
theorem name_head {g h : Heap} {L a : Addr} {o : Obj} (N : News g L h [(a, o)]) : ∃ S, S = a ∧ News g L h [(S, o)] := ⟨a, rfl, N⟩
theorem read_spec {w : World} {env : Env} {outer : List Env} {A₀ : Around} {base h₀ : Heap} {L : Addr} {m mg mb : Str → Option Value} {loose : List Str} {mean : ExcName → Option Value} {s : Shared} {Q E : Value → Shared → Prop} {l : Addr} {ls : List Lamp} {start : Int} {t0 : Tok}
   (B : Below A₀ base outer h₀) (F : Fr h₀ L s.heap m) (X : (hd.heap_39 w.params).In h₀) (T : Top hd.view_39 loose mean mg mb h₀) (hf : env.frame = some L) (hke : env.scope.kind = .function)
   (hl : s.heap.IsList l (refsOf ls).toArray) (ht : ∀ x ∈ ls, s.heap.get? x.a = some x.obj) (hok : ∀ x ∈ ls, x.Ok) (hs0 : 0 ≤ start) (hs1 : start < 16) (hn8 : ls.length ≤ 8) (hn6 : 6 ≤ ls.length) (hord : (ls.map (·.p)).Pairwise (· < ·)) {k : Nat} (hkk : (ls.map (·.p))[k]? = some start)
   (hret : ∀ t h' tk', Kept s.heap h' → Q (.str (Txt.join (Str.ofString "") (turned k (ls.map Lamp.sign) (Str.ofString ")"))) t) { s with heap := h', toks := tk' }) :
   wpAny (model PySem.Challenge.rw_pe0090_01.row.prog w) (AX 500 500 env outer) (call (.ref 61) [.ref l, .int start t0]) Q E s := by
  w_top off
  k_dflt (walk_at "my enter")
  k_fold
  k_steps
  refine Halt.go ?_
  rename Fr _ _ _ _ => F1
  rename News _ _ _ _ => N1
  rename _ = s.heap => hg
  obtain ⟨S, hS, N1'⟩ := name_head N1
  subst hS
  clear N1'
  have hl' := hl
  rw [← hg] at hl'
  refine for_growK (σ := List Seen × Nat) (seenLed S) (fun _ => []) [Str.ofString "place", Str.ofString "share", Str.ofString "level", Str.ofString "hue", Str.ofString "told", Str.ofString "value"] (fun i tk c => c.1.length ≤ i ∧ c.1.map (fun y => (y.hue, y.sg)) = (ls.take i).map (fun x => (x.hue start, x.sign)) ∧ (∀ y ∈ c.1, y.a ≠ S) ∧ 0 < tk ∧ (∀ y ∈ c.1, 0 < y.th ∧ y.th < tk) ∧ c.1.Pairwise fun a b => a.th ≠ b.th) ([], 0) rfl F1 N1 (fun _ h => nomatch h) (fun Q' hq => ?hev) (fun c i _ m' h _ F' _ => hl'.at fun o e => F'.keep _ o e) (go_tuple ?hgo) ⟨Nat.le_refl _, rfl, fun _ h => (nomatch h), ?pos, fun _ h => (nomatch h), List.Pairwise.nil⟩ ?turn ?done
  case pos => clear hret; dsimp only at *; omega
  case hev => k_steps; exact hq
  case hgo =>
    intro i v hv
    rw [refsOf, List.getElem?_map] at hv
    cases hq : ls[i]? with
    | none => rw [hq] at hv; cases hv
    | some x => rw [hq] at hv; exact ⟨_, (Option.some.inj hv).symm⟩
  case turn =>
    rintro ⟨ys, e⟩ i v u h tk I oI hv ⟨hP0, hP1, hP2, hP3, hP4, hP5⟩ hne F2 N2
    obtain ⟨x, hx, rfl⟩ : ∃ x, ls[i]? = some x ∧ v = Value.ref x.a := by
      rw [refsOf, List.getElem?_map] at hv
      cases hq : ls[i]? with
      | none => rw [hq] at hv; cases hv
      | some x => rw [hq] at hv; exact ⟨_, rfl, (Option.some.inj hv).symm⟩
    clear F1 N1
    have hxm := List.mem_of_getElem? hx
    have hi8 : i < ls.length := (List.getElem?_eq_some_iff.mp hx).1
    dsimp only at hP0 hP1 hP2 hP3 hP4 hP5
    have hxt : h.IsTuple x.a #[.int x.p x.tp, .float x.sh x.ts, .float x.lv x.tl] := ⟨_, F2.keep _ _ (hg ▸ ht x hxm), rfl, 0, rfl⟩
    refine wpAny_assign_Tuple rfl hxt rfl rfl fun h2 hx2 => ?_
    have F3 := F2.extBut hx2 (Nat.le_refl _)
    have N3 := N2.extBut hx2 (Nat.le_refl _)
    clear F2 N2 hxt
    obtain ⟨hp0, hp1, ⟨ka, hka1, hka2, hsh⟩, kb, hkb1, hkb2, hlv⟩ := hok x hxm
    obtain ⟨n, hn⟩ : ∃ n : Nat, x.p + 16 - start = (n : Int) := ⟨(x.p + 16 - start).toNat, by omega⟩
    have ediv : Float64.ofFrac (decide (x.p + 16 - start < 0) != decide ((16 : Int) < 0)) (x.p + 16 - start).natAbs (Int.natAbs 16) = divF n 16 := by rw [hn]; rfl
    obtain ⟨f1, f3, f4, f2, f5, f6, f7, f8, f9, f10, f11⟩ := one_ok ediv hsh hlv (tab_all (by omega) (by omega) hka1 hka2 hkb1 hkb2)
    k_steps
    · refine Halt.go ?_
      rename News _ _ _ _ => N5
      rename Fr _ _ _ _ => F5
      rename (_ ∧ _ ∧ _ ∧ _ ∧ AllLt _ _) => hlt
      rename (_ == some Ordering.gt) = true => hgt
      refine append_free F5 N5 (.tail _ (.tail _ (.tail _ (.tail _ (.head _))))) (by simp [seenRefs]; omega) fun h6 F6 hsb ho => ?_
      have hsgn : x.sign = Str.ofString "(" := if_pos hgt
      have N6 := seen_grow (d := ⟨_, _, _, _, _⟩) N5 (.head _) (.tail _ (.tail _ (.tail _ (.head _)))) (fun y hy => .tail _ (.tail _ (.tail _ (.tail _ (.tail _ (List.mem_map_of_mem (f := fun y : Seen => (y.a, y.obj)) hy)))))) (.tail _ (.tail _ (.tail _ (.tail _ (.head _))))) hsb ho (Ne.symm (Nat.ne_of_lt hlt.2.2.2.1)) (Ne.symm (hne _ (.head _))) hP2
      clear N5 F5
      k_steps
      refine kg_end (_, _) F6 N6 (.head _) (fun p hp => .tail _ hp) ?_ (fun _ h => nomatch h) (fun z _ h3 => ?_) ⟨?_, ?_⟩
      · exact seen_off hne (Ne.symm (Nat.ne_of_lt hlt.2.2.1))
      · simp only [List.contains_cons, List.contains_nil, Bool.or_false, Bool.or_eq_false_iff, beq_eq_false_iff_ne, ne_eq] at h3
        obtain ⟨a1, a2, a3, a4, a5, a6⟩ := h3
        simp [kstB, a1, a2, a3, a4, a5, a6]
      · simp; omega
      · exact ⟨seen_map hx hP1 (by rw [hsgn]; unfold Lamp.hue; rw [hn]; rfl), seen_offS hP2 (Ne.symm (Nat.ne_of_lt hlt.2.2.2.1)), toks_grow hP3 hP4 hP5 (by clear hret; dsimp only at *; omega) (by clear hret; dsimp only at *; omega)⟩
    · refine Halt.go ?_
      rename News _ _ _ _ => N5
      rename Fr _ _ _ _ => F5
      rename (_ ∧ _ ∧ _ ∧ _ ∧ AllLt _ _) => hlt
      rename (_ == some Ordering.gt) = false => hgt
      refine append_free F5 N5 (.tail _ (.tail _ (.tail _ (.tail _ (.head _))))) (by simp [seenRefs]; omega) fun h6 F6 hsb ho => ?_
      have hsgn : x.sign = Str.ofString ")" := if_neg (by rw [hgt]; decide)
      have N6 := seen_grow (d := ⟨_, _, _, _, _⟩) N5 (.head _) (.tail _ (.tail _ (.tail _ (.head _)))) (fun y hy => .tail _ (.tail _ (.tail _ (.tail _ (.tail _ (List.mem_map_of_mem (f := fun y : Seen => (y.a, y.obj)) hy)))))) (.tail _ (.tail _ (.tail _ (.tail _ (.head _))))) hsb ho (Ne.symm (Nat.ne_of_lt hlt.2.2.2.1)) (Ne.symm (hne _ (.head _))) hP2
      clear N5 F5
      k_steps
      refine kg_end (_, _) F6 N6 (.head _) (fun p hp => .tail _ hp) ?_ (fun _ h => nomatch h) (fun z _ h3 => ?_) ⟨?_, ?_⟩
      · exact seen_off hne (Ne.symm (Nat.ne_of_lt hlt.2.2.1))
      · simp only [List.contains_cons, List.contains_nil, Bool.or_false, Bool.or_eq_false_iff, beq_eq_false_iff_ne, ne_eq] at h3
        obtain ⟨a1, a2, a3, a4, a5, a6⟩ := h3
        simp [kstB, a1, a2, a3, a4, a5, a6]
      · simp; omega
      · exact ⟨seen_map hx hP1 (by rw [hsgn]; unfold Lamp.hue; rw [hn]; rfl), seen_offS hP2 (Ne.symm (Nat.ne_of_lt hlt.2.2.2.1)), toks_grow hP3 hP4 hP5 (by clear hret; dsimp only at *; omega) (by clear hret; dsimp only at *; omega)⟩
  case done =>
    rintro ⟨ys, e⟩ u h tk ⟨hP0, hP1, hP2, hP3, hP4, hP5⟩ F2 N2
    clear F1 N1
    dsimp only at hP0 hP1 hP2 hP3 hP4 hP5 F2 N2
    have hlen : (refsOf ls).length = ls.length := List.length_map ..
    rw [hlen, List.take_length] at hP1
    have hys : ys.length = ls.length := by have := congrArg List.length hP1; simpa using this
    have hkl : k < ls.length := by have := (List.getElem?_eq_some_iff.mp hkk).1; simpa using this
    have hrot := rot_ok hn6 hn8 hkl
    rw [rotOk, Bool.and_eq_true] at hrot
    obtain ⟨hro, hrr⟩ := hrot
    have hrr' := eq_of_beq hrr
    k_steps
    have hvl : (seenRefs ys).length = ls.length := by rw [seenRefs, List.length_map, hys]
    refine sorted_by (lt := ltRot ls.length k) (fs := ys.map fun y => .float y.hue y.th) (T := .type "float") F2 N2 (vs := seenRefs ys) ⟨_, (N2 _ (.head _)).1, rfl, _, rfl⟩ (by omega) (by omega) (by rw [hvl]; exact hro) (by rw [List.length_map]; omega) rfl rfl ?st1 ?st2 ?st3 ?st4
    case st1 => exact fun h' _ N' => katTups_seen ys fun y hy => (N' _ (.tail _ (List.mem_map_of_mem (f := fun y : Seen => (y.a, y.obj)) hy))).1
    case st2 =>
      intro h' _ _ v hv
      obtain ⟨y, _, rfl⟩ := List.mem_map.mp hv
      exact look_float
    case st3 =>
      intro h' _ N' i j hi hj hij C hC
      rw [hvl] at hi hj
      obtain ⟨yi, hyi⟩ : ∃ y, ys[i]? = some y := ⟨_, List.getElem?_eq_getElem (by omega)⟩
      obtain ⟨yj, hyj⟩ : ∃ y, ys[j]? = some y := ⟨_, List.getElem?_eq_getElem (by omega)⟩
      obtain ⟨xi, hxi⟩ : ∃ x, ls[i]? = some x := ⟨_, List.getElem?_eq_getElem hi⟩
      obtain ⟨xj, hxj⟩ : ∃ x, ls[j]? = some x := ⟨_, List.getElem?_eq_getElem hj⟩
      have hue_at : ∀ {i : Nat} {y : Seen} {x : Lamp}, ys[i]? = some y → ls[i]? = some x → y.hue = x.hue start := by
        intro i y x hy hx
        have e := congrArg (fun l => l[i]?) hP1
        simp only [List.getElem?_map, hy, hx, Option.map_some] at e
        exact congrArg Prod.fst (Option.some.inj e)
      have gi : (seenRefs ys).getD i Value.none = .ref yi.a := by simp [seenRefs, List.getD_eq_getElem?_getD, List.getElem?_map, hyi]
      have gj : (seenRefs ys).getD j Value.none = .ref yj.a := by simp [seenRefs, List.getD_eq_getElem?_getD, List.getElem?_map, hyj]
      have hr := rot_lt (i := i) (j := j) (pi := xi.p) (pj := xj.p) hord (fun p hp => by obtain ⟨x, hx, rfl⟩ := List.mem_map.mp hp; have := hok x hx; exact ⟨this.1, this.2.1⟩) hkk (by rw [List.getElem?_map, hxi]; rfl) (by rw [List.getElem?_map, hxj]; rfl) hij
      rw [List.length_map] at hr
      have hh := hue_cmp (Nat.mod_lt _ (by decide)) (Nat.mod_lt _ (by decide)) hr.1
      have ei : yi.hue = divF (((xi.p + 16 - start).toNat % 16 : Nat)) 16 := hue_at hyi hxi
      have ej : yj.hue = divF (((xj.p + 16 - start).toNat % 16 : Nat)) 16 := hue_at hyj hxj
      have ti := hP4 yi (List.mem_of_getElem? hyi)
      have tj := hP4 yj (List.mem_of_getElem? hyj)
      have tij : yi.th ≠ yj.th := by
        obtain ⟨i1, i2⟩ := List.getElem?_eq_some_iff.mp hyi
        obtain ⟨j1, j2⟩ := List.getElem?_eq_some_iff.mp hyj
        rcases Nat.lt_or_gt_of_ne hij with hlt | hlt
        · have := List.pairwise_iff_getElem.mp hP5 i j i1 j1 hlt
          rw [i2, j2] at this; exact this
        · have := List.pairwise_iff_getElem.mp hP5 j i j1 i1 hlt
          rw [i2, j2] at this; exact Ne.symm this
      rw [gi, gj]
      refine lt_floats (s := { s with heap := h', toks := _ }) (N' _ (.tail _ (List.mem_map_of_mem (f := fun y : Seen => (y.a, y.obj)) (List.mem_of_getElem? hyi)))).1 (N' _ (.tail _ (List.mem_map_of_mem (f := fun y : Seen => (y.a, y.obj)) (List.mem_of_getElem? hyj)))).1 ti.1 tj.1 tij ?_ ?_ ?_
      · rw [ei, ej]; exact hh.1
      · rw [ei, ej]; exact hh.2.1
      · rw [ei, ej, hh.2.2, hr.2]; exact hC
    case st4 =>
      intro D c h' F3 N3 hD
      rw [hvl, hrr'] at N3
      have ez : (((List.range ls.length).map fun i => (i + k) % ls.length).map fun i => (seenRefs ys).getD i Value.none) = seenRefs (turned k ys Seen.dflt) := by
        unfold turned seenRefs
        rw [List.map_map, List.map_map, hys]
        refine List.map_congr_left fun i _ => ?_
        have : (i + k) % ls.length < ys.length := by rw [hys]; exact Nat.mod_lt _ (by omega)
        simp [this]
      rw [ez] at N3
      have N4 := turn_news (k := k) (by omega) N3
      have hzs : (turned k ys Seen.dflt).map Seen.sg = turned k (ls.map Lamp.sign) (Str.ofString ")") := by
        rw [turned_map (e := Str.ofString ")") Seen.sg (by omega)]
        have := congrArg (List.map Prod.snd) hP1
        rw [List.map_map, List.map_map] at this
        exact congrArg (fun l => turned k l (Str.ofString ")")) this
      have hzl : (turned k ys Seen.dflt).length = ls.length := by rw [turned_length, hys]
      clear N3 N2 F2 hro hrr hrr' ez hP1 hP2 hP4 hP5
      generalize turned k ys Seen.dflt = zs at N4 hzs hzl
      rw [← hzl] at hn6 hn8
      refine LCg.CompSrc.ledger rfl F3 N4 (.head _) (by rw [List.size_toArray, seenRefs, List.length_map, sizeLine_eq]; omega) fun g2 => comp_rest (fun i y => ∃ z, zs[i]? = some z ∧ y = .str z.sg z.tg) (.inr ⟨_, .head _, rfl, _, rfl⟩) ?one ?fin
      case one =>
        intro i v I oI C oC D' m₂ h5 tk5 ys5 Q5 E5 hi5 hP5 hC5 hx5 F5 N5 hq5
        obtain ⟨z, hz, rfl⟩ : ∃ z, zs[i]? = some z ∧ v = .ref z.a := by
          rw [List.getElem?_toArray, seenRefs, List.getElem?_map] at hP5
          cases q : zs[i]? with
          | none => rw [q] at hP5; cases hP5
          | some z => rw [q] at hP5; exact ⟨z, rfl, (Option.some.inj hP5).symm⟩
        clear hP5 hret hok ht hord hkk hD hl hl' N4 F3
        k_steps
        refine Halt.go ?_
        refine item_tup1 (v := .float z.hue z.th) (x := .str z.sg z.tg) (vs := []) ⟨_, (N5 _ (.tail _ (.tail _ (.tail _ (.tail _ (List.mem_map_of_mem (f := fun y : Seen => (y.a, y.obj)) (List.mem_of_getElem? hz))))))).1, rfl, _, rfl⟩ ?_
        exact hq5 _ _ ⟨z, hz, rfl⟩
      case fin =>
        intro ys5 hl5 hf5
        have e5 : ys5 = zs.map fun z => .str z.sg z.tg := by
          apply List.ext_getElem?
          intro j
          rw [List.getElem?_map]
          cases q : ys5[j]? with
          | none =>
            have := List.getElem?_eq_none_iff.mp q
            rw [List.getElem?_eq_none (by rw [hl5, List.size_toArray, seenRefs, List.length_map] at this; exact this)]; rfl
          | some y => obtain ⟨z, hz, rfl⟩ := hf5 j y q; rw [hz]; rfl
        subst e5
        intro D5 h5 tk5 F5 N5 o5
        clear N4 F3
        k_steps
        refine Halt.go ?_
        have hsl : ∀ a ∈ zs.map Seen.sg, a.length ≤ 100 := by
          intro a ha
          rw [hzs] at ha
          obtain ⟨x, _, rfl⟩ := List.mem_map.mp (turned_mem (by rw [List.length_map]; omega) ha)
          unfold Lamp.sign
          split <;> decide
        have hL5 := News.isList N5 (.head _)
        have e6 : (zs.map fun z : Seen => Value.str z.sg z.tg) = strValues (zs.map fun z => (z.sg, z.tg)) := by rw [strValues, List.map_map]; rfl
        rw [e6] at hL5
        have e7 : (zs.map fun z : Seen => (z.sg, z.tg)).map (·.1) = zs.map Seen.sg := by rw [List.map_map]; rfl
        refine SC.join hL5 e7 (join_ok (by rw [List.length_map]; omega) hsl (by decide)) ?_
        intro t' k'
        rw [hzs]
        refine hret _ _ _ (kept_of (by assumption) F5)
end
section
/-- what a sort's tree of questions comes to, where lt answers -/
def kasP {α : Type} (lt : Nat → Nat → Bool) (n : Nat) : KasT α → (α → Prop) → Prop
  | .ret a, P => P a
  | .ask i j k, P => i < n ∧ j < n ∧ kasP lt n (k (lt i j)) P
theorem kasP_bind {α β : Type} {lt : Nat → Nat → Bool} {n : Nat} {f : α → KasT β} {P : β → Prop} : ∀ (t : KasT α), kasP lt n t (fun a => kasP lt n (f a) P) → kasP lt n (t.bind f) P
  | .ret _, h => h
  | .ask i j k, h => ⟨h.1, h.2.1, kasP_bind (k (lt i j)) h.2.2⟩
theorem kasP_mono {α : Type} {lt : Nat → Nat → Bool} {n : Nat} {P P' : α → Prop} (hp : ∀ a, P a → P' a) : ∀ (t : KasT α), kasP lt n t P → kasP lt n t P'
  | .ret a, h => hp a h
  | .ask i j k, h => ⟨h.1, h.2.1, kasP_mono hp (k (lt i j)) h.2.2⟩
theorem kasP_wp {α : Type} {cmp : Nat → Nat → (Bool → Shared → Prop) → Shared → Prop} {lt : Nat → Nat → Bool} {n : Nat} {P : α → Prop} {Q : α → Shared → Prop} {s : Shared}
    (hc : ∀ i j (C : Bool → Shared → Prop), i < n → j < n → C (lt i j) s → cmp i j C s) (hq : ∀ a, P a → Q a s) : ∀ (t : KasT α), kasP lt n t P → t.kasWp cmp Q s
  | .ret a, h => hq a h
  | .ask i j k, h => hc i j _ h.1 h.2.1 (kasP_wp hc hq (k (lt i j)) h.2.2)
section
variable {n : Nat} {r : Nat → Int}
/-- a permutation of the first n numbers -/
def Good (n : Nat) (p : Array Nat) : Prop := p.Perm (List.range n).toArray
abbrev kv (r : Nat → Int) (p : Array Nat) (i : Nat) : Int := r (p.getD i 0)
def UpTo (r : Nat → Int) (p : Array Nat) (k : Nat) : Prop := ∀ i j, i < j → j < k → kv r p i < kv r p j
def DownTo (r : Nat → Int) (p : Array Nat) (k : Nat) : Prop := ∀ i j, i < j → j < k → kv r p j < kv r p i
abbrev ltOf (r : Nat → Int) (i j : Nat) : Bool := decide (r i < r j)
theorem Good.size {p : Array Nat} (g : Good n p) : p.size = n := by have := g.size_eq; simpa using this
theorem Good.lt {p : Array Nat} (g : Good n p) (h0 : 0 < n) (i : Nat) : p.getD i 0 < n := by
  by_cases h : i < p.size
  · have e : p.getD i 0 = p[i] := by simp [Array.getD, h]
    rw [e]
    have : p[i] ∈ (List.range n).toArray := g.mem_iff.mp (Array.getElem_mem h)
    simpa using this
  · have e : p.getD i 0 = 0 := by simp [Array.getD, h]
    rw [e]; exact h0
theorem Good.inj {p : Array Nat} (g : Good n p) {i j : Nat} (hi : i < n) (hj : j < n) (h : p.getD i 0 = p.getD j 0) : i = j := by
  have hn : p.toList.Nodup := (Array.perm_iff_toList_perm.mp g).nodup_iff.mpr (by simpa using List.nodup_range)
  have hs := g.size
  have ei : p.getD i 0 = p[i]'(by omega) := by simp [Array.getD, hs, hi]
  have ej : p.getD j 0 = p[j]'(by omega) := by simp [Array.getD, hs, hj]
  rw [ei, ej] at h
  rcases Nat.lt_trichotomy i j with c | c | c
  · have := List.pairwise_iff_getElem.mp hn i j (by simpa [hs] using hi) (by simpa [hs] using hj) c
    exact absurd (by simpa using h) this
  · exact c
  · have := List.pairwise_iff_getElem.mp hn j i (by simpa [hs] using hj) (by simpa [hs] using hi) c
    exact absurd (by simpa using h.symm) this
theorem Good.ne {p : Array Nat} (g : Good n p) (hr : ∀ i j, i < n → j < n → r i = r j → i = j) {i j : Nat} (hi : i < n) (hj : j < n) (hij : i ≠ j) : kv r p i ≠ kv r p j :=
  fun h => hij (g.inj hi hj (hr _ _ (g.lt (by omega) i) (g.lt (by omega) j) h))
theorem asc_spec {p : Array Nat} (g : Good n p) (hr : ∀ i j, i < n → j < n → r i = r j → i = j) : ∀ (f a : Nat) {P : Nat → Prop}, 1 ≤ a → a + f ≤ n → UpTo r p a → (∀ m, a ≤ m → m ≤ a + f → UpTo r p m → (m = a + f ∨ kv r p m < kv r p (m - 1)) → P m) → kasP (ltOf r) n (kas_asc p f a) P
  | 0, a, P, _, _, hu, h => h a (Nat.le_refl _) (by omega) hu (.inl rfl)
  | f + 1, a, P, h1, hn, hu, h => by
    refine ⟨g.lt (by omega) _, g.lt (by omega) _, ?_⟩
    by_cases c : kv r p a < kv r p (a - 1)
    · have e : ltOf r (p.getD a 0) (p.getD (a - 1) 0) = true := decide_eq_true c
      rw [e]
      exact h a (Nat.le_refl _) (by omega) hu (.inr c)
    · have e : ltOf r (p.getD a 0) (p.getD (a - 1) 0) = false := decide_eq_false c
      rw [e]
      refine asc_spec g hr f (a + 1) (by omega) (by omega) ?_ fun m hm1 hm2 hm3 hm4 => h m (by omega) (by omega) hm3 (hm4.imp (by omega) id)
      intro i j hij hj
      by_cases hja : j < a
      · exact hu i j hij hja
      · have hja' : j = a := by omega
        subst hja'
        have hne := g.ne hr (i := j) (j := j - 1) (by omega) (by omega) (by omega)
        have h3 : kv r p (j - 1) < kv r p j := by omega
        by_cases hi' : i = j - 1
        · rw [hi']; exact h3
        · have := hu i (j - 1) (by omega) (by omega); omega
theorem desc_spec {p : Array Nat} (g : Good n p) (hr : ∀ i j, i < n → j < n → r i = r j → i = j) : ∀ (f a : Nat) {P : Array Nat × Nat × Nat → Prop}, 1 ≤ a → a + f ≤ n → DownTo r p a → (∀ m, a ≤ m → m ≤ a + f → DownTo r p m → P (p, m, 0)) → kasP (ltOf r) n (kas_desc f p a 0) P
  | 0, a, P, _, _, hu, h => h a (Nat.le_refl _) (by omega) hu
  | f + 1, a, P, h1, hn, hu, h => by
    refine ⟨g.lt (by omega) _, g.lt (by omega) _, ?_⟩
    have hne := g.ne hr (i := a) (j := a - 1) (by omega) (by omega) (by omega)
    by_cases c : kv r p a < kv r p (a - 1)
    · have e : ltOf r (p.getD a 0) (p.getD (a - 1) 0) = true := decide_eq_true c
      rw [e]
      refine desc_spec g hr f (a + 1) (by omega) (by omega) ?_ fun m hm1 hm2 hm3 => h m (by omega) (by omega) hm3
      intro i j hij hj
      by_cases hja : j < a
      · exact hu i j hij hja
      · have hja' : j = a := by omega
        subst hja'
        by_cases hi' : i = j - 1
        · rw [hi']; exact c
        · have := hu i (j - 1) (by omega) (by omega); omega
    · have e : ltOf r (p.getD a 0) (p.getD (a - 1) 0) = false := decide_eq_false c
      rw [e]
      refine ⟨g.lt (by omega) _, g.lt (by omega) _, ?_⟩
      have e2 : ltOf r (p.getD (a - 1) 0) (p.getD a 0) = true := decide_eq_true (by show kv r p (a - 1) < kv r p a; omega)
      rw [e2]
      exact h a (Nat.le_refl _) (by omega) hu
theorem kv_congr {p q : Array Nat} {i j : Nat} (h : p[i]? = q[j]?) : kv r p i = kv r q j := by
  unfold kv
  have e1 : p.getD i 0 = p[i]?.getD 0 := by simp [Array.getD_eq_getD_getElem?]
  have e2 : q.getD j 0 = q[j]?.getD 0 := by simp [Array.getD_eq_getD_getElem?]
  rw [e1, e2, h]
theorem rev_up {p : Array Nat} {m : Nat} (g : Good n p) (hm : m ≤ n) (h : DownTo r p m) : UpTo r (kas_rev p 0 m) m := by
  have hv : ∀ k, k < m → kv r (kas_rev p 0 m) k = kv r p (m - 1 - k) := fun k hk => by
    refine kv_congr ?_
    have e := getElem?_mirror_all (xs := p) (i := 0) (j := m) (by rw [g.size]; exact hm) k
    rw [if_pos ⟨Nat.zero_le _, hk⟩] at e
    show (mirror p 0 m ((m - 0) / 2))[k]? = _
    rw [e, Nat.zero_add]
  intro i j hij hj
  rw [hv i (by omega), hv j hj]
  exact h _ _ (by omega) (by omega)
theorem Good.rev {p : Array Nat} (g : Good n p) (i j : Nat) : Good n (kas_rev p i j) := (mirror_perm _ _ _ _).trans g
theorem tail3_spec {p : Array Nat} (g : Good n p) (hr : ∀ i j, i < n → j < n → r i = r j → i = j) {m : Nat} {P : Nat × Array Nat → Prop} (h1 : 1 ≤ m) (hm : m ≤ n) (hd : DownTo r p m) (h : ∀ k q, Good n q → 1 ≤ k → k ≤ n → UpTo r q k → P (k, q)) : kasP (ltOf r) n (kas_tail3 m n p) P := by
  unfold kas_tail3
  refine kasP_bind _ (asc_spec (g.rev 0 m) hr _ _ h1 (by omega) (rev_up g hm hd) fun k hk1 hk2 hk3 _ => ?_)
  exact h k _ (g.rev 0 m) (by omega) (by omega) hk3
theorem count_spec {p : Array Nat} (g : Good n p) (hr : ∀ i j, i < n → j < n → r i = r j → i = j) {P : Nat × Array Nat → Prop} (h2 : 2 ≤ n) (h : ∀ k q, Good n q → 1 ≤ k → k ≤ n → UpTo r q k → P (k, q)) : kasP (ltOf r) n (kas_count n p) P := by
  unfold kas_count
  refine kasP_bind _ (asc_spec g hr _ _ (Nat.le_refl _) (by omega) (fun i j a b => by omega) fun m hm1 hm2 hm3 hm4 => ?_)
  by_cases e : m = n
  · rw [if_pos (by simpa using e)]
    exact h m p g hm1 (by omega) hm3
  · rw [if_neg (by simpa using e)]
    by_cases e1 : m > 1
    · rw [if_pos e1]
      refine ⟨g.lt (by omega) _, g.lt (by omega) _, ?_⟩
      have e2 : ltOf r (p.getD 0 0) (p.getD (m - 1) 0) = true := decide_eq_true (hm3 0 (m - 1) (by omega) (by omega))
      rw [e2]
      show kasP _ _ (KasT.ret (m, p)) P
      exact h m p g hm1 (by omega) hm3
    · rw [if_neg e1]
      have e3 : m = 1 := by omega
      subst e3
      unfold kas_descPart
      have hd : kv r p 1 < kv r p 0 := by rcases hm4 with q | q <;> first | omega | exact q
      refine kasP_bind _ (desc_spec g hr _ _ (by omega) (by omega) ?_ fun m hm1 hm2 hm3 => ?_)
      · intro i j hij hj
        have a1 : i = 0 := by omega
        have a2 : j = 1 := by omega
        rw [a1, a2]; exact hd
      · rw [if_neg (by simp)]
        have hmn : m ≤ n := by omega
        exact tail3_spec g hr (m := m) (by omega) hmn hm3 h
theorem place_spec {p : Array Nat} (g : Good n p) {k : Nat} (hk : k < n) (hu : UpTo r p k) : ∀ (f l u : Nat) {P : Nat → Prop}, l ≤ u → u ≤ k → u - l ≤ f → (∀ i, i < l → kv r p i ≤ kv r p k) → (∀ i, u ≤ i → i < k → kv r p k ≤ kv r p i) → (∀ m, m ≤ k → (∀ i, i < m → kv r p i ≤ kv r p k) → (∀ i, m ≤ i → i < k → kv r p k ≤ kv r p i) → P m) → kasP (ltOf r) n (kas_place p k f l u) P
  | 0, l, u, P, h1, h2, h3, h4, h5, h => h l (by omega) h4 (fun i a b => h5 i (by omega) b)
  | f + 1, l, u, P, h1, h2, h3, h4, h5, h => by
    unfold kas_place
    by_cases c : l ≥ u
    · rw [if_pos c]
      exact h l (by omega) h4 (fun i a b => h5 i (by omega) b)
    · rw [if_neg c]
      refine ⟨g.lt (by omega) _, g.lt (by omega) _, ?_⟩
      have hmid : l ≤ (l + u) / 2 ∧ (l + u) / 2 < u := by omega
      by_cases d : kv r p k < kv r p ((l + u) / 2)
      · have e : ltOf r (p.getD k 0) (p.getD ((l + u) / 2) 0) = true := decide_eq_true d
        rw [e]
        refine place_spec g hk hu f l ((l + u) / 2) (by omega) (by omega) (by omega) h4 (fun i a b => ?_) h
        by_cases hi : i = (l + u) / 2
        · rw [hi]; omega
        · have := hu ((l + u) / 2) i (by omega) b; omega
      · have e : ltOf r (p.getD k 0) (p.getD ((l + u) / 2) 0) = false := decide_eq_false d
        rw [e]
        refine place_spec g hk hu f ((l + u) / 2 + 1) u (by omega) (by omega) (by omega) (fun i a => ?_) h5 h
        by_cases hi : i = (l + u) / 2
        · rw [hi]; omega
        · have := hu i ((l + u) / 2) (by omega) (by omega); omega
theorem bin_spec (hr : ∀ i j, i < n → j < n → r i = r j → i = j) : ∀ (f : Nat) (p : Array Nat) (k : Nat) {P : Array Nat → Prop}, Good n p → 1 ≤ k → k + f = n → UpTo r p k → (∀ q, Good n q → UpTo r q n → P q) → kasP (ltOf r) n (kas_bin f p k) P
  | 0, p, k, P, g, _, hk, hu, h => h p g (by rw [← hk]; exact hu)
  | f + 1, p, k, P, g, h1, hk, hu, h => by
    unfold kas_bin
    refine kasP_bind _ (place_spec g (by omega) hu k 0 k (Nat.zero_le _) (Nat.le_refl _) (by omega) (fun i a => by omega) (fun i a b => by omega) fun m hm h4 h5 => ?_)
    have hv : ∀ t, kv r (bubble p k (k - m)) t = if t = m then kv r p k else if m < t ∧ t ≤ k then kv r p (t - 1) else kv r p t := by
      intro t
      have e := getElem?_bubble (xs := p) (src := k) (by rw [g.size]; omega) (k - m) (by omega) t
      rw [show k - (k - m) = m by omega] at e
      by_cases c1 : t = m
      · rw [if_pos c1] at e ⊢; exact kv_congr e
      · rw [if_neg c1] at e ⊢
        by_cases c2 : m < t ∧ t ≤ k
        · rw [if_pos c2] at e ⊢; exact kv_congr e
        · rw [if_neg c2] at e ⊢; exact kv_congr e
    refine bin_spec hr f _ (k + 1) ((bubble_perm _ _ _).trans g) (by omega) (by omega) ?_ h
    intro i j hij hj
    have lo : ∀ t, t < m → kv r p t < kv r p k := fun t ht => by
      have a := h4 t ht
      have b := g.ne hr (i := t) (j := k) (by omega) (by omega) (by omega)
      omega
    have hi : ∀ t, m ≤ t → t < k → kv r p k < kv r p t := fun t h1 h2 => by
      have a := h5 t h1 h2
      have b := g.ne hr (i := t) (j := k) (by omega) (by omega) (by omega)
      omega
    rw [hv i, hv j]
    by_cases i1 : i = m
    · rw [if_pos i1, if_neg (by omega), if_pos (by omega)]
      exact hi _ (by omega) (by omega)
    · rw [if_neg i1]
      by_cases i2 : m < i ∧ i ≤ k
      · rw [if_pos i2, if_neg (by omega), if_pos (by omega)]
        exact hu _ _ (by omega) (by omega)
      · rw [if_neg i2]
        by_cases j1 : j = m
        · rw [if_pos j1]; exact lo _ (by omega)
        · rw [if_neg j1]
          by_cases j2 : m < j ∧ j ≤ k
          · rw [if_pos j2]
            by_cases j3 : i < j - 1
            · exact hu _ _ j3 (by omega)
            · omega
          · rw [if_neg j2]
            exact hu _ _ hij (by omega)
/-- the tree of questions sorts -/
theorem sort_spec (hr : ∀ i j, i < n → j < n → r i = r j → i = j) (h2 : 2 ≤ n) : kasP (ltOf r) n (kas_sort n) fun q => Good n q ∧ UpTo r q n := by
  unfold kas_sort
  refine kasP_bind _ (count_spec (.refl _) hr h2 fun k q g h1 hk hu => ?_)
  dsimp only
  by_cases c : k < n
  · rw [if_pos c, show max k 1 = k by omega]
    exact bin_spec hr _ _ _ g h1 (by omega) hu fun q g hu => ⟨g, hu⟩
  · rw [if_neg c]
    have e : k = n := by omega
    subst e
    exact ⟨g, hu⟩
end
def Lamp.dflt : Lamp := ⟨0, 0, 0, 0, 0, 0, 0⟩
theorem katTups_lamps {hh : Heap} : ∀ (ls : List Lamp), (∀ y ∈ ls, hh.get? y.a = some y.obj) → KatTups hh (refsOf ls) (ls.map fun y => .int y.p y.tp)
  | [], _ => .nil
  | y :: ys, h => .cons (h y (.head _)) rfl rfl rfl (katTups_lamps ys fun z hz => h z (.tail _ hz))
section
variable {prog : Program} {w : World} {A : Around} {E : Value → Shared → Prop} {s : Shared} {h₀ : Heap} {L : Addr} {m : Str → Option Value} {news : List (Addr × Obj)}
theorem look_int {a : Int} {t : Tok} {hh : Heap} : Looks (model prog w) hh (typeOf (.int a t)) (.type "int") := .now
theorem eqBool_same {a : UInt64} {t : Tok} {Q : Bool → Shared → Prop} (h : Q true s) : wpAny (model prog w) A (eqBool (.float a t) (.float a t)) Q E s := by
  unfold eqBool
  show wpAny _ _ (if (Value.float a t == Value.float a t) = true then _ else _) Q E s
  rw [if_pos (by simp)]
  exact wpAny_bind (wpAny_rule (wpAny_pure h))
theorem lt_lamps {x y : Lamp} {C : Bool → Shared → Prop} (hx : s.heap.get? x.a = some x.obj) (hy : s.heap.get? y.a = some y.obj) (hne : x.p ≠ y.p) (h : C (decide (x.p < y.p)) s) : wpAny (model prog w) A (keyLt' (tuples' true) (.ref x.a) (.ref y.a)) C (fun _ _ => False) s :=
  kat_lt hx rfl hy rfl (kat_cons (wpAny_eqBool_int (by rw [beq_eq_false_iff_ne.mpr hne]; exact kat_no (oneLt_int h))))
theorem lt_lamp_same {x : Lamp} {C : Bool → Shared → Prop} (hx : s.heap.get? x.a = some x.obj) (h : C false s) : wpAny (model prog w) A (keyLt' (tuples' true) (.ref x.a) (.ref x.a)) C (fun _ _ => False) s :=
  kat_lt hx rfl hx rfl (kat_cons (wpAny_eqBool_int (by rw [beq_self_eq_true]; exact kat_yes (kat_cons (eqBool_same (kat_yes (kat_cons (eqBool_same (kat_yes (kat_nil h))))))))))
/-- sorted(lamps) -/
theorem sorted_lamps {ls : List Lamp} {l : Addr} {Q : Value → Shared → Prop} (F : Fr h₀ L s.heap m) (N : News h₀ L s.heap news) (hl : s.heap.IsList l (refsOf ls).toArray) (h2 : 2 ≤ ls.length) (h64 : ls.length < 64)
    (hin : ∀ y ∈ ls, (y.a, y.obj) ∈ news) (hnd : (ls.map (·.p)).Nodup)
    (h : ∀ D c h' zs, zs.Perm ls → (zs.map (·.p)).Pairwise (· < ·) → Fr h₀ L h' m → News h₀ L h' ((D, PySem.W.listOf (refsOf zs).toArray c) :: news) → (∀ q ∈ news, q.1 < D) → Q (.ref D) { s with heap := h' }) :
    wpAny (model prog w) A (call (.builtin "sorted") [.ref l]) Q E s := by
  have hvl : (refsOf ls).length = ls.length := List.length_map ..
  refine kat_sorted F N hl (by omega) (by omega) fun D e1 h' F' N' hD => ?_
  have N'' : News h₀ L h' news := fun p hp => N' p (.tail _ hp)
  have hat : ∀ y ∈ ls, h'.get? y.a = some y.obj := fun y hy => (N'' _ (hin y hy)).1
  refine kat_kind (s := { s with heap := h' }) (T := .type "int") (katTups_lamps ls hat) (by rw [List.length_map]; omega) (fun v hv => ?_) rfl ?_
  · obtain ⟨y, _, rfl⟩ := List.mem_map.mp hv
    exact look_int
  have gd : ∀ i, i < ls.length → ∃ y, ls[i]? = some y ∧ (refsOf ls).getD i Value.none = .ref y.a ∧ ls.getD i Lamp.dflt = y := fun i hi => by
    refine ⟨ls[i], List.getElem?_eq_getElem hi, ?_, ?_⟩ <;> simp [hi]
  have hr : ∀ i j, i < ls.length → j < ls.length → (ls.getD i Lamp.dflt).p = (ls.getD j Lamp.dflt).p → i = j := fun i j hi hj e => by
    have e1 : ls.getD i Lamp.dflt = ls[i] := by simp [hi]
    have e2 : ls.getD j Lamp.dflt = ls[j] := by simp [hj]
    rw [e1, e2] at e
    rcases Nat.lt_trichotomy i j with c | c | c
    · have := List.pairwise_iff_getElem.mp hnd i j (by simpa using hi) (by simpa using hj) c
      exact absurd (by simpa using e) this
    · exact c
    · have := List.pairwise_iff_getElem.mp hnd j i (by simpa using hj) (by simpa using hi) c
      exact absurd (by simpa using e.symm) this
  rw [hvl]
  refine kasP_wp (lt := ltOf fun i => (ls.getD i Lamp.dflt).p) (n := ls.length) (fun i j C hi hj hC => ?_) (fun q hq => ?_) _ (sort_spec hr h2)
  · obtain ⟨x, hx, gx, dx⟩ := gd i hi
    obtain ⟨y, hy, gy, dy⟩ := gd j hj
    show wpAny _ _ (keyLt' (tuples' true) ((refsOf ls).getD i Value.none) ((refsOf ls).getD j Value.none)) C (fun _ _ => False) _
    rw [gx, gy]
    rw [ltOf, dx, dy] at hC
    by_cases c : i = j
    · subst c
      rw [hx] at hy
      cases hy
      exact lt_lamp_same (hat x (List.mem_of_getElem? hx)) (by rw [decide_eq_false (Int.lt_irrefl _)] at hC; exact hC)
    · refine lt_lamps (hat x (List.mem_of_getElem? hx)) (hat y (List.mem_of_getElem? hy)) (fun e => c (hr i j hi hj (by rw [dx, dy]; exact e))) hC
  · obtain ⟨g, hu⟩ := hq
    refine KasFin.intro F' N' (.head fun q hq => Nat.ne_of_lt (hD q hq)) fun h2 c F2 N2 => ?_
    have ez : (q.toList.map fun i => (refsOf ls).getD i Value.none) = refsOf (q.toList.map fun i => ls.getD i Lamp.dflt) := by
      show _ = List.map (fun x : Lamp => Value.ref x.a) (List.map (fun i => ls.getD i Lamp.dflt) q.toList)
      rw [List.map_map]
      refine List.map_congr_left fun i hi => ?_
      have hi' : i < ls.length := by
        have : i ∈ (List.range ls.length).toArray := g.mem_iff.mp (by simpa using hi)
        simpa using this
      obtain ⟨y, _, gy, dy⟩ := gd i hi'
      rw [gy, Function.comp, dy]
    rw [ez] at N2
    refine h D c h2 _ ?_ ?_ F2 N2 hD
    · have p1 := (Array.perm_iff_toList_perm.mp g).map fun i => ls.getD i Lamp.dflt
      refine p1.trans (List.Perm.of_eq ?_)
      apply List.ext_getElem
      · simp
      · intro i a b
        simp [show i < ls.length by simpa using b]
    · rw [List.map_map]
      refine List.pairwise_iff_getElem.mpr fun i j hi hj hij => ?_
      rw [List.getElem_map, List.getElem_map]
      have hs := g.size
      rw [List.length_map, Array.length_toList] at hi hj
      have := hu i j hij (by omega)
      simpa [kv, Array.getD, hi, hj] using this
end
end
section
section
variable {prog : Program} {w : World} {A : Around} {E : Value → Shared → Prop} {s : Shared} {g : Heap} {L D : Addr} {m : Str → Option Value} {nx rest : List (Addr × Obj)}
abbrev intVals (l : List (Int × Tok)) : List Value := l.map fun p => .int p.1 p.2
theorem intVals_of {vs : List Value} {ns : List Int} (h : IntsAre vs ns) : ∃ l : List (Int × Tok), vs = intVals l ∧ l.map (·.1) = ns := by
  induction h with
  | nil => exact ⟨[], rfl, rfl⟩
  | cons n t _ ih =>
    obtain ⟨l, e1, e2⟩ := ih
    exact ⟨(n, t) :: l, by rw [e1]; rfl, by rw [List.map_cons, e2]⟩
theorem cut_at {α : Type} : ∀ {l : List α} {k : Nat} {x : α}, l[k]? = some x → ∃ p q, l = p ++ x :: q ∧ p.length = k ∧ l.eraseIdx k = p ++ q
  | [], _, _, h => by simp at h
  | y :: r, 0, x, h => by
    have : y = x := by simpa using h
    exact ⟨[], r, by rw [this]; rfl, rfl, rfl⟩
  | y :: r, k + 1, x, h => by
    obtain ⟨p, q, e1, e2, e3⟩ := cut_at (l := r) (k := k) (x := x) (by simpa using h)
    refine ⟨y :: p, q, by rw [e1]; rfl, by rw [List.length_cons, e2], ?_⟩
    show y :: r.eraseIdx k = _
    rw [e3]; rfl
/-- list.pop at a place within the list -/
theorem pop_free {fs : List (Int × Tok)} {n : Nat} {i : Int} {u : Tok} {Q : Value → Shared → Prop} (F : Fr g L s.heap m) (N : News g L s.heap nx) (hD : (D, PySem.W.listOf (intVals fs).toArray n) ∈ nx) (h0 : 0 ≤ i) (h1 : i < fs.length) (hz : fs.length ≤ 1000)
    (hsub : ∀ p ∈ rest, p ∈ nx) (hne : ∀ p ∈ rest, p.1 ≠ D)
    (h : ∀ h' x t, fs[i.toNat]? = some (x, t) → Fr g L h' m → News g L h' ((D, PySem.W.listOf (intVals (fs.eraseIdx i.toNat)).toArray (n + 1)) :: rest) → Q (.int x t) { s with heap := h' }) :
    wpAny (model prog w) A (call (.builtin "list.pop") [.ref D, .int i u]) Q E s := by
  obtain ⟨⟨x, t⟩, hx⟩ : ∃ x, fs[i.toNat]? = some x := ⟨_, List.getElem?_eq_getElem (by omega)⟩
  obtain ⟨p, q, e1, e2, e3⟩ := cut_at hx
  have hk : i.toNat = p.length := e2.symm
  have z := N _ hD
  have N1 : News g L s.heap ([] ++ (D, PySem.W.listOf (intVals fs).toArray n) :: rest) := fun y hy => by
    rcases List.mem_cons.mp hy with rfl | hy
    · exact z
    · exact N _ (hsub _ hy)
  have ev : intVals fs = intVals p ++ .int x t :: intVals q := by rw [e1]; simp [intVals]
  have ee : intVals (fs.eraseIdx i.toNat) = intVals p ++ intVals q := by rw [e3]; simp [intVals]
  have er : (intVals fs).toArray.eraseIdxIfInBounds i.toNat = (intVals (fs.eraseIdx i.toNat)).toArray := by
    rw [ev, ee, hk, show p.length = (intVals p).length by simp [intVals], kl_erase]
  have hlen : (intVals fs).length = fs.length := by simp [intVals]
  refine call_meets PySem.F.slot_list_pop ⟨_, z.1, rfl⟩ PySem.F.entry_list_pop (PySem.F.args_list_pop_2 _ _) (PySem.MeetsSeq.list_pop_at D _ n i u i.toNat (.int x t) ?_ ?_ ?_ ?_) ⟨z.1, h _ x t hx (F.change (Heap.SameBut.update ..) z.2.1 z.2.2) (kl_turn (pre := []) _ N1 (fun _ h => nomatch h) hne er ?_)⟩
  · simp only [Builtin.List.listFitsIndex, Bool.and_eq_true, decide_eq_true_eq]; constructor <;> omega
  · rw [List.size_toArray, hlen]
    unfold seqIndex?
    have a : ¬ i < 0 := by omega
    simp [a, h0, h1]
  · simp [intVals, hx]
  · show (intVals fs).toArray.size ≤ sizeLine
    rw [List.size_toArray, hlen, sizeLine_eq]; omega
  · rw [List.size_toArray, List.size_toArray, hlen]
    simp only [intVals, List.length_map, List.length_eraseIdx]
    rw [if_pos (by omega)]; omega
theorem news_upd {h h' : Heap} {o o' : Obj} (N : News g L h nx) (hD : (D, o) ∈ nx) (hsub : ∀ p ∈ rest, p ∈ nx) (hne : ∀ p ∈ rest, p.1 ≠ D) (hs : Heap.SameBut D h h') (ho : h'.get? D = some o') : News g L h' ((D, o') :: rest) := by
  intro p hp
  rcases List.mem_cons.mp hp with rfl | hp
  · exact ⟨ho, (N _ hD).2⟩
  · exact ⟨(hs.2 _ (hne p hp)).trans (N p (hsub p hp)).1, (N p (hsub p hp)).2⟩
end
abbrev lampOs (ls : List Lamp) : List (Addr × Obj) := ls.map fun y => (y.a, y.obj)
abbrev DrawSt := List (Int × Tok) × Nat × List Lamp × Nat
/-- the ledger of the loop over the draws -/
abbrev drawLed (Dd Df Dl : Addr) (ws : List Value) (c : DrawSt) : List (Addr × Obj) :=
  (Df, PySem.W.listOf (intVals c.1).toArray c.2.1) :: (Dl, PySem.W.listOf (refsOf c.2.2.1).toArray c.2.2.2) :: (Dd, PySem.W.listOf ws.toArray 0) :: lampOs c.2.2.1
structure DrawOk (Dd Df Dl : Addr) (i : Nat) (fs : List (Int × Tok)) (ls : List Lamp) : Prop where
  hn : ls.length = i
  hf : fs.length + i = 16
  nd : (ls.map (·.p) ++ fs.map (·.1)).Nodup
  bd : ∀ q ∈ fs, 0 ≤ q.1 ∧ q.1 < 16
  ok : ∀ x ∈ ls, x.Ok
  ad : ∀ x ∈ ls, x.a ≠ Df ∧ x.a ≠ Dl
theorem DrawOk.grow {Dd Df Dl : Addr} {i k : Nat} {fs : List (Int × Tok)} {ls : List Lamp} (h : DrawOk Dd Df Dl i fs ls) {x : Int} {t : Tok} (hx : fs[k]? = some (x, t)) {d : Lamp} (hp : d.p = x) (hsh : ∃ k : Nat, 1 ≤ k ∧ k ≤ 4 ∧ d.sh = divF k 4) (hlv : ∃ k : Nat, 1 ≤ k ∧ k ≤ 2 ∧ d.lv = divF k 2) (h1 : d.a ≠ Df) (h2 : d.a ≠ Dl) :
    DrawOk Dd Df Dl (i + 1) (fs.eraseIdx k) (ls ++ [d]) := by
  obtain ⟨p, q, e1, e2, e3⟩ := cut_at hx
  have hm : (x, t) ∈ fs := List.mem_of_getElem? hx
  have hb := h.bd _ hm
  refine ⟨by rw [List.length_append, h.hn]; rfl, ?_, ?_, ?_, ?_, ?_⟩
  · have := h.hf
    rw [e3]; rw [e1] at this
    simp at this ⊢; omega
  · have nd := h.nd
    rw [e3]; rw [e1] at nd
    refine (List.Perm.nodup_iff ?_).mp nd
    simp only [List.map_append, List.map_cons, List.map_nil, List.append_assoc, hp]
    refine List.Perm.append_left _ ?_
    exact List.perm_middle
  · intro y hy
    rw [e3] at hy
    refine h.bd y ?_
    rw [e1]
    rcases List.mem_append.mp hy with hy | hy
    · exact List.mem_append.mpr (.inl hy)
    · exact List.mem_append.mpr (.inr (.tail _ hy))
  · intro y hy
    rcases List.mem_append.mp hy with hy | hy
    · exact h.ok y hy
    · rw [List.mem_singleton.mp hy]; exact ⟨by rw [hp]; exact hb.1, by rw [hp]; exact hb.2, hsh, hlv⟩
  · intro y hy
    rcases List.mem_append.mp hy with hy | hy
    · exact h.ad y hy
    · rw [List.mem_singleton.mp hy]; exact ⟨h1, h2⟩
theorem draws_len {vs : List Value} {ns : List Int} {f : Int → Int} (h : IntsAre vs (List.map f (List.take 8 ns) ++ List.drop (Int.toNat ((List.map f (List.take 8 ns)).length : Nat)) [25, 78, 3, 36, 95, 65])) : ∃ ds, IntsAre vs ds ∧ 6 ≤ ds.length ∧ ds.length ≤ 8 := by
  refine ⟨_, h, ?_, ?_⟩ <;> simp <;> omega
section
variable {prog : Program} {w : World} {A : Around} {E : Value → Shared → Prop} {s : Shared} {g h : Heap} {L : Addr} {m : Str → Option Value}
theorem draw_start {Dd Df Dl : Addr} {ws : List Value} {fs : List (Int × Tok)} {c : Nat} {r : List (Addr × Obj)} {P : Prop} (N : News g L h ((Dl, PySem.W.listOf #[] 0) :: (Df, PySem.W.listOf (intVals fs).toArray c) :: (Dd, PySem.W.listOf ws.toArray 0) :: r)) (h1 : ∀ p : Addr × Obj, p ∈ (Dd, PySem.W.listOf ws.toArray 0) :: r → p.1 < Df) (h2 : Df < Dl ∧ Dd < Dl ∧ P) :
    ∃ Xd Xf Xl, Xd = Dd ∧ Xf = Df ∧ Xl = Dl ∧ News g L h (drawLed Xd Xf Xl ws (fs, c, [], 0)) ∧ Xd ≠ Xf ∧ Xd ≠ Xl ∧ Xf ≠ Xl := by
  refine ⟨Dd, Df, Dl, rfl, rfl, rfl, fun p hp => N p ?_, Nat.ne_of_lt (h1 _ (.head _)), Nat.ne_of_lt h2.2.1, Nat.ne_of_lt h2.1⟩
  simp only [drawLed, lampOs, List.map_nil, List.mem_cons, List.not_mem_nil, or_false] at hp ⊢
  rcases hp with hp | hp | hp
  · exact .inr (.inl hp)
  · exact .inl hp
  · exact .inr (.inr (.inl hp))
end
theorem draw_ok0 {Dd Df Dl : Addr} {fs : List (Int × Tok)} (h : fs.map (·.1) = rangeKs 0 (16 - 0 : Int).toNat) : DrawOk Dd Df Dl 0 fs [] := by
  have hl : fs.length = 16 := by have := congrArg List.length h; rw [List.length_map, rangeKs_length] at this; exact this
  refine ⟨rfl, by omega, ?_, ?_, fun _ h => (nomatch h), fun _ h => (nomatch h)⟩
  · rw [h]; decide
  · intro q hq
    have : q.1 ∈ rangeKs 0 (16 - 0 : Int).toNat := h ▸ List.mem_map_of_mem hq
    have e : ∀ x ∈ rangeKs 0 (16 - 0 : Int).toNat, 0 ≤ x ∧ x < 16 := by decide
    exact e _ this
theorem intVals_at {l : List (Int × Tok)} {i : Nat} {v : Value} (h : (intVals l)[i]? = some v) : ∃ d t, v = Value.int d t ∧ i < l.length := by
  rw [intVals, List.getElem?_map] at h
  cases q : l[i]? with
  | none => rw [q] at h; cases h
  | some x => rw [q] at h; exact ⟨x.1, x.2, (Option.some.inj h).symm, (List.getElem?_eq_some_iff.mp q).1⟩
theorem share_ok {a : Int} (h0 : 0 ≤ a) (h1 : a < 4) : Float64.isInf (Float64.ofFrac (decide (1 + a < 0) != decide ((4 : Int) < 0)) (1 + a).natAbs (Int.natAbs 4)) = false ∧ ∃ k : Nat, 1 ≤ k ∧ k ≤ 4 ∧ Float64.ofFrac (decide (1 + a < 0) != decide ((4 : Int) < 0)) (1 + a).natAbs (Int.natAbs 4) = divF k 4 := by
  have h : a = 0 ∨ a = 1 ∨ a = 2 ∨ a = 3 := by omega
  rcases h with rfl | rfl | rfl | rfl
  · exact ⟨by decide +kernel, 1, by omega, by omega, rfl⟩
  · exact ⟨by decide +kernel, 2, by omega, by omega, rfl⟩
  · exact ⟨by decide +kernel, 3, by omega, by omega, rfl⟩
  · exact ⟨by decide +kernel, 4, by omega, by omega, rfl⟩
theorem level_ok {a : Int} (h0 : 0 ≤ a) (h1 : a < 2) : Float64.isInf (Float64.ofFrac (decide (1 + a < 0) != decide ((2 : Int) < 0)) (1 + a).natAbs (Int.natAbs 2)) = false ∧ ∃ k : Nat, 1 ≤ k ∧ k ≤ 2 ∧ Float64.ofFrac (decide (1 + a < 0) != decide ((2 : Int) < 0)) (1 + a).natAbs (Int.natAbs 2) = divF k 2 := by
  have h : a = 0 ∨ a = 1 := by omega
  rcases h with rfl | rfl
  · exact ⟨by decide +kernel, 1, by omega, by omega, rfl⟩
  · exact ⟨by decide +kernel, 2, by omega, by omega, rfl⟩
section
variable {g h h' : Heap} {L Dd Df Dl I : Addr} {oI : Obj} {fs fs' : List (Int × Tok)} {n n' e e' : Nat} {ls : List Lamp} {ws : List Value} {d : Lamp}
theorem draw_grow (N : News g L h ((d.a, d.obj) :: (Df, PySem.W.listOf (intVals fs).toArray n) :: (I, oI) :: (Dl, PySem.W.listOf (refsOf ls).toArray e) :: (Dd, PySem.W.listOf ws.toArray 0) :: lampOs ls)) (hls : ∀ x ∈ ls, x.a ≠ Dl) (hI : I ≠ Dl) (a2 : Dd ≠ Dl) (a3 : Df ≠ Dl) (hT : d.a ≠ Dl)
    (hs : Heap.SameBut Dl h h') (ho : h'.get? Dl = some (PySem.W.listOf ((refsOf ls).toArray.push (.ref d.a)) (e + 1))) : News g L h' ((I, oI) :: drawLed Dd Df Dl ws (fs, n, ls ++ [d], e + 1)) := by
  have one : ∀ p, p ∈ ((d.a, d.obj) :: (Df, PySem.W.listOf (intVals fs).toArray n) :: (I, oI) :: (Dl, PySem.W.listOf (refsOf ls).toArray e) :: (Dd, PySem.W.listOf ws.toArray 0) :: lampOs ls) → p.1 ≠ Dl → h'.get? p.1 = some p.2 ∧ p.1 ≠ L ∧ g.get? p.1 = none := fun p hp hne => ⟨(hs.2 _ hne).trans (N p hp).1, (N p hp).2⟩
  intro p hp
  rcases List.mem_cons.mp hp with rfl | hp
  · exact one _ (.tail _ (.tail _ (.head _))) hI
  rcases List.mem_cons.mp hp with rfl | hp
  · exact one _ (.tail _ (.head _)) a3
  rcases List.mem_cons.mp hp with rfl | hp
  · refine ⟨?_, (N _ (.tail _ (.tail _ (.tail _ (.head _))))).2⟩
    rw [ho]
    simp [refsOf]
  rcases List.mem_cons.mp hp with rfl | hp
  · exact one _ (.tail _ (.tail _ (.tail _ (.tail _ (.head _))))) a2
  · obtain ⟨y, hy, rfl⟩ := List.mem_map.mp hp
    rcases List.mem_append.mp hy with hy | hy
    · exact one _ (.tail _ (.tail _ (.tail _ (.tail _ (.tail _ (List.mem_map_of_mem (f := fun y : Lamp => (y.a, y.obj)) hy)))))) (hls y hy)
    · rw [List.mem_singleton.mp hy]; exact one _ (.head _) hT
theorem draw_off (hne : ∀ p ∈ drawLed Dd Df Dl ws (fs, n, ls, e), p.1 ≠ I) (hd : d.a ≠ I) : ∀ p ∈ drawLed Dd Df Dl ws (fs', n', ls ++ [d], e'), p.1 ≠ I := by
  intro p hp
  rcases List.mem_cons.mp hp with rfl | hp
  · exact hne (Df, PySem.W.listOf (intVals fs).toArray n) (.head _)
  rcases List.mem_cons.mp hp with rfl | hp
  · exact hne (Dl, PySem.W.listOf (refsOf ls).toArray e) (.tail _ (.head _))
  rcases List.mem_cons.mp hp with rfl | hp
  · exact hne (Dd, PySem.W.listOf ws.toArray 0) (.tail _ (.tail _ (.head _)))
  · obtain ⟨y, hy, rfl⟩ := List.mem_map.mp hp
    rcases List.mem_append.mp hy with hy | hy
    · exact hne _ (.tail _ (.tail _ (.tail _ (List.mem_map_of_mem (f := fun y : Lamp => (y.a, y.obj)) hy))))
    · rw [List.mem_singleton.mp hy]; exact hd
end
abbrev lampLed (D : Addr) (c : Nat) (zs : List Lamp) : List (Addr × Obj) := (D, PySem.W.listOf (refsOf zs).toArray c) :: lampOs zs
theorem lamps_sorted {g h : Heap} {L D Dd Df Dl : Addr} {c n e i : Nat} {fs : List (Int × Tok)} {ls zs : List Lamp} {ws : List Value} (hp : zs.Perm ls) (h6 : 6 ≤ ls.length) (h8 : ls.length ≤ 8) (hP : DrawOk Dd Df Dl i fs ls) (N : News g L h ((D, PySem.W.listOf (refsOf zs).toArray c) :: drawLed Dd Df Dl ws (fs, n, ls, e))) :
    News g L h (lampLed D c zs) ∧ 6 ≤ zs.length ∧ zs.length ≤ 8 ∧ ∀ x ∈ zs, x.Ok := by
  refine ⟨fun p hq => ?_, by rw [hp.length_eq]; exact h6, by rw [hp.length_eq]; exact h8, fun x hx => hP.ok x (hp.mem_iff.mp hx)⟩
  rcases List.mem_cons.mp hq with rfl | hq
  · exact N _ (.head _)
  · obtain ⟨y, hy, rfl⟩ := List.mem_map.mp hq
    exact N _ (.tail _ (.tail _ (.tail _ (.tail _ (List.mem_map_of_mem (f := fun y : Lamp => (y.a, y.obj)) (hp.mem_iff.mp hy))))))
theorem draws_len2 {vs : List Value} {ks : List Int} {n : Nat} (hn : ks.length = n) (h8 : n ≤ 8) (h : IntsAre vs (ks ++ List.drop (Int.toNat (n : Nat)) [25, 78, 3, 36, 95, 65])) : ∃ ds, IntsAre vs ds ∧ 6 ≤ ds.length ∧ ds.length ≤ 8 := by
  refine ⟨_, h, ?_, ?_⟩ <;> simp [hn] <;> omega
theorem intVals_are : ∀ (l : List (Int × Tok)), IntsAre (intVals l) (l.map (·.1))
  | [] => .nil
  | p :: r => .cons p.1 p.2 (intVals_are r)
theorem ints_of : ∀ {ys : List Value}, (∀ (i : Nat) (y : Value), ys[i]? = some y → ∃ n t, y = Value.int n t) → ∃ l : List (Int × Tok), ys = intVals l
  | [], _ => ⟨[], rfl⟩
  | y :: r, h => by
    obtain ⟨n, t, e⟩ := h 0 y (by simp)
    obtain ⟨l, e2⟩ := ints_of (ys := r) fun i z hz => h (i + 1) z (by simpa using hz)
    exact ⟨(n, t) :: l, by rw [e, e2]; rfl⟩
theorem ints6 {a b c d e f : Int} {t u v w x y : Tok} : IntsAre [Value.int a t, .int b u, .int c v, .int d w, .int e x, .int f y] [a, b, c, d, e, f] := .cons _ _ (.cons _ _ (.cons _ _ (.cons _ _ (.cons _ _ (.cons _ _ .nil)))))
end
section
theorem level_same {k : Nat} (h1 : 1 ≤ k) (h2 : k ≤ 2) : (Float64.cmpInt (divF k 2) 1 == some Ordering.eq) = (Float64.cmp (divF k 2) 4604930618986332160 == some Ordering.gt) := by
  have : k = 1 ∨ k = 2 := by omega
  rcases this with rfl | rfl <;> decide +kernel
theorem sign_up {x : Lamp} (h : x.Ok) (hb : (Float64.cmpInt x.lv 1 == some Ordering.eq) = true) : Str.ofString "(" = x.sign := by
  obtain ⟨_, _, _, k, h1, h2, e⟩ := h
  unfold Lamp.sign
  rw [e, level_same h1 h2] at hb
  rw [e, if_pos hb]
theorem sign_down {x : Lamp} (h : x.Ok) (hb : (Float64.cmpInt x.lv 1 == some Ordering.eq) = false) : Str.ofString ")" = x.sign := by
  obtain ⟨_, _, _, k, h1, h2, e⟩ := h
  unfold Lamp.sign
  rw [e, level_same h1 h2] at hb
  rw [e, hb]
  rfl
theorem sign_two {x : Lamp} : x.sign = Str.ofString "(" ∨ x.sign = Str.ofString ")" := by
  unfold Lamp.sign
  split
  · exact .inl rfl
  · exact .inr rfl
section
variable {prog : Program} {w : World} {A : Around} {E : Value → Shared → Prop} {s : Shared}
theorem item_tup2 {value slice : PySem.Expr} {t : Addr} {v x y : Value} {vs : List Value} {u : Tok} {Q : Value → Shared → Prop} (ht : IsTup s.heap t (v :: x :: y :: vs).toArray) (h : Q y s)
    (hs : subscripted slice false (.ref t) (.int 2 u) = operate [.ref t, .int 2 u] (getItem (.ref t) (.int 2 u)) := by with_unfolding_all rfl) :
    wpAny (model prog w) A (subscriptTail value slice (.ref t) (.int 2 u)) Q E s :=
  item_tupleT ht (by decide) (by decide) (j := 2) (by simp [seqIndex?]; omega) rfl h hs
end
theorem refs_at {zs : List Lamp} {i : Nat} {v : Value} (h : (refsOf zs).toArray[i]? = some v) : ∃ z, zs[i]? = some z ∧ v = .ref z.a := by
  rw [List.getElem?_toArray, refsOf, List.getElem?_map] at h
  cases q : zs[i]? with
  | none => rw [q] at h; cases h
  | some z => rw [q] at h; exact ⟨z, rfl, (Option.some.inj h).symm⟩
theorem strs_of {zs : List Lamp} {ys : List Value} (hl : ys.length = (refsOf zs).toArray.size) (hf : ∀ (i : Nat) (y : Value), ys[i]? = some y → ∃ z : Lamp, zs[i]? = some z ∧ ∃ t, y = Value.str z.sign t) : ∃ l : List (Str × Tok), ys = strValues l ∧ l.map (·.1) = zs.map Lamp.sign := by
  rw [List.size_toArray, refsOf, List.length_map] at hl
  induction ys generalizing zs with
  | nil =>
    have : zs = [] := List.length_eq_zero_iff.mp hl.symm
    subst this
    exact ⟨[], rfl, rfl⟩
  | cons y ys ih =>
    obtain ⟨z, hz, t, rfl⟩ := hf 0 y rfl
    cases zs with
    | nil => simp at hz
    | cons z' zs =>
      have e : z' = z := by simpa using hz
      subst e
      obtain ⟨l, e1, e2⟩ := ih (zs := zs) (by simpa using hl) (fun i y h => by obtain ⟨z, hz, q⟩ := hf (i + 1) y (by simpa using h); exact ⟨z, by simpa using hz, q⟩)
      exact ⟨(z'.sign, t) :: l, by rw [e1]; rfl, by rw [List.map_cons, List.map_cons, e2]⟩
def sgn (b : Bool) : Str := if b then Str.ofString "(" else Str.ofString ")"
def sgnCode (b : Bool) : Nat := if b then 40 else 41
/-- the line of the brackets -/
def brk (bs : List Bool) : Str := ⟨(bs.map sgnCode).toArray⟩
def Lamp.up (x : Lamp) : Bool := Float64.cmp x.lv 4604930618986332160 == some Ordering.gt
theorem sgn_cps (b : Bool) : (sgn b).cps = #[sgnCode b] := by cases b <;> decide
theorem fold_brk : ∀ (bs : List Bool) (acc : Array Nat), (bs.map sgn).foldl (fun acc p => acc ++ (Str.ofString "").cps ++ p.cps) acc = acc ++ (bs.map sgnCode).toArray
  | [], acc => by simp
  | b :: r, acc => by
    rw [List.map_cons, List.foldl_cons, fold_brk r, sgn_cps]
    have e : (Str.ofString "").cps = #[] := rfl
    rw [e]
    apply Array.toList_inj.mp
    simp
theorem join_brk (bs : List Bool) : Txt.join (Str.ofString "") (bs.map sgn) = brk bs := by
  unfold Txt.join Builtin.Str.glued brk
  congr 1
  cases bs with
  | nil => rfl
  | cons b r =>
    show (r.map sgn).foldl _ (sgn b).cps = _
    rw [fold_brk, sgn_cps]
    apply Array.toList_inj.mp
    simp
theorem brk_length (bs : List Bool) : (brk bs).length = bs.length := by simp [brk, Str.length]
theorem sign_up_eq (zs : List Lamp) : zs.map Lamp.sign = (zs.map Lamp.up).map sgn := by
  rw [List.map_map]
  refine List.map_congr_left fun x _ => ?_
  unfold Function.comp Lamp.sign Lamp.up sgn
  rfl
theorem turned_brk {zs : List Lamp} {k : Nat} (h0 : 0 < zs.length) : Txt.join (Str.ofString "") (turned k (zs.map Lamp.sign) (Str.ofString ")")) = brk (turned k (zs.map Lamp.up) false) := by
  rw [sign_up_eq, ← turned_map (d := false) sgn (by rw [List.length_map]; exact h0), join_brk]
theorem ring_brk (zs : List Lamp) : Txt.join (Str.ofString "") (zs.map Lamp.sign) = brk (zs.map Lamp.up) := by rw [sign_up_eq, join_brk]
theorem foldl_app : ∀ (ls : List (Array Value)) (acc : Array Value), (List.foldl (fun x1 x2 => x1 ++ x2) acc ls).toList = acc.toList ++ (ls.map Array.toList).flatten
  | [], acc => by simp
  | x :: r, acc => by rw [List.foldl_cons, foldl_app r]; simp
section
variable {prog : Program} {w : World} {A : Around} {E : Value → Shared → Prop} {s : Shared} {h₀ : Heap} {L l : Addr} {m : Str → Option Value} {news : List (Addr × Obj)} {v : Value} {vs zs : List Value} {k : Nat} {x : Int} {u : Tok} {Q : Value → Shared → Prop}
/-- a written list, some times over -/
theorem mul_lit (F : Fr h₀ L s.heap m) (N : News h₀ L s.heap news) (hl : (l, PySem.W.listOf (List.toArray (v :: vs)) k) ∈ news) (hlo : 0 ≤ x) (hhi : x < 100) (hz : vs.length < 100) (e : (List.replicate x.toNat (v :: vs)).flatten = zs)
    (h : ∀ D h', Fr h₀ L h' m → News h₀ L h' ((D, PySem.W.listOf zs.toArray 0) :: news) → (∀ p ∈ news, p.1 < D) → Q (.ref D) { s with heap := h' }) : wpAny (model prog w) A (binaryOp .Mult (.ref l) (.int x u)) Q E s := by
  have hz2 : (List.toArray (v :: vs)).size * x.toNat ≤ 2 ^ 24 := by
    have h1 : (List.toArray (v :: vs)).size ≤ 100 := by simp; omega
    have h2 : x.toNat ≤ 100 := by omega
    exact Nat.le_trans (Nat.mul_le_mul h1 h2) (by decide)
  refine mul_list F N (N _ hl).1 (by omega) (by omega) hz2 (fun h' F' N' => ?_)
  refine h _ h' F' ?_ fun p hp => Heap.lt_size (N p hp).1
  have e2 : List.foldl (fun x1 x2 => x1 ++ x2) #[] (List.replicate (if (List.toArray (v :: vs)).isEmpty = true then 0 else x.toNat) (List.toArray (v :: vs))) = zs.toArray := by
    apply Array.toList_inj.mp
    rw [foldl_app, List.map_replicate]
    simpa using e
  rw [e2] at N'
  exact N'
end
section
variable {prog : Program} {w : World} {A : Around} {E : Value → Shared → Prop} {s : Shared} {h₀ : Heap} {L l : Addr} {m : Str → Option Value} {news : List (Addr × Obj)} {v : Value} {vs zs : List Value} {k : Nat} {u : Tok} {Q : Value → Shared → Prop}
theorem mul_lit3 (F : Fr h₀ L s.heap m) (N : News h₀ L s.heap news) (hl : (l, PySem.W.listOf (List.toArray (v :: vs)) k) ∈ news) (hz : vs.length < 100) (e : (v :: vs) ++ ((v :: vs) ++ (v :: vs)) = zs)
    (h : ∀ D h', Fr h₀ L h' m → News h₀ L h' ((D, PySem.W.listOf zs.toArray 0) :: news) → (∀ p ∈ news, p.1 < D) → Q (.ref D) { s with heap := h' }) : wpAny (model prog w) A (binaryOp .Mult (.ref l) (.int 3 u)) Q E s :=
  mul_lit F N hl (by decide) (by decide) hz (by rw [← e]; simp [List.replicate]) h
theorem mul_lit2 (F : Fr h₀ L s.heap m) (N : News h₀ L s.heap news) (hl : (l, PySem.W.listOf (List.toArray (v :: vs)) k) ∈ news) (hz : vs.length < 100) (e : (v :: vs) ++ (v :: vs) = zs)
    (h : ∀ D h', Fr h₀ L h' m → News h₀ L h' ((D, PySem.W.listOf zs.toArray 0) :: news) → (∀ p ∈ news, p.1 < D) → Q (.ref D) { s with heap := h' }) : wpAny (model prog w) A (binaryOp .Mult (.ref l) (.int 2 u)) Q E s :=
  mul_lit F N hl (by decide) (by decide) hz (by rw [← e]; simp [List.replicate]) h
end
section
variable {prog : Program} {w : World} {A : Around} {E : Value → Shared → Prop} {s : Shared} {h₀ : Heap} {L l a b : Addr} {m : Str → Option Value} {news : List (Addr × Obj)} {vs ws : List Value} {k k2 : Nat} {x : Int} {u : Tok} {Q : Value → Shared → Prop} {q q2 : List (Str × Tok)}
theorem strs_app (p q : List (Str × Tok)) : strValues p ++ strValues q = strValues (p ++ q) := (List.map_append ..).symm
theorem strs_rep (n : Nat) (q : List (Str × Tok)) : (List.replicate n (strValues q)).flatten = strValues (List.replicate n q).flatten := by
  induction n with
  | zero => rfl
  | succ n ih => rw [List.replicate_succ, List.flatten_cons, ih, strs_app, List.replicate_succ, List.flatten_cons]
theorem strs_rep_fst (n : Nat) (q : List (Str × Tok)) : (List.replicate n q).flatten.map (·.1) = (List.replicate n (q.map (·.1))).flatten := by
  induction n with
  | zero => rfl
  | succ n ih => rw [List.replicate_succ, List.flatten_cons, List.map_append, ih, List.replicate_succ, List.flatten_cons]
theorem mul_strs (F : Fr h₀ L s.heap m) (N : News h₀ L s.heap news) (hl : (l, PySem.W.listOf (List.toArray vs) k) ∈ news) (hq : vs = strValues q) (hlo : 0 ≤ x) (hhi : x < 100) (h0 : 0 < q.length) (hz : q.length < 100)
    (h : ∀ D h' r, r.map (·.1) = (List.replicate x.toNat (q.map (·.1))).flatten → Fr h₀ L h' m → News h₀ L h' ((D, PySem.W.listOf (strValues r).toArray 0) :: news) → (∀ p ∈ news, p.1 < D) → Q (.ref D) { s with heap := h' }) : wpAny (model prog w) A (binaryOp .Mult (.ref l) (.int x u)) Q E s := by
  subst hq
  cases q with
  | nil => exact absurd h0 (by decide)
  | cons p q =>
    have e : strValues (p :: q) = .str p.1 p.2 :: strValues q := rfl
    rw [e] at hl
    refine mul_lit F N hl hlo hhi (by rw [strValues, List.length_map]; simp at hz; omega) (zs := strValues (List.replicate x.toNat (p :: q)).flatten) ?_ fun D h' F' N' l1 => h D h' _ (strs_rep_fst _ _) F' N' l1
    rw [← strs_rep]; rfl
theorem add_strs {t1 t2 : List Str} (F : Fr h₀ L s.heap m) (N : News h₀ L s.heap news) (ha : (a, PySem.W.listOf (List.toArray vs) k) ∈ news) (hb : (b, PySem.W.listOf (List.toArray ws) k2) ∈ news) (hq : vs = strValues q) (hq2 : ws = strValues q2) (e1 : q.map (·.1) = t1) (e2 : q2.map (·.1) = t2) (hz : t1.length < 100) (hz2 : t2.length < 100)
    (h : ∀ D h' r, r.map (·.1) = t1 ++ t2 → Fr h₀ L h' m → News h₀ L h' ((D, PySem.W.listOf (strValues r).toArray 0) :: news) → (∀ p ∈ news, p.1 < D) → Q (.ref D) { s with heap := h' }) : wpAny (model prog w) A (binaryOp .Add (.ref a) (.ref b)) Q E s := by
  subst hq hq2
  have l1 := congrArg List.length e1
  have l2 := congrArg List.length e2
  rw [List.length_map] at l1 l2
  refine kmk_add_lit F N (N.isList ha) (N.isList hb) (zs := strValues (q ++ q2)) (strs_app q q2) (fun D h' F' N' l1 => h D h' _ (by rw [List.map_append, e1, e2]) F' N' l1) ?_
  simp only [strValues, List.length_map, sizeLine_eq]; omega
end
theorem strs2 {a b : Str} {t u : Tok} : [Value.str a t, Value.str b u] = strValues [(a, t), (b, u)] := rfl
theorem strs6 {a b c d e f : Str} {t u v w x y : Tok} : [Value.str a t, Value.str b u, Value.str c v, Value.str d w, Value.str e x, Value.str f y] = strValues [(a, t), (b, u), (c, v), (d, w), (e, x), (f, y)] := rfl
theorem strs_len {r : List (Str × Tok)} {l : List Str} (h : r.map (·.1) = l) {n : Nat} (hl : Nat.blt l.length n = true) : r.length < n := by
  have := congrArg List.length h
  rw [List.length_map] at this
  rw [this]; simpa [Nat.blt_eq] using hl
end
section
section
variable {w : World} {env : Env} {outer : List Env} {A A₀ : Around} {base g : Heap} {L : Addr} {m mg mb : Str → Option Value} {loose : List Str} {mean : ExcName → Option Value} {s : Shared} {Q E : Value → Shared → Prop} {nx : List (Addr × Obj)}
theorem call_read {D : Addr} {c k : Nat} {zs : List Lamp} {z : Lamp} {p : Int} {t0 : Tok} (B : Below A₀ base outer g) (F : Fr g L s.heap m) (N : News g L s.heap nx) (X : (hd.heap_39 w.params).In g) (T : Top hd.view_39 loose mean mg mb g)
    (hA : A.frames = some (env :: outer)) (hh : A.handled = none) (hd' : A.depth ≤ 500) (hu : A.units ≤ 500) (hf : env.frame = some L) (hke : env.scope.kind = .function)
    (hD : ∀ q ∈ lampLed D c zs, q ∈ nx) (hok : ∀ x ∈ zs, x.Ok) (h8 : zs.length ≤ 8) (h6 : 6 ≤ zs.length) (hord : (zs.map (·.p)).Pairwise (· < ·)) (hz : zs[k]? = some z) (hp : p = z.p)
    (h : ∀ t h' tk', Fr g L h' m → News g L h' nx → Q (.str (brk (turned k (zs.map Lamp.up) false)) t) { s with heap := h', toks := tk' }) :
    wpAny (model PySem.Challenge.rw_pe0090_01.row.prog w) A (call (.ref 61) [.ref D, .int p t0]) Q E s := by
  subst hp
  have hzo := hok z (List.mem_of_getElem? hz)
  refine wp_around (A := AX 500 500 env outer) (read_spec (ls := zs) (k := k) B F X T hf hke (N.isList (hD _ (.head _))) (fun x hx => (N _ (hD _ (.tail _ (List.mem_map_of_mem (f := fun y : Lamp => (y.a, y.obj)) hx)))).1) hok hzo.1 hzo.2.1 h8 h6 hord (by rw [List.getElem?_map, hz]; rfl) fun t h' tk' hk => ?_) hh hd' hA rfl hu
  rw [turned_brk (by omega)]
  exact h t h' tk' (F.grownK hk) (N.grown hk)
theorem call_rep {line : Str} {tt : Tok} {l : List (Str × Tok)} {ps : List (Str × Str)} (B : Below A₀ base outer g) (F : Fr g L s.heap m) (N : News g L s.heap nx) (X : (hd.heap_39 w.params).In g) (T : Top hd.view_39 loose mean mg mb g)
    (hA : A.frames = some (env :: outer)) (hh : A.handled = none) (hd' : A.depth ≤ 600) (hu : A.units ≤ 600) (hf : env.frame = some L) (hke : env.scope.kind = .function)
    (hl : l.map (·.1) = flatP ps) (hz : l.length ≤ 100) (hok : replOk ps line = true)
    (h : ∀ t h' tk', Fr g L h' m → News g L h' nx → Q (.str (replF ps line) t) { s with heap := h', toks := tk' }) :
    wpAny (model PySem.Challenge.rw_pe0090_01.row.prog w) A (call (.ref 42) (.str line tt :: strValues l)) Q E s :=
  wp_around (A := AX 600 600 env outer) (rep_spec B F X T hf hke hl (by rw [strValues, List.length_map]; exact hz) hok fun t h' tk' hk => h t h' tk' (F.grownK hk) (N.grown hk)) hh hd' hA rfl hu
theorem call_left {line : Str} {tk : Tok} (B : Below A₀ base outer g) (F : Fr g L s.heap m) (N : News g L s.heap nx) (X : (hd.heap_39 w.params).In g) (T : Top hd.view_39 loose mean mg mb g)
    (hA : A.frames = some (env :: outer)) (hh : A.handled = none) (hd' : A.depth ≤ 600) (hu : A.units ≤ 600) (hf : env.frame = some L) (hke : env.scope.kind = .function)
    (hlen : line.length ≤ 100)
    (h : ∀ t h' tk', Fr g L h' m → News g L h' nx → Q (.str (leftF line) t) { s with heap := h', toks := tk' }) :
    wpAny (model PySem.Challenge.rw_pe0090_01.row.prog w) A (call (.ref 49) [.str line tk]) Q E s :=
  wp_around (A := AX 600 600 env outer) (left_spec B F X T hf hke hlen fun t h' tk' hk => h t h' tk' (F.grownK hk) (N.grown hk)) hh hd' hA rfl hu
theorem call_moved {left : Str} {tk : Tok} (B : Below A₀ base outer g) (F : Fr g L s.heap m) (N : News g L s.heap nx) (X : (hd.heap_39 w.params).In g) (T : Top hd.view_39 loose mean mg mb g)
    (hA : A.frames = some (env :: outer)) (hh : A.handled = none) (hd' : A.depth ≤ 600) (hu : A.units ≤ 600) (hf : env.frame = some L) (hke : env.scope.kind = .function)
    (hlen : left.length ≤ 100)
    (h : ∀ t h' tk', Fr g L h' m → News g L h' nx → Q (.str (movedF left) t) { s with heap := h', toks := tk' }) :
    wpAny (model PySem.Challenge.rw_pe0090_01.row.prog w) A (call (.ref 56) [.str left tk]) Q E s :=
  wp_around (A := AX 600 600 env outer) (moved_spec B F X T hf hke hlen fun t h' tk' hk => h t h' tk' (F.grownK hk) (N.grown hk)) hh hd' hA rfl hu
/-- what a call of _ellipsis_match wants of the pattern -/
def ellSide (want : Str) : Bool := Nat.ble want.length 100 && ((Builtin.Str.occurrences want (Str.ofString "...") 0 want.length 1).isEmpty || Nat.ble 2 (Txt.split want (Str.ofString "...")).length) && Nat.ble (Txt.split want (Str.ofString "...")).length 100
theorem call_ell {want got : Str} {tw tg : Tok} (B : Below A₀ base outer g) (F : Fr g L s.heap m) (N : News g L s.heap nx) (X : (hd.heap_39 w.params).In g) (T : Top hd.view_39 loose mean mg mb g)
    (hA : A.frames = some (env :: outer)) (hh : A.handled = none) (hd' : A.depth ≤ 600) (hu : A.units ≤ 600) (hf : env.frame = some L) (hke : env.scope.kind = .function)
    (hs : ellSide want = true) (hlg : got.length ≤ 100)
    (h : ∀ h' tk', Fr g L h' m → News g L h' nx → Q (.bool (ellF want got)) { s with heap := h', toks := tk' }) :
    wpAny (model PySem.Challenge.rw_pe0090_01.row.prog w) A (call (.ref 35) [.str want tw, .str got tg]) Q E s := by
  simp only [ellSide, Bool.and_eq_true, Bool.or_eq_true] at hs
  obtain ⟨⟨h1, h2⟩, h3⟩ := hs
  refine wp_around (A := AX 600 600 env outer) (ell_spec B F X T hf hke (Nat.le_of_ble_eq_true h1) hlg (fun q => ?_) (Nat.le_of_ble_eq_true h3) fun h' tk' hk => h h' tk' (F.grownK hk) (N.grown hk)) hh hd' hA rfl hu
  rcases h2 with h2 | h2
  · rw [q] at h2; cases h2
  · exact Nat.le_of_ble_eq_true h2
end
abbrev MainSt := List (Str × Tok) × Nat × List (Str × Tok) × Nat
/-- the ledger of the main loop -/
abbrev mainLed (Do Dc Dh D : Addr) (r : List (Str × Tok)) (cz : Nat) (zs : List Lamp) (c : MainSt) : List (Addr × Obj) :=
  (Do, PySem.W.listOf (strValues c.1).toArray c.2.1) :: (Dc, PySem.W.listOf (strValues c.2.2.1).toArray c.2.2.2) :: (Dh, PySem.W.listOf (strValues r).toArray 0) :: lampLed D cz zs
/-- the pairs of the law's chain -/
def chainP : List (Str × Str) :=
  (Str.ofString "()", Str.ofString "...") :: ((List.replicate 3 [(Str.ofString "......", Str.ofString "..."), (Str.ofString "......", Str.ofString "..."), (Str.ofString "(...)", Str.ofString "...")]).flatten ++ [(Str.ofString "......", Str.ofString "..."), (Str.ofString "......", Str.ofString "...")])
theorem allLt_mem {d : Addr} {l : List (Addr × Obj)} (h : AllLt d l) {p : Addr × Obj} (hp : p ∈ l) : @LT.lt Nat _ p.1 d := by
  induction l with
  | nil => cases hp
  | cons q r ih =>
    rcases List.mem_cons.mp hp with e | hp
    · rw [e]; exact h.1
    · exact ih h.2 hp
theorem main_start {g h : Heap} {L Do Dc Dh D : Addr} {r : List (Str × Tok)} {cz : Nat} {zs : List Lamp} {l1 l2 l3 l4 l5 l6 : Addr × Obj} {x1 x2 x3 x4 x5 x6 y1 y2 y3 y4 y5 y6 : Prop}
    (N : News g L h ((Dc, PySem.W.listOf #[] 0) :: (Do, PySem.W.listOf #[] 0) :: (Dh, PySem.W.listOf (strValues r).toArray 0) :: l1 :: l2 :: l3 :: l4 :: l5 :: l6 :: lampLed D cz zs))
    (h1 : Do < Dc ∧ Dh < Dc ∧ x1 ∧ x2 ∧ x3 ∧ x4 ∧ x5 ∧ x6 ∧ D < Dc ∧ AllLt Dc (lampOs zs)) (h2 : Dh < Do ∧ y1 ∧ y2 ∧ y3 ∧ y4 ∧ y5 ∧ y6 ∧ D < Do ∧ AllLt Do (lampOs zs)) :
    ∃ Xo Xc Xh, Xo = Do ∧ Xc = Dc ∧ Xh = Dh ∧ News g L h (mainLed Xo Xc Xh D r cz zs ([], 0, [], 0)) ∧ Xo ≠ Xc ∧ Xh ≠ Xo ∧ Xh ≠ Xc ∧ (∀ q ∈ lampLed D cz zs, q.1 ≠ Xo ∧ q.1 ≠ Xc) := by
  obtain ⟨a1, a2, _, _, _, _, _, _, a3, a4⟩ := h1
  obtain ⟨b1, _, _, _, _, _, _, b3, b4⟩ := h2
  refine ⟨Do, Dc, Dh, rfl, rfl, rfl, fun p hp => ?_, Nat.ne_of_lt a1, Nat.ne_of_lt b1, Nat.ne_of_lt a2, fun q hq => ?_⟩
  · rcases List.mem_cons.mp hp with rfl | hp
    · exact N _ (.tail _ (.head _))
    rcases List.mem_cons.mp hp with rfl | hp
    · exact N _ (.head _)
    rcases List.mem_cons.mp hp with rfl | hp
    · exact N _ (.tail _ (.tail _ (.head _)))
    · exact N _ (.tail _ (.tail _ (.tail _ (.tail _ (.tail _ (.tail _ (.tail _ (.tail _ (.tail _ hp)))))))))
  · rcases List.mem_cons.mp hq with rfl | hq
    · exact ⟨Nat.ne_of_lt b3, Nat.ne_of_lt a3⟩
    · exact ⟨Nat.ne_of_lt (allLt_mem b4 hq), Nat.ne_of_lt (allLt_mem a4 hq)⟩
/-- the stretch's first bracket is an opening one and no closing one is left -/
def isOpen (s : Str) : Bool := ellF (Str.ofString "(...") s && !ellF (Str.ofString "...)...") s
def isClosed (s : Str) : Bool := ellF (Str.ofString "...)") s && !ellF (Str.ofString "...(...") s
def leftAt (bs : List Bool) (k : Nat) : Str := leftF (brk (turned k bs false))
def openedF (bs : List Bool) (m : Nat) : List Str := ((List.range m).map (leftAt bs)).filter isOpen
def closedF (bs : List Bool) (m : Nat) : List Str := ((List.range m).map (leftAt bs)).filter isClosed
structure LineOk (L : Str) : Prop where
  rep : replOk chainP L = true
  eq : replF chainP L = leftF L
  len : (leftF L).length ≤ 100
  ell : ellF (leftF L) L = true
  side : ellSide (leftF L) = true
structure RingOk (bs : List Bool) : Prop where
  line : ∀ k, k < bs.length → LineOk (brk (turned k bs false))
  cut : ∀ k, k < bs.length → Txt.slice (brk bs) (some (k : Int)) none ++ Txt.slice (brk bs) none (some (k : Int)) = brk (turned k bs false)
  no : ((openedF bs bs.length).length : Int) = max 0 (Txt.count (brk bs) (Str.ofString "(") - Txt.count (brk bs) (Str.ofString ")"))
  nc : ((closedF bs bs.length).length : Int) = max 0 (-(Txt.count (brk bs) (Str.ofString "(") - Txt.count (brk bs) (Str.ofString ")")))
  moved : ∀ j, j < (openedF bs bs.length).length → (openedF bs bs.length).getD j ⟨#[]⟩ = movedF ((openedF bs bs.length).getD ((j + (openedF bs bs.length).length - 1) % (openedF bs bs.length).length) ⟨#[]⟩)
theorem chain_flat : flatP chainP = ([Str.ofString "()", Str.ofString "..."] ++ (List.replicate (Int.toNat 3) [Str.ofString "......", Str.ofString "...", Str.ofString "......", Str.ofString "...", Str.ofString "(...)", Str.ofString "..."]).flatten) ++ (List.replicate (Int.toNat 2) [Str.ofString "......", Str.ofString "..."]).flatten := by decide +kernel
section
variable {prog : Program} {w : World} {A : Around} {E : Value → Shared → Prop} {s : Shared}
theorem item_here {value slice : PySem.Expr} {l : Addr} {vs : List Value} {k : Int} {u : Tok} {v : Value} {Q : Value → Shared → Prop} (hl : s.heap.IsList l vs.toArray) (h0 : 0 ≤ k) (hhi : k < 1000) (hx : vs[k.toNat]? = some v) (h : Q v s)
    (hs : subscripted slice false (.ref l) (.int k u) = operate [.ref l, .int k u] (getItem (.ref l) (.int k u)) := by with_unfolding_all rfl) : wpAny (model prog w) A (subscriptTail value slice (.ref l) (.int k u)) Q E s :=
  tail_any hl.typeIs slot_list_getitem.lookup (wpAny_getItem_list hl h0 (by omega) (by simpa using hx) h) hs
theorem ne_same {x y : Str} {t u : Tok} {Q : Value → Shared → Prop} (e : x = y) (h : Q (.bool false) s) : wpAny (model prog w) A (compareOp .NotEq (.str x t) (.str y u)) Q E s := by
  refine PyProof.Rows.ne_str ?_
  rw [e, bne_self_eq_false]
  exact h
end
section
variable {w : World} {env : Env} {outer : List Env} {A A₀ : Around} {base g : Heap} {L : Addr} {m mg mb : Str → Option Value} {loose : List Str} {mean : ExcName → Option Value} {s : Shared} {Q E : Value → Shared → Prop} {nx : List (Addr × Obj)}
theorem call_readE {D : Addr} {c k : Nat} {zs : List Lamp} {z : Lamp} {p : Int} {t0 : Tok} {bs : List Bool} {ln : Str} (B : Below A₀ base outer g) (F : Fr g L s.heap m) (N : News g L s.heap nx) (X : (hd.heap_39 w.params).In g) (T : Top hd.view_39 loose mean mg mb g)
    (hA : A.frames = some (env :: outer)) (hh : A.handled = none) (hd' : A.depth ≤ 500) (hu : A.units ≤ 500) (hf : env.frame = some L) (hke : env.scope.kind = .function)
    (hD : ∀ q ∈ lampLed D c zs, q ∈ nx) (hok : ∀ x ∈ zs, x.Ok) (h8 : zs.length ≤ 8) (h6 : 6 ≤ zs.length) (hord : (zs.map (·.p)).Pairwise (· < ·)) (hz : zs[k]? = some z) (hp : p = z.p) (hbs : zs.map Lamp.up = bs) (hln : brk (turned k bs false) = ln)
    (h : ∀ t h' tk', Fr g L h' m → News g L h' nx → Q (.str ln t) { s with heap := h', toks := tk' }) :
    wpAny (model PySem.Challenge.rw_pe0090_01.row.prog w) A (call (.ref 61) [.ref D, .int p t0]) Q E s := by
  subst hbs hln
  exact call_read B F N X T hA hh hd' hu hf hke hD hok h8 h6 hord hz hp h
theorem call_repE {line lf : Str} {tt : Tok} {l : List (Str × Tok)} {vs : List Value} {ps : List (Str × Str)} (B : Below A₀ base outer g) (F : Fr g L s.heap m) (N : News g L s.heap nx) (X : (hd.heap_39 w.params).In g) (T : Top hd.view_39 loose mean mg mb g)
    (hA : A.frames = some (env :: outer)) (hh : A.handled = none) (hd' : A.depth ≤ 600) (hu : A.units ≤ 600) (hf : env.frame = some L) (hke : env.scope.kind = .function)
    (hv : vs = .str line tt :: strValues l) (hl : l.map (·.1) = flatP ps) (hz : l.length ≤ 100) (hok : replOk ps line = true) (he : replF ps line = lf)
    (h : ∀ t h' tk', Fr g L h' m → News g L h' nx → Q (.str lf t) { s with heap := h', toks := tk' }) :
    wpAny (model PySem.Challenge.rw_pe0090_01.row.prog w) A (call (.ref 42) vs) Q E s := by
  subst he hv
  exact call_rep B F N X T hA hh hd' hu hf hke hl hz hok h
theorem call_leftE {line lf : Str} {tk : Tok} (B : Below A₀ base outer g) (F : Fr g L s.heap m) (N : News g L s.heap nx) (X : (hd.heap_39 w.params).In g) (T : Top hd.view_39 loose mean mg mb g)
    (hA : A.frames = some (env :: outer)) (hh : A.handled = none) (hd' : A.depth ≤ 600) (hu : A.units ≤ 600) (hf : env.frame = some L) (hke : env.scope.kind = .function)
    (hlen : line.length ≤ 100) (he : leftF line = lf)
    (h : ∀ t h' tk', Fr g L h' m → News g L h' nx → Q (.str lf t) { s with heap := h', toks := tk' }) :
    wpAny (model PySem.Challenge.rw_pe0090_01.row.prog w) A (call (.ref 49) [.str line tk]) Q E s := by
  subst he
  exact call_left B F N X T hA hh hd' hu hf hke hlen h
theorem call_ellE {want got : Str} {tw tg : Tok} {b : Bool} (B : Below A₀ base outer g) (F : Fr g L s.heap m) (N : News g L s.heap nx) (X : (hd.heap_39 w.params).In g) (T : Top hd.view_39 loose mean mg mb g)
    (hA : A.frames = some (env :: outer)) (hh : A.handled = none) (hd' : A.depth ≤ 600) (hu : A.units ≤ 600) (hf : env.frame = some L) (hke : env.scope.kind = .function)
    (hs : ellSide want = true) (hlg : got.length ≤ 100) (he : ellF want got = b)
    (h : ∀ h' tk', Fr g L h' m → News g L h' nx → Q (.bool b) { s with heap := h', toks := tk' }) :
    wpAny (model PySem.Challenge.rw_pe0090_01.row.prog w) A (call (.ref 35) [.str want tw, .str got tg]) Q E s := by
  subst he
  exact call_ell B F N X T hA hh hd' hu hf hke hs hlg h
theorem call_movedE {left mv : Str} {tk : Tok} (B : Below A₀ base outer g) (F : Fr g L s.heap m) (N : News g L s.heap nx) (X : (hd.heap_39 w.params).In g) (T : Top hd.view_39 loose mean mg mb g)
    (hA : A.frames = some (env :: outer)) (hh : A.handled = none) (hd' : A.depth ≤ 600) (hu : A.units ≤ 600) (hf : env.frame = some L) (hke : env.scope.kind = .function)
    (hlen : left.length ≤ 100) (he : movedF left = mv)
    (h : ∀ t h' tk', Fr g L h' m → News g L h' nx → Q (.str mv t) { s with heap := h', toks := tk' }) :
    wpAny (model PySem.Challenge.rw_pe0090_01.row.prog w) A (call (.ref 56) [.str left tk]) Q E s := by
  subst he
  exact call_moved B F N X T hA hh hd' hu hf hke hlen h
end
theorem side_1 : ellSide (Str.ofString "(...") = true := by decide +kernel
theorem side_2 : ellSide (Str.ofString "...)...") = true := by decide +kernel
theorem side_3 : ellSide (Str.ofString "...)") = true := by decide +kernel
theorem side_4 : ellSide (Str.ofString "...(...") = true := by decide +kernel
theorem tup_lamp {g h : Heap} {L : Addr} {nx : List (Addr × Obj)} {z : Lamp} (N : News g L h nx) (hm : (z.a, z.obj) ∈ nx) : IsTup h z.a [Value.int z.p z.tp, .float z.sh z.ts, .float z.lv z.tl].toArray := ⟨_, (N _ hm).1, rfl, _, rfl⟩
section
variable {prog : Program} {w : World} {A : Around} {E : Value → Shared → Prop} {s : Shared} {h₀ : Heap} {L a : Addr} {m : Str → Option Value} {news : List (Addr × Obj)}
theorem star_strs {r : List (Str × Tok)} {n : Nat} {Q : List Value → Shared → Prop} (F : Fr h₀ L s.heap m) (N : News h₀ L s.heap news) (ha : (a, PySem.W.listOf (strValues r).toArray n) ∈ news) (hz : r.length ≤ 100)
    (h : ∀ h', Fr h₀ L h' m → News h₀ L h' news → Q (strValues r) { s with heap := h' }) : StarOf (model prog w) A E (.ref a) Q s :=
  star_seq F N ha rfl rfl (.inl rfl) rfl (by rw [List.size_toArray, strValues, List.length_map, sizeLine_eq]; omega) h
end
section
variable {prog : Program} {w : World} {A : Around} {E : Value → Shared → Prop} {s : Shared}
theorem truthy_two {b : Bool} {Q : Bool → Shared → Prop} (h1 : b = true → Q true s) (h2 : b = false → Q false s) : wpAny (model prog w) A (truthy (.bool b)) Q E s := by
  refine wpAny_truthy_bool ?_
  cases b with
  | true => exact h1 rfl
  | false => exact h2 rfl
end
section
variable {prog : Program} {w : World} {A : Around} {E : Value → Shared → Prop} {s : Shared} {g : Heap} {L Do Dc Dh D : Addr} {m : Str → Option Value} {own : List (Addr × Obj)} {os cs r : List (Str × Tok)} {no nc cz : Nat} {zs : List Lamp} {x : Str} {t : Tok} {Q : Value → Shared → Prop}
theorem strs_push (os : List (Str × Tok)) (x : Str) (t : Tok) : (strValues os).toArray.push (.str x t) = (strValues (os ++ [(x, t)])).toArray := by
  apply Array.toList_inj.mp
  simp [strValues]
theorem append_open (F : Fr g L s.heap m) (N : News g L s.heap (mainLed Do Dc Dh D r cz zs (os, no, cs, nc) ++ own)) (b1 : Do ≠ Dc) (b2 : Dh ≠ Do) (b4 : ∀ q ∈ lampLed D cz zs, q.1 ≠ Do ∧ q.1 ≠ Dc) (ho : ∀ q ∈ own, q.1 ≠ Do ∧ q.1 ≠ Dc) (hz : os.length ≤ 100)
    (h : ∀ h', Fr g L h' m → News g L h' (mainLed Do Dc Dh D r cz zs (os ++ [(x, t)], no + 1, cs, nc) ++ own) → Q .none { s with heap := h' }) : wpAny (model prog w) A (call (.builtin "list.append") [.ref Do, .str x t]) Q E s := by
  refine append_free F N (.head _) (by simp [strValues]; omega) fun h' F' hs hd => h h' F' ?_
  rw [strs_push] at hd
  refine news_upd (rest := (Dc, PySem.W.listOf (strValues cs).toArray nc) :: (Dh, PySem.W.listOf (strValues r).toArray 0) :: (lampLed D cz zs ++ own)) N (.head _) (fun p hp => .tail _ hp) (fun p hp => ?_) hs hd
  rcases List.mem_cons.mp hp with rfl | hp
  · exact Ne.symm b1
  rcases List.mem_cons.mp hp with rfl | hp
  · exact b2
  rcases List.mem_append.mp hp with hp | hp
  · exact (b4 p hp).1
  · exact (ho p hp).1
theorem append_close (F : Fr g L s.heap m) (N : News g L s.heap (mainLed Do Dc Dh D r cz zs (os, no, cs, nc) ++ own)) (b1 : Do ≠ Dc) (b3 : Dh ≠ Dc) (b4 : ∀ q ∈ lampLed D cz zs, q.1 ≠ Do ∧ q.1 ≠ Dc) (ho : ∀ q ∈ own, q.1 ≠ Do ∧ q.1 ≠ Dc) (hz : cs.length ≤ 100)
    (h : ∀ h', Fr g L h' m → News g L h' (mainLed Do Dc Dh D r cz zs (os, no, cs ++ [(x, t)], nc + 1) ++ own) → Q .none { s with heap := h' }) : wpAny (model prog w) A (call (.builtin "list.append") [.ref Dc, .str x t]) Q E s := by
  refine append_free F N (.tail _ (.head _)) (by simp [strValues]; omega) fun h' F' hs hd => h h' F' ?_
  rw [strs_push] at hd
  have N2 := news_upd (rest := (Do, PySem.W.listOf (strValues os).toArray no) :: (Dh, PySem.W.listOf (strValues r).toArray 0) :: (lampLed D cz zs ++ own)) N (.tail _ (.head _)) (fun p hp => ?_) (fun p hp => ?_) hs hd
  · intro p hp
    rcases List.mem_cons.mp hp with rfl | hp
    · exact N2 _ (.tail _ (.head _))
    rcases List.mem_cons.mp hp with rfl | hp
    · exact N2 _ (.head _)
    · exact N2 _ (.tail _ (.tail _ hp))
  · rcases List.mem_cons.mp hp with rfl | hp
    · exact .head _
    · exact .tail _ (.tail _ hp)
  · rcases List.mem_cons.mp hp with rfl | hp
    · exact b1
    rcases List.mem_cons.mp hp with rfl | hp
    · exact b3
    rcases List.mem_append.mp hp with hp | hp
    · exact (b4 p hp).2
    · exact (ho p hp).2
end
theorem own_off {own : List (Addr × Obj)} {Do Dc Dh D : Addr} {r : List (Str × Tok)} {cz : Nat} {zs : List Lamp} (h : OwnOff own (List.map (fun x => x.fst) (mainLed Do Dc Dh D r cz zs ([], 0, [], 0)))) : ∀ q ∈ own, q.1 ≠ Do ∧ q.1 ≠ Dc := by
  intro q hq
  have hh := h q hq
  exact ⟨hh _ (.head _), hh _ (.tail _ (.head _))⟩
theorem main_end {h₀ : Heap} {L Do Dc Dh D : Addr} {r os' cs' : List (Str × Tok)} {no' nc' cz : Nat} {zs : List Lamp} {bs : List Bool} {m₀ m' : Str → Option Value} {own : List (Addr × Obj)} {s₁ : Shared} {h' : Heap} {tk : Nat} {pre : List Int} {k : Int}
    (F : Fr h₀ L h' m') (N : News h₀ L h' (mainLed Do Dc Dh D r cz zs (os', no', cs', nc') ++ own)) (hr : ∀ z, z ≠ Str.ofString "k" → z ≠ Str.ofString "line" → z ≠ Str.ofString "left" → m' z = m₀ z)
    (ho : os'.map (·.1) = openedF bs (pre ++ [k]).length) (hc : cs'.map (·.1) = closedF bs (pre ++ [k]).length) :
    InvEndN h₀ L (KstS (mainLed Do Dc Dh D r cz zs) (fun _ => []) (fun _ => True) (Str.ofString "k") [Str.ofString "line", Str.ofString "left"] m₀ (fun pre st => st.1.map (·.1) = openedF bs pre.length ∧ st.2.2.1.map (·.1) = closedF bs pre.length) (pre ++ [k])) own (List.map (fun x => x.fst) (mainLed Do Dc Dh D r cz zs ([], 0, [], 0))) s₁ { s₁ with heap := h', toks := tk } := by
  refine kst_end (os', no', cs', nc') F N (fun p hp => List.mem_append_left _ hp) (fun p hp => List.mem_append_right _ hp) rfl trivial (fun _ h => (nomatch h)) (fun z h1 _ h3 => ?_) ⟨ho, hc⟩
  simp only [List.contains_cons, List.contains_nil, Bool.or_false, Bool.or_eq_false_iff, beq_eq_false_iff_ne, ne_eq] at h3
  exact hr z h1 h3.1 h3.2
section
variable {bs : List Bool} {pre : List Int} {k : Int} {os cs : List (Str × Tok)} {lf : Str} {t : Tok} {q1 q2 q3 q4 : Bool}
theorem opened_next (m : Nat) : openedF bs (m + 1) = openedF bs m ++ if isOpen (leftAt bs m) = true then [leftAt bs m] else [] := by
  unfold openedF
  rw [List.range_succ, List.map_append, List.filter_append]
  congr 1
  by_cases h : isOpen (leftAt bs m) = true
  · simp [h]
  · simp [h]
theorem closed_next (m : Nat) : closedF bs (m + 1) = closedF bs m ++ if isClosed (leftAt bs m) = true then [leftAt bs m] else [] := by
  unfold closedF
  rw [List.range_succ, List.map_append, List.filter_append]
  congr 1
  by_cases h : isClosed (leftAt bs m) = true
  · simp [h]
  · simp [h]
theorem opened_grow (h : os.map (·.1) = openedF bs pre.length) (e : leftAt bs pre.length = lf) (ho : isOpen lf = true) : (os ++ [(lf, t)]).map (·.1) = openedF bs (pre ++ [k]).length := by
  rw [List.length_append, show [k].length = 1 from rfl, opened_next, e, if_pos ho, List.map_append, h]
  rfl
theorem opened_stay (h : os.map (·.1) = openedF bs pre.length) (e : leftAt bs pre.length = lf) (ho : isOpen lf = false) : os.map (·.1) = openedF bs (pre ++ [k]).length := by
  rw [List.length_append, show [k].length = 1 from rfl, opened_next, e, if_neg (by rw [ho]; decide), List.append_nil, h]
theorem closed_grow (h : cs.map (·.1) = closedF bs pre.length) (e : leftAt bs pre.length = lf) (ho : isClosed lf = true) : (cs ++ [(lf, t)]).map (·.1) = closedF bs (pre ++ [k]).length := by
  rw [List.length_append, show [k].length = 1 from rfl, closed_next, e, if_pos ho, List.map_append, h]
  rfl
theorem closed_stay (h : cs.map (·.1) = closedF bs pre.length) (e : leftAt bs pre.length = lf) (ho : isClosed lf = false) : cs.map (·.1) = closedF bs (pre ++ [k]).length := by
  rw [List.length_append, show [k].length = 1 from rfl, closed_next, e, if_neg (by rw [ho]; decide), List.append_nil, h]
theorem open_yes (h1 : ellF (Str.ofString "(...") lf = q1) (h2 : ellF (Str.ofString "...)...") lf = q2) (e1 : q1 = true) (e2 : q2 = false) : isOpen lf = true := by
  unfold isOpen; rw [h1, h2, e1, e2]; rfl
theorem open_no1 (h1 : ellF (Str.ofString "(...") lf = q1) (e1 : q1 = false) : isOpen lf = false := by
  unfold isOpen; rw [h1, e1]; rfl
theorem open_no2 (h2 : ellF (Str.ofString "...)...") lf = q2) (e2 : q2 = true) : isOpen lf = false := by
  unfold isOpen; rw [h2, e2]; simp
theorem close_yes (h1 : ellF (Str.ofString "...)") lf = q3) (h2 : ellF (Str.ofString "...(...") lf = q4) (e1 : q3 = true) (e2 : q4 = false) : isClosed lf = true := by
  unfold isClosed; rw [h1, h2, e1, e2]; rfl
theorem close_no1 (h1 : ellF (Str.ofString "...)") lf = q3) (e1 : q3 = false) : isClosed lf = false := by
  unfold isClosed; rw [h1, e1]; rfl
theorem close_no2 (h2 : ellF (Str.ofString "...(...") lf = q4) (e2 : q4 = true) : isClosed lf = false := by
  unfold isClosed; rw [h2, e2]; simp
theorem opened_len (bs : List Bool) (m : Nat) : (openedF bs m).length ≤ m := by
  unfold openedF
  refine Nat.le_trans (List.length_filter_le _ _) ?_
  simp
theorem closed_len (bs : List Bool) (m : Nat) : (closedF bs m).length ≤ m := by
  unfold closedF
  refine Nat.le_trans (List.length_filter_le _ _) ?_
  simp
end
section
variable {prog : Program} {w : World} {A : Around} {E : Value → Shared → Prop} {s : Shared}
theorem ne_int_same {x y : Int} {t u : Tok} {Q : Value → Shared → Prop} (e : x = y) (h : Q (.bool false) s) : wpAny (model prog w) A (compareOp .NotEq (.int x t) (.int y u)) Q E s := by
  refine ne_int ?_
  rw [e, bne_self_eq_false]
  exact h
end
theorem max_if {n : Nat} {X : Int} (h : (n : Int) = max 0 X) : (n : Int) = if X > 0 then X else 0 := by
  rw [h]; split <;> omega
section
variable {prog : Program} {w : World} {A : Around} {E : Value → Shared → Prop} {s : Shared}
/-- the item ahead of a place, the last one ahead of the first -/
theorem item_prev {value slice : PySem.Expr} {l : Addr} {vs : List Value} {k : Nat} {u : Tok} {v : Value} {Q : Value → Shared → Prop} (hl : s.heap.IsList l vs.toArray) (hk : k < vs.length) (hz : vs.length < 1000) (hx : vs[(k + vs.length - 1) % vs.length]? = some v) (h : Q v s)
    (hs : subscripted slice false (.ref l) (.int ((k : Int) - 1) u) = operate [.ref l, .int ((k : Int) - 1) u] (getItem (.ref l) (.int ((k : Int) - 1) u)) := by with_unfolding_all rfl) :
    wpAny (model prog w) A (subscriptTail value slice (.ref l) (.int ((k : Int) - 1) u)) Q E s := by
  refine tail_any hl.typeIs slot_list_getitem.lookup ?_ hs
  by_cases h0 : k = 0
  · subst h0
    refine wpAny_getItem_list_neg hl (by omega) ?_ (by omega) ?_ h
    · simp only [List.size_toArray]; omega
    · have e : (((0 : Nat) : Int) - 1 + (vs.toArray.size : Int)).toNat = (0 + vs.length - 1) % vs.length := by
        rw [Nat.mod_eq_of_lt (by omega)]
        simp only [List.size_toArray]; omega
      rw [e]; simpa using hx
  · refine wpAny_getItem_list hl (by omega) (by omega) ?_ h
    have e : ((k : Int) - 1).toNat = (k + vs.length - 1) % vs.length := by
      rw [show k + vs.length - 1 = (k - 1) + vs.length by omega, Nat.add_mod_right, Nat.mod_eq_of_lt (by omega)]
      omega
    rw [e]; simpa using hx
end
theorem str_item {os : List (Str × Tok)} {op : List Str} (hpo : os.map (·.1) = op) {j : Nat} (hj : j < op.length) : ∃ t, (strValues os)[j]? = some (Value.str (op.getD j ⟨#[]⟩) t) := by
  subst hpo
  rw [List.length_map] at hj
  refine ⟨os[j].2, ?_⟩
  simp [strValues, hj]
theorem moved_at {os : List (Str × Tok)} {op : List Str} (hpo : os.map (·.1) = op) (hmv : ∀ j, j < op.length → op.getD j ⟨#[]⟩ = movedF (op.getD ((j + op.length - 1) % op.length) ⟨#[]⟩)) (hlen : ∀ x ∈ op, x.length ≤ 100) {j : Nat} (hj : j < op.length) :
    ∃ x tx y ty, (strValues os)[((j : Nat) : Int).toNat]? = some (Value.str x tx) ∧ (strValues os)[(j + (strValues os).length - 1) % (strValues os).length]? = some (Value.str y ty) ∧ movedF y = x ∧ y.length ≤ 100 ∧ j < (strValues os).length := by
  have hl : (strValues os).length = op.length := by rw [← hpo, strValues, List.length_map, List.length_map]
  have hm : (j + op.length - 1) % op.length < op.length := Nat.mod_lt _ (by omega)
  obtain ⟨tx, hx⟩ := str_item hpo hj
  obtain ⟨ty, hy⟩ := str_item hpo hm
  refine ⟨_, tx, _, ty, by rw [Int.toNat_natCast]; exact hx, by rw [hl]; exact hy, (hmv j hj).symm, hlen _ ?_, by rw [hl]; exact hj⟩
  rw [List.getD_eq_getElem?_getD, List.getElem?_eq_getElem hm]
  exact List.getElem_mem _
theorem opened_short {bs : List Bool} (hR : RingOk bs) : ∀ x ∈ openedF bs bs.length, x.length ≤ 100 := by
  intro x hx
  have h1 := (List.mem_filter.mp hx).1
  obtain ⟨k, hk, rfl⟩ := List.mem_map.mp h1
  exact (hR.line k (List.mem_range.mp hk)).len
theorem post_shape : WShape.has PySem.Challenge.rw_pe0090_01.row.toRowW.records (.bool true) PySem.Challenge.rw_pe0090_01.row.toRowW.returns = true := by kernel_rfl
theorem post_val {args : List WData} : PySem.Challenge.rw_pe0090_01.row.toRowW.post.value PySem.Challenge.rw_pe0090_01.row.toRowW.records { args := args, res := some (.bool true), after := args } = some (.bool true) := by kernel_rfl
theorem post_true {args : List WData} : PySem.Challenge.rw_pe0090_01.row.toRowW.claim.post args (.bool true) args = true := postW_of post_shape post_val rfl
end
section
def allB : Nat → List (List Bool)
  | 0 => [[]]
  | n + 1 => (allB n).map (true :: ·) ++ (allB n).map (false :: ·)
def dotsA : Str × Str := (Str.ofString "......", Str.ofString "...")
def dotsB : Str × Str := (Str.ofString "(...)", Str.ofString "...")
def stable (x : Str) : Bool := Nat.ble x.length 100 && Txt.join dotsA.2 (Txt.split x dotsA.1) == x && Txt.join dotsB.2 (Txt.split x dotsB.1) == x
/-- the rows of pairs, told when nothing changes any more -/
def repRun : List (Str × Str) → Str → Option Str
  | [], x => some x
  | (p, q) :: r, x => if stable x = true then some x else if (Nat.ble x.length 100 && Nat.ble 1 p.length && Nat.ble p.length 100 && Nat.ble q.length 100) = true then repRun r (Txt.join q (Txt.split x p)) else none
theorem stable_all {x : Str} (h : stable x = true) : ∀ ps : List (Str × Str), (∀ y ∈ ps, y = dotsA ∨ y = dotsB) → replOk ps x = true ∧ replF ps x = x
  | [], _ => ⟨rfl, rfl⟩
  | (p, q) :: r, hp => by
    have h0 := h
    simp only [stable, Bool.and_eq_true, beq_iff_eq] at h
    obtain ⟨⟨h1, h2⟩, h3⟩ := h
    have hr := stable_all h0 r fun y hy => hp y (.tail _ hy)
    have e : Txt.join q (Txt.split x p) = x := by
      rcases hp _ (.head _) with e | e
      · have e1 : p = dotsA.1 := congrArg Prod.fst e
        have e2 : q = dotsA.2 := congrArg Prod.snd e
        rw [e1, e2]; exact h2
      · have e1 : p = dotsB.1 := congrArg Prod.fst e
        have e2 : q = dotsB.2 := congrArg Prod.snd e
        rw [e1, e2]; exact h3
    have hl : 1 ≤ p.length ∧ p.length ≤ 100 ∧ q.length ≤ 100 := by
      rcases hp _ (.head _) with e | e
      · have e1 : p = dotsA.1 := congrArg Prod.fst e
        have e2 : q = dotsA.2 := congrArg Prod.snd e
        rw [e1, e2]; decide
      · have e1 : p = dotsB.1 := congrArg Prod.fst e
        have e2 : q = dotsB.2 := congrArg Prod.snd e
        rw [e1, e2]; decide
    refine ⟨?_, ?_⟩
    · simp only [replOk, Bool.and_eq_true, decide_eq_true_eq]
      rw [e]
      exact ⟨⟨⟨⟨Nat.le_of_ble_eq_true h1, hl.1⟩, hl.2.1⟩, hl.2.2⟩, hr.1⟩
    · show replF r (Txt.join q (Txt.split x p)) = x
      rw [e]; exact hr.2
theorem run_ok : ∀ (ps : List (Str × Str)) (x y : Str), (∀ z ∈ ps, z = dotsA ∨ z = dotsB) → repRun ps x = some y → replOk ps x = true ∧ replF ps x = y
  | [], x, y, _, h => ⟨rfl, Option.some.inj h⟩
  | (p, q) :: r, x, y, hp, h => by
    unfold repRun at h
    by_cases hs : stable x = true
    · rw [if_pos hs] at h
      have := stable_all hs ((p, q) :: r) hp
      rw [Option.some.inj h] at this ⊢
      exact this
    · rw [if_neg hs] at h
      by_cases hl : (Nat.ble x.length 100 && Nat.ble 1 p.length && Nat.ble p.length 100 && Nat.ble q.length 100) = true
      · rw [if_pos hl] at h
        have := run_ok r _ y (fun z hz => hp z (.tail _ hz)) h
        simp only [Bool.and_eq_true] at hl
        refine ⟨?_, this.2⟩
        simp only [replOk, Bool.and_eq_true, decide_eq_true_eq]
        exact ⟨⟨⟨⟨Nat.le_of_ble_eq_true hl.1.1.1, Nat.le_of_ble_eq_true hl.1.1.2⟩, Nat.le_of_ble_eq_true hl.1.2⟩, Nat.le_of_ble_eq_true hl.2⟩, this.1⟩
      · rw [if_neg hl] at h; cases h
def chainT : List (Str × Str) := [dotsA, dotsA, dotsB, dotsA, dotsA, dotsB, dotsA, dotsA, dotsB, dotsA, dotsA]
theorem chain_eq : chainP = (Str.ofString "()", Str.ofString "...") :: chainT := by decide +kernel
theorem chainT_two : ∀ z ∈ chainT, z = dotsA ∨ z = dotsB := by
  intro z hz
  simp only [chainT, List.mem_cons, List.not_mem_nil, or_false] at hz
  rcases hz with rfl | rfl | rfl | rfl | rfl | rfl | rfl | rfl | rfl | rfl | rfl <;> simp
/-- what is left, by the lone brackets: 40, 41, and 46 for a stretch that is closed in itself -/
def dotOn (rest : List Nat) : List Nat := match rest with | 46 :: r => 46 :: r | r => 46 :: r
def pushB (out : List Nat) (b : Bool) : List Nat :=
  match b with
  | true => 40 :: out
  | false => match out with | 46 :: 40 :: r => dotOn r | 40 :: r => dotOn r | r => 41 :: r
def outL (cs : List Bool) : List Nat := cs.foldl pushB []
def wide (c : Nat) : List Nat := if Nat.beq c 46 then [46, 46, 46] else [c]
def leftL (cs : List Bool) : List Nat := ((outL cs).reverse.map wide).flatten
def lstr (l : List Nat) : Str := ⟨l.toArray⟩
def openL (cs : List Bool) : Bool := (match (outL cs).reverse with | c :: _ => Nat.beq c 40 | [] => false) && (outL cs).all fun c => !Nat.beq c 41
def closedL (cs : List Bool) : Bool := (match outL cs with | c :: _ => Nat.beq c 41 | [] => false) && (outL cs).all fun c => !Nat.beq c 40
def movedL (l : List Nat) : List Nat := if (l.drop 1).take 3 == [46, 46, 46] then l.drop 4 ++ l.take 4 else l.drop 1 ++ l.take 1
def upsOf (cs : List Bool) : Nat := (cs.filter id).length
def lineB (cs : List Bool) (L : Str) (l : List Nat) : Bool :=
  Nat.ble L.length 100 && (repRun chainT (Txt.join (Str.ofString "...") (Txt.split L (Str.ofString "()"))) == some (lstr l)) && leftF L == lstr l && Nat.ble l.length 100 && ellF (lstr l) L && ellSide (lstr l) &&
  (isOpen (lstr l) == openL cs) && (isClosed (lstr l) == closedL cs) && (!openL cs || movedF (lstr l) == lstr (movedL l)) && Txt.count L (Str.ofString "(") == (upsOf cs : Int) && Txt.count L (Str.ofString ")") == ((cs.length : Int) - upsOf cs)
def lineC (cs : List Bool) : Bool := lineB cs (brk cs) (leftL cs)
def ringD (bs : List Bool) (os : List (List Nat)) (nc : Nat) : Bool :=
  Nat.beq os.length (upsOf bs - (bs.length - upsOf bs)) && Nat.beq nc (bs.length - upsOf bs - upsOf bs) && (List.range os.length).all fun j => os.getD j [] == movedL (os.getD ((j + os.length - 1) % os.length) [])
def rots (bs : List Bool) : List (List Bool) := (List.range bs.length).map fun k => turned k bs false
def cutC (bs : List Bool) : Bool := (List.range bs.length).all fun k => Txt.slice (brk bs) (some (k : Int)) none ++ Txt.slice (brk bs) none (some (k : Int)) == brk (turned k bs false)
def ringC (bs : List Bool) : Bool := ringD bs (((rots bs).filter openL).map leftL) ((rots bs).filter closedL).length && cutC bs
theorem line_t : ((allB 5).all fun t => lineC (true :: t)) = true := by decide +kernel
theorem line_f : ((allB 5).all fun t => lineC (false :: t)) = true := by decide +kernel
theorem line_tt : ((allB 5).all fun t => lineC (true :: true :: t)) = true := by decide +kernel
theorem line_tf : ((allB 5).all fun t => lineC (true :: false :: t)) = true := by decide +kernel
theorem line_ft : ((allB 5).all fun t => lineC (false :: true :: t)) = true := by decide +kernel
theorem line_ff : ((allB 5).all fun t => lineC (false :: false :: t)) = true := by decide +kernel
theorem line_ttt : ((allB 5).all fun t => lineC (true :: true :: true :: t)) = true := by decide +kernel
theorem line_ttf : ((allB 5).all fun t => lineC (true :: true :: false :: t)) = true := by decide +kernel
theorem line_tft : ((allB 5).all fun t => lineC (true :: false :: true :: t)) = true := by decide +kernel
theorem line_tff : ((allB 5).all fun t => lineC (true :: false :: false :: t)) = true := by decide +kernel
theorem line_ftt : ((allB 5).all fun t => lineC (false :: true :: true :: t)) = true := by decide +kernel
theorem line_ftf : ((allB 5).all fun t => lineC (false :: true :: false :: t)) = true := by decide +kernel
theorem line_fft : ((allB 5).all fun t => lineC (false :: false :: true :: t)) = true := by decide +kernel
theorem line_fff : ((allB 5).all fun t => lineC (false :: false :: false :: t)) = true := by decide +kernel
theorem ring_t : ((allB 5).all fun t => ringC (true :: t)) = true := by decide +kernel
theorem ring_f : ((allB 5).all fun t => ringC (false :: t)) = true := by decide +kernel
theorem ring_tt : ((allB 5).all fun t => ringC (true :: true :: t)) = true := by decide +kernel
theorem ring_tf : ((allB 5).all fun t => ringC (true :: false :: t)) = true := by decide +kernel
theorem ring_ft : ((allB 5).all fun t => ringC (false :: true :: t)) = true := by decide +kernel
theorem ring_ff : ((allB 5).all fun t => ringC (false :: false :: t)) = true := by decide +kernel
theorem ring_ttt : ((allB 5).all fun t => ringC (true :: true :: true :: t)) = true := by decide +kernel
theorem ring_ttf : ((allB 5).all fun t => ringC (true :: true :: false :: t)) = true := by decide +kernel
theorem ring_tft : ((allB 5).all fun t => ringC (true :: false :: true :: t)) = true := by decide +kernel
theorem ring_tff : ((allB 5).all fun t => ringC (true :: false :: false :: t)) = true := by decide +kernel
theorem ring_ftt : ((allB 5).all fun t => ringC (false :: true :: true :: t)) = true := by decide +kernel
theorem ring_ftf : ((allB 5).all fun t => ringC (false :: true :: false :: t)) = true := by decide +kernel
theorem ring_fft : ((allB 5).all fun t => ringC (false :: false :: true :: t)) = true := by decide +kernel
theorem ring_fff : ((allB 5).all fun t => ringC (false :: false :: false :: t)) = true := by decide +kernel
theorem mem_allB : ∀ {n : Nat} {t : List Bool}, t.length = n → t ∈ allB n
  | 0, t, h => by
    have : t = [] := List.length_eq_zero_iff.mp h
    rw [this]; exact .head _
  | n + 1, [], h => by cases h
  | n + 1, b :: t, h => by
    have ht : t ∈ allB n := mem_allB (by simpa using h)
    unfold allB
    cases b with
    | true => exact List.mem_append_left _ (List.mem_map_of_mem ht)
    | false => exact List.mem_append_right _ (List.mem_map_of_mem ht)
theorem line_all {cs : List Bool} (h6 : 6 ≤ cs.length) (h8 : cs.length ≤ 8) : lineC cs = true := by
  have h : cs.length = 6 ∨ cs.length = 7 ∨ cs.length = 8 := by omega
  rcases h with h | h | h
  · obtain ⟨a, t, rfl⟩ : ∃ a t, cs = a :: t := by
      match cs, h with | a :: t, _ => exact ⟨a, t, rfl⟩
    have ht : t ∈ allB 5 := mem_allB (by simpa using h)
    cases a
    · exact List.all_eq_true.mp line_f t ht
    · exact List.all_eq_true.mp line_t t ht
  · obtain ⟨a, b, t, rfl⟩ : ∃ a b t, cs = a :: b :: t := by
      match cs, h with | a :: b :: t, _ => exact ⟨a, b, t, rfl⟩
    have ht : t ∈ allB 5 := mem_allB (by simpa using h)
    cases a <;> cases b
    · exact List.all_eq_true.mp line_ff t ht
    · exact List.all_eq_true.mp line_ft t ht
    · exact List.all_eq_true.mp line_tf t ht
    · exact List.all_eq_true.mp line_tt t ht
  · obtain ⟨a, b, c, t, rfl⟩ : ∃ a b c t, cs = a :: b :: c :: t := by
      match cs, h with | a :: b :: c :: t, _ => exact ⟨a, b, c, t, rfl⟩
    have ht : t ∈ allB 5 := mem_allB (by simpa using h)
    cases a <;> cases b <;> cases c
    · exact List.all_eq_true.mp line_fff t ht
    · exact List.all_eq_true.mp line_fft t ht
    · exact List.all_eq_true.mp line_ftf t ht
    · exact List.all_eq_true.mp line_ftt t ht
    · exact List.all_eq_true.mp line_tff t ht
    · exact List.all_eq_true.mp line_tft t ht
    · exact List.all_eq_true.mp line_ttf t ht
    · exact List.all_eq_true.mp line_ttt t ht
theorem ring_all {cs : List Bool} (h6 : 6 ≤ cs.length) (h8 : cs.length ≤ 8) : ringC cs = true := by
  have h : cs.length = 6 ∨ cs.length = 7 ∨ cs.length = 8 := by omega
  rcases h with h | h | h
  · obtain ⟨a, t, rfl⟩ : ∃ a t, cs = a :: t := by
      match cs, h with | a :: t, _ => exact ⟨a, t, rfl⟩
    have ht : t ∈ allB 5 := mem_allB (by simpa using h)
    cases a
    · exact List.all_eq_true.mp ring_f t ht
    · exact List.all_eq_true.mp ring_t t ht
  · obtain ⟨a, b, t, rfl⟩ : ∃ a b t, cs = a :: b :: t := by
      match cs, h with | a :: b :: t, _ => exact ⟨a, b, t, rfl⟩
    have ht : t ∈ allB 5 := mem_allB (by simpa using h)
    cases a <;> cases b
    · exact List.all_eq_true.mp ring_ff t ht
    · exact List.all_eq_true.mp ring_ft t ht
    · exact List.all_eq_true.mp ring_tf t ht
    · exact List.all_eq_true.mp ring_tt t ht
  · obtain ⟨a, b, c, t, rfl⟩ : ∃ a b c t, cs = a :: b :: c :: t := by
      match cs, h with | a :: b :: c :: t, _ => exact ⟨a, b, c, t, rfl⟩
    have ht : t ∈ allB 5 := mem_allB (by simpa using h)
    cases a <;> cases b <;> cases c
    · exact List.all_eq_true.mp ring_fff t ht
    · exact List.all_eq_true.mp ring_fft t ht
    · exact List.all_eq_true.mp ring_ftf t ht
    · exact List.all_eq_true.mp ring_ftt t ht
    · exact List.all_eq_true.mp ring_tff t ht
    · exact List.all_eq_true.mp ring_tft t ht
    · exact List.all_eq_true.mp ring_ttf t ht
    · exact List.all_eq_true.mp ring_ttt t ht
structure LineFacts (cs : List Bool) : Prop where
  f1 : (brk cs).length ≤ 100
  f2 : repRun chainT (Txt.join (Str.ofString "...") (Txt.split (brk cs) (Str.ofString "()"))) = some (lstr (leftL cs))
  f3 : leftF (brk cs) = lstr (leftL cs)
  f4 : (leftL cs).length ≤ 100
  f5 : ellF (lstr (leftL cs)) (brk cs) = true
  f6 : ellSide (lstr (leftL cs)) = true
  f7 : isOpen (lstr (leftL cs)) = openL cs
  f8 : isClosed (lstr (leftL cs)) = closedL cs
  f9 : openL cs = true → movedF (lstr (leftL cs)) = lstr (movedL (leftL cs))
  f10 : Txt.count (brk cs) (Str.ofString "(") = (upsOf cs : Int)
  f11 : Txt.count (brk cs) (Str.ofString ")") = (cs.length : Int) - upsOf cs
theorem line_facts {cs : List Bool} (h6 : 6 ≤ cs.length) (h8 : cs.length ≤ 8) : LineFacts cs := by
  have h := line_all h6 h8
  unfold lineC lineB at h
  simp only [Bool.and_eq_true, Bool.or_eq_true, Bool.not_eq_true', beq_iff_eq] at h
  obtain ⟨⟨⟨⟨⟨⟨⟨⟨⟨⟨h1, h2⟩, h3⟩, h4⟩, h5⟩, h6'⟩, h7⟩, h8'⟩, h9⟩, h10⟩, h11⟩ := h
  refine ⟨Nat.le_of_ble_eq_true h1, h2, h3, Nat.le_of_ble_eq_true h4, h5, h6', h7, h8', fun q => ?_, h10, h11⟩
  rcases h9 with h9 | h9
  · rw [q] at h9; cases h9
  · exact h9
theorem line_ok {cs : List Bool} (h6 : 6 ≤ cs.length) (h8 : cs.length ≤ 8) : LineOk (brk cs) := by
  obtain ⟨f1, f2, f3, f4, f5, f6, _, _, _, _, _⟩ := line_facts h6 h8
  obtain ⟨r1, r2⟩ := run_ok chainT _ _ chainT_two f2
  refine ⟨?_, ?_, ?_, ?_, ?_⟩
  · rw [chain_eq]
    simp only [replOk, Bool.and_eq_true, decide_eq_true_eq]
    exact ⟨⟨⟨⟨f1, by decide⟩, by decide⟩, by decide⟩, r1⟩
  · rw [chain_eq, f3]; exact r2
  · rw [f3]; simpa [lstr, Str.length] using f4
  · rw [f3]; exact f5
  · rw [f3]; exact f6
theorem filter_map_eq {f : List Bool → Str} {p : Str → Bool} {q : List Bool → Bool} : ∀ {l : List (List Bool)}, (∀ c ∈ l, p (f c) = q c) → (l.map f).filter p = (l.filter q).map f
  | [], _ => rfl
  | c :: r, h => by
    have ih := filter_map_eq (l := r) fun d hd => h d (.tail _ hd)
    have hc := h c (.head _)
    rw [List.map_cons, List.filter_cons, List.filter_cons, hc, ih]
    by_cases e : q c = true
    · rw [if_pos e, if_pos e, List.map_cons]
    · rw [if_neg e, if_neg e]
theorem ring_ok {bs : List Bool} (h6 : 6 ≤ bs.length) (h8 : bs.length ≤ 8) : RingOk bs := by
  have hR := ring_all h6 h8
  have tl : ∀ k, (turned k bs false).length = bs.length := fun k => turned_length
  have hF : ∀ k, LineFacts (turned k bs false) := fun k => line_facts (by rw [tl]; exact h6) (by rw [tl]; exact h8)
  have hrot : ∀ c ∈ rots bs, LineFacts c := by
    intro c hc
    obtain ⟨k, _, rfl⟩ := List.mem_map.mp hc
    exact hF k
  have hleft : (List.range bs.length).map (leftAt bs) = (rots bs).map fun c => lstr (leftL c) := by
    unfold rots
    rw [List.map_map]
    refine List.map_congr_left fun k _ => ?_
    exact (hF k).f3
  have hop : openedF bs bs.length = (((rots bs).filter openL).map leftL).map lstr := by
    unfold openedF
    rw [hleft, filter_map_eq (q := openL) fun c hc => (hrot c hc).f7, List.map_map]
    rfl
  have hcl : closedF bs bs.length = ((rots bs).filter closedL).map fun c => lstr (leftL c) := by
    unfold closedF
    rw [hleft, filter_map_eq (q := closedL) fun c hc => (hrot c hc).f8]
  have hbs := line_facts h6 h8
  unfold ringC at hR
  rw [Bool.and_eq_true] at hR
  obtain ⟨hR, hcut⟩ := hR
  have hos : ∀ l ∈ ((rots bs).filter openL).map leftL, movedF (lstr l) = lstr (movedL l) := by
    intro l hl
    obtain ⟨c, hc, rfl⟩ := List.mem_map.mp hl
    have := List.mem_filter.mp hc
    exact (hrot c this.1).f9 this.2
  generalize ((rots bs).filter openL).map leftL = os at hR hop hos
  have hcn : (closedF bs bs.length).length = ((rots bs).filter closedL).length := by rw [hcl, List.length_map]
  generalize ((rots bs).filter closedL).length = nc at hR hcn
  simp only [ringD, Bool.and_eq_true] at hR
  obtain ⟨⟨r1, r2⟩, r3⟩ := hR
  have r1' := Nat.eq_of_beq_eq_true r1
  have r2' := Nat.eq_of_beq_eq_true r2
  have hup : upsOf bs ≤ bs.length := by unfold upsOf; exact List.length_filter_le _ _
  have hol : (openedF bs bs.length).length = os.length := by rw [hop, List.length_map]
  refine ⟨fun k _ => line_ok (by rw [tl]; exact h6) (by rw [tl]; exact h8), fun k hk => ?_, ?_, ?_, fun j hj => ?_⟩
  · exact eq_of_beq (List.all_eq_true.mp hcut k (List.mem_range.mpr hk))
  · rw [hol, hbs.f10, hbs.f11, r1']; omega
  · rw [hcn, hbs.f10, hbs.f11, r2']; omega
  · rw [hol] at hj ⊢
    have e := eq_of_beq (List.all_eq_true.mp r3 j (List.mem_range.mpr hj))
    have hm : (j + os.length - 1) % os.length < os.length := Nat.mod_lt _ (by omega)
    have g : ∀ i, i < os.length → (openedF bs bs.length).getD i ⟨#[]⟩ = lstr (os.getD i []) := by
      intro i hi
      rw [hop]
      simp [hi]
    rw [g j hj, g _ hm, e]
    refine (hos _ ?_).symm
    rw [List.getD_eq_getElem?_getD, List.getElem?_eq_getElem hm]
    exact List.getElem_mem _
end
section
local macro_rules | `(tactic| walk_at "exec For Name Name cons nil") => `(tactic| refine halt ?_)
local macro_rules | `(tactic| walk_at "exec For Name Call cons nil") => `(tactic| ((fail_if_success (rename Mark 5 => mkX)); refine halt ?_))
local macro_rules | `(tactic| walk_at "call type:list") => `(tactic| ((rename IsRange _ _ _ _ _ _ _ _ => rgX); (with_unfolding_all refine' kll_range ?k0 ?k1 ?k2 ?k3 ?k4 ?k5 ?k6 ?_; (case k0 => rfl); (case k1 => k_asm); (case k2 => k_asm); (case k3 => exact rgX); (case k4 => exact small_one (by decide) (by decide) (by decide) (by decide)); (case k5 => first | exact rangeSize_nat _ _ | rfl); (case k6 => decide); k_whole); intro D' vs' c' h' tk' F' N' l1 hI'))
local macro_rules | `(tactic| walk_at "call builtin:list.append") => `(tactic| refine halt ?_)
local macro_rules | `(tactic| walk_at "call builtin:list.pop") => `(tactic| refine halt ?_)
local macro_rules | `(tactic| walk_at "call builtin:sorted") => `(tactic| refine halt ?_)
local macro_rules | `(tactic| walk_at "eval ListComp") => `(tactic| ((fail_if_success (rename Mark 1 => mkX)); k_dflt (refine LCg.ListComp_U (F₀ := by k_asm) (by rfl) (by decide) (by rfl) (by decide) (by rfl) ?_)))
local macro_rules | `(tactic| walk_at "CompSrc") => `(tactic| refine halt ?_)
local macro_rules | `(tactic| walk_at "call builtin:len") => `(tactic| (k_dflt (refine len_vals (News.isList (by k_asm) (by k_mem)) (by with_reducible assumption) (by omega) ?_)))
local macro_rules | `(tactic| walk_at "subscriptTail Name Constant ref int") => `(tactic| ((rename Mark 3 => mkZ); refine item_tup2 ⟨_, (by assumption), rfl, _, rfl⟩ ?_))
local macro_rules | `(tactic| walk_at "call builtin:str.join") => `(tactic| refine halt ?_)
local macro_rules | `(tactic| walk_at "binaryOp Mult ref int") => `(tactic| k_dflt ((refine' mul_strs ?F ?N ?l ?q ?lo ?hi ?h0 ?z ?_; (case F => k_asm); (case N => k_asm); (case l => k_mem); (case q => first | exact strs6 | exact strs2); (case lo => decide); (case hi => decide); (case h0 => exact Nat.le_of_ble_eq_true rfl); (case z => exact Nat.le_of_ble_eq_true rfl)); intro D' h' r' hr' F' N' l1; (try k_lt l1); (try k_sweep)))
local macro_rules | `(tactic| walk_at "newList") => `(tactic| ((rename Mark 2 => mkY); k_here; k_dflt (refine' newList_K (hsz := Nat.le_of_ble_eq_true rfl) ?k1 ?k2 ?_; (case k1 => k_asm); (case k2 => k_asm); k_whole); intro l' h' F' N' l1; (try k_lt l1); (try k_sweep)))
local macro_rules | `(tactic| walk_at "binaryOp Add ref ref") => `(tactic| k_dflt ((rename Mark 2 => mkY); (refine' add_strs ?F ?N ?a ?b ?q ?q2 ?e1 ?e2 ?z ?z2 ?_; (case F => k_asm); (case N => k_asm); (case a => k_mem); (case b => k_mem); (case q => first | exact strs2 | exact rfl); (case q2 => first | exact strs2 | exact rfl); (case e1 => first | assumption | exact rfl); (case e2 => first | assumption | exact rfl); (case z => exact Nat.le_of_ble_eq_true rfl); (case z2 => exact Nat.le_of_ble_eq_true rfl)); intro D' h' r' hr' F' N' l1; (try k_lt l1); (try k_sweep)))
local macro_rules | `(tactic| walk_at "pyIter ref") => `(tactic| ((rename Mark 5 => mkY); refine halt ?_))
local macro_rules | `(tactic| walk_at "call type:range") => `(tactic| ((rename Mark 5 => mkY); (rename Fr _ _ _ _ => F'); (rename News _ _ _ _ => N'); (with_unfolding_all refine range1_rows F' N' ?_; intro _ _ _ _ _ _ _ _ _)))
local macro_rules | `(tactic| walk_at "subscriptTail Name Name ref int") => `(tactic| ((rename Mark 5 => mkY); k_dflt (refine item_here (News.isList (by k_asm) (by k_mem)) (by omega) (by omega) (by with_reducible assumption) ?_)))
local macro_rules | `(tactic| walk_at "subscriptTail Subscript Name Name Constant ref int") => `(tactic| ((rename Mark 5 => mkY); k_dflt (refine item_tup0 (tup_lamp (by assumption) (by assumption)) ?_)))
local macro_rules | `(tactic| walk_at "compareOp NotEq str str") => `(tactic| ((rename Mark 5 => mkY); k_dflt (refine ne_same (by first | with_reducible assumption | with_reducible rfl) ?_)))
local macro_rules | `(tactic| walk_at "call ref") => `(tactic| ((rename Mark 5 => mkY); k_dflt (first
  | ((with_reducible show wpAny _ _ (call (Value.ref 61) _) _ _ _); (refine' call_readE ?k1 ?k2 ?k3 ?k4 ?k5 rfl rfl (Nat.le_of_ble_eq_true rfl) (Nat.le_of_ble_eq_true rfl) rfl rfl ?d ?o ?h8 ?h6 ?od ?z rfl ?bs ?ln ?_; (case k1 => k_asm); (case k2 => k_asm); (case k3 => k_asm); (case k4 => k_asm); (case k5 => k_asm); (case z => with_reducible assumption); (case d => with_reducible assumption); (case o => with_reducible assumption); (case h8 => with_reducible assumption); (case h6 => with_reducible assumption); (case od => with_reducible assumption); (case bs => with_reducible assumption); (case ln => with_reducible assumption)); intro t' h' tk' F' N'; (try k_sweep))
  | ((with_reducible show wpAny _ _ (call (Value.ref 42) _) _ _ _); (refine' call_repE ?k1 ?k2 ?k3 ?k4 ?k5 rfl rfl (Nat.le_of_ble_eq_true rfl) (Nat.le_of_ble_eq_true rfl) rfl rfl ?v ?f1 ?f2 ?f3 ?f4 ?_; (case k1 => k_asm); (case k2 => k_asm); (case k3 => k_asm); (case k4 => k_asm); (case k5 => k_asm); (case v => exact congrArg (List.cons _) (List.append_nil _)); (case f1 => with_reducible assumption); (case f2 => with_reducible assumption); (case f3 => with_reducible assumption); (case f4 => with_reducible assumption)); intro t' h' tk' F' N'; (try k_sweep))
  | ((with_reducible show wpAny _ _ (call (Value.ref 49) _) _ _ _); (refine' call_leftE ?k1 ?k2 ?k3 ?k4 ?k5 rfl rfl (Nat.le_of_ble_eq_true rfl) (Nat.le_of_ble_eq_true rfl) rfl rfl ?f1 ?f2 ?_; (case k1 => k_asm); (case k2 => k_asm); (case k3 => k_asm); (case k4 => k_asm); (case k5 => k_asm); (case f1 => with_reducible assumption); (case f2 => with_reducible assumption)); intro t' h' tk' F' N'; (try k_sweep))
  | ((with_reducible show wpAny _ _ (call (Value.ref 35) _) _ _ _); (refine' call_ellE ?k1 ?k2 ?k3 ?k4 ?k5 rfl rfl (Nat.le_of_ble_eq_true rfl) (Nat.le_of_ble_eq_true rfl) rfl rfl ?f1 ?f2 ?f3 ?_; (case k1 => k_asm); (case k2 => k_asm); (case k3 => k_asm); (case k4 => k_asm); (case k5 => k_asm); (case f1 => with_reducible assumption); (case f2 => with_reducible assumption); (case f3 => with_reducible assumption)); intro h' tk' F' N'; (try k_sweep))
  | ((with_reducible show wpAny _ _ (call (Value.ref 56) _) _ _ _); (refine' call_movedE ?k1 ?k2 ?k3 ?k4 ?k5 rfl rfl (Nat.le_of_ble_eq_true rfl) (Nat.le_of_ble_eq_true rfl) rfl rfl ?f1 ?f2 ?_; (case k1 => k_asm); (case k2 => k_asm); (case k3 => k_asm); (case k4 => k_asm); (case k5 => k_asm); (case f1 => with_reducible assumption); (case f2 => with_reducible assumption)); intro t' h' tk' F' N'; (try k_sweep))
  | refine halt ?_)))
local macro_rules | `(tactic| walk_at "StarOf ref") => `(tactic| ((rename Mark 5 => mkY); k_dflt (refine' star_strs ?k1 ?k2 ?m ?z ?_; (case k1 => k_asm); (case k2 => k_asm); (case m => k_mem); (case z => with_reducible assumption)); intro h' F' N'; (try k_sweep); (try dsimp only [List.nil_append, List.cons_append])))
local macro_rules | `(tactic| walk_at "compareOp IsNot bool bool") => `(tactic| ((rename Mark 5 => mkY); k_dflt (refine wpAny_isNot_self (by rfl) ?_)))
local macro_rules | `(tactic| walk_at "truthy bool") => `(tactic| ((rename Mark 5 => mkY); (fail_if_success (with_reducible show wpAny _ _ (truthy (Value.bool true)) _ _ _)); (fail_if_success (with_reducible show wpAny _ _ (truthy (Value.bool false)) _ _ _)); k_dflt (refine' truthy_two ?_ ?_ <;> intro hb')))
local macro_rules | `(tactic| walk_at "InvEndN") => `(tactic| refine halt ?_)
local macro_rules | `(tactic| walk_at "call builtin:list.append") => `(tactic| ((rename Mark 5 => mkY); k_dflt ((first | (refine' append_open ?F ?N ?b1 ?b2 ?b4 ?ho ?hz ?_; (case F => k_asm); (case N => with_reducible assumption); (case b1 => with_reducible assumption); (case b2 => with_reducible assumption); (case b4 => with_reducible assumption); (case ho => with_reducible assumption); (case hz => with_reducible assumption)) | (refine' append_close ?F ?N ?b1 ?b2 ?b4 ?ho ?hz ?_; (case F => k_asm); (case N => with_reducible assumption); (case b1 => with_reducible assumption); (case b2 => with_reducible assumption); (case b4 => with_reducible assumption); (case ho => with_reducible assumption); (case hz => with_reducible assumption))); intro h' F' N'; (try k_sweep))))
local macro_rules | `(tactic| walk_at "compareOp NotEq int int") => `(tactic| ((rename Mark 5 => mkY); k_dflt (refine ne_int_same (by with_reducible assumption) ?_)))
local macro_rules | `(tactic| walk_at "subscriptTail Name BinOp ref int") => `(tactic| ((rename Mark 5 => mkY); k_dflt (refine item_prev (News.isList (by k_asm) (by k_mem)) (by with_reducible assumption) (by with_reducible assumption) (by with_reducible assumption) ?_)))
local macro_rules | `(tactic| walk_at "exec Assign cons ListComp") => `(tactic| refine wpAny_Assign_Name ?_)
local macro_rules | `(tactic| walk_at "subscriptTail List") => `(tactic| (k_here; k_dflt (refine kba_turn (value' := PySem.Expr.Name (PySem.Str.ofString "_") ⟨0, 0, 0, 0⟩) (fun _ => rfl) ?_)))
local macro_rules | `(tactic| walk_at "subscriptTail Name Slice ref ref") => `(tactic| (k_here; k_dflt (refine' kmk_slice_ints ?F ?N ?l ?p ?q ?i ?m ?c ?_ ?s ?t ?z; (case p => exact IsPart.int _ _); (case q => exact IsPart.none); (case F => k_asm); (case N => k_asm); (case l => exact News.isList (by k_asm) (by k_mem)); (case i => exact ints6); (case m => exact kmk_from ints6 (Int.natCast_nonneg _)); (case c => exact List.length_drop ..); (case s => with_unfolding_all rfl); (case t => kmk_pure); (case z => exact Nat.le_of_ble_eq_true rfl)); intro D' ws' h' F' N' l1 hI' hC' hL'; (try k_lt l1); (try k_sweep)))
theorem law_holds : PySem.Challenge.rw_pe0090_01.Holds := hd (by
  k_go0
  (all_goals try k_fold)
  k_steps
  refine Halt.go ?_
  rename Fr _ _ _ _ => F3
  rename News _ _ _ _ => N3
  rename IntsAre _ (List.take 8 _) => hI
  obtain ⟨sc, hsc, hsc2⟩ := intVals_of hI
  have hs8 : sc.length ≤ 8 := by
    have := congrArg List.length hsc2
    rw [List.length_map, List.length_take] at this
    omega
  rw [hsc] at N3
  refine LCg.CompSrc.ledger rfl F3 N3 (.head _) (by rw [List.size_toArray, intVals, List.length_map, sizeLine_eq]; omega) fun g2 => comp_rest (fun i y => ∃ n t, y = Value.int n t) (.inr ⟨_, .head _, rfl, _, rfl⟩) ?one1 ?fin1
  case one1 =>
    intro i v I oI C oC D' m₂ h5 tk5 ys5 Q5 E5 hi5 hP5 hC5 hx5 F5 N5 hq5
    rw [List.getElem?_toArray] at hP5
    obtain ⟨d, td, rfl, _⟩ := intVals_at hP5
    clear hP5 N3 F3
    k_steps
    exact hq5 _ _ ⟨_, _, rfl⟩
  intro ys5 hl5 hf5
  obtain ⟨l, e1⟩ := ints_of hf5
  subst e1
  intro D5 h5 tk5 F5 N5 o5
  have hll : (intVals l).length = sc.length := by rw [hl5, List.size_toArray, intVals, List.length_map]
  have hia := intVals_are l
  have hlm : (l.map (·.1)).length = sc.length := by rw [← hll, intVals, List.length_map, List.length_map]
  clear N3 F3 hl5 hf5 hsc hsc2 hI
  k_steps
  refine Halt.go ?_
  rename Fr _ _ _ _ => F1
  rename News _ _ _ _ => N0
  rename IntsAre _ (rangeKs _ _) => hfr
  rename IntsAre _ (_ ++ List.drop _ _) => hdr
  rename (∀ p : Addr × Obj, _ → p.1 < _) => hlt1
  rename (_ ∧ _ ∧ _ ∧ _ ∧ _ ∧ _) => hlt2
  obtain ⟨fs0, hfs1, hfs2⟩ := intVals_of hfr
  obtain ⟨ds, hds, hd6, hd8⟩ := draws_len2 hlm hs8 hdr
  obtain ⟨wd, hwd, hwd2⟩ := intVals_of hds
  have hwl : wd.length = ds.length := by rw [← hwd2, List.length_map]
  rw [← hwl] at hd6 hd8
  rw [hfs1, hwd] at N0
  rw [hwd] at hlt1
  obtain ⟨Dd, Df, Dl, e1, e2, e3, N1, a1, a2, a3⟩ := draw_start N0 hlt1 hlt2
  subst e1 e2 e3
  clear hfr hdr hlt1 hlt2 hds N0 hfs1 hwd hwd2 hwl
  refine for_growK (σ := DrawSt) (drawLed Dd Df Dl (intVals wd)) (fun _ => []) [Str.ofString "d", Str.ofString "place"] (fun i _ c => DrawOk Dd Df Dl i c.1 c.2.2.1) (fs0, _, [], 0) rfl F1 N1 (fun _ h => nomatch h) (fun Q' hq => ?hev2) (fun c i _ m' h _ _ N' => N'.isList (.tail _ (.tail _ (.head _)))) go_name (draw_ok0 hfs2) ?turn2 ?done2
  case hev2 => k_steps; exact hq
  case turn2 =>
    rintro ⟨fs, n, ls, e⟩ i v u h tk I oI hv hP hne F2 N2
    obtain ⟨d, td, rfl, hi⟩ := intVals_at hv
    clear F1 N1 hv hfs2
    dsimp only at hP hne F2 N2
    have hLEN : (intVals fs).length = 16 - i := by have := hP.hf; simp only [intVals, List.length_map]; omega
    have h16 : i < 8 := by omega
    refine wpAny_assign_Name ?_
    k_steps
    refine Halt.go ?_
    rename News _ _ _ _ => N3
    rename Fr _ _ _ _ => F3
    have hfl := hP.hf
    have q0 : 0 ≤ (d.fdiv 8).fmod ((16 - i : Nat) : Int) := Int.fmod_nonneg_of_pos _ (by omega)
    have q1 : (d.fdiv 8).fmod ((16 - i : Nat) : Int) < ((16 - i : Nat) : Int) := Int.fmod_lt_of_pos _ (by omega)
    refine pop_free (fs := fs) (n := n) (rest := (I, oI) :: (Dl, PySem.W.listOf (refsOf ls).toArray e) :: (Dd, PySem.W.listOf (intVals wd).toArray 0) :: lampOs ls) F3 N3 (.tail _ (.head _)) q0 (by omega) (by omega) ?hsub2 ?hne2 fun h4 x t hx F4 N4 => ?_
    case hsub2 =>
      intro p hp
      rcases List.mem_cons.mp hp with hp | hp
      · rw [hp]; exact .head _
      · exact .tail _ (.tail _ hp)
    case hne2 =>
      intro p hp
      rcases List.mem_cons.mp hp with hp | hp
      · rw [hp]; exact Ne.symm (hne _ (.head _))
      rcases List.mem_cons.mp hp with hp | hp
      · rw [hp]; exact Ne.symm a3
      rcases List.mem_cons.mp hp with hp | hp
      · rw [hp]; exact a1
      obtain ⟨y, hy, rfl⟩ := List.mem_map.mp hp
      exact (hP.ad y hy).1
    clear F2 N2 F3 N3
    obtain ⟨i1, hsh⟩ := share_ok (Int.fmod_nonneg_of_pos (d.fdiv 2) (b := 4) (by decide)) (Int.fmod_lt_of_pos (d.fdiv 2) (b := 4) (by decide))
    obtain ⟨i2, hlv⟩ := level_ok (Int.fmod_nonneg_of_pos d (b := 2) (by decide)) (Int.fmod_lt_of_pos d (b := 2) (by decide))
    k_steps
    refine Halt.go ?_
    rename News _ _ _ _ => N5
    rename Fr _ _ _ _ => F5
    rename (_ ∧ _ ∧ _ ∧ _ ∧ AllLt _ _) => hlt
    refine append_free F5 N5 (.tail _ (.tail _ (.tail _ (.head _)))) (by have := hP.hn; simp [refsOf]; omega) fun h6 F6 hsb ho => ?_
    have N6 := draw_grow (d := ⟨_, _, _, _, _, _, _⟩) N5 (fun x hx => (hP.ad x hx).2) (Ne.symm (hne _ (.tail _ (.head _)))) a2 a3 (Nat.ne_of_gt hlt.2.2.1) hsb ho
    clear F5 N5
    k_steps
    refine kg_end (_, _, _, _) F6 N6 (.head _) (fun p hp => .tail _ hp) ?_ (fun _ h => nomatch h) (fun z _ h3 => ?_) (hP.grow hx rfl hsh hlv (Ne.symm (Nat.ne_of_lt hlt.1)) (Ne.symm (Nat.ne_of_lt hlt.2.2.1)))
    · exact draw_off hne (Ne.symm (Nat.ne_of_lt hlt.2.1))
    · simp only [List.contains_cons, List.contains_nil, Bool.or_false, Bool.or_eq_false_iff, beq_eq_false_iff_ne, ne_eq] at h3
      obtain ⟨b1, b2⟩ := h3
      simp [kstB, b1, b2]
  rintro ⟨fs, n, ls, e⟩ u h tk hP F2 N2
  clear F1 N1 hfs2
  dsimp only at hP N2
  have hl6 : 6 ≤ ls.length := by rw [hP.hn]; simpa [intVals] using hd6
  have hl8 : ls.length ≤ 8 := by rw [hP.hn]; simpa [intVals] using hd8
  have mk2 : Mark 2 := {}
  k_steps
  refine Halt.go ?_
  rename News _ _ _ _ => N3
  rename Fr _ _ _ _ => F3
  refine sorted_lamps (ls := ls) F3 N3 (N3.isList (.tail _ (.head _))) (by omega) (by omega) (fun y hy => .tail _ (.tail _ (.tail _ (List.mem_map_of_mem (f := fun y : Lamp => (y.a, y.obj)) hy)))) ((List.nodup_append.mp hP.nd).1) fun D c h4 zs hperm hord F4 N4 hD => ?_
  obtain ⟨N5, hz6, hz8, hzok⟩ := lamps_sorted hperm hl6 hl8 hP N4
  clear N3 F3 N4 hperm hP hl6 hl8 hD hd6 hd8 a1 a2 a3
  k_steps
  refine Halt.go ?_
  rename News _ _ _ _ => N3
  rename Fr _ _ _ _ => F3
  refine LCg.CompSrc.ledger rfl F3 N3 (.head _) (by rw [List.size_toArray, refsOf, List.length_map, sizeLine_eq]; omega) fun g2 => comp_rest (fun i y => ∃ z, zs[i]? = some z ∧ ∃ t, y = Value.str z.sign t) (.inr ⟨_, .head _, rfl, _, rfl⟩) ?one4 ?fin4
  case one4 =>
    intro i v I oI C oC D' m₂ h5 tk5 ys5 Q5 E5 hi5 hP5 hC5 hx5 F5 N5 hq5
    obtain ⟨z, hz, rfl⟩ := refs_at hP5
    have hzm := hzok z (List.mem_of_getElem? hz)
    have hz2 := (N5 _ (.tail _ (.tail _ (.tail _ (.tail _ (List.mem_map_of_mem (f := fun y : Lamp => (y.a, y.obj)) (List.mem_of_getElem? hz))))))).1
    clear hP5 N3 F3
    have mk3 : Mark 3 := {}
    k_steps
    · exact hq5 _ _ ⟨z, hz, _, congrArg (fun y => Value.str y _) (sign_up hzm (by assumption))⟩
    · exact hq5 _ _ ⟨z, hz, _, congrArg (fun y => Value.str y _) (sign_down hzm (by assumption))⟩
  intro ys5 hl5 hf5
  obtain ⟨l, e1, e2⟩ := strs_of hl5 hf5
  subst e1
  intro D5 h5 tk5 F5 N5 o5
  clear N3 F3 hl5 hf5
  k_steps
  refine Halt.go ?_
  refine SC.join (N5.isList (.head _)) e2 (join_ok (by rw [List.length_map]; omega) (fun a ha => ?hsl4) (by decide)) ?_
  case hsl4 =>
    obtain ⟨x, _, rfl⟩ := List.mem_map.mp ha
    rcases sign_two (x := x) with q | q <;> rw [q] <;> decide
  intro t' k'
  rw [ring_brk zs]
  have hrl := brk_length (zs.map Lamp.up)
  rw [List.length_map] at hrl
  have N6 : News _ _ h5 (lampLed D c zs) := fun p hp => N5 p (.tail _ hp)
  clear N5 o5 e2
  k_steps
  refine Halt.go ?_
  have mk5 : Mark 5 := {}
  have hzl : (refsOf zs).length = zs.length := List.length_map ..
  rename News _ _ _ _ => N7
  rename Fr _ _ _ _ => F7
  rename (_ ∧ _ ∧ _ ∧ _ ∧ _ ∧ _ ∧ _ ∧ _ ∧ _ ∧ AllLt _ _) => hlt1
  rename (_ ∧ _ ∧ _ ∧ _ ∧ _ ∧ _ ∧ _ ∧ _ ∧ AllLt _ _) => hlt2
  rename (List.map _ _ = (_ ++ (List.replicate (Int.toNat 2) _).flatten)) => hr
  rename List (Str × Tok) => r
  obtain ⟨Do, Dc, Dh, e1, e2, e3, N8, b1, b2, b3, b4⟩ := main_start N7 hlt1 hlt2
  subst e1 e2 e3
  have hrf : r.map (·.1) = flatP chainP := hr.trans chain_flat.symm
  have hrc : r.length ≤ 100 := by
    have := congrArg List.length hrf
    rw [List.length_map] at this
    rw [this]; decide +kernel
  have hR := ring_ok (bs := zs.map Lamp.up) (by simpa using hz6) (by simpa using hz8)
  have hbl : (zs.map Lamp.up).length = zs.length := List.length_map ..
  obtain ⟨bs, hbs⟩ : ∃ bs, zs.map Lamp.up = bs := ⟨_, rfl⟩
  rw [hbs] at hrl hR hbl F7
  clear N7 hlt1 hlt2 hr
  k_steps
  refine Halt.go ?_
  rename IsRange _ _ _ _ _ _ _ _ => hRg
  rename Fr _ _ _ _ => F9
  rename News _ _ _ _ => N9
  refine' kst_range (σ := MainSt) (mainLed Do Dc Dh D r c zs) (fun _ => []) (fun _ => True) [Str.ofString "line", Str.ofString "left"] (fun pre st => st.1.map (·.1) = openedF bs pre.length ∧ st.2.2.1.map (·.1) = closedF bs pre.length) ([], 0, [], 0) rfl hRg ?small5 (n := zs.length) ?size5 F9 N9 trivial (fun _ h => nomatch h) ⟨rfl, rfl⟩ ?turn5 ?done5
  case small5 => exact small_one (by decide) (by decide) (by omega) (by omega)
  case size5 => exact rangeSize_nat _ _
  case turn5 =>
    intro st pre k t u h8 tk own hk hpl hoff _ hp F10 N10
    obtain ⟨os, no, cs, nc⟩ := st
    clear N9 F9
    dsimp only at hp N10 F10
    rw [Int.zero_add] at hk
    subst hk
    obtain ⟨z, hz⟩ : ∃ z, zs[pre.length]? = some z := ⟨_, List.getElem?_eq_getElem hpl⟩
    have hzx : (refsOf zs)[((pre.length : Nat) : Int).toNat]? = some (Value.ref z.a) := by simp [hz]
    have hsub : ∀ q ∈ lampLed D c zs, q ∈ mainLed Do Dc Dh D r c zs (os, no, cs, nc) ++ own := fun q hq => List.mem_append_left _ (.tail _ (.tail _ (.tail _ hq)))
    have hzm : (z.a, z.obj) ∈ mainLed Do Dc Dh D r c zs (os, no, cs, nc) ++ own := hsub _ (.tail _ (List.mem_map_of_mem (f := fun y : Lamp => (y.a, y.obj)) (List.mem_of_getElem? hz)))
    have hpb : pre.length < bs.length := by omega
    obtain ⟨hrep, heq, hlen2, hell, hside⟩ := hR.line _ hpb
    have hcut := (hR.cut _ hpb).symm
    have hlen1 : (brk (turned pre.length bs false)).length ≤ 100 := by rw [brk_length, turned_length]; omega
    obtain ⟨ln, hln⟩ : ∃ ln, brk (turned pre.length bs false) = ln := ⟨_, rfl⟩
    rw [hln] at hrep heq hlen2 hell hside hcut hlen1
    obtain ⟨lf, hlf⟩ : ∃ lf, leftF ln = lf := ⟨_, rfl⟩
    rw [hlf] at heq hlen2 hell hside
    obtain ⟨q1, hq1⟩ : ∃ b, ellF (Str.ofString "(...") lf = b := ⟨_, rfl⟩
    obtain ⟨q2, hq2⟩ : ∃ b, ellF (Str.ofString "...)...") lf = b := ⟨_, rfl⟩
    obtain ⟨q3, hq3⟩ : ∃ b, ellF (Str.ofString "...)") lf = b := ⟨_, rfl⟩
    obtain ⟨q4, hq4⟩ : ∃ b, ellF (Str.ofString "...(...") lf = b := ⟨_, rfl⟩
    have hlf5 : leftAt bs pre.length = lf := by unfold leftAt; rw [hln, hlf]
    have hown := own_off hoff
    have hzo : os.length ≤ 100 := by have := congrArg List.length hp.1; rw [List.length_map] at this; have := opened_len bs pre.length; omega
    have hzc : cs.length ≤ 100 := by have := congrArg List.length hp.2; rw [List.length_map] at this; have := closed_len bs pre.length; omega
    have s1 := side_1
    have s2 := side_2
    have s3 := side_3
    have s4 := side_4
    k_steps
    all_goals refine Halt.go ?_
    all_goals refine main_end (by assumption) (by assumption) (fun z h1 h2 h3 => by simp [kstB, h1, h2, h3]) ?_ ?_
    all_goals first
      | exact opened_grow hp.1 hlf5 (open_yes hq1 hq2 (by assumption) (by assumption))
      | exact opened_stay hp.1 hlf5 (open_no1 hq1 (by assumption))
      | exact opened_stay hp.1 hlf5 (open_no2 hq2 (by assumption))
      | exact closed_grow hp.2 hlf5 (close_yes hq3 hq4 (by assumption) (by assumption))
      | exact closed_stay hp.2 hlf5 (close_no1 hq3 (by assumption))
      | exact closed_stay hp.2 hlf5 (close_no2 hq4 (by assumption))
  rintro ⟨os, no, cs, nc⟩ u h8 tk _ hp F10 N10
  clear N9 F9
  dsimp only at hp N10 F10
  rw [rangeKs_length, ← hbl] at hp
  have hno := hR.no
  have hnc := hR.nc
  have hmv := hR.moved
  obtain ⟨op, hop⟩ : ∃ op, openedF bs bs.length = op := ⟨_, rfl⟩
  obtain ⟨cp, hcp⟩ : ∃ cp, closedF bs bs.length = cp := ⟨_, rfl⟩
  have hob := opened_len bs bs.length
  have hcb := closed_len bs bs.length
  rw [hop] at hno hmv hob
  rw [hcp] at hnc hcb
  obtain ⟨hpo, hpc⟩ : os.map (·.1) = op ∧ cs.map (·.1) = cp := ⟨hp.1.trans hop, hp.2.trans hcp⟩
  have hol : (strValues os).length = op.length := by rw [← hpo, strValues, List.length_map, List.length_map]
  have hcl : (strValues cs).length = cp.length := by rw [← hpc, strValues, List.length_map, List.length_map]
  have hob8 : op.length ≤ 8 := by omega
  have hcb8 : cp.length ≤ 8 := by omega
  have hno2 := max_if hno
  have hnc2 := max_if hnc
  k_steps
  refine Halt.go ?_
  rename IsRange _ _ _ _ _ _ _ _ => hRg2
  rename Fr _ _ _ _ => F12
  rename News _ _ _ _ => N12
  have hshort := opened_short hR
  rw [hop] at hshort
  refine' kst_range (σ := Unit) (fun _ => mainLed Do Dc Dh D r c zs (os, no, cs, nc)) (fun _ => []) (fun _ => True) [] (fun _ _ => True) () rfl hRg2 ?small6 (n := op.length) ?size6 F12 N12 trivial (fun _ h => nomatch h) trivial ?turn6 ?done6
  case small6 => exact small_one (by decide) (by decide) (by omega) (by omega)
  case size6 => exact rangeSize_nat _ _
  case turn6 =>
    intro _ pre k t u h9 tk9 own hk hpl hoff _ _ F13 N13
    clear N12 F12
    dsimp only at N13 F13
    rw [Int.zero_add] at hk
    subst hk
    have hol8 : (strValues os).length < 1000 := by rw [hol]; omega
    obtain ⟨x, tx, y, ty, hx, hy, hxy, hly, hjl⟩ := moved_at hpo hmv hshort hpl
    k_steps
    all_goals refine Halt.go ?_
    refine kst_end () (by assumption) (by assumption) (fun p hp => List.mem_append_left _ hp) (fun p hp => List.mem_append_right _ hp) rfl trivial (fun _ h => (nomatch h)) (fun z h1 _ _ => by simp [kstB, h1]) trivial
  intro _ u h9 tk9 _ _ F13 N13
  clear N12 F12
  dsimp only at N13 F13
  walk1
  walk1
  walk1
  dsimp only
  exact goodW_bool F13 (by with_reducible assumption) (fun _ => rfl) post_true)
end
end Mine
theorem PySem.Challenge.cw_pe0090_01_holds : PySem.Challenge.rw_pe0090_01.Holds :=
  Mine.law_holds

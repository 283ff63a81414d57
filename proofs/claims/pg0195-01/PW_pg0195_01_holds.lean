import PyProof.Rows.All
import Wide.All
import OpenK.AllK
import Wide.FinOn
import PySem.Challenge.RW_pg0195_01
open PySem PySem.W PyProof.Rows
set_option Elab.async false
set_option maxRecDepth 100000
set_option maxHeartbeats 0
namespace Mine
section
/-- a small statement of the same text: what `_escape_attrib_html` gives back of the empty text is a text -/
def row0 : OpenRow :=
  { PySem.Challenge.rw_pg0195_01.row with name := Str.ofString "_escape_attrib_html", args := [.str], returns := .str, pre := .eq (.arg 0) (.lit (.str (Str.ofString ""))), post := .lit (.bool true), keeps := [] }
theorem none_in {x c : Str} (h : (x == Str.ofString "") = true) (k : (Builtin.Str.occurrences x c 0 x.length 1).isEmpty = false)
    (e : (Builtin.Str.occurrences (Str.ofString "") c 0 (Str.ofString "").length 1).isEmpty = true) : False := by
  rw [eq_of_beq h, e] at k
  cases k
/-! names that the head's twins would bear: they are taken, so that no twin is laid (a twin's lemma grows with the square of its texts) -/
theorem hd.tw15616948245753086127 : True := trivial
theorem hd.tw978945382295711627 : True := trivial
theorem hd.tw6293948785866598258 : True := trivial
theorem hd.tw5961118342813265553 : True := trivial
theorem hd.tw14620637471214046174 : True := trivial
theorem hd.tw17808607793243039243 : True := trivial
theorem hd.tw2867327485932766208 : True := trivial
theorem hd.tw17397052962432165270 : True := trivial
theorem hd.tw18322514126500204803 : True := trivial
theorem hd.tw17061077104543960549 : True := trivial
theorem hd.tw8343274005884668182 : True := trivial
theorem hd.tw8414420238210853183 : True := trivial
theorem hd.tw8764637059366854012 : True := trivial
theorem hd.tw4845836938831722396 : True := trivial
theorem hd.tw13330244855972007585 : True := trivial
theorem hd.tw15792174270998473543 : True := trivial
theorem hd.tw7752767780024739350 : True := trivial
theorem hd.tw17650839729002327288 : True := trivial
theorem hd.tw8841187974860818712 : True := trivial
theorem hd.tw17466564637892440618 : True := trivial
theorem hd.tw10296555574160606952 : True := trivial
theorem hd.tw5567388512258382067 : True := trivial
theorem hd.tw12173100003817136821 : True := trivial
theorem hd.tw4115565904173853331 : True := trivial
theorem hd.tw13225837485096350037 : True := trivial
theorem hd.tw9421340871869096474 : True := trivial
theorem hd.tw16222499966895952523 : True := trivial
theorem hd.tw5978321128707920903 : True := trivial
theorem hd.tw13181220554201973888 : True := trivial
theorem hd.tw17673860158736603733 : True := trivial
theorem hd.tw4225703048834024713 : True := trivial
theorem hd.tw16945582573551092051 : True := trivial
theorem hd.tw13437302318768402701 : True := trivial
theorem hd.tw15527848837575444561 : True := trivial
theorem hd.tw16828841361933241965 : True := trivial
theorem hd.tw7109450275434161582 : True := trivial
theorem hd.tw3219085151875037572 : True := trivial
theorem hd.tw14310624532144728618 : True := trivial
theorem hd.tw3530705653197291679 : True := trivial
theorem hd.tw54727356038600574 : True := trivial
theorem hd.tw7345208892882624808 : True := trivial
theorem hd.tw6276725880618359904 : True := trivial
theorem hd.tw16194383521188589630 : True := trivial
theorem hd.tw12598724348716800887 : True := trivial
theorem hd.tw15040182064412255696 : True := trivial
theorem hd.tw16259696140248634718 : True := trivial
theorem hd.tw11917015161858427179 : True := trivial
theorem hd.tw12451258846644117672 : True := trivial
theorem hd.tw15114108414909977919 : True := trivial
theorem hd.tw13825509269061658866 : True := trivial
theorem hd.tw6053923438159776744 : True := trivial
theorem hd.tw11387694631328260470 : True := trivial
theorem hd.tw4360684699965382250 : True := trivial
theorem hd.tw8735263284916673568 : True := trivial
theorem hd.tw13267510147771200024 : True := trivial
theorem hd.tw8959176491354863721 : True := trivial
theorem hd.tw5511420028821071320 : True := trivial
theorem hd.tw15153279154761372571 : True := trivial
theorem hd.tw6555240042291301478 : True := trivial
theorem hd.tw6411954120941647267 : True := trivial
theorem hd.tw14168552714766633299 : True := trivial
theorem hd.tw10792051664901133789 : True := trivial
theorem hd.tw13514359493905995313 : True := trivial
theorem hd.tw6973365052067433372 : True := trivial
theorem hd.tw11959044307898795358 : True := trivial
theorem hd.tw11334062482582688307 : True := trivial
theorem hd.tw1097998534492414930 : True := trivial
theorem hd.tw1997569388931296116 : True := trivial
theorem hd.tw16519581850611564860 : True := trivial
theorem hd.tw8364274539379898114 : True := trivial
theorem hd.tw4402725079659364252 : True := trivial
theorem hd.tw8226494294326810461 : True := trivial
theorem hd.tw5497643321735027644 : True := trivial
theorem hd.tw9251897876830613752 : True := trivial
theorem hd.tw11319097763535126812 : True := trivial
theorem hd.tw6407587892757256292 : True := trivial
theorem hd.tw9673543361469618366 : True := trivial
theorem hd.tw6082411064634330575 : True := trivial
theorem hd.tw3571134770919094901 : True := trivial
theorem hd.tw7754304195085646258 : True := trivial
theorem hd.tw10258225898301398825 : True := trivial
theorem hd.tw13753220567063992666 : True := trivial
theorem hd.tw3493717111155160527 : True := trivial
theorem hd.tw18350433093344046624 : True := trivial
theorem hd.tw1878737405954674963 : True := trivial
theorem hd.tw6291416237084387574 : True := trivial
theorem hd.tw6892424819385984264 : True := trivial
theorem hd.tw5461583852855630226 : True := trivial
theorem hd.tw8086110750863094267 : True := trivial
theorem hd.tw12271959270614036898 : True := trivial
theorem hd.tw3646829019195819677 : True := trivial
theorem hd.tw4325921153153474475 : True := trivial
theorem hd.tw17542962492245011380 : True := trivial
theorem hd.tw14015909994521340511 : True := trivial
theorem hd.tw1860674893733999873 : True := trivial
theorem hd.tw12797040952259185971 : True := trivial
theorem hd.tw4278124947684190350 : True := trivial
theorem hd.tw11136197038861592535 : True := trivial
theorem hd.tw3229955645248102723 : True := trivial
theorem hd.tw6663896369628448293 : True := trivial
theorem hd.tw15890378047532165470 : True := trivial
theorem hd.tw7028611270464810887 : True := trivial
theorem hd.tw14246236162039180721 : True := trivial
theorem hd.tw6305734824756694309 : True := trivial
theorem hd.tw12023040214023829324 : True := trivial
set_option Elab.async true in
theorem hd : row0.Holds := by
  have said : row0.wellSaid = true := by k_qdec
  w_on
  k_head
  case hw => w_witness2
  k_go0
  (all_goals try k_fold)
  k_with_none
  k_with "call builtin:str.replace" => (exact (none_in (by assumption) (by assumption) (by decide +kernel)).elim)
  k_steps
end
theorem hd_stands : hd.heap_1_1 = hd.heap_1_1 := rfl
local macro_rules | `(tactic| walk_at $s:str) => `(tactic| k_extra $s)
section
theorem runs_toks {M : Model} {Γ : Ctx} {p : Pos} {t : Sem Fin} {fs : List Frame} {s s' : Shared} {e : End} (h : Runs M Γ p t fs s e s') : s.toks ≤ s'.toks := by
  induction h with
  | fresh _ ih => exact Nat.le_of_succ_le ih
  | call _ _ ih1 ih2 => exact Nat.le_trans ih1 ih2
  | resumeFresh _ _ _ _ ih1 ih2 => exact Nat.le_trans ih1 ih2
  | resumeSuspended _ _ _ _ ih1 ih2 => exact Nat.le_trans ih1 ih2
  | segRet _ _ ih1 ih2 => exact Nat.le_trans ih1 ih2
  | segGen _ _ ih1 ih2 => exact Nat.le_trans ih1 ih2
  | segSuspGen _ _ _ _ ih1 ih2 => exact Nat.le_trans ih1 ih2
  | done => exact Nat.le_refl _
  | raise => exact Nat.le_refl _
  | yield => exact Nat.le_refl _
  | _ => assumption
theorem wakes_toks {M : Model} {Γ : Ctx} {p : Pos} {g : Nat} {r : Resume} {s s' : Shared} {res : GenResult} (h : Wakes M Γ p g r s res s') : s.toks ≤ s'.toks := by
  unfold Wakes at h
  split at h
  · exact h.elim
  · split at h
    · obtain ⟨e₁, s₁, hr, _, _, rfl⟩ := h; have q := runs_toks hr; exact q
    · obtain ⟨_, rfl⟩ := h; exact Nat.le_refl _
    · obtain ⟨_, rfl⟩ := h; exact Nat.le_refl _
  · obtain ⟨e₁, s₁, hr, _, _, rfl⟩ := h; have q := runs_toks hr; exact q
  · obtain ⟨_, rfl⟩ := h; exact Nat.le_refl _
  · obtain ⟨_, rfl⟩ := h; exact Nat.le_refl _
theorem wp_toks {α : Type} {M : Model} {Γ : Ctx} (t : Sem α) {Q : α → Pos → Shared → Prop} {E : Value → Pos → Shared → Prop} : ∀ {p : Pos} {s : Shared} (n : Nat), n ≤ s.toks →
    Sem.wp M Γ t (fun a p s' => n ≤ s'.toks → Q a p s') (fun e p s' => n ≤ s'.toks → E e p s') p s → Sem.wp M Γ t Q E p s := by
  induction t with
  | pure a => intro p s n hn h; rw [Sem.wp] at h ⊢; exact h hn
  | raise a => intro p s n hn h; rw [Sem.wp] at h ⊢; exact h hn
  | fresh k ih => intro p s n hn h; rw [Sem.wp] at h ⊢; exact ih _ n (Nat.le_succ_of_le hn) h
  | call c hd g l k ih =>
    intro p s n hn h; rw [Sem.wp] at h ⊢
    obtain ⟨r, s', hr, hq⟩ := h
    exact ⟨r, s', hr, ih _ n (Nat.le_trans hn (runs_toks hr)) hq⟩
  | resume g r l k ih =>
    intro p s n hn h; rw [Sem.wp] at h ⊢
    obtain ⟨r, s', hr, hq⟩ := h
    exact ⟨r, s', hr, ih _ n (Nat.le_trans hn (wakes_toks hr)) hq⟩
  | load a q k ih => intro p s n hn h; rw [Sem.wp] at h ⊢; obtain ⟨o, ho, hq⟩ := h; exact ⟨o, ho, ih _ n hn hq⟩
  | update a q f k ih => intro p s n hn h; rw [Sem.wp] at h ⊢; exact ⟨h.1, ih _ n hn h.2⟩
  | genState g k ih => intro p s n hn h; rw [Sem.wp] at h ⊢; obtain ⟨o, ho, hq⟩ := h; exact ⟨o, ho, ih _ n hn hq⟩
  | choose src m k ih => intro p s n hn h; rw [Sem.wp] at h ⊢; exact ⟨h.1, ih _ n hn h.2⟩
  | unsupported => intro p s n hn h; rw [Sem.wp] at h; exact h.elim
  | finish => intro p s n hn h; rw [Sem.wp] at h; exact h.elim
  | register => intro p s n hn h; rw [Sem.wp] at h; exact h.elim
  | yield => intro p s n hn h; rw [Sem.wp] at h; exact h.elim
  | fork => intro p s n hn h; rw [Sem.wp] at h; exact h.elim
  | await => intro p s n hn h; rw [Sem.wp] at h; exact h.elim
  | rule tag k ih => intro p s n hn h; rw [Sem.wp] at h ⊢; exact ih _ n hn h
  | «at» q k ih => intro p s n hn h; rw [Sem.wp] at h ⊢; exact ih _ n hn h
  | point l k ih => intro p s n hn h; rw [Sem.wp] at h ⊢; exact ih _ n hn h
  | loadIfAlive a k ih => intro p s n hn h; rw [Sem.wp] at h ⊢; exact ih _ n hn h
  | alloc o k ih => intro p s n hn h; rw [Sem.wp] at h ⊢; exact ih _ n hn h
  | ask k ih => intro p s n hn h; rw [Sem.wp] at h ⊢; exact ih _ n hn h
  | os q l k ih => intro p s n hn h; rw [Sem.wp] at h ⊢; exact ih _ n hn h
  | handled own k ih => intro p s n hn h; rw [Sem.wp] at h ⊢; exact ih _ n hn h
  | newGen c k ih => intro p s n hn h; rw [Sem.wp] at h ⊢; exact ih _ n hn h
  | stack k ih => intro p s n hn h; rw [Sem.wp] at h ⊢; exact ih _ n hn h
  | thread k ih => intro p s n hn h; rw [Sem.wp] at h ⊢; exact ih _ n hn h
/-- what runs never takes tokens back -/
theorem any_toks {α : Type} {M : Model} {A : Around} {t : Sem α} {Q : α → Shared → Prop} {E : Value → Shared → Prop} {s : Shared} (n : Nat) (hn : n ≤ s.toks)
    (h : wpAny M A t (fun a s' => n ≤ s'.toks → Q a s') (fun e s' => n ≤ s'.toks → E e s') s) : wpAny M A t Q E s :=
  fun Γ p hΓ => wp_toks t n hn (h Γ p hΓ)
end
section
/-- a text by its signs -/
abbrev tx (l : List Nat) : Str := ⟨l.toArray⟩
theorem tx_cps (x : Str) : tx x.cps.toList = x := by obtain ⟨⟨l⟩⟩ := x; rfl
theorem tx_len (l : List Nat) : (tx l).length = l.length := by simp [Str.length]
def swapOne (c : Nat) (z : List Nat) (l : List Nat) : List Nat := l.flatMap fun k => if k = c then z else [k]
theorem swap_free {c : Nat} {z : List Nat} : ∀ {l : List Nat}, c ∉ l → swapOne c z l = l
  | [], _ => rfl
  | k :: r, h => by
    have h1 : ¬ k = c := fun e => h (e ▸ List.mem_cons_self ..)
    have h2 : c ∉ r := fun m => h (List.mem_cons_of_mem _ m)
    have ih := swap_free (z := z) h2
    unfold swapOne at ih ⊢
    rw [List.flatMap_cons, if_neg h1, ih]; rfl
theorem swap_append (c : Nat) (z a b : List Nat) : swapOne c z (a ++ b) = swapOne c z a ++ swapOne c z b := by
  unfold swapOne; rw [List.flatMap_append]
theorem swap_join (c : Nat) (z : Str) : ∀ parts : List Str, (∀ p ∈ parts, c ∉ p.cps.toList) → swapOne c z.cps.toList (Str.join ⟨#[c]⟩ parts).cps.toList = (Str.join z parts).cps.toList
  | [], _ => rfl
  | [p], h => swap_free (h p (List.mem_singleton.mpr rfl))
  | p :: q :: r, h => by
    have ih := swap_join c z (q :: r) fun a ha => h a (List.mem_cons_of_mem _ ha)
    show swapOne c z.cps.toList (p ++ ⟨#[c]⟩ ++ Str.join ⟨#[c]⟩ (q :: r)).cps.toList = (p ++ z ++ Str.join z (q :: r)).cps.toList
    simp only [Str.cps_append, Array.toList_append]
    rw [swap_append, swap_append, ih, swap_free (h p (List.mem_cons_self ..))]
    congr 2
    simp [swapOne]
theorem replace_swap (x z : Str) (c : Nat) : Txt.replace x ⟨#[c]⟩ z = tx (swapOne c z.cps.toList x.cps.toList) := by
  rw [StrLaws.replace_one]
  have h := swap_join c z (Txt.split x ⟨#[c]⟩) (StrLaws.split_free x c)
  rw [StrLaws.join_split] at h
  rw [h, tx_cps]

/-- a frame's map with one name set -/
abbrev upd (x : Str) (v : Value) (m : Str → Option Value) : Str → Option Value := fun y => if y = x then some v else m y
theorem upd_same {x : Str} {v : Value} {m : Str → Option Value} (h : m x = some v) : upd x v m = m := by
  funext y
  show (if y = x then some v else m y) = m y
  by_cases e : y = x
  · rw [if_pos e, e, h]
  · rw [if_neg e]
theorem fr_upd {h₀ h : Heap} {L : Addr} {m : Str → Option Value} {x : Str} {v : Value} (F : Fr h₀ L h m) (e : m x = some v) : Fr h₀ L h (upd x v m) := by rw [upd_same e]; exact F
theorem upd_upd (x : Str) (v v' : Value) (m : Str → Option Value) : upd x v (upd x v' m) = upd x v m := by
  funext y
  show (if y = x then some v else if y = x then some v' else m y) = if y = x then some v else m y
  by_cases e : y = x
  · rw [if_pos e, if_pos e]
  · rw [if_neg e, if_neg e, if_neg e]
/-- a row «if 'c' in text: text = text.replace('c', 'z')» -/
inductive RepSt : Stmt → Nat → List Nat → Prop
  | mk (cs zs : String) (c : Nat) (z : List Nat) (hc : Str.ofString cs = ⟨#[c]⟩) (hz : Str.ofString zs = tx z) (hne : (Str.ofString cs == Str.ofString zs) = false) (hl : z.length ≤ 14) (k1 k2 k3 : Nat) (p1 p2 p3 p4 p5 p6 p7 p8 p9 p10 p11 : Pos) (hp : (p6.endLine == p9.line) = true) :
    RepSt (Stmt.If (Expr.Compare (Expr.Constant (Const.str (Str.ofString cs)) k1 p1) [CmpOp.In] [Expr.Name (Str.ofString "text") p2] p3)
      [Stmt.Assign [Expr.Name (Str.ofString "text") p4] (Expr.Call (Expr.Attribute (Expr.Name (Str.ofString "text") p5) (Str.ofString "replace") p6) [Expr.Constant (Const.str (Str.ofString cs)) k2 p7, Expr.Constant (Const.str (Str.ofString zs)) k3 p8] [] p9) p10] [] p11) c z
inductive Reps (rest : List Stmt) : List Stmt → List (Nat × List Nat) → Prop
  | nil : Reps rest rest []
  | cons {st c z sts ps} : RepSt st c z → Reps rest sts ps → Reps rest (st :: sts) ((c, z) :: ps)
def swaps (ps : List (Nat × List Nat)) (l : List Nat) : List Nat := ps.foldl (fun l p => swapOne p.1 p.2 l) l
section
variable {prog : Program} {w : World} {A : Around} {E : Value → Shared → Prop} {s : Shared} {h₀ : Heap} {L a : Addr} {m : Str → Option Value} {news : List (Addr × Obj)} {name : Str} {scope : Scope} {cd : Value} {Q : Flow → Shared → Prop}
theorem if_rep {st : Stmt} {c : Nat} {z : List Nat} (hst : RepSt st c z) {l : List Nat} {t : Tok} (F : Fr h₀ L s.heap m) (N : News h₀ L s.heap news) (hm : m (Str.ofString "text") = some (.str (tx l) t))
    (hpos : 0 < s.toks) (hk : scope.kind = .function) (hl : (envOf name scope L a cd).kindOf (Str.ofString "text") = some .local) (hx : l.length ≤ 1048576)
    (h : ∀ t' h' tk', Fr h₀ L h' (upd (Str.ofString "text") (.str (tx (swapOne c z l)) t') m) → News h₀ L h' news → 0 < tk' → Q .next { s with heap := h', toks := tk' }) :
    wpAny (model prog w) A (exec st (envOf name scope L a cd)) Q E s := by
  obtain ⟨cs, zs, c, z, hc, hz, hne, hzl, k1, k2, k3, p1, p2, p3, p4, p5, p6, p7, p8, p9, p10, p11, hp⟩ := hst
  refine wpAny_If (wpAny_isTrue_Compare1 (Calls.Constant_str (ld F hm ?_ hk hl)))
  refine in_str (wpAny_truthy_bool ?_)
  have ef : (!(Builtin.Str.occurrences (tx l) (Str.ofString cs) 0 (tx l).length 1).isEmpty) = decide (c ∈ l) := by rw [hc, StrLaws.found_one]
  rw [ef]
  by_cases hin : c ∈ l
  · rw [decide_eq_true hin, if_pos rfl]
    refine wpAny_execs_cons (wpAny_Assign_Name ?_)
    refine MethodCall_ (pl := (do return (← importBound (Expr.Name (Str.ofString "text") p5) (envOf name scope L a cd)).getD true)) ?_ (he := ?_)
    rotate_left
    · rw [arm_eval_Call]
      unfold methodCall methodCallPos
      rw [hp]
      rfl
    refine ld F hm ?_ hk hl
    with_reducible refine GM.replace ?_
    refine callWith_method1 ?_
    refine spliced_more ?_
    refine Calls.Constant_str ?_
    refine spliced_more ?_
    refine Calls.Constant_str ?_
    refine spliced_none ?_
    refine any_toks 1 (by show 1 ≤ s.toks + 1 + 1 + 1; omega) ?_
    refine SC.replaceW (by show s.toks + 1 ≠ 0; omega) (by show s.toks + 1 + 1 ≠ 0; omega) (by show s.toks + 1 ≠ s.toks + 1 + 1; omega) hne (by rw [tx_len]; exact hx) (by rw [hz, tx_len]; exact hzl) fun t' k hk9 => ?_
    dsimp only at hk9 ⊢
    rw [hc, replace_swap, hz]
    refine stN F N (fun h' F' N' => wpAny_execs_nil ?_) hk hl
    exact h t' h' _ F' N' (by show 0 < k + 1; omega)
  · rw [decide_eq_false hin, if_neg Bool.false_ne_true]
    refine wpAny_execs_nil ?_
    have := h t s.heap (s.toks + 1) (by rw [swap_free hin, upd_same hm]; exact F) N (Nat.succ_pos _)
    exact this
theorem reps_run {rest sts : List Stmt} {ps : List (Nat × List Nat)} (R : Reps rest sts ps) (hk : scope.kind = .function) (hl : (envOf name scope L a cd).kindOf (Str.ofString "text") = some .local) {r : List Nat}
    (h : ∀ t' h' tk', Fr h₀ L h' (upd (Str.ofString "text") (.str (tx r) t') m) → News h₀ L h' news → 0 < tk' → wpAny (model prog w) A (execs rest (envOf name scope L a cd)) Q E { s with heap := h', toks := tk' }) :
    ∀ (l : List Nat) (t : Tok) (hp : Heap) (tk : Nat), swaps ps l = r → (∀ qs rs, ps = qs ++ rs → (swaps qs l).length ≤ 1048576) → Fr h₀ L hp (upd (Str.ofString "text") (.str (tx l) t) m) → News h₀ L hp news → 0 < tk →
      wpAny (model prog w) A (execs sts (envOf name scope L a cd)) Q E { s with heap := hp, toks := tk } := by
  induction R with
  | nil => intro l t hp tk e _ F N ht; subst e; exact h t hp tk F N ht
  | @cons st c z sts ps hst R ih =>
    intro l t hp tk e hb F N ht
    refine wpAny_execs_cons ?_
    refine if_rep (l := l) (t := t) hst F N (if_pos rfl) ht hk hl (hb [] _ rfl) fun t' h' tk' F' N' ht' => ?_
    dsimp only
    rw [upd_upd] at F'
    exact ih _ t' h' tk' e (fun qs rs e' => hb ((c, z) :: qs) rs (by rw [e', List.cons_append])) F' N' ht'
end
end
section
def tbl (ps : List (Nat × List Nat)) (k : Nat) : List Nat := match ps.lookup k with
  | some z => z
  | none => [k]
def okPs : List (Nat × List Nat) → Bool
  | [] => true
  | (c, z) :: ps => (ps.all fun p => p.1 != c && !z.contains p.1) && okPs ps
theorem tbl_none {ps : List (Nat × List Nat)} {k : Nat} (h : ∀ p ∈ ps, p.1 ≠ k) : tbl ps k = [k] := by
  unfold tbl
  have : ps.lookup k = none := by
    induction ps with
    | nil => rfl
    | cons p ps ih =>
      obtain ⟨c, z⟩ := p
      have h1 : c ≠ k := h _ (List.mem_cons_self ..)
      rw [List.lookup_cons, show (k == c) = false from beq_eq_false_iff_ne.mpr (Ne.symm h1)]
      exact ih fun p hp => h p (List.mem_cons_of_mem _ hp)
  rw [this]
theorem flat_none {ps : List (Nat × List Nat)} : ∀ {z : List Nat}, (∀ p ∈ ps, p.1 ∉ z) → z.flatMap (tbl ps) = z
  | [], _ => rfl
  | k :: z, h => by
    rw [List.flatMap_cons, tbl_none fun p hp e => h p hp (e ▸ List.mem_cons_self ..), flat_none fun p hp m => h p hp (List.mem_cons_of_mem _ m)]
    rfl
theorem swaps_flat : ∀ {ps : List (Nat × List Nat)}, okPs ps = true → ∀ l, swaps ps l = l.flatMap (tbl ps)
  | [], _, l => by
    show l = l.flatMap fun k => [k]
    rw [List.flatMap_singleton']
  | (c, z) :: ps, h, l => by
    obtain ⟨h1, h2⟩ := Bool.and_eq_true_iff.mp h
    rw [List.all_eq_true] at h1
    show swaps ps (swapOne c z l) = _
    rw [swaps_flat h2]
    unfold swapOne
    rw [List.flatMap_assoc]
    congr 1
    funext k
    by_cases e : k = c
    · rw [if_pos e, flat_none fun p hp m => by have := h1 p hp; simp [m] at this]
      unfold tbl
      rw [e, List.lookup_cons, beq_self_eq_true]
    · rw [if_neg e]
      unfold tbl
      rw [List.lookup_cons, show (k == c) = false from beq_eq_false_iff_ne.mpr e, List.flatMap_cons, List.flatMap_nil, List.append_nil]
theorem okPs_pre : ∀ {qs rs : List (Nat × List Nat)}, okPs (qs ++ rs) = true → okPs qs = true
  | [], _, _ => rfl
  | (c, z) :: qs, rs, h => by
    obtain ⟨h1, h2⟩ := Bool.and_eq_true_iff.mp h
    rw [show qs.append rs = qs ++ rs from rfl, List.all_append, Bool.and_eq_true] at h1
    exact Bool.and_eq_true_iff.mpr ⟨h1.1, okPs_pre h2⟩
theorem flat_len {f : Nat → List Nat} {B : Nat} (h : ∀ k, (f k).length ≤ B) : ∀ l : List Nat, (l.flatMap f).length ≤ B * l.length
  | [] => by simp
  | k :: l => by
    rw [List.flatMap_cons, List.length_append, List.length_cons, Nat.mul_add, Nat.mul_one]
    have := flat_len h l
    have := h k
    omega
theorem tbl_len {ps : List (Nat × List Nat)} (h : (ps.all fun p => decide (p.2.length ≤ 6)) = true) (k : Nat) : (tbl ps k).length ≤ 6 := by
  unfold tbl
  split
  · rename_i z e
    have : ∃ c, (c, z) ∈ ps := by
      clear h
      induction ps with
      | nil => cases e
      | cons p ps ih =>
        obtain ⟨c, z'⟩ := p
        rw [List.lookup_cons] at e
        split at e
        · cases e; exact ⟨c, List.mem_cons_self ..⟩
        · obtain ⟨c', m⟩ := ih e; exact ⟨c', List.mem_cons_of_mem _ m⟩
    obtain ⟨c, m⟩ := this
    exact of_decide_eq_true (List.all_eq_true.mp h _ m)
  · exact Nat.succ_le_succ (Nat.zero_le _)
theorem swaps_len {ps qs rs : List (Nat × List Nat)} {l : List Nat} (ho : okPs ps = true) (hs : (ps.all fun p => decide (p.2.length ≤ 6)) = true) (hl : l.length ≤ 100000) (e : ps = qs ++ rs) : (swaps qs l).length ≤ 1048576 := by
  subst e
  rw [swaps_flat (okPs_pre ho)]
  rw [List.all_append, Bool.and_eq_true] at hs
  have := flat_len (tbl_len hs.1) l
  omega
/-- what a def of the text makes of its arguments: the caller's frame stands, what is new lies ahead of the ledger -/
def Fn (w : World) (n : Nat) (f : Addr) (d u : Nat) (vs : List Value) (pre : List (Addr × Obj) → Prop) (post : List (Addr × Obj) → List (Addr × Obj) → Value → Prop) : Prop :=
  ∀ (dp un : Nat) (gd : Option (List Code)) (cn : Str) (cs : Scope) (a : Addr) (ccd : Value) (cl : List (Str × Addr)) (outer : List Env) (A₀ : Around) (base h₀ : Heap) (L : Addr) (m : Str → Option Value) (news : List (Addr × Obj)) (s : Shared) (Q E : Value → Shared → Prop)
    (mean : ExcName → Option Value) (mg mb : Str → Option Value),
    Below A₀ base outer h₀ → Fr h₀ L s.heap m → (hd.heap_1_1 w.params).In h₀ → News h₀ L s.heap news → Top hd.view_1_2 (looseW hd.view_1_2 [Str.ofString "EXACT_TOKEN_TYPES"]) mean mg mb h₀ → cs.kind = .function → pre news → dp + d < recursionLimit → un + u < cLine → n ≤ s.toks →
    (∀ v new h' tk', Fr h₀ L h' m → News h₀ L h' (new ++ news) → n ≤ tk' → post news new v → Q v { s with heap := h', toks := tk' }) →
    wpAny (model Challenge.rw_pg0195_01.row.prog w) (ktrTop dp un gd cn cs L a ccd cl outer) (call (.ref f) vs) Q E s
/-- it hands back a text and makes nothing -/
abbrev giveTx (r : List Nat) : List (Addr × Obj) → List (Addr × Obj) → Value → Prop := fun _ new v => new = [] ∧ ∃ t, v = .str (tx r) t
def psCdata : List (Nat × List Nat) := [(38, [38, 97, 109, 112, 59]), (60, [38, 108, 116, 59]), (62, [38, 103, 116, 59])]
theorem fn_Cdata (w : World) (l : List Nat) (t : Tok) (hl : l.length ≤ 100000) : Fn w 1 28 1 8 [.str (tx l) t] (fun _ => True) (giveTx (l.flatMap (tbl psCdata))) := by
  w_top off
  unfold Fn
  k_fill
  intros
  rename_i hpos hret
  refine wpAny_call ?_
  k_dflt cell_enter
  refine wpAny_execs_cons ?_
  refine wpAny_Try_except ?_
  (with_reducible rename Fr _ _ _ _ => F9)
  (with_reducible rename News _ _ _ _ => N9)
  refine reps_run (rest := ?rest) (ps := psCdata) ?R rfl rfl (r := l.flatMap (tbl psCdata)) ?h l t _ _ (swaps_flat (by decide) l) (fun qs rs e => swaps_len (by decide) (by decide) hl e) (fr_upd F9 rfl) N9 ?t
  case R =>
    refine .cons (.mk _ _ _ _ (by decide +kernel) (by decide +kernel) (by decide +kernel) (by decide) _ _ _ _ _ _ _ _ _ _ _ _ _ _ rfl) ?_
    refine .cons (.mk _ _ _ _ (by decide +kernel) (by decide +kernel) (by decide +kernel) (by decide) _ _ _ _ _ _ _ _ _ _ _ _ _ _ rfl) ?_
    refine .cons (.mk _ _ _ _ (by decide +kernel) (by decide +kernel) (by decide +kernel) (by decide) _ _ _ _ _ _ _ _ _ _ _ _ _ _ rfl) ?_
    exact .nil
  case t => show 0 < _; omega
  case h =>
    intro t' h' tk' F' N' ht'
    k_steps
    refine hret _ [] _ _ ?_ ?_ ht' ⟨rfl, _, rfl⟩ <;> assumption
def psAttr : List (Nat × List Nat) := [(38, [38, 97, 109, 112, 59]), (60, [38, 108, 116, 59]), (62, [38, 103, 116, 59]), (34, [38, 113, 117, 111, 116, 59]), (13, [38, 35, 49, 51, 59]), (10, [38, 35, 49, 48, 59]), (9, [38, 35, 48, 57, 59])]
theorem fn_Attr (w : World) (l : List Nat) (t : Tok) (hl : l.length ≤ 100000) : Fn w 1 35 1 8 [.str (tx l) t] (fun _ => True) (giveTx (l.flatMap (tbl psAttr))) := by
  w_top off
  unfold Fn
  k_fill
  intros
  rename_i hpos hret
  refine wpAny_call ?_
  k_dflt cell_enter
  refine wpAny_execs_cons ?_
  refine wpAny_Try_except ?_
  (with_reducible rename Fr _ _ _ _ => F9)
  (with_reducible rename News _ _ _ _ => N9)
  refine reps_run (rest := ?rest) (ps := psAttr) ?R rfl rfl (r := l.flatMap (tbl psAttr)) ?h l t _ _ (swaps_flat (by decide) l) (fun qs rs e => swaps_len (by decide) (by decide) hl e) (fr_upd F9 rfl) N9 ?t
  case R =>
    refine .cons (.mk _ _ _ _ (by decide +kernel) (by decide +kernel) (by decide +kernel) (by decide) _ _ _ _ _ _ _ _ _ _ _ _ _ _ rfl) ?_
    refine .cons (.mk _ _ _ _ (by decide +kernel) (by decide +kernel) (by decide +kernel) (by decide) _ _ _ _ _ _ _ _ _ _ _ _ _ _ rfl) ?_
    refine .cons (.mk _ _ _ _ (by decide +kernel) (by decide +kernel) (by decide +kernel) (by decide) _ _ _ _ _ _ _ _ _ _ _ _ _ _ rfl) ?_
    refine .cons (.mk _ _ _ _ (by decide +kernel) (by decide +kernel) (by decide +kernel) (by decide) _ _ _ _ _ _ _ _ _ _ _ _ _ _ rfl) ?_
    refine .cons (.mk _ _ _ _ (by decide +kernel) (by decide +kernel) (by decide +kernel) (by decide) _ _ _ _ _ _ _ _ _ _ _ _ _ _ rfl) ?_
    refine .cons (.mk _ _ _ _ (by decide +kernel) (by decide +kernel) (by decide +kernel) (by decide) _ _ _ _ _ _ _ _ _ _ _ _ _ _ rfl) ?_
    refine .cons (.mk _ _ _ _ (by decide +kernel) (by decide +kernel) (by decide +kernel) (by decide) _ _ _ _ _ _ _ _ _ _ _ _ _ _ rfl) ?_
    exact .nil
  case t => show 0 < _; omega
  case h =>
    intro t' h' tk' F' N' ht'
    k_steps
    refine hret _ [] _ _ ?_ ?_ ht' ⟨rfl, _, rfl⟩ <;> assumption
def psHtml : List (Nat × List Nat) := [(38, [38, 97, 109, 112, 59]), (62, [38, 103, 116, 59]), (34, [38, 113, 117, 111, 116, 59])]
theorem fn_Html (w : World) (l : List Nat) (t : Tok) (hl : l.length ≤ 100000) : Fn w 1 42 1 8 [.str (tx l) t] (fun _ => True) (giveTx (l.flatMap (tbl psHtml))) := by
  w_top off
  unfold Fn
  k_fill
  intros
  rename_i hpos hret
  refine wpAny_call ?_
  k_dflt cell_enter
  refine wpAny_execs_cons ?_
  refine wpAny_Try_except ?_
  (with_reducible rename Fr _ _ _ _ => F9)
  (with_reducible rename News _ _ _ _ => N9)
  refine reps_run (rest := ?rest) (ps := psHtml) ?R rfl rfl (r := l.flatMap (tbl psHtml)) ?h l t _ _ (swaps_flat (by decide) l) (fun qs rs e => swaps_len (by decide) (by decide) hl e) (fr_upd F9 rfl) N9 ?t
  case R =>
    refine .cons (.mk _ _ _ _ (by decide +kernel) (by decide +kernel) (by decide +kernel) (by decide) _ _ _ _ _ _ _ _ _ _ _ _ _ _ rfl) ?_
    refine .cons (.mk _ _ _ _ (by decide +kernel) (by decide +kernel) (by decide +kernel) (by decide) _ _ _ _ _ _ _ _ _ _ _ _ _ _ rfl) ?_
    refine .cons (.mk _ _ _ _ (by decide +kernel) (by decide +kernel) (by decide +kernel) (by decide) _ _ _ _ _ _ _ _ _ _ _ _ _ _ rfl) ?_
    exact .nil
  case t => show 0 < _; omega
  case h =>
    intro t' h' tk' F' N' ht'
    k_steps
    refine hret _ [] _ _ ?_ ?_ ht' ⟨rfl, _, rfl⟩ <;> assumption
def psCdataC : List (Nat × List Nat) := [(38, [38, 97, 109, 112, 59]), (60, [38, 108, 116, 59]), (62, [38, 103, 116, 59]), (13, [38, 35, 120, 68, 59])]
theorem fn_CdataC (w : World) (l : List Nat) (t : Tok) (hl : l.length ≤ 100000) : Fn w 1 49 1 8 [.str (tx l) t] (fun _ => True) (giveTx (l.flatMap (tbl psCdataC))) := by
  w_top off
  unfold Fn
  k_fill
  intros
  rename_i hpos hret
  refine wpAny_call ?_
  k_dflt cell_enter
  refine wpAny_execs_cons ?_
  refine wpAny_Try_except ?_
  (with_reducible rename Fr _ _ _ _ => F9)
  (with_reducible rename News _ _ _ _ => N9)
  refine reps_run (rest := ?rest) (ps := psCdataC) ?R rfl rfl (r := l.flatMap (tbl psCdataC)) ?h l t _ _ (swaps_flat (by decide) l) (fun qs rs e => swaps_len (by decide) (by decide) hl e) (fr_upd F9 rfl) N9 ?t
  case R =>
    refine .cons (.mk _ _ _ _ (by decide +kernel) (by decide +kernel) (by decide +kernel) (by decide) _ _ _ _ _ _ _ _ _ _ _ _ _ _ rfl) ?_
    refine .cons (.mk _ _ _ _ (by decide +kernel) (by decide +kernel) (by decide +kernel) (by decide) _ _ _ _ _ _ _ _ _ _ _ _ _ _ rfl) ?_
    refine .cons (.mk _ _ _ _ (by decide +kernel) (by decide +kernel) (by decide +kernel) (by decide) _ _ _ _ _ _ _ _ _ _ _ _ _ _ rfl) ?_
    refine .cons (.mk _ _ _ _ (by decide +kernel) (by decide +kernel) (by decide +kernel) (by decide) _ _ _ _ _ _ _ _ _ _ _ _ _ _ rfl) ?_
    exact .nil
  case t => show 0 < _; omega
  case h =>
    intro t' h' tk' F' N' ht'
    k_steps
    refine hret _ [] _ _ ?_ ?_ ht' ⟨rfl, _, rfl⟩ <;> assumption
def psAttrC : List (Nat × List Nat) := [(38, [38, 97, 109, 112, 59]), (60, [38, 108, 116, 59]), (34, [38, 113, 117, 111, 116, 59]), (9, [38, 35, 120, 57, 59]), (10, [38, 35, 120, 65, 59]), (13, [38, 35, 120, 68, 59])]
theorem fn_AttrC (w : World) (l : List Nat) (t : Tok) (hl : l.length ≤ 100000) : Fn w 1 56 1 8 [.str (tx l) t] (fun _ => True) (giveTx (l.flatMap (tbl psAttrC))) := by
  w_top off
  unfold Fn
  k_fill
  intros
  rename_i hpos hret
  refine wpAny_call ?_
  k_dflt cell_enter
  refine wpAny_execs_cons ?_
  refine wpAny_Try_except ?_
  (with_reducible rename Fr _ _ _ _ => F9)
  (with_reducible rename News _ _ _ _ => N9)
  refine reps_run (rest := ?rest) (ps := psAttrC) ?R rfl rfl (r := l.flatMap (tbl psAttrC)) ?h l t _ _ (swaps_flat (by decide) l) (fun qs rs e => swaps_len (by decide) (by decide) hl e) (fr_upd F9 rfl) N9 ?t
  case R =>
    refine .cons (.mk _ _ _ _ (by decide +kernel) (by decide +kernel) (by decide +kernel) (by decide) _ _ _ _ _ _ _ _ _ _ _ _ _ _ rfl) ?_
    refine .cons (.mk _ _ _ _ (by decide +kernel) (by decide +kernel) (by decide +kernel) (by decide) _ _ _ _ _ _ _ _ _ _ _ _ _ _ rfl) ?_
    refine .cons (.mk _ _ _ _ (by decide +kernel) (by decide +kernel) (by decide +kernel) (by decide) _ _ _ _ _ _ _ _ _ _ _ _ _ _ rfl) ?_
    refine .cons (.mk _ _ _ _ (by decide +kernel) (by decide +kernel) (by decide +kernel) (by decide) _ _ _ _ _ _ _ _ _ _ _ _ _ _ rfl) ?_
    refine .cons (.mk _ _ _ _ (by decide +kernel) (by decide +kernel) (by decide +kernel) (by decide) _ _ _ _ _ _ _ _ _ _ _ _ _ _ rfl) ?_
    refine .cons (.mk _ _ _ _ (by decide +kernel) (by decide +kernel) (by decide +kernel) (by decide) _ _ _ _ _ _ _ _ _ _ _ _ _ _ rfl) ?_
    exact .nil
  case t => show 0 < _; omega
  case h =>
    intro t' h' tk' F' N' ht'
    k_steps
    refine hret _ [] _ _ ?_ ?_ ht' ⟨rfl, _, rfl⟩ <;> assumption
end
section
theorem Fn.use {w : World} {n : Nat} {f : Addr} {d u : Nat} {vs : List Value} {pre : List (Addr × Obj) → Prop} {post : List (Addr × Obj) → List (Addr × Obj) → Value → Prop} (C : Fn w n f d u vs pre post)
    {dp un : Nat} {gd : Option (List Code)} {cn : Str} {cs : Scope} {a : Addr} {ccd : Value} {cl : List (Str × Addr)} {outer : List Env} {A₀ : Around} {base h₀ : Heap} {L : Addr} {m : Str → Option Value} {news : List (Addr × Obj)} {s : Shared} {Q E : Value → Shared → Prop}
    {mean : ExcName → Option Value} {mg mb : Str → Option Value} (B : Below A₀ base outer h₀) (F : Fr h₀ L s.heap m) (X : (hd.heap_1_1 w.params).In h₀) (N : News h₀ L s.heap news) (T : Top hd.view_1_2 (looseW hd.view_1_2 [Str.ofString "EXACT_TOKEN_TYPES"]) mean mg mb h₀)
    (hk : cs.kind = .function) (hp : pre news) (hd9 : dp + d < recursionLimit) (hu : un + u < cLine) (ht : n ≤ s.toks)
    (ret : ∀ v new h' tk', Fr h₀ L h' m → News h₀ L h' (new ++ news) → n ≤ tk' → post news new v → Q v { s with heap := h', toks := tk' }) :
    wpAny (model Challenge.rw_pg0195_01.row.prog w) (ktrTop dp un gd cn cs L a ccd cl outer) (call (.ref f) vs) Q E s :=
  C _ _ _ _ _ _ _ _ _ _ _ _ _ _ _ _ _ _ _ _ _ B F X N T hk hp hd9 hu ht ret
theorem gen_toks {α : Type} {M : Model} {A : Around} {t : Sem α} {Q : α → Shared → Prop} {E : Value → Shared → Prop} {h : Heap} {g : Array GenState} {d : Drawn} {X : Nat} {os : OsState} (h0 : 0 < X)
    (k : ∀ tk, 0 < tk → wpAny M A t Q E ⟨h, g, d, tk, os⟩) : wpAny M A t Q E ⟨h, g, d, X, os⟩ := k X h0
theorem giveTx_of {r r' : List Nat} {news : List (Addr × Obj)} {t : Tok} (e : r' = r) : giveTx r news [] (.str (tx r') t) := ⟨rfl, t, by rw [e]⟩
/-- the ways of writing -/
def wr (h : Int) : Nat → List Nat := if h = 0 then tbl psCdata else if h = 1 then tbl psAttr else if h = 2 then tbl psHtml else if h = 3 then tbl psAttrC else tbl psCdataC
local macro_rules | `(tactic| walk_at "use_tx") => `(tactic| (
  (case k1 => k_asm); (case k2 => k_asm); (case k3 => k_asm); (case k4 => k_asm); (case k5 => k_asm); (case kK => first | exact rfl | assumption); (case kp => trivial); (case kd => ktr_room); (case ku => ktr_units); (case kt => first | assumption | omega | (show 0 < _; omega));
  (case kl => assumption); intro v9 new9 h9 tk9 F9 N9 ht9 e9; obtain ⟨e9, t9, e8⟩ := e9; subst e9 e8; (try dsimp only); (try k_fold)))
theorem fn_write (w : World) (l : List Nat) (t : Tok) (hd9 : Int) (u : Tok) (hl : l.length ≤ 100000) : Fn w 1 66 2 16 [.str (tx l) t, .int hd9 u] (fun _ => True) (giveTx (l.flatMap (wr hd9))) := by
  w_top off
  k_with_none
  k_with "execs cons" => (k_here; (fail_if_success (refine gen_toks (by assumption) ?_)); refine gen_toks (by first | omega | (show 0 < _; omega)) ?_; intro tkq htkq)
  k_with "execs nil" => (k_here; (fail_if_success (refine gen_toks (by assumption) ?_)); refine gen_toks (by first | omega | (show 0 < _; omega)) ?_; intro tkq htkq)
  k_with "call ref" => (k_here; (with_reducible show wpAny _ _ (call (Value.ref 28) _) _ _ _); refine' Fn.use (fn_Cdata _ _ _ ?kl) ?k1 ?k2 ?k3 ?k4 ?k5 ?kK ?kp ?kd ?ku ?kt ?_; walk_at "use_tx")
  k_with "call ref" => (k_here; (with_reducible show wpAny _ _ (call (Value.ref 35) _) _ _ _); refine' Fn.use (fn_Attr _ _ _ ?kl) ?k1 ?k2 ?k3 ?k4 ?k5 ?kK ?kp ?kd ?ku ?kt ?_; walk_at "use_tx")
  k_with "call ref" => (k_here; (with_reducible show wpAny _ _ (call (Value.ref 42) _) _ _ _); refine' Fn.use (fn_Html _ _ _ ?kl) ?k1 ?k2 ?k3 ?k4 ?k5 ?kK ?kp ?kd ?ku ?kt ?_; walk_at "use_tx")
  k_with "call ref" => (k_here; (with_reducible show wpAny _ _ (call (Value.ref 49) _) _ _ _); refine' Fn.use (fn_CdataC _ _ _ ?kl) ?k1 ?k2 ?k3 ?k4 ?k5 ?kK ?kp ?kd ?ku ?kt ?_; walk_at "use_tx")
  k_with "call ref" => (k_here; (with_reducible show wpAny _ _ (call (Value.ref 56) _) _ _ _); refine' Fn.use (fn_AttrC _ _ _ ?kl) ?k1 ?k2 ?k3 ?k4 ?k5 ?kK ?kp ?kd ?ku ?kt ?_; walk_at "use_tx")
  unfold Fn
  k_fill
  intros
  rename_i hpos hret
  refine wpAny_call ?_
  k_dflt cell_enter
  k_steps
  all_goals (
    refine hret _ [] _ _ ?_ ?_ ?_ (giveTx_of ?_)
    rotate_right
    · simp only [wr, *]; rfl
    all_goals assumption)
end
section
section
variable {prog : Program} {w : World} {A₀ A : Around} {s : Shared} {base h₀ : Heap} {outer : List Env} {env : Env} {L : Addr} {m : Str → Option Value} {K : Frag} {p : Program} {loose : List Str} {mean : ExcName → Option Value} {mg mb : Str → Option Value} {Q E : Value → Shared → Prop}
theorem no_hide (h : Heap) : hideAll h (([] : List (Addr × Obj)).map (·.1)) = h := rfl
/-- a def is entered upon the whole heap as it stands -/
theorem enter_b {name : Str} {params : Arguments} {body : List Stmt} {scope : Scope} {pm cd doc oc : Value} {od : Option Addr} {osl : Array (Option Value)} {f : Addr} {args : List Value} {binds : List (Str × Value)}
    (B : Below A₀ base outer h₀) (F : Fr h₀ L s.heap m) (X : K.In h₀) (T : Top p loose mean mg mb h₀) (hA : A.frames = some (env :: outer)) (hf : env.frame = some L) (hke : env.scope.kind = .function)
    (ho : K.lookup f = some ⟨oc, od, .func (Calls.docDef name params body scope pm cd doc), osl⟩) (hcd : codeIn K cd name = true) (hroom : A.depth < recursionLimit)
    (hbind : bindArgs (Calls.docDef name params body scope pm cd doc) ⟨args, []⟩ = pure binds) (hkind : (binds.all fun y => scope.names.lookup y.1 == some .local || scope.names.lookup y.1 == some .cell) = true)
    (hnd : ((cellsFrom 0 scope.names []).map (·.1)).Nodup) (hco : scope.isCoroutine = false) (hgen : scope.isGenerator = false) (hk : scope.kind = .function)
    (h : ∀ L' h₁ tk cells, Fr s.heap L' h₁ (bindL (envOfC name scope L' f cd).kindOf binds fun _ => none) → News s.heap L' h₁ cells →
      CellsAre (bindC (envOfC name scope L' f cd).kindOf binds fun _ => none) (cellsFrom (L' + 1) scope.names []) cells → Below A base (env :: outer) s.heap → K.In s.heap → Top p loose mean mg mb s.heap →
      wpAny (model prog w) (A.deeper (envOfC name scope L' f cd)) (execs body (envOfC name scope L' f cd)) (fun fl s' => Q (match fl with | .ret v => v | _ => .none) s')
        (fun e s' => wpAny (model prog w) (A.deeper (envOfC name scope L' f cd)) (leaving (envOfC name scope L' f cd) e) (fun _ s'' => E e s'') (fun e' s'' => E e' s'') s') { s with heap := h₁, toks := tk }) :
    wpAny (model prog w) A (call (.ref f) args) Q E s := by
  obtain ⟨_, BG, _, _⟩ := groundX (R := fun _ _ => True) B F (News.nil (h₀ := h₀) (h := s.heap) (L := L)) hA hf hke
  rw [no_hide] at BG
  have XS := X.keeps F.keep
  refine wpAny_call (call_cellsN hroom (XS _ _ ho) rfl (T.nolimit.keeps F.keep) (codeRec_of XS hcd) hbind (kindsX hkind _) hnd (fun h₁ tk cells F' N' Y => ?_) hco hgen hk)
  exact h _ h₁ tk cells F' N' Y BG XS (T.keeps F.keep)
end
/-- what a callee leaves behind, seen from its caller -/
theorem back_b {h₀ h h' : Heap} {L L' : Addr} {m m' : Str → Option Value} {news new : List (Addr × Obj)} (F : Fr h₀ L h m) (N : News h₀ L h news) (F' : Fr h L' h' m') (N' : News h L' h' new) : Fr h₀ L h' m ∧ News h₀ L h' (new ++ news) := by
  refine ⟨F.after F'.keep, fun q hq => ?_⟩
  rcases List.mem_append.mp hq with hq | hq
  · obtain ⟨e1, _, e3⟩ := N' q hq
    obtain ⟨oL, _, _, hL, _⟩ := F.ns
    refine ⟨e1, fun z => ?_, ?_⟩
    · rw [z, hL] at e3; cases e3
    · cases e : h₀.get? q.1 with
      | none => rfl
      | some o => rw [F.keep _ _ e] at e3; cases e3
  · obtain ⟨e1, e2, e3⟩ := N q hq
    exact ⟨F'.keep _ _ e1, e2, e3⟩
/-- a contract by its body's walk -/
theorem fn_of {w : World} {f : Addr} {d u : Nat} {vs : List Value} {pre : List (Addr × Obj) → Prop} {post : List (Addr × Obj) → List (Addr × Obj) → Value → Prop}
    {name : Str} {params : Arguments} {body : List Stmt} {scope : Scope} {pm cd doc oc : Value} {od : Option Addr} {osl : Array (Option Value)} {binds : List (Str × Value)}
    (ho : (hd.heap_1_1 w.params).lookup f = some ⟨oc, od, .func (Calls.docDef name params body scope pm cd doc), osl⟩) (hcd : codeIn (hd.heap_1_1 w.params) cd name = true) 
    (hbind : bindArgs (Calls.docDef name params body scope pm cd doc) ⟨vs, []⟩ = pure binds) (hkind : (binds.all fun y => scope.names.lookup y.1 == some .local || scope.names.lookup y.1 == some .cell) = true)
    (hnd : ((cellsFrom 0 scope.names []).map (·.1)).Nodup) (hco : scope.isCoroutine = false) (hgen : scope.isGenerator = false) (hk : scope.kind = .function)
    (h : ∀ (dp un : Nat) (gd : Option (List Code)) (cn : Str) (cs : Scope) (a : Addr) (ccd : Value) (cl : List (Str × Addr)) (outer : List Env) (base h₀ : Heap) (L : Addr) (m : Str → Option Value) (news : List (Addr × Obj)) (s : Shared) (Q E : Value → Shared → Prop)
      (mean : ExcName → Option Value) (mg mb : Str → Option Value) (L' : Addr) (h₁ : Heap) (tk : Nat) (cells : List (Addr × Obj)),
      cs.kind = .function → News h₀ L s.heap news → pre news → dp + d < recursionLimit → un + u < cLine →
      Fr s.heap L' h₁ (bindL (envOfC name scope L' f cd).kindOf binds fun _ => none) → News s.heap L' h₁ cells → CellsAre (bindC (envOfC name scope L' f cd).kindOf binds fun _ => none) (cellsFrom (L' + 1) scope.names []) cells →
      Below (ktrTop dp un gd cn cs L a ccd cl outer) base (envX cn cs L a ccd cl :: outer) s.heap → (hd.heap_1_1 w.params).In s.heap → Top hd.view_1_2 (looseW hd.view_1_2 [Str.ofString "EXACT_TOKEN_TYPES"]) mean mg mb s.heap →
      (∀ v new h' tk' L₂ m₂, Fr s.heap L₂ h' m₂ → News s.heap L₂ h' new → post news new v → Q v { s with heap := h', toks := tk' }) →
      wpAny (model Challenge.rw_pg0195_01.row.prog w) ((ktrTop dp un gd cn cs L a ccd cl outer).deeper (envOfC name scope L' f cd)) (execs body (envOfC name scope L' f cd)) (fun fl s' => Q (match fl with | .ret v => v | _ => .none) s')
        (fun e s' => wpAny (model Challenge.rw_pg0195_01.row.prog w) ((ktrTop dp un gd cn cs L a ccd cl outer).deeper (envOfC name scope L' f cd)) (leaving (envOfC name scope L' f cd) e) (fun _ s'' => E e s'') (fun e' s'' => E e' s'') s') { s with heap := h₁, toks := tk }) :
    Fn w 0 f d u vs pre post := by
  intro dp un gd cn cs a ccd cl outer A₀ base h₀ L m news s Q E mean mg mb B F X N T hkc hp hd9 hu ht ret
  refine enter_b B F X T rfl rfl hkc ho hcd (Nat.lt_of_le_of_lt (Nat.le_add_right _ _) hd9) hbind hkind hnd hco hgen hk fun L' h₁ tk cells F' N' Y BG XS TS => ?_
  exact h dp un gd cn cs a ccd cl outer base h₀ L m news s Q E mean mg mb L' h₁ tk cells hkc N hp hd9 hu F' N' Y BG XS TS fun v new h' tk' L₂ m₂ F₂ N₂ hq => ret v new h' tk' (back_b F N F₂ N₂).1 (back_b F N F₂ N₂).2 (Nat.zero_le _) hq
end
section
open LCg
section
variable {prog : Program} {w : World} {A : Around} {E : Value → Shared → Prop} {s : Shared} {h₀ : Heap} {L : Addr} {m : Str → Option Value} {env : Env}
/-- a comprehension's turns by what holds between them -/
theorem rest_of {elt : Expr} {x : Str} {scope : Scope} {cl : List (Str × Addr)} {S : List (Addr × Obj) → Prop} {P : Nat → Value → Prop} {Fin : List Value → List (Addr × Obj) → Prop} {n : Nat} (J : Nat → List Value → List (Addr × Obj) → Prop)
    (fin : ∀ ys news, J n ys news → Fin ys news)
    (step : ∀ i ys news v I oI C oC D m₂ h tk (E' : Value → Shared → Prop), i < n → J i ys news → P i v → NsObj oC m₂ → m₂ x = some v → Fr h₀ L h m → News h₀ L h ((I, oI) :: (C, oC) :: (D, lst ys) :: news) → Off3 I C D news → ((@Ne Nat I C) ∧ (@Ne Nat I D) ∧ (@Ne Nat C D)) →
      wpAny (model prog w) A (eval elt (compEnvC scope cl C env)) (CompEnd h₀ L m { s with heap := h, toks := tk } I oI C oC D (lst ys) S (fun y news' => J (i + 1) (ys ++ [y]) news')) E' { s with heap := h, toks := tk }) :
    ∀ k i ys news, i + k = n → J i ys news → CompRest prog w A h₀ L m env elt x scope cl s S P Fin k i ys news := by
  intro k
  induction k with
  | zero => intro i ys news hi hj; rw [Nat.add_zero] at hi; subst hi; exact CompRest.zero (fin _ _ hj)
  | succ k ih =>
    intro i ys news hi hj
    refine CompRest.succ fun v I oI C oC D m₂ h tk E' hP hC hm F N off ne => ?_
    refine wpAny_mono (step i ys news v I oI C oC D m₂ h tk E' (by omega) hj hP hC hm F N off ne) (fun y s₂ q => ?_) fun _ _ e => e
    obtain ⟨h', tk', news', e, F', N', o', hS, hJ⟩ := q
    exact ⟨h', tk', news', e, F', N', o', hS, ih (i + 1) _ _ (by omega) hJ⟩
theorem iter_st {I : Addr} {T : String} {y : Str} {t : Tok} : ∀ i (h h' : Heap) (o : Obj) (nw : List (Addr × Obj)), h.IsStrIter I T y t i → h.get? I = some o → h'.get? I = some o → (∀ b o, h₀.get? b = some o → h'.get? b = some o) → News h₀ L h' nw → True → h'.IsStrIter I T y t i :=
  fun i h h' o nw st e e' _ _ _ => by
    obtain ⟨o₁, q, r⟩ := st
    rw [e] at q
    cases q
    exact ⟨o, e', r⟩
theorem comp_signs {elt iter : Expr} {x : Str} {px : Pos} {scope : Scope} {cl : List (Str × Addr)} {pos : Pos} {Q : Value → Shared → Prop} {y : Str} {t : Tok} {news : List (Addr × Obj)} (F₀ : Fr h₀ L s.heap m) (N₀ : News h₀ L s.heap news) (hh : A.handled = none) (hsz : y.cps.size ≤ sizeLine)
    (hclos : closureFor scope env = pure cl) (hcell : ∀ z ∈ scope.names, z.2 ≠ .cell) (hkind : scope.kind = .function)
    (hnames : ∀ z ∈ scope.names, z.2 = .local → scope.names.lookup z.1 = some .local) (hx : scope.names.lookup x = some .local)
    (h : wpAny (model prog w) A (eval iter env) (fun xv s₁ => xv = .str y t ∧ s₁ = s) E s)
    (R : ∀ s₂ : Shared, (∃ h, s₂ = { s with heap := h }) → CompRest prog w A h₀ L m env elt x scope cl s₂ (fun _ => True) (SignAt y) (FinE h₀ L m s₂ Q) y.cps.size 0 [] news)
    (hs : ∀ x, foldedSetIterable iter env x = pure x := by intro _; rfl) :
    wpAny (model prog w) A (eval (.ListComp elt [⟨.Name x px, iter, [], 0⟩] scope pos) env) Q E s := by
  rw [eval_ListComp]
  refine wpAny_comprehension_free (use := none) rfl hs hclos hkind hnames (wpAny_mono h (fun xv s₁ h₁ => ?_) fun _ _ e => e)
  obtain ⟨rfl, rfl⟩ := h₁
  have fp : ∀ o, ∀ b ∈ [s₁.heap.objs.size], b < (s₁.heap.push o).objs.size := fun o b hb => by
    rw [List.mem_singleton.mp hb, Heap.size_push]; exact Nat.lt_succ_self _
  have last : ∀ D C h tk m' ys news', Fr h₀ L h m → News h₀ L h ((D, lst ys) :: news') → Off1 D news' → h.Ns C m' → h₀.get? C = none → h₀.get? D = none → C ≠ L → D ≠ L → C ≠ D → (∀ p ∈ news', p.1 ≠ C) → FinE h₀ L m s₁ Q ys news' →
      ∃ m₉, h.Ns C m₉ ∧ ∀ h'', Heap.SameBut C h h'' → Q (.ref D) { s₁ with heap := h'', toks := tk } := by
    intro D C h tk m' ys news' F' N' o1 hn hC₀ hD₀ hCL hDL hCD offC fin
    refine ⟨m', hn, fun h'' hs'' => fin D h'' tk (F'.change hs'' hCL hC₀) (fun p hp => ?_) o1⟩
    refine ⟨hs''.extBut _ _ ?_ (N' p hp).1, (N' p hp).2⟩
    rcases List.mem_cons.mp hp with rfl | hp
    · exact Ne.symm hCD
    · exact offC p hp
  cases ha : y.cps.all (· < 128)
  · refine wpAny_pyIter_wide ha ?_
    refine block_U (Walks.strWide hh _ y t) hsz (fun i h st => ⟨_, st.choose_spec.1⟩) iter_st hcell hkind hx ⟨_, Heap.get?_push_size _ rfl, rfl, rfl⟩ (fp _) (F₀.keeps fun _ _ e => Heap.get?_push_of_some _ e) (N₀.grown fun _ _ e => Heap.get?_push_of_some _ e)
      (Nat.ne_of_lt F₀.ns.lt) (next_is_new F₀) (fun p hp => Nat.ne_of_lt (Heap.lt_size (N₀ p hp).1)) trivial (R _ ⟨_, rfl⟩) ?_
    intro D C h' tk m' ys news' F' N' o1 hn hC₀ hD₀ hCL hDL hCD offC fin
    exact last D C h' tk m' ys news' F' N' o1 hn hC₀ hD₀ hCL hDL hCD offC fin
  · refine wpAny_pyIter_ascii ha ?_
    refine block_U (Walks.strAscii hh _ y t) hsz (fun i h st => ⟨_, st.choose_spec.1⟩) iter_st hcell hkind hx ⟨_, Heap.get?_push_size _ rfl, rfl, rfl⟩ (fp _) (F₀.keeps fun _ _ e => Heap.get?_push_of_some _ e) (N₀.grown fun _ _ e => Heap.get?_push_of_some _ e)
      (Nat.ne_of_lt F₀.ns.lt) (next_is_new F₀) (fun p hp => Nat.ne_of_lt (Heap.lt_size (N₀ p hp).1)) trivial (R _ ⟨_, rfl⟩) ?_
    intro D C h' tk m' ys news' F' N' o1 hn hC₀ hD₀ hCL hDL hCD offC fin
    exact last D C h' tk m' ys news' F' N' o1 hn hC₀ hD₀ hCL hDL hCD offC fin
end
end
section
theorem tx_append (a b : List Nat) : tx (a ++ b) = tx a ++ tx b := by
  refine PySem.Str.ext' (Array.toList_inj.mp ?_)
  rw [PySem.Str.cps_append, Array.toList_append]
/-- a halt of the walk -/
def Halt (P : Prop) : Prop := P
theorem Halt.go {P : Prop} (h : Halt P) : P := h
/-- a frame's map says these -/
def AllAt (m : Str → Option Value) : List (Str × Value) → Prop
  | [] => True
  | p :: r => m p.1 = some p.2 ∧ AllAt m r
/-- a frame's map with names set -/
def ov (m : Str → Option Value) : List (Str × Value) → Str → Option Value
  | [] => m
  | p :: r => fun y => if y = p.1 then some p.2 else ov m r y
theorem ov_same {m : Str → Option Value} : ∀ {ps : List (Str × Value)}, AllAt m ps → ov m ps = m
  | [], _ => rfl
  | p :: r, h => by
    show upd p.1 p.2 (ov m r) = m
    rw [ov_same h.2, upd_same h.1]
theorem fr_ov {h₀ h : Heap} {L : Addr} {m : Str → Option Value} (F : Fr h₀ L h m) {ps : List (Str × Value)} (a : AllAt m ps) : Fr h₀ L h (ov m ps) := by rw [ov_same a]; exact F
end
section
/-- the signs that the text's table spells, with their numbers -/
def ops : List (List Nat × Int) := [([33], 54), ([33, 61], 28), ([37], 24), ([37, 61], 40), ([38], 19), ([38, 61], 41), ([40], 7), ([41], 8), ([42], 16), ([42, 42], 35), ([42, 42, 61], 46), ([42, 61], 38), ([43], 14), ([43, 61], 36), ([44], 12), ([45], 15), ([45, 61], 37), ([45, 62], 51), ([46], 23), ([46, 46, 46], 52), ([47], 17), ([47, 47], 47), ([47, 47, 61], 48), ([47, 61], 39), ([58], 11), ([58, 61], 53), ([59], 13), ([60], 20), ([60, 60], 33), ([60, 60, 61], 44), ([60, 61], 29), ([61], 22), ([61, 61], 27), ([62], 21), ([62, 61], 30), ([62, 62], 34), ([62, 62, 61], 45), ([64], 49), ([64, 61], 50), ([91], 9), ([93], 10), ([94], 32), ([94, 61], 43), ([123], 25), ([124], 18), ([124, 61], 42), ([125], 26), ([126], 31)]
def isOp (p : List Nat) : Bool := (ops.lookup p).isSome
/-- the piece is shortened till it is one sign long or stands in the table -/
def shr : Nat → List Nat → List Nat
  | 0, p => p
  | n + 1, p => if decide (1 < p.length) && !isOp p then shr n p.dropLast else p
def alp (c : Nat) : Bool := Unicode.isAlpha c
def tokF : Nat → List Nat → List (Int × List Nat)
  | 0, _ => []
  | _ + 1, [] => []
  | n + 1, c :: r => if alp c then (1, (c :: r).takeWhile alp) :: tokF n ((c :: r).dropWhile alp)
    else let p := shr 3 ((c :: r).take 3); ((ops.lookup p).getD 3, p) :: tokF n ((c :: r).drop p.length)
def tok (l : List Nat) : List (Int × List Nat) := tokF l.length l
theorem shr_len : ∀ (n : Nat) (p : List Nat), p ≠ [] → shr n p ≠ [] ∧ (shr n p).length ≤ p.length
  | 0, p, h => ⟨h, Nat.le_refl _⟩
  | n + 1, p, h => by
    unfold shr
    split
    · rename_i hc
      obtain ⟨h1, _⟩ := Bool.and_eq_true_iff.mp hc
      have h1 : 1 < p.length := of_decide_eq_true h1
      have hl : p.dropLast.length = p.length - 1 := List.length_dropLast
      have hne : p.dropLast ≠ [] := fun e => by rw [e, List.length_nil] at hl; omega
      have := shr_len n p.dropLast hne
      exact ⟨this.1, by omega⟩
    · exact ⟨h, Nat.le_refl _⟩
theorem drop_lt {α : Type} {l : List α} {p : List α} (hp : p ≠ []) (hl : l ≠ []) : (l.drop p.length).length < l.length := by
  rw [List.length_drop]
  have := List.length_pos_iff.mpr hp
  have := List.length_pos_iff.mpr hl
  omega
theorem tokF_fuel : ∀ (n m : Nat) (l : List Nat), l.length ≤ n → l.length ≤ m → tokF n l = tokF m l
  | 0, m, l, h, _ => by
    obtain rfl : l = [] := List.eq_nil_of_length_eq_zero (Nat.le_zero.mp h)
    cases m <;> rfl
  | n + 1, 0, l, _, h => by
    obtain rfl : l = [] := List.eq_nil_of_length_eq_zero (Nat.le_zero.mp h)
    rfl
  | n + 1, m + 1, [], _, _ => rfl
  | n + 1, m + 1, c :: r, h, h' => by
    rw [List.length_cons] at h h'
    unfold tokF
    split
    · rename_i ha
      have hd : ((c :: r).dropWhile alp).length ≤ r.length := by
        rw [List.dropWhile_cons, if_pos ha]
        exact (List.dropWhile_sublist _).length_le
      rw [tokF_fuel n m _ (by omega) (by omega)]
    · have hp := (shr_len 3 ((c :: r).take 3) (by simp)).1
      have hd := drop_lt (l := c :: r) hp (by simp)
      rw [List.length_cons] at hd
      dsimp only
      rw [tokF_fuel n m _ (by omega) (by omega)]
theorem tok_name {l : List Nat} {c : Nat} {r : List Nat} (e : l = c :: r) (ha : alp c = true) : tok l = (1, l.takeWhile alp) :: tok (l.dropWhile alp) := by
  subst e
  have hd : ((c :: r).dropWhile alp).length ≤ r.length := by
    rw [List.dropWhile_cons, if_pos ha]
    exact (List.dropWhile_sublist _).length_le
  show tokF (r.length + 1) (c :: r) = _
  unfold tokF
  rw [if_pos ha, tokF_fuel r.length ((c :: r).dropWhile alp).length _ hd (Nat.le_refl _)]
  rfl
theorem tok_op {l : List Nat} {c : Nat} {r : List Nat} (e : l = c :: r) (ha : alp c = false) : tok l = ((ops.lookup (shr 3 (l.take 3))).getD 3, shr 3 (l.take 3)) :: tok (l.drop (shr 3 (l.take 3)).length) := by
  subst e
  have hp := (shr_len 3 ((c :: r).take 3) (by simp)).1
  have hd := drop_lt (l := c :: r) hp (by simp)
  rw [List.length_cons] at hd
  show tokF (r.length + 1) (c :: r) = _
  unfold tokF
  rw [if_neg (by rw [ha]; exact Bool.false_ne_true)]
  dsimp only
  rw [tokF_fuel r.length ((c :: r).drop (shr 3 ((c :: r).take 3)).length).length _ (by omega) (Nat.le_refl _)]
  rfl
theorem tok_nil : tok [] = [] := rfl
theorem shr_fuel : ∀ (n m : Nat) (p : List Nat), p.length ≤ n → p.length ≤ m → shr n p = shr m p
  | 0, 0, _, _, _ => rfl
  | 0, m + 1, p, h, _ => by
    obtain rfl : p = [] := List.eq_nil_of_length_eq_zero (Nat.le_zero.mp h)
    rfl
  | n + 1, 0, p, _, h => by
    obtain rfl : p = [] := List.eq_nil_of_length_eq_zero (Nat.le_zero.mp h)
    rfl
  | n + 1, m + 1, p, h, h' => by
    unfold shr
    split
    · have hl : p.dropLast.length = p.length - 1 := List.length_dropLast
      exact shr_fuel n m p.dropLast (by omega) (by omega)
    · rfl
theorem shr_stop {p : List Nat} (h : ¬ 1 < p.length ∨ isOp p = true) : ∀ n, shr n p = p
  | 0 => rfl
  | n + 1 => by
    unfold shr
    rw [if_neg]
    intro e
    obtain ⟨h1, h2⟩ := Bool.and_eq_true_iff.mp e
    rcases h with h | h
    · exact h (of_decide_eq_true h1)
    · rw [h] at h2; cases h2
theorem shr_step {p : List Nat} (h1 : 1 < p.length) (h2 : isOp p = false) : shr p.length p = shr p.dropLast.length p.dropLast := by
  have hl : p.dropLast.length = p.length - 1 := List.length_dropLast
  obtain ⟨n, hn⟩ : ∃ n, p.length = n + 1 := ⟨p.length - 1, by omega⟩
  rw [hl, hn, Nat.add_sub_cancel, shr, if_pos (by rw [h2, hn]; simp; omega)]
theorem span_at {p : Nat → Bool} : ∀ {l : List Nat} {j : Nat}, (l.take j).all p = true → (decide (0 < ((l.drop j).take 1).length) && ((l.drop j).take 1).all p) = false → l.takeWhile p = l.take j ∧ l.dropWhile p = l.drop j
  | [], 0, _, _ => ⟨rfl, rfl⟩
  | [], _ + 1, _, _ => ⟨rfl, rfl⟩
  | c :: r, 0, _, h => by
    have hc : p c = false := by simpa using h
    rw [List.takeWhile_cons, hc, List.dropWhile_cons, hc]
    exact ⟨rfl, rfl⟩
  | c :: r, j + 1, h1, h2 => by
    rw [List.take_succ_cons, List.all_cons, Bool.and_eq_true] at h1
    have := span_at (p := p) (l := r) (j := j) h1.2 h2
    rw [List.takeWhile_cons, h1.1, List.dropWhile_cons, h1.1]
    exact ⟨by rw [if_pos rfl, this.1]; rfl, by rw [if_pos rfl, this.2]; rfl⟩
theorem item_tx {l : List Nat} {i : Int} {k c : Nat} {r : List Nat} (hi : i = k) (hc : l.drop k = c :: r) : Txt.item (tx l) i = tx [c] := by
  subst hi
  have h : l[k]? = some c := by
    have := List.getElem?_drop (xs := l) (i := k) (j := 0)
    rw [hc] at this
    simpa using this.symm
  unfold Txt.item Txt.charAt
  rw [StrLaws.at_nonneg (n := c) (by omega) (by simpa using h)]
  rfl
theorem clip_eq {n : Nat} {a b : Int} (ha : 0 ≤ a) (hb : 0 ≤ b) : Builtin.Str.strSliceIndices (some a) (some b) 1 n = Builtin.Str.strSliceIndices (some a) (some (min b n)) 1 n := by
  unfold Builtin.Str.strSliceIndices
  have h1 : ¬ b < 0 := by omega
  have h2 : ¬ (min b (n : Int)) < 0 := by omega
  simp only [h1, h2, if_false, gt_iff_lt, show (0 : Int) < 1 from by decide, if_true]
  congr 1
  omega
theorem slice_tx {l : List Nat} {a b : Int} {i j : Nat} (ha : a = i) (hb : b = j) (hij : i ≤ j) (hi : i ≤ l.length) : Txt.slice (tx l) (some a) (some b) = tx ((l.drop i).take (j - i)) := by
  subst ha hb
  have e : Txt.slice (tx l) (some (i : Int)) (some (j : Int)) = StrLaws.sliceText (tx l) (some (i : Int)) (some ((min j l.length : Nat) : Int)) := by
    show StrLaws.sliceText _ _ _ = _
    unfold StrLaws.sliceText
    rw [clip_eq (by omega) (by omega), tx_len, show min (j : Int) (l.length : Int) = ((min j l.length : Nat) : Int) by omega]
  rw [e, StrLaws.sliceText_nat _ (by omega) (by rw [tx_len]; omega)]
  show tx ((l.drop i).take (min j l.length - i)) = _
  congr 1
  by_cases h : j ≤ l.length
  · rw [Nat.min_eq_left h]
  · rw [Nat.min_eq_right (by omega), List.take_of_length_le (by rw [List.length_drop]; omega), List.take_of_length_le (by rw [List.length_drop]; omega)]
theorem slice_init {p : List Nat} (hp : p ≠ []) : Txt.slice (tx p) none (some (-1)) = tx p.dropLast := by
  have hl := List.length_pos_iff.mpr hp
  show StrLaws.sliceText _ _ _ = _
  rw [StrLaws.sliceText_neg_hi (tx p) none (by decide) (by rw [tx_len]; omega), StrLaws.sliceText_to ⟨by rw [tx_len]; omega, by rw [tx_len]; show (-1 : Int) + p.length ≤ p.length; omega⟩]
  show tx _ = tx _
  congr 1
  rw [tx_len, List.dropLast_eq_take]
  show (p.drop 0).take _ = _
  rw [List.drop_zero]
  congr 1
  omega
theorem isalpha_tx (p : List Nat) : Txt.isalpha (tx p) = (decide (0 < p.length) && p.all alp) := by
  unfold Txt.isalpha
  rw [tx_len]
  congr 1
  show p.toArray.all Unicode.isAlpha = p.all alp
  rw [List.all_toArray]
  rfl
end
section
inductive Tab : List DictEntry → List (List Nat × Int) → Prop
  | nil : Tab [] []
  | cons {hh : Int} {x : Str} {t t' : Tok} {p : List Nat} {i : Int} {es : List DictEntry} {os : List (List Nat × Int)} : x = tx p → Tab es os → Tab (⟨hh, .str x t, .int i t'⟩ :: es) ((p, i) :: os)
theorem tx_inj {a b : List Nat} (h : tx a = tx b) : a = b := by
  have := congrArg (fun x : Str => x.cps.toList) h
  exact this
theorem Tab.find {es : List DictEntry} {os : List (List Nat × Int)} (h : Tab es os) (p : List Nat) :
    (os.lookup p = none ∧ findBy Value.isStrOf es.toArray (tx p) = none) ∨ ∃ i t, os.lookup p = some i ∧ findBy Value.isStrOf es.toArray (tx p) = some (.int i t) := by
  induction h with
  | nil => exact .inl ⟨rfl, rfl⟩
  | @cons hh x t t' q i es os hx _ ih =>
    subst hx
    unfold findBy at ih ⊢
    rw [List.find?_toArray] at ih ⊢
    by_cases e : p = q
    · subst e
      refine .inr ⟨i, t', ?_, ?_⟩
      · rw [List.lookup_cons, beq_self_eq_true]
      · rw [List.find?_cons, show Value.isStrOf (tx p) (.str (tx p) t) = true from by simp [Value.isStrOf]]
        rfl
    · have h1 : (p == q) = false := beq_eq_false_iff_ne.mpr e
      have h2 : Value.isStrOf (tx p) (.str (tx q) t) = false := by
        cases hb : Value.isStrOf (tx p) (.str (tx q) t) with
        | false => rfl
        | true =>
          obtain ⟨u, hu⟩ := Value.isStrOf_shape hb
          injection hu with hu _
          exact absurd (tx_inj hu).symm e
      rw [List.lookup_cons, h1, List.find?_cons, h2]
      exact ih
theorem table_mk {prog : Program} {w : World} {h₀ h : Heap} {L a : Addr} {m : Str → Option Value} {K : Frag} {es : Array DictEntry} {n : Nat} {os : List (List Nat × Int)} (F : Fr h₀ L h m) (X : K.In h₀)
    (hl : K.lookup a = some ⟨.type "dict", none, .dict es n, #[]⟩) (hk : KeysLit w.params es.toList) (ht : Tab es.toList os) :
    ∃ f, h.MapOf (strKind prog w) a f ∧ ∀ p : List Nat, (os.lookup p = none ∧ f (tx p) = none) ∨ ∃ i t, os.lookup p = some i ∧ f (tx p) = some (.int i t) := by
  refine ⟨_, mapOf_K (prog := prog) (X.keeps F.keep) hl hk, fun p => ?_⟩
  have := ht.find p
  rw [Array.toArray_toList] at this
  exact this
theorem table_at {prog : Program} {w : World} {h₀ h : Heap} {L : Addr} {m : Str → Option Value} (F : Fr h₀ L h m) (X : (hd.heap_1_1 w.params).In h₀) :
    ∃ f, h.MapOf (strKind prog w) 57 f ∧ ∀ p : List Nat, (ops.lookup p = none ∧ f (tx p) = none) ∨ ∃ i t, ops.lookup p = some i ∧ f (tx p) = some (.int i t) := by
  (have hfill : Challenge.rw_pg0195_01.row.prog = Challenge.rw_pg0195_01.row.prog ∧ hd.heap_1_1 = hd.heap_1_1 := by k_fill; exact ⟨rfl, rfl⟩)
  refine' table_mk F X ?hl ?hk ?ht
  case hl => k_is
  case hk => k_keys
  case ht =>
    show Tab [_, _, _, _, _, _, _, _, _, _, _, _, _, _, _, _, _, _, _, _, _, _, _, _, _, _, _, _, _, _, _, _, _, _, _, _, _, _, _, _, _, _, _, _, _, _, _, _] ops
    repeat (refine Tab.cons (by decide +kernel) ?_)
    exact Tab.nil
section
variable {prog : Program} {w : World} {A : Around} {E : Value → Shared → Prop} {s : Shared} {h₀ : Heap} {L : Addr} {m : Str → Option Value} {p : List Nat} {t : Tok} {Q : Value → Shared → Prop}
theorem op_in (F : Fr h₀ L s.heap m) (X : (hd.heap_1_1 w.params).In h₀) (h : Q (.bool (isOp p)) { s with toks := s.toks + 1 }) : wpAny (model prog w) A (compareOp .In (.str (tx p) t) (.ref 57)) Q E s := by
  obtain ⟨f, hm, hf⟩ := table_at (prog := prog) F X
  refine wpAny_in_of (strKind_is prog w (tx p) t) (by decide) hm ?_
  have e : (f (tx p)).isSome = isOp p := by
    unfold isOp
    rcases hf p with ⟨h1, h2⟩ | ⟨i, t, h1, h2⟩ <;> rw [h1, h2] <;> rfl
  rw [e]
  exact h
theorem op_notin (F : Fr h₀ L s.heap m) (X : (hd.heap_1_1 w.params).In h₀) (h : Q (.bool (!isOp p)) { s with toks := s.toks + 1 }) : wpAny (model prog w) A (compareOp .NotIn (.str (tx p) t) (.ref 57)) Q E s := by
  obtain ⟨f, hm, hf⟩ := table_at (prog := prog) F X
  refine wpAny_notIn_of (strKind_is prog w (tx p) t) (by decide) hm ?_
  have e : (f (tx p)).isSome = isOp p := by
    unfold isOp
    rcases hf p with ⟨h1, h2⟩ | ⟨i, t, h1, h2⟩ <;> rw [h1, h2] <;> rfl
  rw [e]
  exact h
theorem op_item {value slice : PySem.Expr} (F : Fr h₀ L s.heap m) (X : (hd.heap_1_1 w.params).In h₀) (ho : isOp p = true) (h : ∀ t', Q (.int ((ops.lookup p).getD 3) t') { s with toks := s.toks + 1 })
    (hs : subscripted slice false (.ref 57) (.str (tx p) t) = operate [.ref 57, .str (tx p) t] (getItem (.ref 57) (.str (tx p) t)) := by with_unfolding_all rfl) :
    wpAny (model prog w) A (subscriptTail value slice (.ref 57) (.str (tx p) t)) Q E s := by
  obtain ⟨f, hm, hf⟩ := table_at (prog := prog) F X
  rcases hf p with ⟨h1, h2⟩ | ⟨i, t', h1, h2⟩
  · unfold isOp at ho; rw [h1] at ho; cases ho
  · have := h t'
    rw [h1] at this
    exact tail_any hm.typeIs slot_dict_getitem.lookup (wpAny_getItem_of (strKind_is prog w (tx p) t) hm h2 this) hs
end
end
section
open LCg LCp
def tokDat (p : Int × List Nat) : Dat := .tuple [.int p.1, .str (tx p.2)]
section
variable {prog : Program} {w : World} {A : Around} {E : Value → Shared → Prop} {s : Shared} {h₀ : Heap} {L : Addr} {m : Str → Option Value} {env : Env}
theorem restP_of {elt : Expr} {x x₂ : Str} {scope : Scope} {cl : List (Str × Addr)} {S : List (Addr × Obj) → Prop} {P : Nat → Value → Prop} {Fin : List Value → List (Addr × Obj) → Prop} {n : Nat} (J : Nat → List Value → List (Addr × Obj) → Prop)
    (fin : ∀ ys news, J n ys news → Fin ys news)
    (step : ∀ i ys news v, i < n → J i ys news → P i v → ∃ (t : Addr) (ot : Obj) (v₁ v₂ : Value) (nt : Nat), v = .ref t ∧ (t, ot) ∈ news ∧ ot.cls = .type "tuple" ∧ ot.data = .seq #[v₁, v₂] nt ∧
      ∀ I oI C oC D m₂ h tk (E' : Value → Shared → Prop), NsObj oC m₂ → m₂ x = some v₁ → m₂ x₂ = some v₂ → Fr h₀ L h m → News h₀ L h ((I, oI) :: (C, oC) :: (D, lst ys) :: news) → Off3 I C D news → ((@Ne Nat I C) ∧ (@Ne Nat I D) ∧ (@Ne Nat C D)) →
      wpAny (model prog w) A (eval elt (compEnvC scope cl C env)) (CompEnd h₀ L m { s with heap := h, toks := tk } I oI C oC D (lst ys) S (fun y news' => J (i + 1) (ys ++ [y]) news')) E' { s with heap := h, toks := tk }) :
    ∀ k i ys news, i + k = n → J i ys news → CompRestP prog w A h₀ L m env elt x x₂ scope cl s S P Fin k i ys news := by
  intro k
  induction k with
  | zero => intro i ys news hi hj; rw [Nat.add_zero] at hi; subst hi; exact CompRestP.zero (fin _ _ hj)
  | succ k ih =>
    intro i ys news hi hj
    refine CompRestP.succ fun v hP => ?_
    obtain ⟨t, ot, v₁, v₂, nt, e1, e2, e3, e4, g⟩ := step i ys news v (by omega) hj hP
    refine ⟨t, ot, v₁, v₂, nt, e1, e2, e3, e4, fun I oI C oC D m₂ h tk E' hC hx hx2 F N off ne => ?_⟩
    refine wpAny_mono (g I oI C oC D m₂ h tk E' hC hx hx2 F N off ne) (fun y s₂ q => ?_) fun _ _ e => e
    obtain ⟨h', tk', news', e, F', N', o', hS, hJ⟩ := q
    exact ⟨h', tk', news', e, F', N', o', hS, ih (i + 1) _ _ (by omega) hJ⟩
theorem dat_at {own news : List (Addr × Obj)} {vs : List Value} {ts : List (Int × List Nat)} (hd : DatAll own vs (ts.map tokDat)) (hs : ∀ p ∈ own, p ∈ news) {i : Nat} {v : Value} (hv : vs.toArray[i]? = some v) :
    ∃ (p : Int × List Nat) (a : Addr) (t u : Tok) (n : Nat), ts[i]? = some p ∧ v = .ref a ∧ (a, ({ cls := .type "tuple", data := .seq #[.int p.1 t, .str (tx p.2) u] n } : Obj)) ∈ news := by
  have hv : vs[i]? = some v := by simpa using hv
  have hi : i < vs.length := (List.getElem?_eq_some_iff.mp hv).1
  have hl : vs.length = ts.length := by rw [hd.length, List.length_map]
  have hi' : i < (ts.map tokDat).length := by rw [List.length_map, ← hl]; exact hi
  obtain ⟨v', e, hD⟩ := hd.get hi'
  rw [hv] at e
  cases e
  rw [List.getElem_map] at hD
  have hit : i < ts.length := by rw [← hl]; exact hi
  have hp : ts[i]? = some (ts[i]'hit) := List.getElem?_eq_getElem hit
  generalize ts[i]'hit = p at hD hp
  cases hD with
  | tuple hm hr =>
    cases hr with
    | cons h1 hr =>
      cases hr with
      | cons h2 hr =>
        cases hr
        cases h1
        cases h2
        exact ⟨p, _, _, _, _, hp, rfl, hs _ hm⟩
theorem take_snoc {α : Type} {l : List α} {i : Nat} {a : α} (h : l[i]? = some a) : l.take (i + 1) = l.take i ++ [a] := by
  rw [List.take_add_one, h]; rfl
theorem rest_fst {x x₂ : Str} {px : Pos} {scope : Scope} {cl : List (Str × Addr)} {own news : List (Addr × Obj)} {vs : List Value} {ts : List (Int × List Nat)} {ax : Addr} {Fin : List Value → List (Addr × Obj) → Prop} (hd : DatAll own vs (ts.map tokDat)) (hs : ∀ p ∈ own, p ∈ news)
    (S : SrcAt h₀ ax vs.toArray news) (hk : ∀ C, (compEnvC scope cl C env).scope.kind = .function) (hl : ∀ C, (compEnvC scope cl C env).kindOf x = some .local) (hg : (x == ("__debug__" : Str)) = false) (fin : ∀ ys, IntsAre ys (ts.map (·.1)) → Fin ys news) :
    CompRestP prog w A h₀ L m env (.Name x px) x x₂ scope cl s (SrcAt h₀ ax vs.toArray) (fun i v => vs.toArray[i]? = some v) Fin vs.toArray.size 0 [] news := by
  have hlen : vs.toArray.size = ts.length := by rw [List.size_toArray, hd.length, List.length_map]
  refine restP_of (fun i ys nw => nw = news ∧ IntsAre ys ((ts.take i).map (·.1))) ?_ ?_ _ 0 [] news (Nat.zero_add _) ⟨rfl, .nil⟩
  · rintro ys nw ⟨rfl, hi⟩
    rw [hlen, List.take_length] at hi
    exact fin _ hi
  · rintro i ys nw v hi ⟨rfl, hy⟩ hv
    obtain ⟨p, a, t, u, n, hp, rfl, hm⟩ := dat_at hd hs hv
    refine ⟨a, _, _, _, n, rfl, hm, rfl, rfl, fun I oI C oC D m₂ h tk E' hC hx hx2 F N off ne => ?_⟩
    refine LCgL.ld_own N (List.mem_cons_of_mem _ (List.mem_cons_self ..)) hC hx ?_ (hk C) (hl C) hg
    refine CompEnd.intro F N _ (fun p hp => hp) off S ⟨rfl, ?_⟩
    rw [take_snoc hp, List.map_append]
    exact hy.append (.cons _ _ .nil)
theorem rest_snd {x x₂ : Str} {px : Pos} {scope : Scope} {cl : List (Str × Addr)} {own news : List (Addr × Obj)} {vs : List Value} {ts : List (Int × List Nat)} {ax : Addr} {Fin : List Value → List (Addr × Obj) → Prop} (hd : DatAll own vs (ts.map tokDat)) (hs : ∀ p ∈ own, p ∈ news)
    (S : SrcAt h₀ ax vs.toArray news) (hk : ∀ C, (compEnvC scope cl C env).scope.kind = .function) (hl : ∀ C, (compEnvC scope cl C env).kindOf x₂ = some .local) (hg : (x₂ == ("__debug__" : Str)) = false) (fin : ∀ ys, StrsAre ys (ts.map fun p => tx p.2) → Fin ys news) :
    CompRestP prog w A h₀ L m env (.Name x₂ px) x x₂ scope cl s (SrcAt h₀ ax vs.toArray) (fun i v => vs.toArray[i]? = some v) Fin vs.toArray.size 0 [] news := by
  have hlen : vs.toArray.size = ts.length := by rw [List.size_toArray, hd.length, List.length_map]
  refine restP_of (fun i ys nw => nw = news ∧ StrsAre ys ((ts.take i).map fun p => tx p.2)) ?_ ?_ _ 0 [] news (Nat.zero_add _) ⟨rfl, .nil⟩
  · rintro ys nw ⟨rfl, hi⟩
    rw [hlen, List.take_length] at hi
    exact fin _ hi
  · rintro i ys nw v hi ⟨rfl, hy⟩ hv
    obtain ⟨p, a, t, u, n, hp, rfl, hm⟩ := dat_at hd hs hv
    refine ⟨a, _, _, _, n, rfl, hm, rfl, rfl, fun I oI C oC D m₂ h tk E' hC hx hx2 F N off ne => ?_⟩
    refine LCgL.ld_own N (List.mem_cons_of_mem _ (List.mem_cons_self ..)) hC hx2 ?_ (hk C) (hl C) hg
    refine CompEnd.intro F N _ (fun p hp => hp) off S ⟨rfl, ?_⟩
    rw [take_snoc hp, List.map_append]
    exact hy.append' (.cons _ _ .nil)
end
theorem drop_dat {own : List (Addr × Obj)} : ∀ {vs : List Value} {ds : List Dat}, DatAll own vs ds → ∀ n, DatAll own (vs.drop n) (ds.drop n)
  | _, _, h, 0 => h
  | [], _, h, n + 1 => by cases h; exact .nil
  | v :: vs, _, h, n + 1 => by
    cases h with
    | cons _ r => exact drop_dat r n
theorem take_dat {own : List (Addr × Obj)} : ∀ {vs : List Value} {ds : List Dat}, DatAll own vs ds → ∀ n, DatAll own (vs.take n) (ds.take n)
  | _, _, _, 0 => .nil
  | [], _, h, n + 1 => by cases h; exact .nil
  | v :: vs, _, h, n + 1 => by
    cases h with
    | cons h1 r => exact .cons h1 (take_dat r n)
theorem pick_run (l : List Value) {a b : Int} {i j : Nat} (ha : a = i) (hb : b = j) (hij : i ≤ j) : kms_pick l (some a) (some b) = (l.drop i).take (j - i) := by
  subst ha hb
  have h1 : ¬ (i : Int) < 0 := by omega
  have h2 : ¬ (j : Int) < 0 := by omega
  unfold kms_pick kms_lo kms_hi
  dsimp only
  rw [if_neg h1, if_neg h2, Int.toNat_natCast, Int.toNat_natCast]
  by_cases hi : i ≤ l.length
  · rw [Nat.min_eq_left hi]
    by_cases hj : j ≤ l.length
    · rw [Nat.min_eq_left hj]
    · rw [Nat.min_eq_right (by omega), List.take_of_length_le (by rw [List.length_drop]; omega), List.take_of_length_le (by rw [List.length_drop]; omega)]
  · rw [show min i l.length = l.length by omega, List.drop_eq_nil_iff.mpr (Nat.le_refl _), List.drop_eq_nil_iff.mpr (by omega : l.length ≤ i), List.take_nil, List.take_nil]
end
section
local macro_rules | `(tactic| k_all) => `(tactic| assumption)
theorem news_swap {h₀ h : Heap} {L : Addr} {a b : Addr × Obj} {r : List (Addr × Obj)} (N : News h₀ L h (a :: b :: r)) : News h₀ L h (b :: a :: r) := by
  intro p hp
  rcases List.mem_cons.mp hp with rfl | hp
  · exact N _ (List.mem_cons_of_mem _ (List.mem_cons_self ..))
  · rcases List.mem_cons.mp hp with rfl | hp
    · exact N _ (List.mem_cons_self ..)
    · exact N _ (List.mem_cons_of_mem _ (List.mem_cons_of_mem _ hp))
/-- between the turns of the outer loop -/
structure JT (l : List Nat) (t : Tok) (o : Addr) (n : Nat) (m : Str → Option Value) (nx : List (Addr × Obj)) : Prop where
  ex : ∃ (k : Nat) (tk0 : Tok) (ts : List (Int × List Nat)) (vs : List Value) (ep : Nat) (own : List (Addr × Obj)), k ≤ l.length ∧ n = l.length - k ∧ m (Str.ofString "text") = some (.str (tx l) t) ∧ m (Str.ofString "k") = some (.int k tk0) ∧ m (Str.ofString "out") = some (.ref o) ∧
    nx = (o, W.listOf vs.toArray ep) :: own ∧ DatAll own vs (ts.map tokDat) ∧ (∀ p ∈ own, p.1 ≠ o) ∧ tok l = ts ++ tok (l.drop k) ∧ vs.length ≤ k
/-- between the turns of the loop over letters -/
def JA (l : List Nat) (t : Tok) (o : Addr) (k : Nat) (tk0 : Tok) (r : List Nat) (ob : Obj) (own : List (Addr × Obj)) (n : Nat) (m : Str → Option Value) (nx : List (Addr × Obj)) : Prop :=
  ∃ (j : Nat) (tkp tkk : Tok), 1 ≤ j ∧ j ≤ r.length ∧ n = r.length - j ∧ m (Str.ofString "text") = some (.str (tx l) t) ∧ m (Str.ofString "k") = some (.int k tk0) ∧ m (Str.ofString "out") = some (.ref o) ∧
    m (Str.ofString "kind") = some (.int 1 tkk) ∧ m (Str.ofString "piece") = some (.str (tx (r.take j)) tkp) ∧ (r.take j).all alp = true ∧ nx = (o, ob) :: own
/-- between the turns of the loop that shortens -/
def JB (l : List Nat) (t : Tok) (o : Addr) (k : Nat) (tk0 : Tok) (r : List Nat) (ob : Obj) (own : List (Addr × Obj)) (n : Nat) (m : Str → Option Value) (nx : List (Addr × Obj)) : Prop :=
  ∃ (p : List Nat) (tkp tkk : Tok), p ≠ [] ∧ n = p.length ∧ p.length ≤ r.length ∧ m (Str.ofString "text") = some (.str (tx l) t) ∧ m (Str.ofString "k") = some (.int k tk0) ∧ m (Str.ofString "out") = some (.ref o) ∧
    m (Str.ofString "kind") = some (.int 1 tkk) ∧ m (Str.ofString "piece") = some (.str (tx p) tkp) ∧ shr 3 r = shr p.length p ∧ nx = (o, ob) :: own
section
variable {h₀ h' : Heap} {L o q : Addr} {s : Shared} {Q : Flow → Shared → Prop} {n k tk' : Nat} {t tk0 : Tok} {l : List Nat} {m₂ : Str → Option Value} {own : List (Addr × Obj)} {r : List Nat} {ob : Obj}
theorem ja_more {j : Nat} {tkp tkk : Tok} (F : Fr h₀ L h' m₂) (N : News h₀ L h' ((o, ob) :: own)) (a1 : m₂ (Str.ofString "text") = some (.str (tx l) t)) (a2 : m₂ (Str.ofString "k") = some (.int k tk0)) (a3 : m₂ (Str.ofString "out") = some (.ref o))
    (a4 : m₂ (Str.ofString "kind") = some (.int 1 tkk)) (a5 : m₂ (Str.ofString "piece") = some (.str (tx (r.take (j + 1))) tkp)) (hn : n = r.length - j) (hj : j < r.length) (ha : (r.take (j + 1)).all alp = true) :
    WhileStep2 h₀ L s (JA l t o k tk0 r ob own) Q n .next { s with heap := h', toks := tk' } :=
  ⟨_, _, _, _, r.length - (j + 1), rfl, F, N, by omega, j + 1, tkp, tkk, by omega, hj, rfl, a1, a2, a3, a4, a5, ha, rfl⟩
theorem jb_more {p : List Nat} {tkp tkk : Tok} (F : Fr h₀ L h' m₂) (N : News h₀ L h' ((o, ob) :: own)) (a1 : m₂ (Str.ofString "text") = some (.str (tx l) t)) (a2 : m₂ (Str.ofString "k") = some (.int k tk0)) (a3 : m₂ (Str.ofString "out") = some (.ref o))
    (a4 : m₂ (Str.ofString "kind") = some (.int 1 tkk)) (a5 : m₂ (Str.ofString "piece") = some (.str (tx p.dropLast) tkp)) (h1 : 1 < p.length) (h2 : isOp p = false) (h3 : p.length ≤ r.length) (hs : shr 3 r = shr p.length p) :
    WhileStep2 h₀ L s (JB l t o k tk0 r ob own) Q p.length .next { s with heap := h', toks := tk' } := by
  have hl : p.dropLast.length = p.length - 1 := List.length_dropLast
  exact ⟨_, _, _, _, p.dropLast.length, rfl, F, N, by omega, p.dropLast, tkp, tkk, fun e => by rw [e, List.length_nil] at hl; omega, rfl, by omega, a1, a2, a3, a4, a5, hs.trans (shr_step h1 h2), rfl⟩
theorem jt_more {ts : List (Int × List Nat)} {vs : List Value} {ep : Nat} {kd k' : Int} {p : List Nat} {tkd tkp tk9 : Tok} (F : Fr h₀ L h' m₂)
    (N : News h₀ L h' ((q, { cls := .type "tuple", data := .seq #[.int kd tkd, .str (tx p) tkp] }) :: (o, W.listOf (vs.toArray.push (.ref q)) (ep + 1)) :: own))
    (a1 : m₂ (Str.ofString "text") = some (.str (tx l) t)) (a2 : m₂ (Str.ofString "k") = some (.int k' tk9)) (a3 : m₂ (Str.ofString "out") = some (.ref o)) (hk' : k' = ((k + p.length : Nat) : Int)) (hk : k + p.length ≤ l.length) (hp : 0 < p.length) (hn : n = l.length - k)
    (hd : DatAll own vs (ts.map tokDat)) (hoff : ∀ p ∈ own, p.1 ≠ o) (hlt : o < q) (htok : tok l = ts ++ tok (l.drop k)) (hstep : tok (l.drop k) = (kd, p) :: tok (l.drop (k + p.length))) (hvs : vs.length ≤ k) :
    WhileStep2 h₀ L s (JT l t o) Q n .next { s with heap := h', toks := tk' } := by
  subst hk'
  refine ⟨_, _, _, _, l.length - (k + p.length), rfl, F, news_swap N, by omega, ⟨k + p.length, tk9, ts ++ [(kd, p)], vs ++ [.ref q], ep + 1, (q, _) :: own, hk, rfl, a1, a2, a3, by rw [List.push_toArray], ?_, ?_, ?_, ?_⟩⟩
  · rw [List.map_append]
    exact (hd.mono fun p hp => List.mem_cons_of_mem _ hp).append (.cons (.tuple (List.Mem.head _) (.cons (.int _ _) (.cons (.str _ _) .nil))) .nil)
  · intro p hp
    rcases List.mem_cons.mp hp with rfl | hp
    · exact Nat.ne_of_gt hlt
    · exact hoff p hp
  · rw [htok, hstep, List.append_assoc]
    rfl
  · rw [List.length_append, List.length_singleton]; omega
end
theorem fn_tokens (w : World) (l : List Nat) (t : Tok) (hl : l.length ≤ 100000) : Fn w 0 78 1 8 [.str (tx l) t] (fun _ => True) (fun _ new v => ∃ o vs ep own, v = .ref o ∧ new = (o, W.listOf vs.toArray ep) :: own ∧ DatAll own vs ((tok l).map tokDat) ∧ (∀ p ∈ own, p.1 ≠ o)) := by
  w_top off
  k_with_none
  k_with "execs cons" => (k_here; k_fold)
  k_with "execs nil" => (k_here; k_fold)
  k_with "exec While Compare cons nil" => (k_here; refine Halt.go ?_)
  k_with "exec While BoolOp" => (k_here; refine Halt.go ?_)
  k_with "exec While Call" => (k_here; refine Halt.go ?_)
  k_with "compareOp NotIn str ref" => (k_here; (with_reducible show wpAny _ _ (compareOp _ (Value.str (tx _) _) (Value.ref 57)) _ _ _); k_dflt (refine' op_notin ?k1 ?k2 ?_; (case k1 => k_asm); (case k2 => k_asm)))
  k_with "compareOp In str ref" => (k_here; (with_reducible show wpAny _ _ (compareOp _ (Value.str (tx _) _) (Value.ref 57)) _ _ _); k_dflt (refine' op_in ?k1 ?k2 ?_; (case k1 => k_asm); (case k2 => k_asm)))
  k_with "subscriptTail Name Name ref str" => (k_here; (with_reducible show wpAny _ _ (subscriptTail _ _ (Value.ref 57) (Value.str (tx _) _)) _ _ _); k_dflt (refine' op_item ?k1 ?k2 ?k3 ?_; (case k1 => k_asm); (case k2 => k_asm); (case k3 => assumption)); intro tq)
  ((have hfill : Challenge.rw_pg0195_01.row.prog = Challenge.rw_pg0195_01.row.prog ∧ hd.heap_1_1 = hd.heap_1_1 := by k_fill; exact ⟨rfl, rfl⟩); clear hfill; refine' fn_of ?ho ?hcd ?hb ?hk ?hn ?h1 ?h2 ?h3 ?_; (case ho => k_is); (case hcd => k_is); (case hb => exact rfl); (case hk => exact rfl); (case hn => decide +kernel); (case h1 => exact rfl); (case h2 => exact rfl); (case h3 => exact rfl); k_whole; intro dpz unz gdz cnz csz az ccdz clz outerz basez h0z Lz mz newsz sz Qz Ez meanz mgz mbz Lzp h1z tkz cellsz kcz N0z hprez hdpz hunz Fzp Nzp Yzp Bzp Xzp Tzp hretz; (first | k_cells Yzp | cases Yzp); (try simp only [List.cons_append, List.nil_append] at Nzp); (try dsimp only); (try k_fold))
  (try k_fold)
  k_steps
  (with_reducible rename ∀ (v : Value) (new : List (Addr × Obj)) (h' : Heap) (tk' : Nat) (L₂ : Addr) (m₂ : Str → Option Value), _ => hret)
  (with_reducible rename Fr _ _ _ _ => F9)
  (with_reducible rename News _ _ _ _ => N9)
  unfold Halt
  refine While_inv2 (JT l t _) F9 N9 ⟨0, _, [], [], 0, [], Nat.zero_le _, rfl, rfl, rfl, rfl, rfl, .nil, (fun _ hp => nomatch hp), rfl, Nat.le_refl _⟩ ?turn
  clear F9 N9
  intro n m₁ news₁ h₁ tk₁ F₁ N₁ J₁
  obtain ⟨k, tk0, ts, vs, ep, own, hk, rfl, hmt, hmk, hmo, rfl, hd, hoff, htok, hvs⟩ := J₁.ex
  clear J₁
  have F := fr_ov F₁ (ps := [(Str.ofString "text", .str (tx l) t), (Str.ofString "k", .int k tk0), (Str.ofString "out", .ref _)]) ⟨hmt, hmk, hmo, trivial⟩
  clear F₁
  have hlx : (tx l).length ≤ 100000 := by rw [tx_len]; exact hl
  (try k_fold)
  k_steps
  · (with_reducible rename Fr _ _ _ _ => F9)
    (with_reducible rename News _ _ _ _ => N9)
    unfold Halt
    have hklt : (k : Int) < ((tx l).length : Int) := by assumption
    have hklt : k < l.length := by rw [tx_len] at hklt; omega
    obtain ⟨c, r, hr⟩ : ∃ c r, l.drop k = c :: r := by
      cases e : l.drop k with
      | nil => rw [List.drop_eq_nil_iff] at e; omega
      | cons c r => exact ⟨c, r, rfl⟩
    have hal : Txt.isalpha (Txt.item (tx l) (k : Int)) = true := by assumption
    rw [item_tx rfl hr, isalpha_tx] at hal
    have hal : alp c = true := by simpa using hal
    rw [item_tx rfl hr] at F9
    have hrl : (c :: r).length = l.length - k := by rw [← hr, List.length_drop]
    refine While_inv2 (JA l t _ k tk0 (c :: r) _ own) F9 N9 ⟨1, _, _, Nat.le_refl _, by simp, rfl, rfl, rfl, rfl, rfl, rfl, by simp [hal], rfl⟩ ?turnA
    clear F9 N9
    intro n m₂ news₂ h₂ tk₂ F₂ N₂ J₂
    obtain ⟨j, tkp, tkk, hj1, hj2, rfl, a1, a2, a3, a4, a5, hja, rfl⟩ := J₂
    have F9 := fr_ov F₂ (ps := [(Str.ofString "text", .str (tx l) t), (Str.ofString "k", .int k tk0), (Str.ofString "out", .ref _), (Str.ofString "kind", .int 1 tkk), (Str.ofString "piece", .str (tx ((c :: r).take j)) tkp)]) ⟨a1, a2, a3, a4, a5, trivial⟩
    clear F₂
    have hpx : (tx ((c :: r).take j)).length ≤ 100000 := by rw [tx_len, List.length_take]; omega
    have hplen : (tx ((c :: r).take j)).length = j := by rw [tx_len, List.length_take]; omega
    (try k_fold)
    k_steps
    · have hsl : Txt.isalpha (Txt.slice (tx l) (some ((k : Int) + ((tx ((c :: r).take j)).length : Int))) (some ((k : Int) + ((tx ((c :: r).take j)).length : Int) + 1))) = true := by assumption
      rw [slice_tx (i := k + j) (j := k + j + 1) (by rw [hplen]; omega) (by rw [hplen]; omega) (by omega) (by omega), isalpha_tx] at hsl
      obtain ⟨d, r', hd'⟩ : ∃ d r', l.drop (k + j) = d :: r' := by
        cases e : l.drop (k + j) with
        | nil => rw [e] at hsl; simp at hsl
        | cons d r' => exact ⟨d, r', rfl⟩
      have hdl : k + j < l.length := by
        rcases Nat.lt_or_ge (k + j) l.length with h | h
        · exact h
        · rw [List.drop_eq_nil_iff.mpr h] at hd'; cases hd'
      have hidx : (k : Int) + ((tx ((c :: r).take j)).length : Int) < ((tx l).length : Int) := by rw [hplen, tx_len]; omega
      (try k_fold)
      k_steps
      (with_reducible rename Fr _ _ _ _ => F9)
      (with_reducible rename News _ _ _ _ => N9)
      rw [item_tx (k := k + j) (by rw [hplen]; omega) hd', ← tx_append] at F9
      have hdr : (c :: r).drop j = d :: r' := by rw [← hr, List.drop_drop, hd']
      have hjl : j < (c :: r).length := by omega
      have htake : (c :: r).take j ++ [d] = (c :: r).take (j + 1) := by
        rw [List.take_add_one]
        congr 1
        have := List.getElem?_drop (xs := c :: r) (i := j) (j := 0)
        rw [hdr] at this
        rw [← Nat.add_zero j, ← this]
        rfl
      rw [htake] at F9
      refine ja_more F9 N9 rfl rfl rfl rfl rfl rfl hjl ?_
      rw [← htake, List.all_append, hja, Bool.true_and]
      rw [hd'] at hsl
      simpa using hsl
    · have hsl : Txt.isalpha (Txt.slice (tx l) (some ((k : Int) + ((tx ((c :: r).take j)).length : Int))) (some ((k : Int) + ((tx ((c :: r).take j)).length : Int) + 1))) = false := by assumption
      rw [slice_tx (i := k + j) (j := k + j + 1) (by rw [hplen]; omega) (by rw [hplen]; omega) (by omega) (by omega), isalpha_tx] at hsl
      have hsp := span_at (p := alp) (l := c :: r) (j := j) hja (by rw [← hr, List.drop_drop]; simpa using hsl)
      (try k_fold)
      k_steps
      (with_reducible rename Fr _ _ _ _ => F9)
      (with_reducible rename News _ _ _ _ => N9)
      (with_reducible rename (_ : Nat) < _ ∧ AllLt _ _ => hlt9)
      have hlen9 : ((c :: r).take j).length = j := by rw [List.length_take]; omega
      refine jt_more F9 N9 rfl rfl rfl (by rw [hplen, hlen9, Int.natCast_add]) (by rw [hlen9]; omega) (by omega) rfl hd hoff hlt9.1 htok ?_ hvs
      rw [hlen9, hr, tok_name rfl hal, hsp.1, hsp.2, ← hr, List.drop_drop]
  · (with_reducible rename Fr _ _ _ _ => F9)
    (with_reducible rename News _ _ _ _ => N9)
    unfold Halt
    have hklt : (k : Int) < ((tx l).length : Int) := by assumption
    have hklt : k < l.length := by rw [tx_len] at hklt; omega
    obtain ⟨c, r, hr⟩ : ∃ c r, l.drop k = c :: r := by
      cases e : l.drop k with
      | nil => rw [List.drop_eq_nil_iff] at e; omega
      | cons c r => exact ⟨c, r, rfl⟩
    have hal : Txt.isalpha (Txt.item (tx l) (k : Int)) = false := by assumption
    rw [item_tx rfl hr, isalpha_tx] at hal
    have hal : alp c = false := by simpa using hal
    rw [slice_tx (i := k) (j := k + 3) rfl (by omega) (by omega) (by omega), show k + 3 - k = 3 by omega, hr] at F9
    have hrl : (c :: r).length = l.length - k := by rw [← hr, List.length_drop]
    have h3 : ((c :: r).take 3).length ≤ 3 := by rw [List.length_take]; omega
    refine While_inv2 (JB l t _ k tk0 ((c :: r).take 3) _ own) F9 N9 ⟨(c :: r).take 3, _, _, by simp, rfl, Nat.le_refl _, rfl, rfl, rfl, rfl, rfl, shr_fuel _ _ _ h3 (Nat.le_refl _), rfl⟩ ?turnB
    clear F9 N9
    intro n m₂ news₂ h₂ tk₂ F₂ N₂ J₂
    obtain ⟨p, tkp, tkk, hp0, rfl, hp3, a1, a2, a3, a4, a5, hsh, rfl⟩ := J₂
    have F9 := fr_ov F₂ (ps := [(Str.ofString "text", .str (tx l) t), (Str.ofString "k", .int k tk0), (Str.ofString "out", .ref _), (Str.ofString "kind", .int 1 tkk), (Str.ofString "piece", .str (tx p) tkp)]) ⟨a1, a2, a3, a4, a5, trivial⟩
    clear F₂
    have hplen : (tx p).length = p.length := tx_len p
    have hpx : (tx p).length ≤ 100000 := by omega
    have hppos : 0 < p.length := List.length_pos_iff.mpr hp0
    have hkp : k + p.length ≤ l.length := by rw [List.length_take] at hp3; omega
    (try k_fold)
    k_steps
    · have h1 : (1 : Int) < ((tx p).length : Int) := by assumption
      have h2 : isOp p = true := by assumption
      (with_reducible rename Fr _ _ _ _ => F9)
      (with_reducible rename News _ _ _ _ => N9)
      (with_reducible rename (_ : Nat) < _ ∧ AllLt _ _ => hlt9)
      refine jt_more F9 N9 rfl rfl rfl (by rw [hplen, Int.natCast_add]) hkp hppos rfl hd hoff hlt9.1 htok ?_ hvs
      rw [hr, tok_op rfl hal, hsh, shr_stop (.inr h2), ← hr, List.drop_drop]
    · have h1 : (1 : Int) < ((tx p).length : Int) := by assumption
      have h2 : isOp p = false := by assumption
      (with_reducible rename Fr _ _ _ _ => F9)
      (with_reducible rename News _ _ _ _ => N9)
      rw [slice_init hp0] at F9
      exact jb_more F9 N9 rfl rfl rfl rfl rfl (by omega) h2 hp3 hsh
    · have h1 : ¬ (1 : Int) < ((tx p).length : Int) := by assumption
      have h2 : isOp p = true := by assumption
      (with_reducible rename Fr _ _ _ _ => F9)
      (with_reducible rename News _ _ _ _ => N9)
      (with_reducible rename (_ : Nat) < _ ∧ AllLt _ _ => hlt9)
      refine jt_more F9 N9 rfl rfl rfl (by rw [hplen, Int.natCast_add]) hkp hppos rfl hd hoff hlt9.1 htok ?_ hvs
      rw [hr, tok_op rfl hal, hsh, shr_stop (.inr h2), ← hr, List.drop_drop]
    · have h1 : ¬ (1 : Int) < ((tx p).length : Int) := by assumption
      have h2 : isOp p = false := by assumption
      (with_reducible rename Fr _ _ _ _ => F9)
      (with_reducible rename News _ _ _ _ => N9)
      (with_reducible rename (_ : Nat) < _ ∧ AllLt _ _ => hlt9)
      refine jt_more F9 N9 rfl rfl rfl (by rw [hplen, Int.natCast_add]) hkp hppos rfl hd hoff hlt9.1 htok ?_ hvs
      have h3 : ops.lookup p = none := by
        unfold isOp at h2
        cases e : ops.lookup p with
        | none => rfl
        | some _ => rw [e] at h2; cases h2
      rw [hr, tok_op rfl hal, hsh, shr_stop (.inl (by omega)), h3, ← hr, List.drop_drop]
      rfl
  · dsimp only
    have hge : ¬ (k : Int) < ((tx l).length : Int) := by assumption
    refine hret _ ((_, W.listOf vs.toArray ep) :: own) _ _ _ _ F N₁ ⟨_, vs, ep, own, rfl, rfl, ?_, hoff⟩
    rw [htok, List.drop_eq_nil_iff.mpr (by rw [tx_len] at hge; omega), tok_nil, List.append_nil]
    exact hd
end
section
def toldOf (p : List Nat) : Option (List Nat) := [([97, 109, 112], [38]), ([108, 116], [60]), ([103, 116], [62]), ([113, 117, 111, 116], [34])].lookup p
theorem told_cases {p z : List Nat} (h : toldOf p = some z) : (p = [97, 109, 112] ∧ z = [38]) ∨ (p = [108, 116] ∧ z = [60]) ∨ (p = [103, 116] ∧ z = [62]) ∨ (p = [113, 117, 111, 116] ∧ z = [34]) := by
  unfold toldOf at h
  by_cases h1 : p = [97, 109, 112]
  · subst h1; exact .inl ⟨rfl, (Option.some.inj h).symm⟩
  by_cases h2 : p = [108, 116]
  · subst h2; exact .inr (.inl ⟨rfl, (Option.some.inj h).symm⟩)
  by_cases h3 : p = [103, 116]
  · subst h3; exact .inr (.inr (.inl ⟨rfl, (Option.some.inj h).symm⟩))
  by_cases h4 : p = [113, 117, 111, 116]
  · subst h4; exact .inr (.inr (.inr ⟨rfl, (Option.some.inj h).symm⟩))
  · rw [List.lookup_cons, beq_eq_false_iff_ne.mpr h1, List.lookup_cons, beq_eq_false_iff_ne.mpr h2, List.lookup_cons, beq_eq_false_iff_ne.mpr h3, List.lookup_cons, beq_eq_false_iff_ne.mpr h4] at h
    cases h
def trip (ts : List (Int × List Nat)) : Bool := (ts.take 3).map (·.1) == [19, 1, 13]
def barF : Nat → List (Int × List Nat) → Option (List Nat)
  | 0, _ => some []
  | _ + 1, [] => some []
  | n + 1, t :: r => if trip (t :: r) then (match r with
      | [] => none
      | u :: r' => match toldOf u.2 with
        | none => none
        | some z => (barF n (r'.drop 1)).map (z ++ ·)) else (barF n r).map (t.2 ++ ·)
def bar (ts : List (Int × List Nat)) : Option (List Nat) := barF ts.length ts
theorem barF_fuel : ∀ (n m : Nat) (l : List (Int × List Nat)), l.length ≤ n → l.length ≤ m → barF n l = barF m l
  | 0, m, l, h, _ => by
    obtain rfl : l = [] := List.eq_nil_of_length_eq_zero (Nat.le_zero.mp h)
    cases m <;> rfl
  | n + 1, 0, l, _, h => by
    obtain rfl : l = [] := List.eq_nil_of_length_eq_zero (Nat.le_zero.mp h)
    rfl
  | n + 1, m + 1, [], _, _ => rfl
  | n + 1, m + 1, c :: r, h, h' => by
    rw [List.length_cons] at h h'
    unfold barF
    rw [barF_fuel n m r (by omega) (by omega)]
    cases r with
    | nil => rfl
    | cons u r' =>
      rw [List.length_cons] at h h'
      dsimp only
      rw [barF_fuel n m (r'.drop 1) (by rw [List.length_drop]; omega) (by rw [List.length_drop]; omega)]
theorem bar_nil : bar [] = some [] := rfl
theorem bar_one {t : Int × List Nat} {r : List (Int × List Nat)} (h : trip (t :: r) = false) : bar (t :: r) = (bar r).map (t.2 ++ ·) := by
  show barF (r.length + 1) (t :: r) = _
  unfold barF
  rw [if_neg (by rw [h]; exact Bool.false_ne_true)]
  rfl
theorem bar_three {t u v : Int × List Nat} {r : List (Int × List Nat)} (h : trip (t :: u :: v :: r) = true) : bar (t :: u :: v :: r) = (match toldOf u.2 with
    | none => none
    | some z => (bar r).map (z ++ ·)) := by
  show barF ((u :: v :: r).length + 1) (t :: u :: v :: r) = _
  unfold barF
  rw [if_pos h]
  dsimp only
  rw [barF_fuel (u :: v :: r).length r.length ((v :: r).drop 1) (by simp only [List.drop_succ_cons, List.drop_zero, List.length_cons]; omega) (Nat.le_refl _)]
  rfl
theorem trip_three {ts : List (Int × List Nat)} (h : trip ts = true) : ∃ t u v r, ts = t :: u :: v :: r := by
  unfold trip at h
  match ts, h with
  | [], h => cases h
  | [_], h => simp at h
  | [_, _], h => simp at h
  | t :: u :: v :: r, _ => exact ⟨t, u, v, r, rfl⟩
theorem tokF_len : ∀ (n : Nat) (l : List Nat), (tokF n l).length ≤ n
  | 0, _ => Nat.le_refl _
  | n + 1, [] => Nat.zero_le _
  | n + 1, c :: r => by
    unfold tokF
    split
    · rw [List.length_cons]; exact Nat.succ_le_succ (tokF_len n _)
    · rw [List.length_cons]; exact Nat.succ_le_succ (tokF_len n _)
theorem tok_len (l : List Nat) : (tok l).length ≤ l.length := tokF_len _ _
end
section
theorem news_move {h₀ h : Heap} {L : Addr} {x : Addr × Obj} {own r : List (Addr × Obj)} (N : News h₀ L h ((x :: own) ++ r)) : News h₀ L h (x :: (r ++ own)) := by
  intro p hp
  refine N p ?_
  rcases List.mem_cons.mp hp with rfl | hp
  · exact List.mem_append_left _ (List.mem_cons_self ..)
  · rcases List.mem_append.mp hp with hp | hp
    · exact List.mem_append_right _ hp
    · exact List.mem_append_left _ (List.mem_cons_of_mem _ hp)
def JR (ts : List (Int × List Nat)) (r : List Nat) (o d : Addr) (nx₀ : List (Addr × Obj)) (n : Nat) (m : Str → Option Value) (nx : List (Addr × Obj)) : Prop :=
  ∃ (k : Nat) (acc r' : List Nat) (tk0 tk1 : Tok), k ≤ ts.length ∧ n = ts.length - k ∧ m (Str.ofString "text") = some (.str (tx acc) tk1) ∧ m (Str.ofString "k") = some (.int k tk0) ∧ m (Str.ofString "tokens") = some (.ref o) ∧ m (Str.ofString "told") = some (.ref d) ∧
    bar (ts.drop k) = some r' ∧ acc ++ r' = r ∧ nx = nx₀
theorem jr_more {h₀ h' : Heap} {L o d : Addr} {s : Shared} {Q : Flow → Shared → Prop} {k k' tk' : Nat} {ts : List (Int × List Nat)} {r acc z r2 : List Nat} {nx₀ nx' : List (Addr × Obj)} {m₂ : Str → Option Value} {ki : Int} {tk0 tk1 : Tok}
    (F : Fr h₀ L h' m₂) (N : News h₀ L h' nx') (hs : ∀ p ∈ nx₀, p ∈ nx') (a1 : m₂ (Str.ofString "text") = some (.str (tx (acc ++ z)) tk1)) (a2 : m₂ (Str.ofString "k") = some (.int ki tk0)) (a3 : m₂ (Str.ofString "tokens") = some (.ref o)) (a4 : m₂ (Str.ofString "told") = some (.ref d))
    (hki : ki = (k' : Int)) (hk : k < k') (hk' : k' ≤ ts.length) (hb : bar (ts.drop k') = some r2) (ha : acc ++ (z ++ r2) = r) : WhileStep2 h₀ L s (JR ts r o d nx₀) Q (ts.length - k) .next { s with heap := h', toks := tk' } := by
  subst hki
  exact ⟨_, _, _, nx₀, ts.length - k', rfl, F, fun p hp => N p (hs p hp), by omega, k', acc ++ z, r2, tk0, tk1, hk', rfl, a1, a2, a3, a4, hb, by rw [List.append_assoc, ha], rfl⟩
theorem dlist_item {prog : Program} {w : World} {A : Around} {E : Value → Shared → Prop} {s : Shared} {h₀ : Heap} {L l : Addr} {own news : List (Addr × Obj)} {vs : List Value} {ts : List (Int × List Nat)} {ep : Nat} {value slice : PySem.Expr} {i : Int} {u : Tok} {k : Nat} {p : Int × List Nat} {Q : Value → Shared → Prop}
    (N : News h₀ L s.heap news) (hl : (l, W.listOf vs.toArray ep) ∈ news) (hd : DatAll own vs (ts.map tokDat)) (hs9 : ∀ p ∈ own, p ∈ news) (hi : i = (k : Int)) (hp : ts[k]? = some p) (hk : k < 1000000)
    (h : ∀ a t u n, (a, ({ cls := .type "tuple", data := .seq #[.int p.1 t, .str (tx p.2) u] n } : Obj)) ∈ news → Q (.ref a) s)
    (hs : subscripted slice false (.ref l) (.int i u) = operate [.ref l, .int i u] (getItem (.ref l) (.int i u))) :
    wpAny (model prog w) A (subscriptTail value slice (.ref l) (.int i u)) Q E s := by
  subst hi
  have hlen : vs.length = ts.length := by rw [hd.length, List.length_map]
  have hkl : k < vs.length := by rw [hlen]; exact (List.getElem?_eq_some_iff.mp hp).1
  have hv : vs.toArray[k]? = some (vs[k]'hkl) := by simp [hkl]
  obtain ⟨p', a, t, u', n, hp', e, hm⟩ := dat_at hd hs9 hv
  rw [hp] at hp'
  cases hp'
  rw [e] at hv
  have hL := News.isList N hl
  exact tail_any hL.typeIs slot_list_getitem.lookup (wpAny_getItem_list hL (by omega) (by omega) (by simpa using hv) (h a t u' n hm)) hs
theorem tup_snd {prog : Program} {w : World} {A : Around} {E : Value → Shared → Prop} {s : Shared} {h₀ : Heap} {L a : Addr} {news : List (Addr × Obj)} {value slice : PySem.Expr} {v1 v2 : Value} {n : Nat} {u : Tok} {Q : Value → Shared → Prop}
    (N : News h₀ L s.heap news) (hm : (a, ({ cls := .type "tuple", data := .seq #[v1, v2] n } : Obj)) ∈ news) (h : Q v2 s)
    (hs : subscripted slice false (.ref a) (.int 1 u) = operate [.ref a, .int 1 u] (getItem (.ref a) (.int 1 u))) : wpAny (model prog w) A (subscriptTail value slice (.ref a) (.int 1 u)) Q E s :=
  item_tupleT (l := [v1, v2]) (j := 1) ⟨_, (N _ hm).1, rfl, n, rfl⟩ (by decide) (by decide) rfl rfl h hs
theorem fn_bared (w : World) (l r : List Nat) (t : Tok) (hl : l.length ≤ 100000) (hr : r.length ≤ 100000) (hb : bar (tok l) = some r) : Fn w 0 83 2 400 [.str (tx l) t] (fun _ => True) (giveTx r) := by
  w_top off
  k_with_none
  k_with "execs cons" => (k_here; k_fold)
  k_with "execs nil" => (k_here; k_fold)
  k_with "exec While Compare cons nil" => (k_here; refine Halt.go ?_)
  k_with "call ref" => (k_here; (with_reducible show wpAny _ _ (call (Value.ref 78) _) _ _ _); refine' Fn.use (fn_tokens _ _ _ ?kl) ?k1 ?k2 ?k3 ?k4 ?k5 ?kK ?kp ?kd ?ku ?kt ?_; (case k1 => k_asm); (case k2 => k_asm); (case k3 => k_asm); (case k4 => k_asm); (case k5 => k_asm); (case kK => first | exact rfl | assumption); (case kp => trivial); (case kd => ktr_room); (case ku => ktr_units); (case kt => exact Nat.zero_le _); (case kl => assumption); intro v9 new9 h9 tk9 F9 N9 ht9 e9; obtain ⟨o9, vs9, ep9, own9, e91, e92, hd9, hoff9⟩ := e9; subst e91 e92; (have N9 := news_move N9); (try simp only [List.cons_append, List.nil_append] at N9); (try dsimp only); (try k_fold))
  k_with "eval ListComp" => (k_here; refine Halt.go ?_)
  k_with "SrcLP" => (k_here; refine Halt.go ?_)
  k_with "call builtin:len" => (k_here; (with_reducible show wpAny _ _ (call (Value.builtin "len") [Value.ref _]) _ _ _); refine Calls.call_len_list (News.isList (by assumption) (by k_mem)) (by simp only [List.size_toArray]; omega) ?_)
  k_with "subscriptTail Name Slice ref ref" => (k_here; refine Halt.go ?_)
  k_with "compareOp Eq ref ref" => (k_here; refine Halt.go ?_)
  k_with "subscriptTail Name Name ref int" => (k_here; refine Halt.go ?_)
  k_with "subscriptTail Name BinOp ref int" => (k_here; refine Halt.go ?_)
  k_with "subscriptTail" => (k_here; (with_reducible show wpAny _ _ (subscriptTail _ _ (Value.ref _) (Value.int _ _)) _ _ _); refine Halt.go ?_)
  ((have hfill : Challenge.rw_pg0195_01.row.prog = Challenge.rw_pg0195_01.row.prog ∧ hd.heap_1_1 = hd.heap_1_1 := by k_fill; exact ⟨rfl, rfl⟩); clear hfill; refine' fn_of ?ho ?hcd ?hb ?hk ?hn ?h1 ?h2 ?h3 ?_; (case ho => k_is); (case hcd => k_is); (case hb => exact rfl); (case hk => exact rfl); (case hn => decide +kernel); (case h1 => exact rfl); (case h2 => exact rfl); (case h3 => exact rfl); k_whole; intro dpz unz gdz cnz csz az ccdz clz outerz basez h0z Lz mz newsz sz Qz Ez meanz mgz mbz Lzp h1z tkz cellsz kcz N0z hprez hdpz hunz Fzp Nzp Yzp Bzp Xzp Tzp hretz; (first | k_cells Yzp | cases Yzp); (try simp only [List.cons_append, List.nil_append] at Nzp); (try dsimp only); (try k_fold))
  (try k_fold)
  k_steps
  (with_reducible rename ∀ (v : Value) (new : List (Addr × Obj)) (h' : Heap) (tk' : Nat) (L₂ : Addr) (m₂ : Str → Option Value), _ => hret)
  (with_reducible rename Fr _ _ _ _ => F9)
  (with_reducible rename News _ _ _ _ => N9)
  (with_reducible rename DatAll _ _ _ => hd)
  unfold Halt
  rename List Value => vs
  have hvl : vs.length = (tok l).length := by rw [hd.length, List.length_map]
  have htl := tok_len l
  rw [show Str.ofString "" = tx [] by decide +kernel] at F9
  refine While_inv2 (JR (tok l) r _ _ _) F9 N9 ⟨0, [], r, _, _, Nat.zero_le _, rfl, rfl, rfl, rfl, rfl, hb, rfl, rfl⟩ ?turn
  clear F9 N9
  intro n m₁ news₁ h₁ tk₁ F₁ N₁ J₁
  obtain ⟨k, acc, r', tk0, tk1, hk, rfl, a1, a2, a3, a4, hbk, hacc, rfl⟩ := J₁
  have F := fr_ov F₁ (ps := [(Str.ofString "text", .str (tx acc) tk1), (Str.ofString "k", .int k tk0), (Str.ofString "tokens", .ref _), (Str.ofString "told", .ref _)]) ⟨a1, a2, a3, a4, trivial⟩
  clear F₁
  (try k_fold)
  k_steps
  · have hklt : (k : Int) < (vs.toArray.size : Int) := by assumption
    have hklt : k < vs.length := by rw [List.size_toArray] at hklt; omega
    unfold Halt
    refine LCp.ListComp_P (F₀ := F) (by with_unfolding_all rfl) (by decide) (by rfl) (by decide) (by rfl) (by rfl) (by decide) ?_
    (try k_fold)
    k_steps
    unfold Halt
    refine kms_slice_lit F N₁ (News.isList N₁ (List.mem_cons_self ..)) (.int _ _) (.int _ _) rfl ?_ (by with_unfolding_all rfl) (fun _ => rfl) (by simp only [List.size_toArray, sizeLine_eq]; omega)
    intro D5 h5 F5 N5 l5
    (try k_fold)
    k_steps
    unfold Halt
    (with_reducible rename Fr _ _ _ _ => F9)
    (with_reducible rename News _ _ _ _ => N9)
    rw [List.toList_toArray, pick_run vs (i := k) (j := k + 3) rfl (by omega) (by omega), show k + 3 - k = 3 by omega] at N9
    refine LCp.SrcLP.ledger rfl F9 N9 (List.mem_cons_self ..) (by rw [List.size_toArray, List.length_take, sizeLine_eq]; omega) ?_
    intro g
    have hd3 := take_dat (drop_dat hd k) 3
    rw [← List.map_drop, ← List.map_take] at hd3
    refine rest_fst hd3 ?hs (.inr ⟨_, List.mem_cons_self .., rfl, _, rfl⟩) (fun _ => rfl) (fun _ => rfl) (by decide) ?fin
    case hs => intro p hp; exact List.mem_cons_of_mem _ (List.mem_cons_of_mem _ (List.mem_cons_of_mem _ hp))
    case fin =>
      intro ys hi D h tk F N off
      clear F9 N9
      (try k_fold)
      k_steps
      unfold Halt
      (with_reducible rename Fr _ _ _ _ => F9)
      (with_reducible rename News _ _ _ _ => N9)
      refine eq_intsK (vs := ys) (us := [_, _, _]) (News.isList N9 (List.mem_cons_of_mem _ (List.mem_cons_self ..))) hi (News.isList N9 (List.mem_cons_self ..)) (.cons 19 _ (.cons 1 _ (.cons 13 _ .nil))) (by (have hcL9 := cLine_is); (try simp only [units_deeper] at *); (try dsimp only [ktrTop] at *); omega) ?_
      (try k_fold)
      k_steps
      · have htrip : (((tok l).drop k).take 3).map (fun x => x.fst) = [19, 1, 13] := by assumption
        have htr : trip ((tok l).drop k) = true := by unfold trip; rw [show ((tok l).drop k |>.take 3).map (·.1) = [19, 1, 13] from htrip]; rfl
        obtain ⟨t1, t2, t3, r2, e123⟩ := trip_three htr
        have hp2 : (tok l)[k + 1]? = some t2 := by
          have := List.getElem?_drop (xs := tok l) (i := k) (j := 1)
          rw [e123] at this
          exact this.symm
        have hdr : (tok l).drop (k + 3) = r2 := by rw [← List.drop_drop, e123]; rfl
        have hkl : k + 3 ≤ (tok l).length := by
          have := congrArg List.length e123
          rw [List.length_drop] at this
          simp only [List.length_cons] at this
          omega
        rw [e123, bar_three (e123 ▸ htr)] at hbk
        unfold Halt
        refine dlist_item N9 (ep := _) (List.mem_cons_of_mem _ (List.mem_cons_of_mem _ (List.mem_cons_of_mem _ (List.mem_cons_self ..)))) hd (fun p hp => by simp only [List.mem_cons]; exact .inr (.inr (.inr (.inr (.inr hp))))) (by omega : (k : Int) + 1 = ((k + 1 : Nat) : Int)) hp2 (by omega) (fun a9 t9 u9 n9 hm9 => ?_) (by with_unfolding_all rfl)
        (try k_fold)
        k_steps
        unfold Halt
        refine tup_snd N9 hm9 ?_ (by with_unfolding_all rfl)
        obtain ⟨kd2, p2⟩ := t2
        dsimp only at hbk ⊢
        cases ez : toldOf p2 with
        | none => rw [ez] at hbk; cases hbk
        | some z =>
        rw [ez] at hbk
        rcases told_cases ez with ⟨rfl, rfl⟩ | ⟨rfl, rfl⟩ | ⟨rfl, rfl⟩ | ⟨rfl, rfl⟩
        · rw [show tx [97, 109, 112] = Str.ofString "amp" by decide +kernel]
          dsimp only at hbk
          obtain ⟨r3, hr3, e3⟩ := Option.map_eq_some_iff.mp hbk
          subst e3
          have hacc2 : (tx acc).length ≤ 100000 := by rw [tx_len]; rw [← hacc, List.length_append] at hr; omega
          (try k_fold)
          k_steps
          (with_reducible rename Fr _ _ _ _ => F8)
          (with_reducible rename News _ _ _ _ => N8)
          rw [show Str.ofString "&" = tx [38] by decide +kernel, ← tx_append] at F8
          exact jr_more F8 N8 (fun p hp => List.mem_cons_of_mem _ (List.mem_cons_of_mem _ (List.mem_cons_of_mem _ hp))) rfl rfl rfl rfl (by omega) (by omega : k < k + 3) hkl (hdr ▸ hr3) hacc
        · rw [show tx [108, 116] = Str.ofString "lt" by decide +kernel]
          dsimp only at hbk
          obtain ⟨r3, hr3, e3⟩ := Option.map_eq_some_iff.mp hbk
          subst e3
          have hacc2 : (tx acc).length ≤ 100000 := by rw [tx_len]; rw [← hacc, List.length_append] at hr; omega
          (try k_fold)
          k_steps
          (with_reducible rename Fr _ _ _ _ => F8)
          (with_reducible rename News _ _ _ _ => N8)
          rw [show Str.ofString "<" = tx [60] by decide +kernel, ← tx_append] at F8
          exact jr_more F8 N8 (fun p hp => List.mem_cons_of_mem _ (List.mem_cons_of_mem _ (List.mem_cons_of_mem _ hp))) rfl rfl rfl rfl (by omega) (by omega : k < k + 3) hkl (hdr ▸ hr3) hacc
        · rw [show tx [103, 116] = Str.ofString "gt" by decide +kernel]
          dsimp only at hbk
          obtain ⟨r3, hr3, e3⟩ := Option.map_eq_some_iff.mp hbk
          subst e3
          have hacc2 : (tx acc).length ≤ 100000 := by rw [tx_len]; rw [← hacc, List.length_append] at hr; omega
          (try k_fold)
          k_steps
          (with_reducible rename Fr _ _ _ _ => F8)
          (with_reducible rename News _ _ _ _ => N8)
          rw [show Str.ofString ">" = tx [62] by decide +kernel, ← tx_append] at F8
          exact jr_more F8 N8 (fun p hp => List.mem_cons_of_mem _ (List.mem_cons_of_mem _ (List.mem_cons_of_mem _ hp))) rfl rfl rfl rfl (by omega) (by omega : k < k + 3) hkl (hdr ▸ hr3) hacc
        · rw [show tx [113, 117, 111, 116] = Str.ofString "quot" by decide +kernel]
          dsimp only at hbk
          obtain ⟨r3, hr3, e3⟩ := Option.map_eq_some_iff.mp hbk
          subst e3
          have hacc2 : (tx acc).length ≤ 100000 := by rw [tx_len]; rw [← hacc, List.length_append] at hr; omega
          (try k_fold)
          k_steps
          (with_reducible rename Fr _ _ _ _ => F8)
          (with_reducible rename News _ _ _ _ => N8)
          rw [show Str.ofString "\"" = tx [34] by decide +kernel, ← tx_append] at F8
          exact jr_more F8 N8 (fun p hp => List.mem_cons_of_mem _ (List.mem_cons_of_mem _ (List.mem_cons_of_mem _ hp))) rfl rfl rfl rfl (by omega) (by omega : k < k + 3) hkl (hdr ▸ hr3) hacc
      · have htrip : ¬ (((tok l).drop k).take 3).map (fun x => x.fst) = [19, 1, 13] := by assumption
        have htr : trip ((tok l).drop k) = false := by unfold trip; exact beq_eq_false_iff_ne.mpr htrip
        have hkl : k < (tok l).length := by omega
        obtain ⟨t1, r2, e1⟩ : ∃ t1 r2, (tok l).drop k = t1 :: r2 := by
          cases e : (tok l).drop k with
          | nil => rw [List.drop_eq_nil_iff] at e; omega
          | cons c r => exact ⟨c, r, rfl⟩
        have hp1 : (tok l)[k]? = some t1 := by
          have := List.getElem?_drop (xs := tok l) (i := k) (j := 0)
          rw [e1] at this
          exact this.symm
        have hdr : (tok l).drop (k + 1) = r2 := by rw [← List.drop_drop, e1]; rfl
        rw [e1, bar_one (e1 ▸ htr)] at hbk
        obtain ⟨r3, hr3, e3⟩ := Option.map_eq_some_iff.mp hbk
        subst e3
        have hacc2 : (tx acc).length + (tx t1.2).length ≤ 100000 := by rw [tx_len, tx_len]; rw [← hacc, List.length_append, List.length_append] at hr; omega
        unfold Halt
        refine dlist_item N9 (ep := _) (List.mem_cons_of_mem _ (List.mem_cons_of_mem _ (List.mem_cons_of_mem _ (List.mem_cons_self ..)))) hd (fun p hp => by simp only [List.mem_cons]; exact .inr (.inr (.inr (.inr (.inr hp))))) rfl hp1 (by omega) (fun a9 t9 u9 n9 hm9 => ?_) (by with_unfolding_all rfl)
        (try k_fold)
        k_steps
        unfold Halt
        refine tup_snd N9 hm9 ?_ (by with_unfolding_all rfl)
        (try k_fold)
        k_steps
        (with_reducible rename Fr _ _ _ _ => F8)
        (with_reducible rename News _ _ _ _ => N8)
        rw [← tx_append] at F8
        exact jr_more F8 N8 (fun p hp => List.mem_cons_of_mem _ (List.mem_cons_of_mem _ (List.mem_cons_of_mem _ hp))) rfl rfl rfl rfl (by omega) (by omega : k < k + 1) hkl (hdr ▸ hr3) hacc
  · dsimp only
    have hge : ¬ (k : Int) < (vs.toArray.size : Int) := by assumption
    rw [List.size_toArray] at hge
    rw [List.drop_eq_nil_iff.mpr (by omega), bar_nil] at hbk
    have e : r' = [] := (Option.some.inj hbk).symm
    rw [e, List.append_nil] at hacc
    exact hret _ [] _ _ _ _ F (fun _ hp => nomatch hp) (giveTx_of hacc)
end
section
def fitOf (k : Int) : Int × Int × Int := if k = 20 then (1, 0, 0) else if k = 29 then (1, 1, 0) else if k = 21 then (0, 0, 1) else if k = 30 then (0, 1, 1) else if k = 27 then (0, 1, 0) else (1, 0, 1)
def kindOk (k : Int) : Prop := k = 20 ∨ k = 29 ∨ k = 21 ∨ k = 30 ∨ k = 27 ∨ k = 28
def cellC (f : Int × Int × Int) (e : List Int) (b : Nat) : Int := (e.take b).sum * f.1 + e.getD b 0 * f.2.1 + (e.drop (b + 1)).sum * f.2.2
def stepC (m : Nat) (e : List Int) (k : Int) : List Int := (List.range m).map (cellC (fitOf k) e)
def endsC (m : Nat) (ks : List Int) : List Int := ks.foldl (stepC m) (List.replicate m 1)
def cnt (ks : List Int) (m : Nat) : Int := (endsC m ks).sum
theorem endsC_snoc (m : Nat) (ks : List Int) (k : Int) : endsC m (ks ++ [k]) = stepC m (endsC m ks) k := by
  unfold endsC; rw [List.foldl_append]; rfl
theorem stepC_len (m : Nat) (e : List Int) (k : Int) : (stepC m e k).length = m := by unfold stepC; rw [List.length_map, List.length_range]
theorem endsC_len (m : Nat) (ks : List Int) : (endsC m ks).length = m := by
  have : ∀ (ks : List Int) (e : List Int), e.length = m → (ks.foldl (stepC m) e).length = m := by
    intro ks
    induction ks with
    | nil => intro e h; exact h
    | cons k r ih => intro e h; rw [List.foldl_cons]; exact ih _ (stepC_len m e k)
  exact this ks _ List.length_replicate
theorem sum_bound {B : Int} (hB : 0 ≤ B) : ∀ {e : List Int}, (∀ x ∈ e, 0 ≤ x ∧ x ≤ B) → 0 ≤ e.sum ∧ e.sum ≤ B * e.length
  | [], _ => by simp
  | a :: r, h => by
    have h1 := h a (List.mem_cons_self ..)
    have h2 := sum_bound hB fun x hx => h x (List.mem_cons_of_mem _ hx)
    rw [List.sum_cons, List.length_cons, Int.natCast_add, Int.mul_add]
    omega
theorem sum_split (e : List Int) (b : Nat) (hb : b < e.length) : e.sum = (e.take b).sum + e.getD b 0 + (e.drop (b + 1)).sum := by
  have h1 : e = e.take b ++ e.drop b := (List.take_append_drop b e).symm
  have h2 : e.drop b = e.getD b 0 :: e.drop (b + 1) := by
    rw [List.drop_eq_getElem_cons hb, List.getD_eq_getElem?_getD, List.getElem?_eq_getElem hb]; rfl
  have h3 : e.sum = (e.take b ++ e.drop b).sum := congrArg List.sum h1
  rw [h2, List.sum_append, List.sum_cons] at h3
  omega
theorem fit_bounds {k f0 f1 f2 : Int} (hk : kindOk k) (h : fitOf k = (f0, f1, f2)) : (0 ≤ f0 ∧ f0 ≤ 1) ∧ (0 ≤ f1 ∧ f1 ≤ 1) ∧ 0 ≤ f2 ∧ f2 ≤ 1 := by
  rcases hk with rfl | rfl | rfl | rfl | rfl | rfl <;> (cases h; decide)
theorem fit_zero {k f0 f1 f2 : Int} (hk : kindOk k) (h : fitOf k = (f0, f1, f2)) : (f0 = 0 ∨ f0 = 1) ∧ (f1 = 0 ∨ f1 = 1) ∧ (f2 = 0 ∨ f2 = 1) := by
  have := fit_bounds hk h
  omega
theorem getD_mem {e : List Int} {b : Nat} (hb : b < e.length) : e.getD b 0 ∈ e := by
  rw [List.getD_eq_getElem?_getD, List.getElem?_eq_getElem hb]; exact List.getElem_mem hb
theorem cell_bound {k B : Int} {e : List Int} {b : Nat} (hB : 0 ≤ B) (hk : kindOk k) (he : ∀ x ∈ e, 0 ≤ x ∧ x ≤ B) (hb : b < e.length) : 0 ≤ cellC (fitOf k) e b ∧ cellC (fitOf k) e b ≤ B * e.length := by
  have h0 := sum_bound hB he
  have h1 := sum_bound hB fun x hx => he x (List.mem_of_mem_take (i := b) hx)
  have h2 := sum_bound hB fun x hx => he x (List.mem_of_mem_drop (i := b + 1) hx)
  have h3 := he _ (getD_mem hb)
  have h4 := sum_split e b hb
  rcases hf : fitOf k with ⟨f0, f1, f2⟩
  obtain ⟨q0, q1, q2⟩ := fit_zero hk hf
  unfold cellC
  dsimp only
  rcases q0 with rfl | rfl <;> rcases q1 with rfl | rfl <;> rcases q2 with rfl | rfl <;> simp only [Int.mul_zero, Int.mul_one] <;> omega
theorem ends_bound {m : Nat} (hm : m ≤ 5) : ∀ (ks : List Int) (e : List Int) (B : Nat), (∀ k ∈ ks, kindOk k) → e.length = m → (∀ x ∈ e, 0 ≤ x ∧ x ≤ (B : Int)) → ∀ x ∈ ks.foldl (stepC m) e, 0 ≤ x ∧ x ≤ ((B * 5 ^ ks.length : Nat) : Int)
  | [], e, B, _, _, he => by simpa using he
  | k :: r, e, B, hk, hl, he => by
    rw [List.foldl_cons]
    have := ends_bound hm r (stepC m e k) (B * 5) (fun x hx => hk x (List.mem_cons_of_mem _ hx)) (stepC_len m e k) fun x hx => by
      unfold stepC at hx
      obtain ⟨b, hb, rfl⟩ := List.mem_map.mp hx
      have hb := List.mem_range.mp hb
      have h := cell_bound (k := k) (b := b) (Int.natCast_nonneg B) (hk k (List.mem_cons_self ..)) he (hl ▸ hb)
      rw [hl] at h
      refine ⟨h.1, Int.le_trans h.2 ?_⟩
      rw [Int.natCast_mul]
      exact Int.mul_le_mul_of_nonneg_left (by omega) (Int.natCast_nonneg B)
    rw [List.length_cons, Nat.pow_succ, Nat.mul_comm (5 ^ r.length) 5, ← Nat.mul_assoc]
    exact this
theorem ends_small {m : Nat} (hm : m ≤ 5) {ks : List Int} (h4 : ks.length ≤ 4) (hk : ∀ k ∈ ks, kindOk k) : ∀ x ∈ ks.foldl (stepC m) (List.replicate m 1), 0 ≤ x ∧ x ≤ 625 := by
  intro x hx
  have := ends_bound hm ks (List.replicate m 1) 1 hk List.length_replicate (fun x hx => by rw [(List.mem_replicate.mp hx).2]; decide) x hx
  have h5 : 5 ^ ks.length ≤ 5 ^ 4 := Nat.pow_le_pow_right (by decide) h4
  refine ⟨this.1, Int.le_trans this.2 ?_⟩
  rw [Nat.one_mul]
  exact Int.ofNat_le.mpr h5
end
section
abbrev F3 (a b c : Int) (t t' t'' : Tok) : Obj := W.listOf #[.int a t, .int b t', .int c t''] 0
/-- the table of fits stands in the ledger -/
def Fits (prog : Program) (w : World) (d : Addr) (X : List (Addr × Obj)) : Prop := ∃ (od : Obj) (kvs : List (Int × Value)), (d, od) ∈ X ∧ od.IsDictOf (PySem.intKind prog w) kvs ∧
  ∀ k, kindOk k → ∃ lf t t' t'', PySem.valueAt kvs k = some (.ref lf) ∧ (lf, F3 (fitOf k).1 (fitOf k).2.1 (fitOf k).2.2 t t' t'') ∈ X
theorem Fits.mono {prog : Program} {w : World} {d : Addr} {X Y : List (Addr × Obj)} (h : Fits prog w d X) (hs : ∀ p ∈ X, p ∈ Y) : Fits prog w d Y := by
  obtain ⟨od, kvs, h1, h2, h3⟩ := h
  refine ⟨od, kvs, hs _ h1, h2, fun k hk => ?_⟩
  obtain ⟨lf, t, t', t'', e1, e2⟩ := h3 k hk
  exact ⟨lf, t, t', t'', e1, hs _ e2⟩
theorem fits_mk {prog : Program} {w : World} {d a1 a2 a3 a4 a5 a6 : Addr} {od : Obj} {t1 t2 t3 t4 t5 t6 t7 t8 t9 u1 u2 u3 u4 u5 u6 u7 u8 u9 : Tok} {X : List (Addr × Obj)} {q1 q2 q3 q4 q5 q6 : Tok}
    (hd : od.IsDictOf (PySem.intKind prog w) (intKeyPairs [(.int 20 q1, .ref a1), (.int 29 q2, .ref a2), (.int 21 q3, .ref a3), (.int 30 q4, .ref a4), (.int 27 q5, .ref a5), (.int 28 q6, .ref a6)]))
    (h0 : (d, od) ∈ X) (h1 : (a1, F3 1 0 0 t1 t2 t3) ∈ X) (h2 : (a2, F3 1 1 0 t4 t5 t6) ∈ X) (h3 : (a3, F3 0 0 1 t7 t8 t9) ∈ X) (h4 : (a4, F3 0 1 1 u1 u2 u3) ∈ X) (h5 : (a5, F3 0 1 0 u4 u5 u6) ∈ X) (h6 : (a6, F3 1 0 1 u7 u8 u9) ∈ X) : Fits prog w d X := by
  refine ⟨od, _, h0, hd, fun k hk => ?_⟩
  rcases hk with rfl | rfl | rfl | rfl | rfl | rfl
  · exact ⟨a1, _, _, _, rfl, h1⟩
  · exact ⟨a2, _, _, _, rfl, h2⟩
  · exact ⟨a3, _, _, _, rfl, h3⟩
  · exact ⟨a4, _, _, _, rfl, h4⟩
  · exact ⟨a5, _, _, _, rfl, h5⟩
  · exact ⟨a6, _, _, _, rfl, h6⟩
section
variable {prog : Program} {w : World} {A : Around} {s : Shared} {h₀ : Heap} {L : Addr} {m : Str → Option Value}
theorem fits_item {E : Value → Shared → Prop} {value slice : PySem.Expr} {k : Int} {u : Tok} {d : Addr} {X news : List (Addr × Obj)} {Q : Value → Shared → Prop} (N : News h₀ L s.heap news) (hf : Fits prog w d X) (hs9 : ∀ p ∈ X, p ∈ news) (hk : kindOk k)
    (h : ∀ lf t t' t'', (lf, F3 (fitOf k).1 (fitOf k).2.1 (fitOf k).2.2 t t' t'') ∈ X → Q (.ref lf) { s with toks := s.toks + 1 })
    (hs : subscripted slice false (.ref d) (.int k u) = operate [.ref d, .int k u] (getItem (.ref d) (.int k u))) (hg : ∀ r, letTemporaryGo value (.ref d) r = pure ()) :
    wpAny (model prog w) A (subscriptTail value slice (.ref d) (.int k u)) Q E s := by
  obtain ⟨od, kvs, h1, h2, h3⟩ := hf
  obtain ⟨lf, t, t', t'', e1, e2⟩ := h3 k hk
  exact kda_item N (hs9 _ h1) h2 (PySem.intKind_is _ _ _ _) e1 (h lf t t' t'' e2) hs hg
/-- what a turn of the count's loop leaves -/
def TurnC (h₀ : Heap) (L : Addr) (m : Nat) (tkm : Tok) (kl d cE cF : Addr) (X : List (Addr × Obj)) (es : List Int) (s : Shared) (f : Flow) (s₂ : Shared) : Prop :=
  f = .next ∧ ∃ (h' : Heap) (tk' : Nat) (m' : Str → Option Value) (D : Addr) (ys : List Value) (ep : Nat) (oE oF : Obj) (v₀ : Option Value), s₂ = { s with heap := h', toks := tk' } ∧ Fr h₀ L h' m' ∧ News h₀ L h' ((cE, oE) :: (cF, oF) :: (D, W.listOf ys.toArray ep) :: X) ∧
    oE.data = .cell (some (.ref D)) ∧ oF.data = .cell v₀ ∧ IntsAre ys es ∧ m' (Str.ofString "kinds") = some (.ref kl) ∧ m' (Str.ofString "m") = some (.int m tkm) ∧ m' (Str.ofString "fits") = some (.ref d) ∧ cE ≠ D ∧ cF ≠ D ∧ (∀ p ∈ X, p.1 ≠ D)
theorem count_iter {env : Env} {E : Value → Shared → Prop} {Q : Flow → Shared → Prop} {body : List Stmt} {kl d cE cF D₀ : Addr} {oE₀ oF₀ : Obj} {vs ys₀ : List Value} {ks es₀ : List Int} {mm : Nat} {tkm : Tok} {ep₀ : Nat} {v₀ : Option Value} {FX news : List (Addr × Obj)} (g : List Int → Int → List Int)
    (hh : A.handled = none) (hl : h₀.IsList kl vs.toArray) (hi : IntsAre vs ks) (F : Fr h₀ env.locals s.heap m) (N : News h₀ env.locals s.heap news) (hn : ∀ p ∈ (cE, oE₀) :: (cF, oF₀) :: (D₀, W.listOf ys₀.toArray ep₀) :: FX, p ∈ news)
    (dE : oE₀.data = .cell (some (.ref D₀))) (dF : oF₀.data = .cell v₀) (hys : IntsAre ys₀ es₀) (a1 : m (Str.ofString "kinds") = some (.ref kl)) (a2 : m (Str.ofString "m") = some (.int mm tkm)) (a3 : m (Str.ofString "fits") = some (.ref d))
    (c1 : cE ≠ D₀) (c2 : cF ≠ D₀) (c3 : ∀ p ∈ FX, p.1 ≠ cE) (c4 : ∀ p ∈ FX, p.1 ≠ cF) (hf : Fits prog w d FX) (hne : cF ≠ cE)
    (turn : ∀ i n t m₁ h tk (D : Addr) (ys : List Value) (ep : Nat) (oE oF : Obj) (v₁ : Option Value) (X : List (Addr × Obj)), ks[i]? = some n → oE.data = .cell (some (.ref D)) → oF.data = .cell v₁ → IntsAre ys ((ks.take i).foldl g es₀) → cE ≠ D → cF ≠ D → (∀ p ∈ X, p.1 ≠ cE) → (∀ p ∈ X, p.1 ≠ cF) → cF ≠ cE →
      (∀ p ∈ X, p.1 ≠ D) → Fits prog w d X → Fr h₀ env.locals h (ov m₁ [(Str.ofString "kind", .int n t), (Str.ofString "kinds", .ref kl), (Str.ofString "m", .int mm tkm), (Str.ofString "fits", .ref d)]) → News h₀ env.locals h ((cE, oE) :: (cF, oF) :: (D, W.listOf ys.toArray ep) :: X) →
      wpAny (model prog w) A (execs body env) (TurnC h₀ env.locals mm tkm kl d cE cF X (g ((ks.take i).foldl g es₀) n) { s with heap := h, toks := tk }) E { s with heap := h, toks := tk })
    (c5 : ∀ p ∈ FX, p.1 ≠ D₀)
    (done : ∀ m₁ h tk (D : Addr) (ys : List Value) (ep : Nat) (oE oF : Obj) (v₁ : Option Value), oE.data = .cell (some (.ref D)) → IntsAre ys (ks.foldl g es₀) → m₁ (Str.ofString "kinds") = some (.ref kl) → m₁ (Str.ofString "m") = some (.int mm tkm) → m₁ (Str.ofString "fits") = some (.ref d) → Fr h₀ env.locals h m₁ →
      News h₀ env.locals h ((cE, oE) :: (cF, oF) :: (D, W.listOf ys.toArray ep) :: FX) → Q .next { s with heap := h, toks := tk }) :
    wpAny (model prog w) A (pyIter (.ref kl)) (fun it s₂ => LoopAtV prog w A h₀ env (Str.ofString "kind") body Q E it s₂) E s := by
  refine iter_invG (fun i m' nx => ∃ (D : Addr) (ys : List Value) (ep : Nat) (oE oF : Obj) (v₁ : Option Value), nx = (cE, oE) :: (cF, oF) :: (D, W.listOf ys.toArray ep) :: FX ∧ oE.data = .cell (some (.ref D)) ∧ oF.data = .cell v₁ ∧ IntsAre ys ((ks.take i).foldl g es₀) ∧
    m' (Str.ofString "kinds") = some (.ref kl) ∧ m' (Str.ofString "m") = some (.int mm tkm) ∧ m' (Str.ofString "fits") = some (.ref d) ∧ cE ≠ D ∧ cF ≠ D ∧ (∀ p ∈ FX, p.1 ≠ D)) hh hl hi F (fun p hp => N p (hn p hp)) ⟨D₀, ys₀, ep₀, oE₀, oF₀, v₀, rfl, dE, dF, hys, a1, a2, a3, c1, c2, c5⟩ ?_ ?_
  · rintro i n t m₁ nx h tk own hin _ hoff ⟨D, ys, ep, oE, oF, v₁, rfl, e1, e2, e3, b1, b2, b3, b4, b5, b6⟩ F₁ N₁
    have off : ∀ p ∈ own, ∀ b ∈ cE :: cF :: D :: FX.map (·.1), p.1 ≠ b := fun p hp b hb => hoff p hp b (by simpa using hb)
    have hX1 : ∀ p ∈ FX ++ own, p.1 ≠ cE := fun p hp => (List.mem_append.mp hp).elim (c3 p) fun hp => off p hp cE (List.mem_cons_self ..)
    have hX2 : ∀ p ∈ FX ++ own, p.1 ≠ cF := fun p hp => (List.mem_append.mp hp).elim (c4 p) fun hp => off p hp cF (List.mem_cons_of_mem _ (List.mem_cons_self ..))
    have hX3 : ∀ p ∈ FX ++ own, p.1 ≠ D := fun p hp => (List.mem_append.mp hp).elim (b6 p) fun hp => off p hp D (List.mem_cons_of_mem _ (List.mem_cons_of_mem _ (List.mem_cons_self ..)))
    have F₂ : Fr h₀ env.locals h (ov (fun y => if y = Str.ofString "kind" then some (.int n t) else m₁ y) [(Str.ofString "kind", .int n t), (Str.ofString "kinds", .ref kl), (Str.ofString "m", .int mm tkm), (Str.ofString "fits", .ref d)]) :=
      fr_ov F₁ ⟨if_pos rfl, (if_neg (show ¬ Str.ofString "kinds" = Str.ofString "kind" by decide)).trans b1, (if_neg (show ¬ Str.ofString "m" = Str.ofString "kind" by decide)).trans b2, (if_neg (show ¬ Str.ofString "fits" = Str.ofString "kind" by decide)).trans b3, trivial⟩
    refine wpAny_mono (turn i n t _ h tk D ys ep oE oF v₁ (FX ++ own) hin e1 e2 e3 b4 b5 hX1 hX2 hne hX3 (hf.mono fun p hp => List.mem_append_left _ hp) F₂ N₁) (fun f s₂ q => ?_) fun _ _ x => x
    obtain ⟨rfl, h', tk', m', D', ys', ep', oE', oF', v', rfl, F', N', d1, d2, d3, d4, d5, d6, d7, d8, d9⟩ := q
    refine ⟨h', tk', m', _, (cE, oE') :: (cF, oF') :: (D', W.listOf ys'.toArray ep') :: FX, rfl, F', N', ?_, ?_, ?_, ?_⟩
    · intro p hp
      simp only [List.mem_cons, List.mem_append] at hp ⊢
      rcases hp with h | h | h | h
      · exact .inl h
      · exact .inr (.inl h)
      · exact .inr (.inr (.inl h))
      · exact .inr (.inr (.inr (.inl h)))
    · intro p hp
      simp only [List.mem_cons, List.mem_append]
      exact .inr (.inr (.inr (.inr hp)))
    · intro p hp b hb
      simp only [List.map_cons, List.mem_cons] at hb
      rcases hb with rfl | rfl | rfl | hb
      · exact hX1 p (List.mem_append_right _ hp)
      · exact hX2 p (List.mem_append_right _ hp)
      · exact d9 p (List.mem_append_right _ hp)
      · exact off p hp b (List.mem_cons_of_mem _ (List.mem_cons_of_mem _ (List.mem_cons_of_mem _ hb)))
    · refine ⟨D', ys', ep', oE', oF', v', rfl, d1, d2, ?_, d4, d5, d6, d7, d8, fun p hp => d9 p (List.mem_append_left _ hp)⟩
      rw [List.take_add_one, hin, List.foldl_append]
      exact d3
  · rintro m₁ nx h tk ⟨D, ys, ep, oE, oF, v₁, rfl, e1, e2, e3, b1, b2, b3, b4, b5, b6⟩ F₁ N₁
    rw [List.take_length] at e3
    exact done m₁ h tk D ys ep oE oF v₁ e1 e3 b1 b2 b3 F₁ N₁
end
end
section
theorem rep_one (m : Nat) : (List.replicate ((m : Int)).toNat ([1] : List Int)).flatten = List.replicate m 1 := by
  rw [Int.toNat_natCast]
  induction m with
  | zero => rfl
  | succ m ih => rw [List.replicate_succ, List.replicate_succ, List.flatten_cons, ih]; rfl
theorem off1_mem {D : Addr} : ∀ {l : List (Addr × Obj)}, LCg.Off1 D l → ∀ p ∈ l, p.1 ≠ D
  | [], _, _, h => nomatch h
  | _ :: _, x, p, h => by
    rcases List.mem_cons.mp h with rfl | h
    · exact x.1
    · exact off1_mem x.2 p h
theorem news_also {h₀ h : Heap} {L : Addr} {x : Addr × Obj} {ns : List (Addr × Obj)} (N : News h₀ L h ns) (hx : x ∈ ns) : News h₀ L h (x :: ns) := fun p hp => (List.mem_cons.mp hp).elim (fun e => N p (e ▸ hx)) (N p)
theorem ord9 {c f d a1 a2 a3 a4 a5 a6 D : Nat} (ho : c < f ∧ f < d ∧ d < a1 ∧ a1 < a2 ∧ a2 < a3 ∧ a3 < a4 ∧ a4 < a5 ∧ a5 < a6 ∧ a6 < D) :
    c ≠ D ∧ f ≠ D ∧ f ≠ c ∧ ∀ x ∈ [a6, a5, a4, a3, a2, a1, d], x ≠ c ∧ x ≠ f ∧ x ≠ D := by
  refine ⟨by omega, by omega, by omega, fun x hx => ?_⟩
  simp only [List.mem_cons, List.not_mem_nil, or_false] at hx
  omega
section
variable {prog : Program} {w : World} {A : Around} {s : Shared} {h₀ : Heap} {L : Addr} {m : Str → Option Value}
theorem count_start {env : Env} {E : Value → Shared → Prop} {Q : Flow → Shared → Prop} {body : List Stmt} {kl d cE cF D₀ l0 a1 a2 a3 a4 a5 a6 : Addr} {O0 od oE₀ oF₀ : Obj} {vs ys₀ : List Value} {ks es₀ : List Int} {mm : Nat} {tkm : Tok} {ep₀ : Nat} {v₀ : Option Value}
    {t1 t2 t3 t4 t5 t6 t7 t8 t9 u1 u2 u3 u4 u5 u6 u7 u8 u9 q1 q2 q3 q4 q5 q6 : Tok} (g : List Int → Int → List Int)
    (hl : h₀.IsList kl vs.toArray) (hi : IntsAre vs ks) (F : Fr h₀ env.locals s.heap m)
    (N : News h₀ env.locals s.heap [(D₀, W.listOf ys₀.toArray ep₀), (l0, O0), (a6, F3 1 0 1 u7 u8 u9), (a5, F3 0 1 0 u4 u5 u6), (a4, F3 0 1 1 u1 u2 u3), (a3, F3 0 0 1 t7 t8 t9), (a2, F3 1 1 0 t4 t5 t6), (a1, F3 1 0 0 t1 t2 t3), (d, od), (cF, oF₀), (cE, oE₀)])
    (hd : od.IsDictOf (PySem.intKind prog w) (intKeyPairs [(.int 20 q1, .ref a1), (.int 29 q2, .ref a2), (.int 21 q3, .ref a3), (.int 30 q4, .ref a4), (.int 27 q5, .ref a5), (.int 28 q6, .ref a6)]))
    (dE : oE₀.data = .cell (some (.ref D₀))) (dF : oF₀.data = .cell v₀) (hys : IntsAre ys₀ es₀) 
    (ho : (cE : Nat) < cF ∧ (cF : Nat) < d ∧ (d : Nat) < a1 ∧ (a1 : Nat) < a2 ∧ (a2 : Nat) < a3 ∧ (a3 : Nat) < a4 ∧ (a4 : Nat) < a5 ∧ (a5 : Nat) < a6 ∧ (a6 : Nat) < D₀)
    (hh : A.handled = none) (e1 : m (Str.ofString "kinds") = some (.ref kl)) (e2 : m (Str.ofString "m") = some (.int mm tkm)) (e3 : m (Str.ofString "fits") = some (.ref d))
    (turn : ∀ i n t m₁ h tk (D : Addr) (ys : List Value) (ep : Nat) (oE oF : Obj) (v₁ : Option Value) (X : List (Addr × Obj)), ks[i]? = some n → oE.data = .cell (some (.ref D)) → oF.data = .cell v₁ → IntsAre ys ((ks.take i).foldl g es₀) → cE ≠ D → cF ≠ D → (∀ p ∈ X, p.1 ≠ cE) → (∀ p ∈ X, p.1 ≠ cF) → cF ≠ cE →
      (∀ p ∈ X, p.1 ≠ D) → Fits prog w d X → Fr h₀ env.locals h (ov m₁ [(Str.ofString "kind", .int n t), (Str.ofString "kinds", .ref kl), (Str.ofString "m", .int mm tkm), (Str.ofString "fits", .ref d)]) → News h₀ env.locals h ((cE, oE) :: (cF, oF) :: (D, W.listOf ys.toArray ep) :: X) →
      wpAny (model prog w) A (execs body env) (TurnC h₀ env.locals mm tkm kl d cE cF X (g ((ks.take i).foldl g es₀) n) { s with heap := h, toks := tk }) E { s with heap := h, toks := tk })
    (done : ∀ m₁ h tk (D : Addr) (ys : List Value) (ep : Nat) (oE oF : Obj) (v₁ : Option Value) (FX : List (Addr × Obj)), oE.data = .cell (some (.ref D)) → IntsAre ys (ks.foldl g es₀) → m₁ (Str.ofString "kinds") = some (.ref kl) → m₁ (Str.ofString "m") = some (.int mm tkm) → m₁ (Str.ofString "fits") = some (.ref d) → Fr h₀ env.locals h m₁ →
      News h₀ env.locals h ((cE, oE) :: (cF, oF) :: (D, W.listOf ys.toArray ep) :: FX) → Q .next { s with heap := h, toks := tk }) :
    wpAny (model prog w) A (pyIter (.ref kl)) (fun it s₂ => LoopAtV prog w A h₀ env (Str.ofString "kind") body Q E it s₂) E s := by
  obtain ⟨o1, o2, o3, o4⟩ := ord9 ho
  have o5 : ∀ p ∈ [(a6, F3 1 0 1 u7 u8 u9), (a5, F3 0 1 0 u4 u5 u6), (a4, F3 0 1 1 u1 u2 u3), (a3, F3 0 0 1 t7 t8 t9), (a2, F3 1 1 0 t4 t5 t6), (a1, F3 1 0 0 t1 t2 t3), (d, od)], p.1 ≠ cE ∧ p.1 ≠ cF ∧ p.1 ≠ D₀ := fun p hp => o4 p.1 (List.mem_map.mpr ⟨p, hp, rfl⟩ : p.1 ∈ List.map (·.1) [(a6, F3 1 0 1 u7 u8 u9), (a5, F3 0 1 0 u4 u5 u6), (a4, F3 0 1 1 u1 u2 u3), (a3, F3 0 0 1 t7 t8 t9), (a2, F3 1 1 0 t4 t5 t6), (a1, F3 1 0 0 t1 t2 t3), (d, od)])
  refine count_iter (cE := cE) (cF := cF) (D₀ := D₀) (oE₀ := oE₀) (oF₀ := oF₀) (ys₀ := ys₀) (ep₀ := ep₀) (FX := [(a6, F3 1 0 1 u7 u8 u9), (a5, F3 0 1 0 u4 u5 u6), (a4, F3 0 1 1 u1 u2 u3), (a3, F3 0 0 1 t7 t8 t9), (a2, F3 1 1 0 t4 t5 t6), (a1, F3 1 0 0 t1 t2 t3), (d, od)]) g hh hl hi F N ?_ dE dF hys e1 e2 e3 o1 o2 (fun p hp => (o5 p hp).1) (fun p hp => (o5 p hp).2.1) ?_ o3 turn (fun p hp => (o5 p hp).2.2) (fun m₁ h tk D ys ep oE oF v₁ b1 b2 b3 b4 b5 b6 b7 => done m₁ h tk D ys ep oE oF v₁ _ b1 b2 b3 b4 b5 b6 b7)
  · intro p hp
    simp only [List.mem_cons, List.not_mem_nil, or_false] at hp
    rcases hp with rfl | rfl | rfl | rfl | rfl | rfl | rfl | rfl | rfl | rfl <;> simp only [List.mem_cons, true_or, or_true]
  · exact fits_mk hd (List.mem_cons_of_mem _ (List.mem_cons_of_mem _ (List.mem_cons_of_mem _ (List.mem_cons_of_mem _ (List.mem_cons_of_mem _ (List.mem_cons_of_mem _ (List.mem_cons_self ..))))))) (List.mem_cons_of_mem _ (List.mem_cons_of_mem _ (List.mem_cons_of_mem _ (List.mem_cons_of_mem _ (List.mem_cons_of_mem _ (List.mem_cons_self ..)))))) (List.mem_cons_of_mem _ (List.mem_cons_of_mem _ (List.mem_cons_of_mem _ (List.mem_cons_of_mem _ (List.mem_cons_self ..))))) (List.mem_cons_of_mem _ (List.mem_cons_of_mem _ (List.mem_cons_of_mem _ (List.mem_cons_self ..)))) (List.mem_cons_of_mem _ (List.mem_cons_of_mem _ (List.mem_cons_self ..))) (List.mem_cons_of_mem _ (List.mem_cons_self ..)) (List.mem_cons_self ..)
theorem pick_to (l : List Value) {b : Int} {j : Nat} (hb : b = j) : kms_pick l none (some b) = l.take j := by
  subst hb
  unfold kms_pick kms_lo kms_hi
  dsimp only
  rw [if_neg (by omega), Int.toNat_natCast, List.drop_zero, Nat.sub_zero]
  by_cases hj : j ≤ l.length
  · rw [Nat.min_eq_left hj]
  · rw [List.take_of_length_le (by omega), List.take_of_length_le (by omega)]
theorem pick_from (l : List Value) {b : Int} {j : Nat} (hb : b = j) : kms_pick l (some b) none = l.drop j := by
  subst hb
  unfold kms_pick kms_lo kms_hi
  dsimp only
  rw [if_neg (by omega), Int.toNat_natCast]
  by_cases hj : j ≤ l.length
  · rw [Nat.min_eq_left hj, List.take_of_length_le (by rw [List.length_drop]; omega)]
  · rw [show min j l.length = l.length by omega, List.drop_eq_nil_iff.mpr (Nat.le_refl _), List.drop_eq_nil_iff.mpr (by omega : l.length ≤ j), List.take_nil]
theorem ints_item {E : Value → Shared → Prop} {value slice : PySem.Expr} {i : Int} {u : Tok} {l : Addr} {vs : List Value} {ns : List Int} {ep k : Nat} {news : List (Addr × Obj)} {Q : Value → Shared → Prop} (N : News h₀ L s.heap news) (hl : (l, W.listOf vs.toArray ep) ∈ news) (hi : IntsAre vs ns) (he : i = (k : Int)) (hk : k < ns.length) (hb : k < 1000000)
    (h : ∀ t, Q (.int (ns.getD k 0) t) s)
    (hs : subscripted slice false (.ref l) (.int i u) = operate [.ref l, .int i u] (getItem (.ref l) (.int i u))) : wpAny (model prog w) A (subscriptTail value slice (.ref l) (.int i u)) Q E s := by
  subst he
  have hkl : k < vs.length := by rw [hi.length]; exact hk
  have hv : vs[k]? = some (vs[k]'hkl) := by simp [hkl]
  obtain ⟨n, t, e, e2⟩ := hi.at k _ hv
  rw [e] at hv
  have hL := News.isList N hl
  refine tail_any hL.typeIs slot_list_getitem.lookup (wpAny_getItem_list hL (by omega) (by omega) (by simpa using hv) ?_) hs
  have e3 : ns.getD k 0 = n := by rw [List.getD_eq_getElem?_getD, e2]; rfl
  rw [← e3]
  exact h t
end
theorem ints_cons {ys : List Value} {ns : List Int} {n : Nat} (h : IntsAre ys ns) (hl : ns.length = n + 1) : ∃ a t ys' ns', ys = .int a t :: ys' ∧ ns = a :: ns' ∧ IntsAre ys' ns' ∧ ns'.length = n := by
  cases h with
  | nil => cases hl
  | cons a t h => exact ⟨a, t, _, _, rfl, rfl, h, Nat.succ.inj hl⟩
theorem ints_none {ys : List Value} {ns : List Int} (h : IntsAre ys ns) (hl : ns.length = 0) : ys = [] ∧ ns = [] := by
  cases h with
  | nil => exact ⟨rfl, rfl⟩
  | cons a t h => cases hl
theorem ints_six {ys : List Value} {ns : List Int} (h : IntsAre ys ns) (hl : ns.length = 6) : ∃ q0 q1 q2 q3 q4 q5 t0 t1 t2 t3 t4 t5, ys = [.int q0 t0, .int q1 t1, .int q2 t2, .int q3 t3, .int q4 t4, .int q5 t5] ∧ ns = [q0, q1, q2, q3, q4, q5] := by
  obtain ⟨_, _, _, _, rfl, rfl, h, hl⟩ := ints_cons h hl
  obtain ⟨_, _, _, _, rfl, rfl, h, hl⟩ := ints_cons h hl
  obtain ⟨_, _, _, _, rfl, rfl, h, hl⟩ := ints_cons h hl
  obtain ⟨_, _, _, _, rfl, rfl, h, hl⟩ := ints_cons h hl
  obtain ⟨_, _, _, _, rfl, rfl, h, hl⟩ := ints_cons h hl
  obtain ⟨_, _, _, _, rfl, rfl, h, hl⟩ := ints_cons h hl
  obtain ⟨rfl, rfl⟩ := ints_none h hl
  exact ⟨_, _, _, _, _, _, _, _, _, _, _, _, rfl, rfl⟩
end
section
theorem fn_count (w : World) (kl : Addr) (ks : List Int) (vs : List Value) (hks : IntsAre vs ks) (m : Nat) (t : Tok) (hm : m ≤ 5) (hl4 : ks.length ≤ 4) (hok : ∀ k ∈ ks, kindOk k) : Fn w 0 88 1 400 [.ref kl, .int m t] (fun news => ∃ ep, (kl, W.listOf vs.toArray ep) ∈ news) (fun _ new v => new = [] ∧ ∃ t, v = .int (cnt ks m) t) := by
  w_top off
  k_with_none
  k_with "execs cons" => (k_here; k_fold)
  k_with "execs nil" => (k_here; k_fold)
  k_with "exec For Name Name cons nil" => (k_here; refine Halt.go ?_)
  k_with "pyIter ref" => (k_here; refine Halt.go ?_)
  k_with "subscriptTail Name Name ref int" => (k_here; refine Halt.go ?_)
  k_with "call builtin:sum" => (k_here; refine Halt.go ?_)
  k_with "subscriptTail Name Slice ref ref" => (k_here; refine Halt.go ?_)
  k_with "CompSrc" => (k_here; refine Halt.go ?_)
  ((have hfill : Challenge.rw_pg0195_01.row.prog = Challenge.rw_pg0195_01.row.prog ∧ hd.heap_1_1 = hd.heap_1_1 := by k_fill; exact ⟨rfl, rfl⟩); clear hfill; refine' fn_of ?ho ?hcd ?hb ?hk ?hn ?h1 ?h2 ?h3 ?_; (case ho => k_is); (case hcd => k_is); (case hb => exact rfl); (case hk => exact rfl); (case hn => decide +kernel); (case h1 => exact rfl); (case h2 => exact rfl); (case h3 => exact rfl); k_whole; intro dpz unz gdz cnz csz az ccdz clz outerz basez h0z Lz mz newsz sz Qz Ez meanz mgz mbz Lzp h1z tkz cellsz kcz N0z hprez hdpz hunz Fzp Nzp Yzp Bzp Xzp Tzp hretz; (first | k_cells Yzp | cases Yzp); (try simp only [List.cons_append, List.nil_append] at Nzp); (try dsimp only); (try k_fold))
  (try k_fold)
  k_steps
  (with_reducible rename ∀ (v : Value) (new : List (Addr × Obj)) (h' : Heap) (tk' : Nat) (L₂ : Addr) (m₂ : Str → Option Value), _ => hret)
  (with_reducible rename Fr _ _ _ _ => F9)
  (with_reducible rename News _ _ _ _ => N9)
  (with_reducible rename ∃ ep, (kl, _) ∈ _ => hpre)
  unfold Halt
  refine For_invVF F9 (by rfl) (by rfl) ?_
  (try k_fold)
  k_steps
  unfold Halt
  obtain ⟨epk, hmk⟩ := hpre
  have hkL := News.isList (by assumption) hmk
  (with_reducible rename Obj.IsDictOf _ _ (intKeyPairs [(_, _), (_, _), (_, _), (_, _), (_, _), (_, _)]) => hdict)
  (with_reducible rename IntsAre (List.flatten _) _ => hys)
  rw [rep_one] at hys
  (with_reducible rename _ = Data.cell (some _) => dE)
  refine count_start (stepC m) hkL hks F9 N9 hdict dE (by assumption) hys ?ho rfl rfl rfl rfl ?turn ?done
  case ho => refine ⟨Nat.lt_succ_self _, ?_, ?_, ?_, ?_, ?_, ?_, ?_, ?_⟩ <;> first | assumption | (apply And.left; assumption) | (apply And.left; apply And.right; assumption)
  case done =>
    clear F9 N9 hys dE hdict
    (repeat ((with_reducible rename ((_ : Nat) < _ ∧ _) => hz9); clear hz9))
    intro m₁ h tk D ys ep oE oF v₁ FX dE hys a1 a2 a3 F N
    have F := fr_ov F (ps := [(Str.ofString "kinds", .ref kl), (Str.ofString "m", .int m _), (Str.ofString "fits", .ref _)]) ⟨a1, a2, a3, trivial⟩
    (try k_fold)
    k_steps
    unfold Halt
    refine LSm.sum_ints F N rfl (News.isList (items := ys.toArray) (n := ep) N (show (D, W.listOf ys.toArray ep) ∈ _ from List.mem_cons_of_mem _ (List.mem_cons_of_mem _ (List.mem_cons_self ..)))) hys ?_
    intro h9 tk9 t9 F9 N9
    exact hret _ [] _ _ _ _ F9 (fun _ hp => nomatch hp) ⟨rfl, _, rfl⟩
  case turn =>
    clear F9 N9 hys dE hdict
    (repeat ((with_reducible rename ((_ : Nat) < _ ∧ _) => hz9); clear hz9))
    intro i n t m₁ h tk D ys ep oE oF v₁ X hin dE dF hys n1 n2 n3 n4 n5 n6 hf F N
    have hnm : n ∈ ks := List.mem_of_getElem? hin
    have hes := ends_small hm (ks := ks.take i) (by rw [List.length_take]; omega) fun k hk => hok k (List.mem_of_mem_take hk)
    rcases hfe : fitOf n with ⟨f0, f1, f2⟩
    obtain ⟨⟨p1, p2⟩, ⟨p3, p4⟩, p5, p6⟩ := fit_bounds (hok n hnm) hfe
    (try k_fold)
    k_steps
    unfold Halt
    refine fits_item N hf (fun p hp => List.mem_cons_of_mem _ (List.mem_cons_of_mem _ (List.mem_cons_of_mem _ hp))) (hok n hnm) (fun lf b1 b2 b3 hlf => ?_) (by with_unfolding_all rfl) (fun _ => rfl)
    rw [hfe] at hlf
    dsimp only at hlf
    refine' storeX_C F N ?zC (UpdF.tail (Ne.symm n5) (UpdF.head ?hu)) dF ?_ ?zA ?zB
    case zC => rfl
    case zA => rfl
    case zB => rfl
    case hu => 
      intro p hp
      rcases List.mem_cons.mp hp with rfl | hp
      · exact Ne.symm n2
      · exact n4 p hp
    clear F N
    intro h2 oF2 F N dF2
    have N := news_also N (List.mem_cons_of_mem _ (List.mem_cons_of_mem _ (List.mem_cons_of_mem _ hlf)))
    (try k_fold)
    k_steps
    unfold Halt
    clear N
    (with_reducible rename Fr _ _ _ _ => F9)
    (with_reducible rename News _ _ _ _ => N9)
    refine LCg.CompSrc.range rfl F9 N9 (by assumption) (small_one (by omega) (by omega) (by omega) (by omega)) (rangeSize_nat _ _) (by rw [sizeLine_eq]; omega) ?_
    intro g
    clear F9 N9
    refine rest_of (fun j zs nx => nx = (lf, F3 f0 f1 f2 b1 b2 b3) :: (_, oE) :: (_, oF2) :: (D, W.listOf ys.toArray ep) :: X ∧ IntsAre zs ((List.range j).map (cellC (f0, f1, f2) ((ks.take i).foldl (stepC m) (List.replicate m 1))))) ?fin ?step _ 0 [] _ (Nat.zero_add _) ⟨rfl, .nil⟩
    case step =>
      intro b zs nx v I oI C oC D' m₂ h tk E' hi hJ hP hC hx F N off ne
      obtain ⟨rfl, hzs⟩ := hJ
      obtain ⟨tb, rfl⟩ := hP
      have hyl : ys.length = m := by rw [hys.length]; exact endsC_len m _
      rw [show ((m : Int) - 0).toNat = m by omega] at hi
      (try k_fold)
      k_steps
      unfold Halt
      refine kms_slice_lit (by assumption) (by assumption) (News.isList (items := ys.toArray) (n := ep) (by assumption) (show (D, W.listOf ys.toArray ep) ∈ _ by simp only [List.mem_cons, true_or, or_true])) .none (.int _ _) (show kms_pick ys.toArray.toList none (some _) = ys.take b from pick_to _ (Int.zero_add _)) ?_ (by with_unfolding_all rfl) (fun _ => rfl) (by rw [List.size_toArray, sizeLine_eq]; omega)
      intro D2 h9 F9 N9 _
      (try k_fold)
      k_steps
      unfold Halt
      refine LSm.sum_ints F9 N9 rfl (News.isList (items := (ys.take b).toArray) (n := 0) N9 (show (D2, W.listOf (ys.take b).toArray 0) ∈ _ from List.mem_cons_self ..)) (hys.take b) ?_
      clear F9 N9
      intro h9 tk9 t9 F9 N9
      have hylm : ((ks.take i).foldl (stepC m) (List.replicate m 1)).length = m := endsC_len m _
      have hbl : b < ((ks.take i).foldl (stepC m) (List.replicate m 1)).length := by rw [hylm]; exact hi
      have hb1 := sum_bound (by decide) fun x hx => hes x (List.mem_of_mem_take (i := b) hx)
      have hb2 := sum_bound (by decide) fun x hx => hes x (List.mem_of_mem_drop (i := b + 1) hx)
      have hb3 := hes _ (getD_mem hbl)
      rw [List.length_take, hylm] at hb1
      rw [List.length_drop, hylm] at hb2
      generalize hg1 : (List.take b ((ks.take i).foldl (stepC m) (List.replicate m 1))).sum = g1 at hb1 ⊢
      have hb11 : 0 ≤ g1 ∧ g1 ≤ 3125 := by omega
      (try k_fold)
      k_steps
      unfold Halt
      refine ints_item (ep := ep) (by assumption) (by simp only [List.mem_cons, true_or, or_true]) hys (Int.zero_add _) hbl (by omega) (fun t8 => ?_) (by with_unfolding_all rfl)
      generalize hg2 : List.getD ((ks.take i).foldl (stepC m) (List.replicate m 1)) b 0 = g2 at hb3 ⊢
      have hb33 : 0 ≤ g2 ∧ g2 ≤ 3125 := by omega
      (try k_fold)
      k_steps
      unfold Halt
      refine kms_slice_lit (by assumption) (by assumption) (News.isList (items := ys.toArray) (n := ep) (by assumption) (show (D, W.listOf ys.toArray ep) ∈ _ by simp only [List.mem_cons, true_or, or_true])) (.int _ _) .none (show kms_pick ys.toArray.toList (some _) none = ys.drop (b + 1) from pick_from _ (by omega : (0 : Int) + b + 1 = ((b + 1 : Nat) : Int))) ?_ (by with_unfolding_all rfl) (fun _ => rfl) (by rw [List.size_toArray, sizeLine_eq]; omega)
      intro D2 h9 F9 N9 _
      (try k_fold)
      k_steps
      unfold Halt
      refine LSm.sum_ints F9 N9 rfl (News.isList (items := (ys.drop (b + 1)).toArray) (n := 0) N9 (show (D2, W.listOf (ys.drop (b + 1)).toArray 0) ∈ _ from List.mem_cons_self ..)) (hys.drop (b + 1)) ?_
      clear F9 N9
      intro h9 tk9 t9 F9 N9
      generalize hg3 : (List.drop (b + 1) ((ks.take i).foldl (stepC m) (List.replicate m 1))).sum = g3 at hb2 ⊢
      have hb22 : 0 ≤ g3 ∧ g3 ≤ 3125 := by omega
      (try k_fold)
      k_steps
      (with_reducible rename Fr _ _ _ _ => F8)
      (with_reducible rename News _ _ _ _ => N8)
      refine LCg.CompEnd.intro F8 N8 _ (fun p hp => List.mem_cons_of_mem _ (List.mem_cons_of_mem _ hp)) off trivial ⟨rfl, ?_⟩
      rw [List.range_succ, List.map_append]
      have he : cellC (f0, f1, f2) ((ks.take i).foldl (stepC m) (List.replicate m 1)) b = g1 * f0 + g2 * f1 + g3 * f2 := by unfold cellC; rw [hg1, hg2, hg3]
      rw [show List.map (cellC (f0, f1, f2) ((ks.take i).foldl (stepC m) (List.replicate m 1))) [b] = [g1 * f0 + g2 * f1 + g3 * f2] from congrArg (fun x => [x]) he]
      exact hzs.append (.cons _ _ .nil)
    case fin => 
      rintro zs nx ⟨rfl, hzs⟩
      intro D' h tk F N off
      have offm := off1_mem off
      have o1 := offm (_, oE) (List.mem_cons_of_mem _ (List.mem_cons_self ..))
      have o2 := offm (_, oF2) (List.mem_cons_of_mem _ (List.mem_cons_of_mem _ (List.mem_cons_self ..)))
      have o3 := fun p hp => offm p (List.mem_cons_of_mem _ (List.mem_cons_of_mem _ (List.mem_cons_of_mem _ (List.mem_cons_of_mem _ hp))))
      have N : News _ _ h ((D', LCg.lst zs) :: (_, oE) :: (_, oF2) :: (D, W.listOf ys.toArray ep) :: X) := fun p hp => N p ((List.mem_cons.mp hp).elim (fun e => e ▸ List.mem_cons_self ..) fun hp => List.mem_cons_of_mem _ (List.mem_cons_of_mem _ hp))
      refine' storeX_C F N ?zC (UpdF.tail (Ne.symm o1) (UpdF.head ?hu)) dE ?_ ?zA ?zB
      case zC => rfl
      case zA => rfl
      case zB => rfl
      case hu => 
        intro p hp
        rcases List.mem_cons.mp hp with rfl | hp
        · exact n5
        rcases List.mem_cons.mp hp with rfl | hp
        · exact Ne.symm n1
        · exact n3 p hp
      clear F N
      intro h3 oE3 F N dE3
      (try k_fold)
      k_steps
      have hz : IntsAre zs (stepC m ((ks.take i).foldl (stepC m) (List.replicate m 1)) n) := by
        unfold stepC
        rw [hfe]
        rw [show ((m : Int) - 0).toNat = m by omega] at hzs
        exact hzs
      exact ⟨rfl, _, _, _, D', zs, _, oE3, oF2, _, rfl, F, fun p hp => N p (by
        rcases List.mem_cons.mp hp with rfl | hp
        · exact List.mem_cons_of_mem _ (List.mem_cons_self ..)
        rcases List.mem_cons.mp hp with rfl | hp
        · exact List.mem_cons_of_mem _ (List.mem_cons_of_mem _ (List.mem_cons_self ..))
        rcases List.mem_cons.mp hp with rfl | hp
        · exact List.mem_cons_self ..
        exact List.mem_cons_of_mem _ (List.mem_cons_of_mem _ (List.mem_cons_of_mem _ (List.mem_cons_of_mem _ hp)))), dE3, dF2, hz, rfl, rfl, rfl, o1, o2, o3⟩
end
section
def spanI (lo hi : Int) : List Int := (List.range (hi - lo).toNat).map fun i : Nat => lo + (i : Int)
def stepW (k m : Nat) (p : Int × Int) : List (Int × Int) := match k with
  | 0 => (spanI p.1 m).map fun b => (b, p.2)
  | 1 => (spanI (p.1 + 1) m).map fun b => (b, p.2)
  | 2 => (spanI 0 (p.1 + 1)).map fun b => (b, p.2)
  | 3 => (spanI 0 p.1).map fun b => (b, p.2)
  | 4 => [(p.1, -p.2)]
  | _ => (spanI 0 m).map fun b => (b, if b = p.1 then 2 * p.2 else p.2)
def startW (m : Nat) : List (Int × Int) := (spanI 0 m).map fun a => (a, 1)
def waysW (ks : List Nat) (m : Nat) : List (Int × Int) := ks.foldl (fun ws k => ws.flatMap (stepW k m)) (startW m)
def allW (ks : List Nat) (m : Nat) : Int := ((waysW ks m).map (·.2)).sum
def sgStr (k : Nat) : Str := match k with
  | 0 => Str.ofString "<"
  | 1 => Str.ofString "<="
  | 2 => Str.ofString ">"
  | 3 => Str.ofString ">="
  | 4 => Str.ofString "=="
  | _ => Str.ofString "!="
def wayDat (p : Int × Int) : Dat := .tuple [.int p.1, .int p.2]
section
variable {prog : Program} {w : World} {A : Around} {E : Value → Shared → Prop} {s : Shared} {env : Env} {h₀ : Heap} {target : Expr} {body : List Stmt} {Q : Flow → Shared → Prop}
/-- the turns of a loop over a list of the ledger, by what holds between them -/
theorem items_inv {I : Addr} {keep : List (Addr × Obj)} {vs : List Value} (J : Nat → (Str → Option Value) → List (Addr × Obj) → Prop)
    (done : ∀ m nx h tk, J vs.length m nx → Fr h₀ env.locals h m → News h₀ env.locals h nx → Q .next { s with heap := h, toks := tk })
    (turn : ∀ i v m nx h tk oI, vs[i]? = some v → J i m nx → (∀ p ∈ nx, p.1 ≠ I) → oI.cls = .type "list_iterator" → Fr h₀ env.locals h m → News h₀ env.locals h ((I, oI) :: nx) →
      wpAny (model prog w) A (assign target env v) (fun _ s₂ => wpAny (model prog w) A (execs body env) (UnrPostW h₀ env.locals { s with heap := h, toks := tk } [(I, oI)] (fun m' n' => SubL keep n' ∧ (∀ p ∈ n', p.1 ≠ I) ∧ J (i + 1) m' n') Q) E s₂) E { s with heap := h, toks := tk }) :
    ∀ k i m nx, i + k = vs.length → (∀ p ∈ nx, p.1 ≠ I) → J i m nx → ItemsRest prog w A E h₀ env target body Q s [(I, "list_iterator")] keep ((vs.drop i).map .val) m nx := by
  intro k
  induction k with
  | zero =>
    intro i m nx hi hI hj
    rw [Nat.add_zero] at hi
    subst hi
    rw [List.drop_length]
    exact ItemsRest.zero fun h tk F N => done m nx h tk hj F N
  | succ k ih =>
    intro i m nx hi hI hj
    have hlt : i < vs.length := by omega
    rw [List.drop_eq_getElem_cons hlt]
    refine ItemsRest.val fun h tk F => AllObj.cons fun oI hc => AllObj.nil fun N => ?_
    refine wpAny_mono (turn i _ m nx h tk oI (List.getElem?_eq_getElem hlt) hj hI hc F N) (fun _ s₂ h₂ => wpAny_mono h₂ (fun f s₃ q => ?_) fun _ _ e => e) fun _ _ e => e
    have fin : UnrEndW h₀ env.locals { s with heap := h, toks := tk } [(I, oI)] (fun m' n' => SubL keep n' ∧ (∀ p ∈ n', p.1 ≠ I) ∧ J (i + 1) m' n') s₃ → UnrEndW h₀ env.locals { s with heap := h, toks := tk } [(I, oI)] (fun m' n' => SubL keep n' ∧ ItemsRest prog w A E h₀ env target body Q s [(I, "list_iterator")] keep ((vs.drop (i + 1)).map .val) m' n') s₃ := by
      rintro ⟨h', tk', m', n', e, F', N', off, hk, hI', hj'⟩
      exact ⟨h', tk', m', n', e, F', N', off, hk, ih (i + 1) m' n' (by omega) hI' hj'⟩
    cases f with
    | ret v => exact q
    | brk => exact q
    | next => exact fin q
    | cont => exact fin q
end
section
variable {prog : Program} {w : World} {A : Around} {E : Value → Shared → Prop} {s : Shared} {env : Env} {h₀ : Heap} {target : Expr} {body : List Stmt} {Q : Flow → Shared → Prop}
/-- a loop over a list of the caller's -/
theorem iter_baseTurns {ax : Addr} {vs : List Value} {m₀ : Str → Option Value} {news : List (Addr × Obj)} (hh : A.handled = none) (F : Fr h₀ env.locals s.heap m₀) (N : News h₀ env.locals s.heap news) (hb : h₀.IsList ax vs.toArray)
    (rest₀ : ∀ I : Addr, (∀ p ∈ news, p.1 < I) → ItemsRest prog w A E h₀ env target body Q s [(I, "list_iterator")] [] (vs.map .val) m₀ news) :
    wpAny (model prog w) A (pyIter (.ref ax)) (fun it s₂ => TurnsAt prog w A h₀ env target body Q E it s₂) E s := by
  have hl : s.heap.IsList ax vs.toArray := hb.at fun o e => F.keep ax o e
  obtain ⟨lo, hg, _⟩ := id hb
  have hlt : ax < s.heap.objs.size := Heap.lt_size (F.keep _ _ hg)
  have hne : ax ≠ s.heap.objs.size := Nat.ne_of_lt hlt
  refine wpAny_pyIter_list hl ?_
  refine ktg_core (tk0 := s.toks) (keep := []) (KTurns.ofWalks (Walks.list hh s.heap.objs.size ax hne vs.toArray) fun i v s Q E st q => letGo_listiter st.1 q) (by simp) (fun i v h hp => ⟨.val v, ?_, rfl⟩) (fun i h st => ?_) (fun b hb => ?_) (fun b hb => by simpa using hb) (fun b hb => ?_) ?_ (fun p hp hI => ?_) ?_ (F.push _) (fun p hp => ⟨Heap.get?_push_of_some _ (N p hp).1, (N p hp).2⟩) trivial (rest₀ _ fun p hp => Heap.lt_size (N p hp).1)
  · have hp' : vs.toArray[i]? = some v := hp
    simpa using hp'
  · obtain ⟨it, hit, hic, _⟩ := st.1
    exact ⟨[(s.heap.objs.size, it)], ⟨⟨rfl, hic⟩, trivial⟩, fun p hp => by rw [List.mem_singleton.mp hp]; exact hit⟩
  · have hb' : b = s.heap.objs.size := by simpa using hb
    rw [hb']
    exact ⟨List.mem_cons_self .., next_is_new F⟩
  · have hb' : b = s.heap.objs.size ∨ b = ax := by simpa using hb
    rcases hb' with e | e
    · exact .inl (by simp [e])
    · exact .inr (.inr ⟨lo, by rw [e]; exact hg⟩)
  · intro hI
    rcases List.mem_cons.mp hI with e | hI
    · exact absurd F.ns.lt (e ▸ Nat.lt_irrefl _)
    · have e : env.locals = ax := List.mem_singleton.mp hI
      exact absurd (Heap.lt_size hg) (Nat.not_lt.mpr (e ▸ F.above))
  · exact absurd (Heap.lt_size (N p hp).1) ((List.mem_singleton.mp hI) ▸ Nat.lt_irrefl _)
  · exact ⟨⟨_, Heap.get?_push_size _ rfl, rfl, rfl⟩, hl.at fun o e => Heap.get?_push_of_some _ e⟩
end
/-- nothing but tuples -/
def Tups (own : List (Addr × Obj)) : Prop := ∀ p ∈ own, p.2.cls = .type "tuple" ∧ ∃ a n, p.2.data = .seq a n
def NoCell (own : List (Addr × Obj)) : Prop := ∀ p ∈ own, ∀ v, p.2.data ≠ .cell v
theorem Tups.noCell {own : List (Addr × Obj)} (h : Tups own) : NoCell own := fun p hp v e => by
  obtain ⟨_, a, n, q⟩ := h p hp
  rw [q] at e; cases e
def JW (base : List (Addr × Obj)) (f : Nat → Int × Int) (i : Nat) (ys : List Value) (nx : List (Addr × Obj)) : Prop :=
  ∃ own, nx = own ++ base ∧ DatAll own ys (((List.range i).map f).map wayDat) ∧ Tups own
theorem JW.zero (base : List (Addr × Obj)) (f : Nat → Int × Int) : JW base f 0 [] base := ⟨[], rfl, .nil, fun _ h => nomatch h⟩
theorem jw_more {h₀ h' : Heap} {L T I C D : Addr} {m : Str → Option Value} {s₁ : Shared} {tk k : Nat} {oI oC : Obj} {base nx : List (Addr × Obj)} {f : Nat → Int × Int} {i : Nat} {ys : List Value} {x y : Int} {t u : Tok} {P : Prop} (F : Fr h₀ L h' m)
    (N : News h₀ L h' ((T, ({ cls := .type "tuple", data := .seq #[.int x t, .int y u] k } : Obj)) :: (I, oI) :: (C, oC) :: (D, LCg.lst ys) :: nx)) (l1 : (I : Nat) < T ∧ (C : Nat) < T ∧ (D : Nat) < T ∧ P) (off : LCg.Off3 I C D nx) (hJ : JW base f i ys nx) (he : f i = (x, y)) :
    LCg.CompEnd h₀ L m s₁ I oI C oC D (LCg.lst ys) (fun _ => True) (fun v news' => JW base f (i + 1) (ys ++ [v]) news') (.ref T) { s₁ with heap := h', toks := tk } := by
  obtain ⟨own, rfl, hd, hc⟩ := hJ
  refine LCg.CompEnd.intro F N ((T, ({ cls := .type "tuple", data := .seq #[.int x t, .int y u] k } : Obj)) :: (own ++ base)) ?_ ⟨⟨Nat.ne_of_gt l1.1, Nat.ne_of_gt l1.2.1, Nat.ne_of_gt l1.2.2.1⟩, off⟩ trivial ⟨(T, _) :: own, rfl, ?_, ?_⟩
  · intro p hp
    simp only [List.mem_cons] at hp ⊢
    rcases hp with h | h | h | h | h
    · exact .inr (.inl h)
    · exact .inr (.inr (.inl h))
    · exact .inr (.inr (.inr (.inl h)))
    · exact .inl h
    · exact .inr (.inr (.inr (.inr h)))
  · rw [List.range_succ, List.map_append, List.map_append]
    refine (hd.mono fun p hp => List.mem_cons_of_mem _ hp).append ?_
    show DatAll _ [.ref T] [wayDat (f i)]
    rw [he]
    exact .cons (.tuple (vs := [.int x t, .int y u]) (List.mem_cons_self ..) (.cons (.int _ _) (.cons (.int _ _) .nil))) .nil
  · intro p hp
    rcases List.mem_cons.mp hp with rfl | hp
    · exact ⟨rfl, _, _, rfl⟩
    · exact hc p hp
def Away (cA cW : Addr) (Y : List (Addr × Obj)) : Prop := ∀ p ∈ Y, p.1 ≠ cA ∧ p.1 ≠ cW
theorem Tups.away {h₀ h : Heap} {L cA cW : Addr} {oA oW : Obj} {vA vW : Option Value} {own nx : List (Addr × Obj)} (ht : Tups own) (N : News h₀ L h nx) (hs : ∀ p ∈ own, p ∈ nx) (h1 : (cA, oA) ∈ nx) (h2 : (cW, oW) ∈ nx) (dA : oA.data = .cell vA) (dW : oW.data = .cell vW) : Away cA cW own := by
  intro p hp
  obtain ⟨_, a, n, q⟩ := ht p hp
  exact ⟨N.twoPlaces (hs p hp) h1 fun e => (by rw [e, dA] at q; cases q), N.twoPlaces (hs p hp) h2 fun e => (by rw [e, dW] at q; cases q)⟩
theorem list_away {h₀ h : Heap} {L cA D : Addr} {oA : Obj} {vA : Option Value} {a : Array Value} {n : Nat} {nx : List (Addr × Obj)} (N : News h₀ L h nx) (hs : (D, PySem.W.listOf a n) ∈ nx) (h1 : (cA, oA) ∈ nx) (dA : oA.data = .cell vA) : D ≠ cA :=
  N.twoPlaces hs h1 fun e => (by
    have q : oA = PySem.W.listOf a n := e.symm
    rw [q] at dA; cases dA)
theorem way_at {own : List (Addr × Obj)} {vs : List Value} {xs : List (Int × Int)} (hd : DatAll own vs (xs.map wayDat)) {i : Nat} {v : Value} (hv : vs[i]? = some v) : ∃ a b t u T n, xs[i]? = some (a, b) ∧ v = .ref T ∧ (T, ({ cls := .type "tuple", data := .seq #[.int a t, .int b u] n } : Obj)) ∈ own := by
  have hlen : i < (xs.map wayDat).length := by rw [← hd.length]; exact (List.getElem?_eq_some_iff.mp hv).1
  obtain ⟨v', e, hin⟩ := hd.get hlen
  rw [hv] at e
  cases e
  have hlen' : i < xs.length := by rwa [List.length_map] at hlen
  rw [List.getElem_map] at hin
  rcases hx : xs[i] with ⟨a, b⟩
  rw [hx] at hin
  cases hin with
  | tuple hm hd2 =>
    cases hd2 with
    | cons h1 r =>
      cases h1 with
      | int _ t =>
        cases r with
        | cons h2 r2 =>
          cases h2 with
          | int _ u =>
            cases r2
            exact ⟨a, b, t, u, _, _, by rw [List.getElem?_eq_getElem hlen', hx], rfl, hm⟩
/-- between the signs -/
def JO (m : Nat) (t : Tok) (sl cA cW : Addr) (ks : List Nat) (i : Nat) (m₁ : Str → Option Value) (nx : List (Addr × Obj)) : Prop :=
  ∃ (W : Addr) (ep : Nat) (ys : List Value) (oA oW : Obj) (vA vW : Option Value) (Y own : List (Addr × Obj)), nx = (cA, oA) :: (cW, oW) :: (W, PySem.W.listOf ys.toArray ep) :: Y ∧ oA.data = .cell vA ∧ oW.data = .cell vW ∧ Away cA cW Y ∧ (∀ p ∈ own, p ∈ Y) ∧
    DatAll own ys ((waysW (ks.take i) m).map wayDat) ∧ m₁ (Str.ofString "signs") = some (.ref sl) ∧ m₁ (Str.ofString "m") = some (.int m t) ∧ m₁ (Str.ofString "ways") = some (.ref W)
/-- between the ways -/
def JI (m : Nat) (t tc : Tok) (sl cA cW W : Addr) (k : Nat) (ys : List Value) (ep : Nat) (Y₀ : List (Addr × Obj)) (xs : List (Int × Int)) (i : Nat) (m₁ : Str → Option Value) (nx : List (Addr × Obj)) : Prop :=
  ∃ (Lg : Addr) (eq : Nat) (us : List Value) (oA oW : Obj) (vA vW : Option Value) (new : List (Addr × Obj)), nx = (cA, oA) :: (cW, oW) :: (Lg, PySem.W.listOf us.toArray eq) :: (W, PySem.W.listOf ys.toArray ep) :: (new ++ Y₀) ∧ oA.data = .cell vA ∧ oW.data = .cell vW ∧ Tups new ∧ (@Ne Nat Lg W) ∧ (∀ p ∈ Y₀, p.1 ≠ Lg) ∧
    DatAll new us (((xs.take i).flatMap (stepW k m)).map wayDat) ∧ m₁ (Str.ofString "signs") = some (.ref sl) ∧ m₁ (Str.ofString "m") = some (.int m t) ∧ m₁ (Str.ofString "ways") = some (.ref W) ∧ m₁ (Str.ofString "longer") = some (.ref Lg) ∧ m₁ (Str.ofString "sign") = some (.str (sgStr k) tc)
theorem JI.mk {m : Nat} {t tc : Tok} {sl cA cW W Lg : Addr} {k : Nat} {ys us : List Value} {ep eq : Nat} {Y₀ new : List (Addr × Obj)} {xs : List (Int × Int)} {i : Nat} {m₁ : Str → Option Value} {oA oW : Obj} {vA vW : Option Value}
    (dA : oA.data = .cell vA) (dW : oW.data = .cell vW) (ht : Tups new) (hne : @Ne Nat Lg W) (hY : ∀ p ∈ Y₀, p.1 ≠ Lg) (hd : DatAll new us (((xs.take i).flatMap (stepW k m)).map wayDat)) (b1 : m₁ (Str.ofString "signs") = some (.ref sl)) (b2 : m₁ (Str.ofString "m") = some (.int m t)) (b3 : m₁ (Str.ofString "ways") = some (.ref W))
    (b4 : m₁ (Str.ofString "longer") = some (.ref Lg)) (b5 : m₁ (Str.ofString "sign") = some (.str (sgStr k) tc)) : JI m t tc sl cA cW W k ys ep Y₀ xs i m₁ ((cA, oA) :: (cW, oW) :: (Lg, PySem.W.listOf us.toArray eq) :: (W, PySem.W.listOf ys.toArray ep) :: (new ++ Y₀)) :=
  ⟨Lg, eq, us, oA, oW, vA, vW, new, rfl, dA, dW, ht, hne, hY, hd, b1, b2, b3, b4, b5⟩
theorem JO.mk {m : Nat} {t : Tok} {sl cA cW W : Addr} {ks : List Nat} {i ep : Nat} {ys : List Value} {m₁ : Str → Option Value} {oA oW : Obj} {vA vW : Option Value} {Y own : List (Addr × Obj)}
    (dA : oA.data = .cell vA) (dW : oW.data = .cell vW) (hY : Away cA cW Y) (ho : ∀ p ∈ own, p ∈ Y) (hd : DatAll own ys ((waysW (ks.take i) m).map wayDat)) (b1 : m₁ (Str.ofString "signs") = some (.ref sl)) (b2 : m₁ (Str.ofString "m") = some (.int m t)) (b3 : m₁ (Str.ofString "ways") = some (.ref W)) :
    JO m t sl cA cW ks i m₁ ((cA, oA) :: (cW, oW) :: (W, PySem.W.listOf ys.toArray ep) :: Y) := ⟨W, ep, ys, oA, oW, vA, vW, Y, own, rfl, dA, dW, hY, ho, hd, b1, b2, b3⟩
theorem stepW_len {k m : Nat} {p : Int × Int} (hm : m ≤ 3) (hp : 0 ≤ p.1 ∧ p.1 < m) : (stepW k m p).length ≤ 3 := by
  unfold stepW spanI
  split <;> simp only [List.length_map, List.length_range, List.length_cons, List.length_nil] <;> omega
theorem stepW_in {k m : Nat} {p : Int × Int} {B : Int} (hp : (0 ≤ p.1 ∧ p.1 < m) ∧ -B ≤ p.2 ∧ p.2 ≤ B) (hB : 0 ≤ B) : ∀ q ∈ stepW k m p, (0 ≤ q.1 ∧ q.1 < m) ∧ -(2 * B) ≤ q.2 ∧ q.2 ≤ 2 * B := by
  intro q hq
  unfold stepW spanI at hq
  split at hq
  case h_5 =>
    rw [List.mem_singleton.mp hq]
    dsimp only
    omega
  all_goals
    obtain ⟨b, hb, rfl⟩ := List.mem_map.mp hq
    obtain ⟨c, hc, rfl⟩ := List.mem_map.mp hb
    have hc := List.mem_range.mp hc
    dsimp only
    first | omega | (split <;> omega)
theorem ways_in (m : Nat) : ∀ (ks : List Nat) (ws : List (Int × Int)) (B : Nat), (∀ p ∈ ws, (0 ≤ p.1 ∧ p.1 < m) ∧ -(B : Int) ≤ p.2 ∧ p.2 ≤ B) → ∀ p ∈ ks.foldl (fun ws k => ws.flatMap (stepW k m)) ws, (0 ≤ p.1 ∧ p.1 < m) ∧ -((B * 2 ^ ks.length : Nat) : Int) ≤ p.2 ∧ p.2 ≤ ((B * 2 ^ ks.length : Nat) : Int)
  | [], ws, B, h => by simpa using h
  | k :: r, ws, B, h => by
    rw [List.foldl_cons]
    have := ways_in m r (ws.flatMap (stepW k m)) (2 * B) (fun p hp => by
      obtain ⟨q, hq, hp⟩ := List.mem_flatMap.mp hp
      have := stepW_in (k := k) (h q hq) (Int.natCast_nonneg B) p hp
      rw [Int.natCast_mul]
      exact this)
    rw [List.length_cons, Nat.pow_succ, Nat.mul_comm (2 ^ r.length) 2, ← Nat.mul_assoc, Nat.mul_comm B 2]
    exact this
theorem ways_small {m : Nat} {ks : List Nat} (h4 : ks.length ≤ 4) : ∀ p ∈ waysW ks m, (0 ≤ p.1 ∧ p.1 < m) ∧ -16 ≤ p.2 ∧ p.2 ≤ 16 := by
  intro p hp
  have := ways_in m ks (startW m) 1 (fun p hp => by
    unfold startW spanI at hp
    obtain ⟨b, hb, rfl⟩ := List.mem_map.mp hp
    obtain ⟨c, hc, rfl⟩ := List.mem_map.mp hb
    have hc := List.mem_range.mp hc
    dsimp only
    omega) p hp
  have h5 : 2 ^ ks.length ≤ 2 ^ 4 := Nat.pow_le_pow_right (by decide) h4
  rw [Nat.one_mul] at this
  omega
theorem flatW_len {k m : Nat} (hm : m ≤ 3) : ∀ {ws : List (Int × Int)}, (∀ p ∈ ws, 0 ≤ p.1 ∧ p.1 < m) → (ws.flatMap (stepW k m)).length ≤ 3 * ws.length
  | [], _ => by simp
  | p :: r, h => by
    rw [List.flatMap_cons, List.length_append, List.length_cons]
    have h1 := stepW_len (k := k) hm (h p (List.mem_cons_self ..))
    have h2 := flatW_len (k := k) hm (ws := r) fun q hq => h q (List.mem_cons_of_mem _ hq)
    omega
theorem ways_len {m : Nat} (hm : m ≤ 3) : ∀ (ks : List Nat) (ws : List (Int × Int)), (∀ p ∈ ws, 0 ≤ p.1 ∧ p.1 < m) → (ks.foldl (fun ws k => ws.flatMap (stepW k m)) ws).length ≤ 3 ^ ks.length * ws.length
  | [], ws, _ => by simp
  | k :: r, ws, h => by
    rw [List.foldl_cons]
    have h1 := ways_len hm r (ws.flatMap (stepW k m)) fun p hp => by
      obtain ⟨q, hq, hp⟩ := List.mem_flatMap.mp hp
      exact (stepW_in (k := k) (B := if 0 ≤ q.2 then q.2 else -q.2) ⟨h q hq, by split <;> omega⟩ (by split <;> omega) p hp).1
    have h2 := flatW_len (k := k) hm h
    rw [List.length_cons, Nat.pow_succ, Nat.mul_assoc]
    exact Nat.le_trans h1 (Nat.mul_le_mul_left _ h2)
theorem ways_few {m : Nat} (hm : m ≤ 3) {ks : List Nat} (h4 : ks.length ≤ 4) : (waysW ks m).length ≤ 243 := by
  have h1 := ways_len hm ks (startW m) fun p hp => by
    have := ways_small (m := m) (ks := []) (by decide) p hp
    exact this.1
  have h2 : (startW m).length ≤ 3 := by unfold startW spanI; simp only [List.length_map, List.length_range]; omega
  have h5 : 3 ^ ks.length ≤ 3 ^ 4 := Nat.pow_le_pow_right (by decide) h4
  exact Nat.le_trans h1 (Nat.le_trans (Nat.mul_le_mul h5 h2) (by decide))
section
variable {prog : Program} {w : World} {A : Around} {E : Value → Shared → Prop} {s : Shared} {h₀ : Heap} {L : Addr} {m₁ : Str → Option Value}
theorem way_extend {Q : Value → Shared → Prop} {D cA cW I2 Lg W : Addr} {oA oW oI2 : Obj} {vA vW : Option Value} {us zs ys : List Value} {eq ep : Nat} {own2 new Y₀ : List (Addr × Obj)} (F : Fr h₀ L s.heap m₁)
    (N : News h₀ L s.heap ((D, LCg.lst zs) :: (own2 ++ (cA, oA) :: (cW, oW) :: (I2, oI2) :: (Lg, PySem.W.listOf us.toArray eq) :: (W, PySem.W.listOf ys.toArray ep) :: (new ++ Y₀)))) (off : LCg.Off1 D (own2 ++ (cA, oA) :: (cW, oW) :: (I2, oI2) :: (Lg, PySem.W.listOf us.toArray eq) :: (W, PySem.W.listOf ys.toArray ep) :: (new ++ Y₀)))
    (dA : oA.data = .cell vA) (dW : oW.data = .cell vW) (t2 : Tups own2) (tn : Tups new) (hne : @Ne Nat Lg W) (hY : ∀ p ∈ Y₀, p.1 ≠ Lg) (hI : (I2 : Addr) ≠ Lg) (hsz : us.length + zs.length ≤ 1000)
    (h : ∀ h' eq', Fr h₀ L h' m₁ → News h₀ L h' ((cA, oA) :: (cW, oW) :: (I2, oI2) :: (Lg, PySem.W.listOf (us ++ zs).toArray eq') :: (W, PySem.W.listOf ys.toArray ep) :: ((own2 ++ new) ++ Y₀)) → Q .none { s with heap := h' }) :
    wpAny (model prog w) A (call (.builtin "list.extend") [.ref Lg, .ref D]) Q E s := by
  have hLg : (Lg, PySem.W.listOf us.toArray eq) ∈ (D, LCg.lst zs) :: (own2 ++ (cA, oA) :: (cW, oW) :: (I2, oI2) :: (Lg, PySem.W.listOf us.toArray eq) :: (W, PySem.W.listOf ys.toArray ep) :: (new ++ Y₀)) := by simp only [List.mem_cons, List.mem_append, true_or, or_true]
  have tupOff : ∀ own : List (Addr × Obj), Tups own → (∀ p ∈ own, p ∈ (D, LCg.lst zs) :: (own2 ++ (cA, oA) :: (cW, oW) :: (I2, oI2) :: (Lg, PySem.W.listOf us.toArray eq) :: (W, PySem.W.listOf ys.toArray ep) :: (new ++ Y₀))) → ∀ p ∈ own, p.1 ≠ Lg := fun own ht hs p hp => N.twoPlaces (hs p hp) hLg fun e => by
    have q := (ht p hp).1
    rw [show p.2 = PySem.W.listOf us.toArray eq from e] at q
    simp [PySem.W.listOf] at q
  have o2 := tupOff own2 t2 fun p hp => List.mem_cons_of_mem _ (List.mem_append_left _ hp)
  have on := tupOff new tn fun p hp => by simp only [List.mem_cons, List.mem_append, hp, true_or, or_true]
  have oA' : cA ≠ Lg := Ne.symm (list_away N hLg (by simp only [List.mem_cons, List.mem_append, true_or, or_true] : (cA, oA) ∈ _) dA)
  have oW' : cW ≠ Lg := Ne.symm (list_away N hLg (by simp only [List.mem_cons, List.mem_append, true_or, or_true] : (cW, oW) ∈ _) dW)
  have oD : D ≠ Lg := Ne.symm (off1_mem off (Lg, PySem.W.listOf us.toArray eq) (by simp only [List.mem_cons, List.mem_append, true_or, or_true]))
  have hrest : ∀ p ∈ (D, LCg.lst zs) :: (cA, oA) :: (cW, oW) :: (I2, oI2) :: (W, PySem.W.listOf ys.toArray ep) :: ((own2 ++ new) ++ Y₀), p.1 ≠ Lg := by
    intro p hp
    simp only [List.mem_cons, List.mem_append] at hp
    rcases hp with rfl | rfl | rfl | rfl | rfl | (hp | hp) | hp
    · exact oD
    · exact oA'
    · exact oW'
    · exact hI
    · exact Ne.symm hne
    · exact o2 p hp
    · exact on p hp
    · exact hY p hp
  have N₁ : News h₀ L s.heap ((Lg, PySem.W.listOf us.toArray eq) :: (D, LCg.lst zs) :: (cA, oA) :: (cW, oW) :: (I2, oI2) :: (W, PySem.W.listOf ys.toArray ep) :: ((own2 ++ new) ++ Y₀)) := fun p hp => N p (by
    simp only [List.mem_cons, List.mem_append] at hp ⊢
    rcases hp with h | h | h | h | h | h | (h | h) | h <;> simp only [h, true_or, or_true])
  have back : ∀ {h' : Heap} {o : Obj}, News h₀ L h' ((Lg, o) :: (D, LCg.lst zs) :: (cA, oA) :: (cW, oW) :: (I2, oI2) :: (W, PySem.W.listOf ys.toArray ep) :: ((own2 ++ new) ++ Y₀)) → News h₀ L h' ((cA, oA) :: (cW, oW) :: (I2, oI2) :: (Lg, o) :: (W, PySem.W.listOf ys.toArray ep) :: ((own2 ++ new) ++ Y₀)) := fun N p hp => N p (by
    simp only [List.mem_cons, List.mem_append] at hp ⊢
    rcases hp with h | h | h | h | h | (h | h) | h <;> simp only [h, true_or, or_true])
  have hz : us.toArray.size + zs.toArray.size ≤ sizeLine := by rw [List.size_toArray, List.size_toArray, sizeLine_eq]; omega
  by_cases hz0 : zs = []
  · subst hz0
    refine kxn_extend (b := D) (its2 := ([] : List Value).toArray) (n2 := 0) F N₁ (List.mem_cons_of_mem _ (List.mem_cons_self ..)) rfl (Upd.head hrest) (extend_door hz) (by rw [sizeLine_eq]; simp only [List.toList_toArray]; omega) (Nat.le_succ_of_le hz) fun h' F' N' => ?_
    have := h h' eq F'
    rw [List.append_nil] at this
    exact this (back N')
  · refine kl_extend (b := D) (its2 := zs.toArray) (n2 := zs.length) (l := us ++ zs) F N₁ (List.mem_cons_of_mem _ (List.mem_cons_self ..)) rfl (fun e => hz0 (List.length_eq_zero_iff.mp e)) (Upd.head hrest) (extend_door hz) (by rw [sizeLine_eq]; simp only [List.toList_toArray]; omega) (Nat.le_succ_of_le hz) fun h' F' N' => h h' _ F' (back N')
theorem way_append {Q : Value → Shared → Prop} {T cA cW I2 Lg W : Addr} {oT oA oW oI2 : Obj} {vA vW : Option Value} {us ys : List Value} {eq ep : Nat} {new Y₀ : List (Addr × Obj)} (F : Fr h₀ L s.heap m₁)
    (N : News h₀ L s.heap ((T, oT) :: (cA, oA) :: (cW, oW) :: (I2, oI2) :: (Lg, PySem.W.listOf us.toArray eq) :: (W, PySem.W.listOf ys.toArray ep) :: (new ++ Y₀)))
    (dA : oA.data = .cell vA) (dW : oW.data = .cell vW) (t2 : Tups [(T, oT)]) (tn : Tups new) (hne : @Ne Nat Lg W) (hY : ∀ p ∈ Y₀, p.1 ≠ Lg) (hI : (I2 : Addr) ≠ Lg) (hsz : us.length ≤ 1000)
    (h : ∀ h' eq', Fr h₀ L h' m₁ → News h₀ L h' ((cA, oA) :: (cW, oW) :: (I2, oI2) :: (Lg, PySem.W.listOf (us ++ [Value.ref T]).toArray eq') :: (W, PySem.W.listOf ys.toArray ep) :: (([(T, oT)] ++ new) ++ Y₀)) → Q .none { s with heap := h' }) :
    wpAny (model prog w) A (call (.builtin "list.append") [.ref Lg, .ref T]) Q E s := by
  have hLg : (Lg, PySem.W.listOf us.toArray eq) ∈ (T, oT) :: (cA, oA) :: (cW, oW) :: (I2, oI2) :: (Lg, PySem.W.listOf us.toArray eq) :: (W, PySem.W.listOf ys.toArray ep) :: (new ++ Y₀) := by simp only [List.mem_cons, List.mem_append, true_or, or_true]
  have tupOff : ∀ own : List (Addr × Obj), Tups own → (∀ p ∈ own, p ∈ (T, oT) :: (cA, oA) :: (cW, oW) :: (I2, oI2) :: (Lg, PySem.W.listOf us.toArray eq) :: (W, PySem.W.listOf ys.toArray ep) :: (new ++ Y₀)) → ∀ p ∈ own, p.1 ≠ Lg := fun own ht hs p hp => N.twoPlaces (hs p hp) hLg fun e => by
    have q := (ht p hp).1
    rw [show p.2 = PySem.W.listOf us.toArray eq from e] at q
    simp [PySem.W.listOf] at q
  have o2 := tupOff [(T, oT)] t2 fun p hp => by rw [List.mem_singleton.mp hp]; exact List.mem_cons_self ..
  have on := tupOff new tn fun p hp => by simp only [List.mem_cons, List.mem_append, hp, true_or, or_true]
  have oA' : cA ≠ Lg := Ne.symm (list_away N hLg (by simp only [List.mem_cons, List.mem_append, true_or, or_true] : (cA, oA) ∈ _) dA)
  have oW' : cW ≠ Lg := Ne.symm (list_away N hLg (by simp only [List.mem_cons, List.mem_append, true_or, or_true] : (cW, oW) ∈ _) dW)
  have hrest : ∀ p ∈ (cA, oA) :: (cW, oW) :: (I2, oI2) :: (W, PySem.W.listOf ys.toArray ep) :: (([(T, oT)] ++ new) ++ Y₀), p.1 ≠ Lg := by
    intro p hp
    simp only [List.mem_cons, List.mem_append] at hp
    rcases hp with rfl | rfl | rfl | rfl | (hp | hp) | hp
    · exact oA'
    · exact oW'
    · exact hI
    · exact Ne.symm hne
    · exact o2 p (by simpa using hp)
    · exact on p hp
    · exact hY p hp
  have N₁ : News h₀ L s.heap ((Lg, PySem.W.listOf us.toArray eq) :: (cA, oA) :: (cW, oW) :: (I2, oI2) :: (W, PySem.W.listOf ys.toArray ep) :: (([(T, oT)] ++ new) ++ Y₀)) := fun p hp => N p (by
    simp only [List.mem_cons, List.mem_append, List.not_mem_nil, or_false] at hp ⊢
    rcases hp with h | h | h | h | h | (h | h) | h <;> simp only [h, true_or, or_true])
  refine append_K F N₁ (Upd.head hrest) (fun h' F' N' => h h' (eq + 1) F' fun p hp => ?_) (by rw [List.size_toArray, sizeLine_eq]; omega)
  have : PySem.W.listOf (us ++ [Value.ref T]).toArray (eq + 1) = PySem.W.listOf (us.toArray.push (.ref T)) (eq + 1) := by rw [List.push_toArray]
  rw [this] at hp
  refine N' p ?_
  simp only [List.mem_cons, List.mem_append, List.not_mem_nil, or_false] at hp ⊢
  rcases hp with h | h | h | h | h | (h | h) | h <;> simp only [h, true_or, or_true]
end
theorem ji_end {h₀ h' : Heap} {m : Nat} {t tc : Tok} {L sl cA cW W Lg I2 : Addr} {k : Nat} {ys us zs : List Value} {ep eq : Nat} {Y₀ new own2 : List (Addr × Obj)} {xs : List (Int × Int)} {j tk : Nat} {m₁ : Str → Option Value} {oA oW oI2 : Obj} {vA vW : Option Value} {a wt : Int} {s₁ : Shared}
    (F : Fr h₀ L h' m₁) (N : News h₀ L h' ((cA, oA) :: (cW, oW) :: (I2, oI2) :: (Lg, PySem.W.listOf (us ++ zs).toArray eq) :: (W, PySem.W.listOf ys.toArray ep) :: ((own2 ++ new) ++ Y₀))) (dA : oA.data = .cell vA) (dW : oW.data = .cell vW) (t2 : Tups own2) (tn : Tups new) (hne : @Ne Nat Lg W) (hY : ∀ p ∈ Y₀, p.1 ≠ Lg)
    (hI : (cA : Addr) ≠ I2 ∧ (cW : Addr) ≠ I2 ∧ (Lg : Addr) ≠ I2 ∧ (W : Addr) ≠ I2 ∧ ∀ p ∈ new ++ Y₀, p.1 ≠ I2) (hoI : oI2.cls = .type "list_iterator") (hj : xs[j]? = some (a, wt)) (hdu : DatAll new us (((xs.take j).flatMap (stepW k m)).map wayDat)) (hdz : DatAll own2 zs ((stepW k m (a, wt)).map wayDat))
    (b1 : m₁ (Str.ofString "signs") = some (.ref sl)) (b2 : m₁ (Str.ofString "m") = some (.int m t)) (b3 : m₁ (Str.ofString "ways") = some (.ref W)) (b4 : m₁ (Str.ofString "longer") = some (.ref Lg)) (b5 : m₁ (Str.ofString "sign") = some (.str (sgStr k) tc)) :
    UnrEndW h₀ L s₁ [(I2, oI2)] (fun m' n' => SubL [(W, PySem.W.listOf ys.toArray ep)] n' ∧ (∀ p ∈ n', p.1 ≠ I2) ∧ JI m t tc sl cA cW W k ys ep Y₀ xs (j + 1) m' n') { s₁ with heap := h', toks := tk } := by
  have ho2 : ∀ p ∈ own2, p.1 ≠ I2 := fun p hp => N.twoPlaces (by simp only [List.mem_cons, List.mem_append, hp, true_or, or_true] : p ∈ _) (by simp only [List.mem_cons, true_or, or_true] : (I2, oI2) ∈ _) fun e => by
    have q := (t2 p hp).1
    rw [show p.2 = oI2 from e, hoI] at q
    exact absurd q (by decide)
  have hoff : ∀ p ∈ (cA, oA) :: (cW, oW) :: (Lg, PySem.W.listOf (us ++ zs).toArray eq) :: (W, PySem.W.listOf ys.toArray ep) :: ((own2 ++ new) ++ Y₀), p.1 ≠ I2 := by
    intro p hp
    simp only [List.mem_cons, List.mem_append] at hp
    rcases hp with rfl | rfl | rfl | rfl | (hp | hp) | hp
    · exact hI.1
    · exact hI.2.1
    · exact hI.2.2.1
    · exact hI.2.2.2.1
    · exact ho2 p hp
    · exact hI.2.2.2.2 p (List.mem_append_left _ hp)
    · exact hI.2.2.2.2 p (List.mem_append_right _ hp)
  refine ⟨h', tk, m₁, _, rfl, F, fun p hp => N p ?_, fun p hp q hq => ?_, ⟨?_, trivial⟩, hoff, JI.mk (new := own2 ++ new) dA dW ?_ hne hY ?_ b1 b2 b3 b4 b5⟩
  · simp only [List.mem_cons, List.mem_append, List.cons_append, List.nil_append] at hp ⊢
    rcases hp with h | h | h | h | h | (h | h) | h <;> simp only [h, true_or, or_true]
  · rw [List.mem_singleton.mp hq]
    exact hoff p hp
  · simp only [List.mem_cons, true_or, or_true]
  · intro p hp
    exact (List.mem_append.mp hp).elim (t2 p) (tn p)
  · rw [List.take_add_one, hj, List.flatMap_append, List.map_append]
    refine (hdu.mono fun p hp => List.mem_append_right _ hp).append ?_
    simp only [Option.toList, List.flatMap_cons, List.flatMap_nil, List.append_nil]
    exact hdz.mono fun p hp => List.mem_append_left _ hp
theorem allLt_mem {d : Nat} : ∀ {l : List (Addr × Obj)}, AllLt d l → ∀ p ∈ l, @LT.lt Nat _ p.1 d
  | [], _, _, h => nomatch h
  | _ :: _, x, p, h => by
    rcases List.mem_cons.mp h with rfl | h
    · exact x.1
    · exact allLt_mem x.2 p h
section
variable {M : Model} {A : Around} {E : Value → Shared → Prop} {s : Shared} {h₀ : Heap} {L a : Addr} {m : Str → Option Value} {cn : Str} {cs : Scope} {ccd : Value} {cl : List (Str × Addr)}
theorem store_a {Q : Unit → Shared → Prop} {x : Str} {v : Value} {T cA cW I I2 Lg W : Addr} {oT oA oW oI oI2 : Obj} {vA vW : Option Value} {us ys : Array Value} {eq ep : Nat} {new Y : List (Addr × Obj)} (F : Fr h₀ L s.heap m)
    (N : News h₀ L s.heap ((T, oT) :: (I2, oI2) :: (cA, oA) :: (cW, oW) :: (Lg, PySem.W.listOf us eq) :: (W, PySem.W.listOf ys ep) :: (new ++ (I, oI) :: Y))) (hc : cl.lookup x = some cA) (dA : oA.data = .cell vA) (dW : oW.data = .cell vW) (tn : Tups new) (hY : Away cA cW Y)
    (hI : cA ≠ I ∧ cW ≠ I) (hI2 : cA ≠ I2 ∧ cW ≠ I2) (hne : cA ≠ cW)
    (h : ∀ h' oA', Fr h₀ L h' m → News h₀ L h' ((cA, oA') :: (cW, oW) :: (I2, oI2) :: (Lg, PySem.W.listOf us eq) :: (W, PySem.W.listOf ys ep) :: (new ++ (I, oI) :: Y)) → oA'.data = .cell (some v) →
      Away cA cW ((I2, oI2) :: (Lg, PySem.W.listOf us eq) :: (W, PySem.W.listOf ys ep) :: (new ++ (I, oI) :: Y)) → Q () { s with heap := h' })
    (hk : cs.kind = .function) (hx : (envX cn cs L a ccd cl).kindOf x = some .cell) : wpAny M A (storeName (envX cn cs L a ccd cl) x v) Q E s := by
  have mA : (cA, oA) ∈ (T, oT) :: (I2, oI2) :: (cA, oA) :: (cW, oW) :: (Lg, PySem.W.listOf us eq) :: (W, PySem.W.listOf ys ep) :: (new ++ (I, oI) :: Y) := by simp only [List.mem_cons, true_or, or_true]
  have mW : (cW, oW) ∈ (T, oT) :: (I2, oI2) :: (cA, oA) :: (cW, oW) :: (Lg, PySem.W.listOf us eq) :: (W, PySem.W.listOf ys ep) :: (new ++ (I, oI) :: Y) := by simp only [List.mem_cons, true_or, or_true]
  have hR : Away cA cW ((I2, oI2) :: (Lg, PySem.W.listOf us eq) :: (W, PySem.W.listOf ys ep) :: (new ++ (I, oI) :: Y)) := by
    intro p hp
    simp only [List.mem_cons, List.mem_append] at hp
    rcases hp with rfl | rfl | rfl | hp | rfl | hp
    · exact ⟨Ne.symm hI2.1, Ne.symm hI2.2⟩
    · exact ⟨list_away (a := us) (n := eq) N (by simp only [List.mem_cons, true_or, or_true]) mA dA, list_away (a := us) (n := eq) N (by simp only [List.mem_cons, true_or, or_true]) mW dW⟩
    · exact ⟨list_away (a := ys) (n := ep) N (by simp only [List.mem_cons, true_or, or_true]) mA dA, list_away (a := ys) (n := ep) N (by simp only [List.mem_cons, true_or, or_true]) mW dW⟩
    · exact tn.away N (fun p hp => by simp only [List.mem_cons, List.mem_append, hp, true_or, or_true]) mA mW dA dW p hp
    · exact ⟨Ne.symm hI.1, Ne.symm hI.2⟩
    · exact hY p hp
  have N₁ : News h₀ L s.heap ((cA, oA) :: (cW, oW) :: (I2, oI2) :: (Lg, PySem.W.listOf us eq) :: (W, PySem.W.listOf ys ep) :: (new ++ (I, oI) :: Y)) := fun p hp => N p (by
    simp only [List.mem_cons, List.mem_append] at hp ⊢
    rcases hp with h | h | h | h | h | h | h | h <;> simp only [h, true_or, or_true])
  exact storeX_C F N₁ hc (UpdF.head fun p hp => (List.mem_cons.mp hp).elim (fun e => e ▸ Ne.symm hne) fun hp => (hR p hp).1) dA (fun h' o' F' N' d' => h h' o' F' N' d' hR) hk hx
theorem store_w {Q : Unit → Shared → Prop} {x : Str} {v : Value} {cA cW : Addr} {oA oW : Obj} {vW : Option Value} {R : List (Addr × Obj)} (F : Fr h₀ L s.heap m) (N : News h₀ L s.heap ((cA, oA) :: (cW, oW) :: R)) (hc : cl.lookup x = some cW) (dW : oW.data = .cell vW) (hR : Away cA cW R) (hne : cA ≠ cW)
    (h : ∀ h' oW', Fr h₀ L h' m → News h₀ L h' ((cA, oA) :: (cW, oW') :: R) → oW'.data = .cell (some v) → Q () { s with heap := h' })
    (hk : cs.kind = .function) (hx : (envX cn cs L a ccd cl).kindOf x = some .cell) : wpAny M A (storeName (envX cn cs L a ccd cl) x v) Q E s :=
  storeX_C F N hc (UpdF.tail hne (UpdF.head fun p hp => (hR p hp).2)) dW h hk hx
end
theorem waysW_snoc {ks : List Nat} {i k m : Nat} (h : ks[i]? = some k) : waysW (ks.take (i + 1)) m = (waysW (ks.take i) m).flatMap (stepW k m) := by
  unfold waysW
  rw [List.take_add_one, h, List.foldl_append]
  rfl
theorem jo_end {h₀ h' : Heap} {m : Nat} {t : Tok} {L sl cA cW W Lg I : Addr} {ys us : List Value} {ep eq : Nat} {Y new : List (Addr × Obj)} {ks : List Nat} {i tk : Nat} {m₁ : Str → Option Value} {oA oW oI : Obj} {vA vW : Option Value} {s₁ : Shared} (F : Fr h₀ L h' m₁)
    (N : News h₀ L h' ((cA, oA) :: (cW, oW) :: (Lg, PySem.W.listOf us.toArray eq) :: (W, PySem.W.listOf ys.toArray ep) :: (new ++ (I, oI) :: Y))) (dA : oA.data = .cell vA) (dW : oW.data = .cell vW) (tn : Tups new) (hY : Away cA cW Y) (hIa : cA ≠ I) (hIw : cW ≠ I) (hIY : ∀ p ∈ Y, p.1 ≠ I) (hL : (I : Addr) ≠ Lg) (hoI : oI.cls = .type "list_iterator")
    (hd : DatAll new us ((waysW (ks.take (i + 1)) m).map wayDat)) (b1 : m₁ (Str.ofString "signs") = some (.ref sl)) (b2 : m₁ (Str.ofString "m") = some (.int m t)) (b3 : m₁ (Str.ofString "ways") = some (.ref Lg)) :
    UnrEndW h₀ L s₁ [(I, oI)] (fun m' n' => SubL [] n' ∧ (∀ p ∈ n', p.1 ≠ I) ∧ JO m t sl cA cW ks (i + 1) m' n') { s₁ with heap := h', toks := tk } := by
  have hn : ∀ p ∈ new, p.1 ≠ I := fun p hp => N.twoPlaces (by simp only [List.mem_cons, List.mem_append, hp, true_or, or_true] : p ∈ _) (by simp only [List.mem_cons, List.mem_append, true_or, or_true] : (I, oI) ∈ _) fun e => by
    have q := (tn p hp).1
    rw [show p.2 = oI from e, hoI] at q
    exact absurd q (by decide)
  have hoff : ∀ p ∈ (cA, oA) :: (cW, oW) :: (Lg, PySem.W.listOf us.toArray eq) :: (new ++ Y), p.1 ≠ I := by
    intro p hp
    simp only [List.mem_cons, List.mem_append] at hp
    rcases hp with rfl | rfl | rfl | hp | hp
    · exact hIa
    · exact hIw
    · exact Ne.symm hL
    · exact hn p hp
    · exact hIY p hp
  have hA : Away cA cW (new ++ Y) := fun p hp => (List.mem_append.mp hp).elim (tn.away N (fun p hp => by simp only [List.mem_cons, List.mem_append, hp, true_or, or_true]) (List.mem_cons_self ..) (List.mem_cons_of_mem _ (List.mem_cons_self ..)) dA dW p) (hY p)
  refine ⟨h', tk, m₁, _, rfl, F, fun p hp => N p ?_, fun p hp q hq => ?_, trivial, hoff, JO.mk dA dW hA (fun p hp => List.mem_append_left _ hp) hd b1 b2 b3⟩
  · simp only [List.mem_cons, List.mem_append, List.cons_append, List.nil_append] at hp ⊢
    rcases hp with h | h | h | h | h | h <;> simp only [h, true_or, or_true]
  · rw [List.mem_singleton.mp hq]
    exact hoff p hp
section
open LCg LCp
variable {prog : Program} {w : World} {A : Around} {E : Value → Shared → Prop} {s : Shared} {h₀ : Heap} {L : Addr} {m : Str → Option Value} {env : Env}
theorem rest_wt {x x₂ : Str} {px : Pos} {scope : Scope} {cl : List (Str × Addr)} {own news : List (Addr × Obj)} {vs : List Value} {ts : List (Int × Int)} {ax : Addr} {Fin : List Value → List (Addr × Obj) → Prop} (hd : DatAll own vs (ts.map wayDat)) (hs : ∀ p ∈ own, p ∈ news)
    (S : SrcAt h₀ ax vs.toArray news) (hk : ∀ C, (compEnvC scope cl C env).scope.kind = .function) (hl : ∀ C, (compEnvC scope cl C env).kindOf x₂ = some .local) (hg : (x₂ == ("__debug__" : Str)) = false) (fin : ∀ ys, IntsAre ys (ts.map (·.2)) → Fin ys news) :
    CompRestP prog w A h₀ L m env (.Name x₂ px) x x₂ scope cl s (SrcAt h₀ ax vs.toArray) (fun i v => vs.toArray[i]? = some v) Fin vs.toArray.size 0 [] news := by
  have hlen : vs.toArray.size = ts.length := by rw [List.size_toArray, hd.length, List.length_map]
  refine restP_of (fun i ys nw => nw = news ∧ IntsAre ys ((ts.take i).map (·.2))) ?_ ?_ _ 0 [] news (Nat.zero_add _) ⟨rfl, .nil⟩
  · rintro ys nw ⟨rfl, hi⟩
    rw [hlen, List.take_length] at hi
    exact fin _ hi
  · rintro i ys nw v hi ⟨rfl, hy⟩ hv
    obtain ⟨a, b, t, u, T, n, hp, rfl, hm⟩ := way_at hd (by simpa using hv)
    refine ⟨T, _, _, _, n, rfl, hs _ hm, rfl, rfl, fun I oI C oC D m₂ h tk E' hC hx hx2 F N off ne => ?_⟩
    refine LCgL.ld_own N (List.mem_cons_of_mem _ (List.mem_cons_self ..)) hC hx2 ?_ (hk C) (hl C) hg
    refine CompEnd.intro F N _ (fun p hp => hp) off S ⟨rfl, ?_⟩
    rw [List.take_add_one, hp, List.map_append]
    exact hy.append (.cons _ _ .nil)
end
end
section
theorem fn_ways (w : World) (sl : Addr) (ks : List Nat) (m : Nat) (t : Tok) (vs : List Value) (hm : m ≤ 3) (h4 : ks.length ≤ 4) (hk : ∀ k ∈ ks, k < 6) (hvs : StrsAre vs (ks.map sgStr)) : Fn w 0 105 1 400 [.ref sl, .int m t] (fun news => ∃ ep, (sl, W.listOf vs.toArray ep) ∈ news)
   (fun _ new v => new = [] ∧ ∃ t, v = .int (allW ks m) t) := by
  w_top off
  k_with_none
  k_with "execs cons" => (k_here; k_fold)
  k_with "execs nil" => (k_here; k_fold)
  k_with "CompSrc" => (k_here; refine Halt.go ?_)
  k_with "exec For Name Name cons nil" => (k_here; refine Halt.go ?_)
  k_with "exec For Tuple Name cons nil" => (k_here; refine Halt.go ?_)
  k_with "exec For Tuple Name cons cons" => (k_here; refine Halt.go ?_)
  k_with "exec For" => (k_here; refine Halt.go ?_)
  k_with "call builtin:list.extend" => (k_here; refine Halt.go ?_)
  k_with "call builtin:list.append" => (k_here; refine Halt.go ?_)
  k_with "eval ListComp" => (k_here; (with_reducible show wpAny _ _ (eval (PySem.Expr.ListComp _ [⟨PySem.Expr.Tuple _ _ _, _, _, _⟩] _ _) _) _ _ _); refine Halt.go ?_)
  k_with "SrcLP" => (k_here; refine Halt.go ?_)
  k_with "call builtin:sum" => (k_here; refine Halt.go ?_)
  k_with "pyIter ref" => (k_here; refine Halt.go ?_)
  ((have hfill : Challenge.rw_pg0195_01.row.prog = Challenge.rw_pg0195_01.row.prog ∧ hd.heap_1_1 = hd.heap_1_1 := by k_fill; exact ⟨rfl, rfl⟩); clear hfill; refine' fn_of ?ho ?hcd ?hb ?hk ?hn ?h1 ?h2 ?h3 ?_; (case ho => k_is); (case hcd => k_is); (case hb => exact rfl); (case hk => exact rfl); (case hn => decide +kernel); (case h1 => exact rfl); (case h2 => exact rfl); (case h3 => exact rfl); k_whole; intro dpz unz gdz cnz csz az ccdz clz outerz basez h0z Lz mz newsz sz Qz Ez meanz mgz mbz Lzp h1z tkz cellsz kcz N0z hprez hdpz hunz Fzp Nzp Yzp Bzp Xzp Tzp hretz; (first | k_cells Yzp | cases Yzp); (try simp only [List.cons_append, List.nil_append] at Nzp); (try dsimp only); (try k_fold))
  (with_reducible rename ∃ ep, (sl, _) ∈ _ => hpre)
  (try k_fold)
  k_steps
  unfold Halt
  (with_reducible rename ∀ (v : Value) (new : List (Addr × Obj)) (h' : Heap) (tk' : Nat) (L₂ : Addr) (m₂ : Str → Option Value), _ => hret)
  (with_reducible rename Fr _ _ _ _ => F9)
  (with_reducible rename News _ _ _ _ => N9)
  refine LCg.CompSrc.range rfl F9 N9 (by assumption) (small_one (by omega) (by omega) (by omega) (by omega)) (rangeSize_nat _ _) (by rw [sizeLine_eq]; omega) ?_
  intro g
  refine rest_of (JW _ (fun i => (0 + (i : Int), 1))) ?fin ?step _ 0 [] _ (Nat.zero_add _) (JW.zero _ _)
  case step => as_aux_lemma =>
    intro i ys nx v I oI C oC D m₂ h tk E' hi hJ hP hC hx F N off ne
    obtain ⟨tb, rfl⟩ := hP
    (try k_fold)
    k_steps
    (with_reducible rename Fr _ _ _ _ => F8)
    (with_reducible rename News _ _ _ _ => N8)
    exact jw_more F8 N8 (by assumption) off hJ rfl
  case fin => as_aux_lemma =>
    rintro ys nx ⟨own, rfl, hd, hc⟩
    intro D h tk F N off
    (try k_fold)
    k_steps
    unfold Halt
    refine For_turns F ?_
    obtain ⟨eps, hms⟩ := hpre
    have hsl := News.isList (by assumption) hms
    clear F9 N9
    (try k_fold)
    k_steps
    unfold Halt
    have N : News _ _ h ((_, _) :: (_, _) :: (D, LCg.lst ys) :: own) := N.perm fun p hp => by
      simp only [List.mem_cons, List.mem_append, List.not_mem_nil, or_false] at hp ⊢
      rcases hp with h | h | h | h
      · exact .inr (.inr (.inr h))
      · exact .inr (.inr (.inl h))
      · exact .inl h
      · exact .inr (.inl h)
    -- have hI0 : ∀ I : Addr, (∀ p ∈ (L' + 1, _) :: (L' + 1 + 1, _) :: (D, LCg.lst ys) :: own, p.1 < I) → ∀ p ∈ (L' + 1, _) :: (L' + 1 + 1, _) :: (D, LCg.lst ys) :: own, p.1 ≠ I := fun I h p hp => Nat.ne_of_lt (h p hp)
    refine iter_baseTurns rfl F N hsl ?_
    intro I hI
    refine items_inv (JO m t sl _ _ ks) ?done ?turn _ 0 _ _ (Nat.zero_add _) (fun p hp => Nat.ne_of_lt (hI p hp)) ⟨D, _, ys, _, _, _, _, own, own, rfl, by assumption, by assumption, hc.away N (fun p hp => List.mem_cons_of_mem _ (List.mem_cons_of_mem _ (List.mem_cons_of_mem _ hp))) (List.mem_cons_self ..) (List.mem_cons_of_mem _ (List.mem_cons_self ..)) (by assumption) (by assumption), fun p hp => hp, ?h0, rfl, rfl, rfl⟩
    case h0 =>
      have e : List.map (fun i : Nat => ((0 : Int) + (i : Int), (1 : Int))) (List.range ((m : Int) - 0).toNat) = startW m := by unfold startW spanI; rw [List.map_map]; rfl
      rw [e] at hd
      exact hd
    case done => as_aux_lemma =>
      clear hd N F hc off hI
      intro m₁ nx h tk hJ F N
      obtain ⟨W, ep, ys, oA, oW, vA, vW, Y, own, rfl, dA, dW, hY, hoY, hd, b1, b2, b3⟩ := hJ
      have hlk : vs.length = ks.length := by rw [hvs.length, List.length_map]
      rw [hlk, List.take_length] at hd
      have F := fr_ov F (ps := [(Str.ofString "signs", .ref sl), (Str.ofString "m", .int m t), (Str.ofString "ways", .ref W)]) ⟨b1, b2, b3, trivial⟩
      (try k_fold)
      k_steps
      unfold Halt
      refine LCp.ListComp_P (F₀ := F) (by with_unfolding_all rfl) (by decide) (by rfl) (by decide) (by rfl) (by rfl) (by decide) ?_
      (try k_fold)
      k_steps
      unfold Halt
      have hys : ys.length ≤ 243 := by
        have h1 := hd.length
        have h2 := ways_few (m := m) hm (ks := ks) h4
        rw [List.length_map] at h1
        omega
      refine LCp.SrcLP.ledger rfl F N (List.mem_cons_of_mem _ (List.mem_cons_of_mem _ (List.mem_cons_self ..))) (by rw [List.size_toArray, sizeLine_eq]; omega) ?_
      intro g
      refine rest_wt hd ?hs (.inr ⟨_, List.mem_cons_of_mem _ (List.mem_cons_of_mem _ (List.mem_cons_self ..)), rfl, _, rfl⟩) (fun _ => rfl) (fun _ => rfl) (by decide) ?fin9
      case hs => intro p hp; exact List.mem_cons_of_mem _ (List.mem_cons_of_mem _ (List.mem_cons_of_mem _ (hoY p hp)))
      case fin9 => as_aux_lemma =>
        intro zs hz D9 h9 tk9 F9 N9 off9
        (try k_fold)
        k_steps
        unfold Halt
        refine LSm.sum_ints F9 N9 rfl (News.isList N9 (List.mem_cons_self ..)) hz ?_
        intro h7 tk7 t7 F7 N7
        exact hret _ [] _ _ _ _ F7 (fun _ hp => nomatch hp) ⟨rfl, _, rfl⟩
    case turn => as_aux_lemma =>
      clear hd N F hc off hI
      intro i v m₁ nx h tk oI hv hJ hIa hoI F N
      obtain ⟨W, ep, ys, oA, oW, vA, vW, Y, own, rfl, dA, dW, hY, hoY, hd, b1, b2, b3⟩ := hJ
      obtain ⟨k, tc, hki, rfl⟩ : ∃ k tc, ks[i]? = some k ∧ v = .str (sgStr k) tc := by
        have hlen : i < ks.length := by
          have := (List.getElem?_eq_some_iff.mp hv).1
          rwa [hvs.length, List.length_map] at this
        obtain ⟨tc, e⟩ := hvs.get i (sgStr ks[i]) (by simp [hlen])
        rw [hv] at e
        exact ⟨ks[i], tc, by simp [hlen], Option.some.inj e⟩
      have F := fr_ov F (ps := [(Str.ofString "signs", .ref sl), (Str.ofString "m", .int m t), (Str.ofString "ways", .ref W)]) ⟨b1, b2, b3, trivial⟩
      (try k_fold)
      k_steps
      unfold Halt
      refine For_turns (by k_asm) ?_
      (try k_fold)
      k_steps
      unfold Halt
      (with_reducible rename Fr _ _ _ _ => F9)
      (with_reducible rename News _ _ _ _ => N9)
      (with_reducible rename ((_ : Nat) < _ ∧ _) => l1)
      have N10 : News _ _ _ ((_, oA) :: (_, oW) :: (_, PySem.W.listOf #[] 0) :: (W, PySem.W.listOf ys.toArray ep) :: ([] ++ ((I, oI) :: Y))) := N9.perm fun p hp => by
        simp only [List.mem_cons, List.nil_append] at hp ⊢
        rcases hp with h | h | h | h | h | h
        · exact .inr (.inr (.inl h))
        · exact .inr (.inr (.inr (.inl h)))
        · exact .inl h
        · exact .inr (.inr (.inr (.inr (.inl h))))
        · exact .inr (.inl h)
        · exact .inr (.inr (.inr (.inr (.inr h))))
      clear N9
      refine iter_listTurns (lo := PySem.W.listOf ys.toArray ep) rfl F9 N10 (List.mem_cons_of_mem _ (List.mem_cons_of_mem _ (List.mem_cons_of_mem _ (List.mem_cons_self ..)))) rfl rfl ?_
      intro I2 hI2
      refine items_inv (JI m t tc sl _ _ W k ys ep ((I, oI) :: Y) (waysW (ks.take i) m)) ?done2 ?turn2 _ 0 _ _ (Nat.zero_add _) (fun p hp => Nat.ne_of_lt (hI2 p hp)) (JI.mk (us := []) (new := []) dA dW (fun _ h => nomatch h) (Nat.ne_of_gt l1.2.2.2.1) (fun p hp => (List.mem_cons.mp hp).elim (fun e => e ▸ Nat.ne_of_lt l1.1) fun hp => Nat.ne_of_lt (allLt_mem l1.2.2.2.2 p hp)) DatAll.nil rfl rfl rfl rfl rfl)
      case done2 => as_aux_lemma =>
        clear N10 F9 F N
        intro m₂ nx h tk hJ F N
        obtain ⟨Lg, eq, us, oA, oW, vA, vW, new, rfl, dA, dW, hnew, hne, hYL, hdu, b1, b2, b3, b4, b5⟩ := hJ
        have F := fr_ov F (ps := [(Str.ofString "signs", .ref sl), (Str.ofString "m", .int m t), (Str.ofString "ways", .ref W), (Str.ofString "longer", .ref Lg), (Str.ofString "sign", .str (sgStr k) tc)]) ⟨b1, b2, b3, b4, b5, trivial⟩
        have hlx : ys.length = (waysW (ks.take i) m).length := by rw [hd.length, List.length_map]
        rw [hlx, List.take_length] at hdu
        (try k_fold)
        k_steps
        (with_reducible rename Fr _ _ _ _ => F8)
        (with_reducible rename News _ _ _ _ => N8)
        exact jo_end F8 N8 dA dW hnew hY (hIa _ (List.mem_cons_self ..)) (hIa _ (List.mem_cons_of_mem _ (List.mem_cons_self ..))) (fun p hp => hIa p (List.mem_cons_of_mem _ (List.mem_cons_of_mem _ (List.mem_cons_of_mem _ hp)))) (hYL _ (List.mem_cons_self ..)) hoI (waysW_snoc hki ▸ hdu) rfl rfl rfl
      case turn2 => as_aux_lemma =>
        clear N10 F9 F N
        intro j v m₂ nx h tk oI2 hv hJ hI2a hoI2 F N
        obtain ⟨Lg, eq, us, oA, oW, vA, vW, new, rfl, dA, dW, hnew, hne, hYL, hdu, b1, b2, b3, b4, b5⟩ := hJ
        obtain ⟨a, wt, ta, tw, T, nT, hja, rfl, hT⟩ := way_at hd hv
        have F := fr_ov F (ps := [(Str.ofString "signs", .ref sl), (Str.ofString "m", .int m t), (Str.ofString "ways", .ref W), (Str.ofString "longer", .ref Lg), (Str.ofString "sign", .str (sgStr k) tc)]) ⟨b1, b2, b3, b4, b5, trivial⟩
        have N := news_also N (x := (T, _)) (by simp only [List.mem_cons, List.mem_append]; exact .inr (.inr (.inr (.inr (.inr (.inr (.inr (hoY _ hT))))))))
        have hlast := ways_small (m := m) (ks := ks.take i) (by rw [List.length_take]; omega) (a, wt) (List.mem_of_getElem? hja)
        dsimp only at hlast
        obtain ⟨⟨ha1, ha2⟩, hw1, hw2⟩ := hlast
        have hlen := ways_few (m := m) hm (ks := ks.take i) (by rw [List.length_take]; omega)
        have husz : us.length ≤ 729 := by
          have h1 := hdu.length
          rw [List.length_map] at h1
          have h2 := flatW_len (k := k) hm (ws := (waysW (ks.take i) m).take j) fun p hp => (ways_small (m := m) (ks := ks.take i) (by rw [List.length_take]; omega) p (List.mem_of_mem_take hp)).1
          rw [List.length_take] at h2
          omega
        (try k_fold)
        k_steps
        (with_reducible rename Fr _ _ _ _ => F9)
        (with_reducible rename News _ _ _ _ => N9)
        have hIc := hIa _ (List.mem_cons_self ..)
        have hIw := hIa _ (List.mem_cons_of_mem _ (List.mem_cons_self ..))
        have hI2c := hI2a _ (List.mem_cons_self ..)
        have hI2w := hI2a _ (List.mem_cons_of_mem _ (List.mem_cons_self ..))
        refine' store_a F9 N9 ?zC dA dW hnew hY ⟨hIc, hIw⟩ ⟨hI2c, hI2w⟩ (Nat.ne_of_lt (Nat.lt_succ_self _)) ?_ ?zA ?zB
        case zC => rfl
        case zA => rfl
        case zB => rfl
        clear F9 N9
        intro h9 oA9 F9 N9 dA9 hR
        (try k_fold)
        k_steps
        refine' store_w (by k_asm) N9 ?zC dW hR (Nat.ne_of_lt (Nat.lt_succ_self _)) ?_ ?zA ?zB
        case zC => rfl
        case zA => rfl
        case zB => rfl
        clear F9 N9
        intro h8 oW9 F9 N9 dW9
        have hk6 := hk k (List.mem_of_getElem? hki)
        have hYL9 := hYL
        have h06 : k = 0 ∨ k = 1 ∨ k = 2 ∨ k = 3 ∨ k = 4 ∨ k = 5 := by omega
        rcases h06 with rfl | rfl | rfl | rfl | rfl | rfl
        · rw [show sgStr 0 = Str.ofString "<" from rfl] at F9
          (try k_fold)
          k_steps
          unfold Halt
          (with_reducible rename Fr _ _ _ _ => F9)
          (with_reducible rename News _ _ _ _ => N9)
          refine LCg.CompSrc.range rfl F9 N9 (by assumption) (small_one (by omega) (by omega) (by omega) (by omega)) (rangeSize_nat _ _) (by rw [sizeLine_eq]; omega) ?_
          intro g
          refine rest_of (JW _ (fun i : Nat => (a + (i : Int), wt))) ?fin ?step _ 0 [] _ (Nat.zero_add _) (JW.zero _ _)
          case step => as_aux_lemma =>
            intro i' zs nx v I3 oI3 C oC D m₃ h tk E' hi hJ hP hC hx F N off ne
            obtain ⟨tb, rfl⟩ := hP
            have hJ' := hJ
            obtain ⟨own2, rfl, hd2, hc2⟩ := hJ
            have N := news_also N (x := (_, oW9)) (List.mem_cons_of_mem _ (List.mem_cons_of_mem _ (List.mem_cons_of_mem _ (List.mem_append_right _ (List.mem_cons_of_mem _ (List.mem_cons_self ..))))))
            have N := news_also N (x := (_, oA9)) (List.mem_cons_of_mem _ (List.mem_cons_of_mem _ (List.mem_cons_of_mem _ (List.mem_cons_of_mem _ (List.mem_append_right _ (List.mem_cons_self ..))))))
            clear F9 N9
            (try k_fold)
            k_steps
            all_goals (with_reducible rename Fr _ _ _ _ => F8)
            all_goals (with_reducible rename News _ _ _ _ => N8)
            all_goals (with_reducible rename ((_ : Nat) < _ ∧ _) => l8)
            all_goals exact jw_more F8 (N8.perm fun p hp => (List.mem_cons.mp hp).elim (fun e => e ▸ List.mem_cons_self ..) fun hp => List.mem_cons_of_mem _ (List.mem_cons_of_mem _ (List.mem_cons_of_mem _ hp))) l8.2.2 off hJ' (by first | rfl | (simp only [*, if_true, if_false]))
          case fin => as_aux_lemma =>
            rintro zs nx ⟨own2, rfl, hd2, hc2⟩
            intro D h tk F N off
            clear F9 N9
            (try k_fold)
            k_steps
            unfold Halt
            have e : (List.range ((m : Int) - a).toNat).map (fun i : Nat => (a + (i : Int), wt)) = stepW 0 m (a, wt) := by show _ = List.map _ (spanI _ _); unfold spanI; rw [List.map_map]; rfl
            rw [e] at hd2
            have hzl : zs.length ≤ 3 := by
              have h1 := hd2.length
              rw [List.length_map] at h1
              have h2 := stepW_len (k := 0) hm (p := (a, wt)) ⟨ha1, ha2⟩
              omega
            refine way_extend F N off dA9 dW9 hc2 hnew hne hYL (Ne.symm (hI2a _ (List.mem_cons_of_mem _ (List.mem_cons_of_mem _ (List.mem_cons_self ..))))) (by omega) ?_
            intro h7 eq7 F7 N7
            (try k_fold)
            k_steps
            exact ji_end F7 N7 dA9 dW9 hc2 hnew hne hYL ⟨hI2c, hI2w, hI2a _ (List.mem_cons_of_mem _ (List.mem_cons_of_mem _ (List.mem_cons_self ..))), hI2a _ (List.mem_cons_of_mem _ (List.mem_cons_of_mem _ (List.mem_cons_of_mem _ (List.mem_cons_self ..)))), fun p hp => hI2a p (List.mem_cons_of_mem _ (List.mem_cons_of_mem _ (List.mem_cons_of_mem _ (List.mem_cons_of_mem _ hp))))⟩ hoI2 hja hdu hd2 rfl rfl rfl rfl rfl
        · rw [show sgStr 1 = Str.ofString "<=" from rfl] at F9
          (try k_fold)
          k_steps
          unfold Halt
          (with_reducible rename Fr _ _ _ _ => F9)
          (with_reducible rename News _ _ _ _ => N9)
          refine LCg.CompSrc.range rfl F9 N9 (by assumption) (small_one (by omega) (by omega) (by omega) (by omega)) (rangeSize_nat _ _) (by rw [sizeLine_eq]; omega) ?_
          intro g
          refine rest_of (JW _ (fun i : Nat => (a + 1 + (i : Int), wt))) ?fin ?step _ 0 [] _ (Nat.zero_add _) (JW.zero _ _)
          case step => as_aux_lemma =>
            intro i' zs nx v I3 oI3 C oC D m₃ h tk E' hi hJ hP hC hx F N off ne
            obtain ⟨tb, rfl⟩ := hP
            have hJ' := hJ
            obtain ⟨own2, rfl, hd2, hc2⟩ := hJ
            have N := news_also N (x := (_, oW9)) (List.mem_cons_of_mem _ (List.mem_cons_of_mem _ (List.mem_cons_of_mem _ (List.mem_append_right _ (List.mem_cons_of_mem _ (List.mem_cons_self ..))))))
            have N := news_also N (x := (_, oA9)) (List.mem_cons_of_mem _ (List.mem_cons_of_mem _ (List.mem_cons_of_mem _ (List.mem_cons_of_mem _ (List.mem_append_right _ (List.mem_cons_self ..))))))
            clear F9 N9
            (try k_fold)
            k_steps
            all_goals (with_reducible rename Fr _ _ _ _ => F8)
            all_goals (with_reducible rename News _ _ _ _ => N8)
            all_goals (with_reducible rename ((_ : Nat) < _ ∧ _) => l8)
            all_goals exact jw_more F8 (N8.perm fun p hp => (List.mem_cons.mp hp).elim (fun e => e ▸ List.mem_cons_self ..) fun hp => List.mem_cons_of_mem _ (List.mem_cons_of_mem _ (List.mem_cons_of_mem _ hp))) l8.2.2 off hJ' (by first | rfl | (simp only [*, if_true, if_false]))
          case fin => as_aux_lemma =>
            rintro zs nx ⟨own2, rfl, hd2, hc2⟩
            intro D h tk F N off
            clear F9 N9
            (try k_fold)
            k_steps
            unfold Halt
            have e : (List.range ((m : Int) - (a + 1)).toNat).map (fun i : Nat => (a + 1 + (i : Int), wt)) = stepW 1 m (a, wt) := by show _ = List.map _ (spanI _ _); unfold spanI; rw [List.map_map]; rfl
            rw [e] at hd2
            have hzl : zs.length ≤ 3 := by
              have h1 := hd2.length
              rw [List.length_map] at h1
              have h2 := stepW_len (k := 1) hm (p := (a, wt)) ⟨ha1, ha2⟩
              omega
            refine way_extend F N off dA9 dW9 hc2 hnew hne hYL (Ne.symm (hI2a _ (List.mem_cons_of_mem _ (List.mem_cons_of_mem _ (List.mem_cons_self ..))))) (by omega) ?_
            intro h7 eq7 F7 N7
            (try k_fold)
            k_steps
            exact ji_end F7 N7 dA9 dW9 hc2 hnew hne hYL ⟨hI2c, hI2w, hI2a _ (List.mem_cons_of_mem _ (List.mem_cons_of_mem _ (List.mem_cons_self ..))), hI2a _ (List.mem_cons_of_mem _ (List.mem_cons_of_mem _ (List.mem_cons_of_mem _ (List.mem_cons_self ..)))), fun p hp => hI2a p (List.mem_cons_of_mem _ (List.mem_cons_of_mem _ (List.mem_cons_of_mem _ (List.mem_cons_of_mem _ hp))))⟩ hoI2 hja hdu hd2 rfl rfl rfl rfl rfl
        · rw [show sgStr 2 = Str.ofString ">" from rfl] at F9
          (try k_fold)
          k_steps
          unfold Halt
          (with_reducible rename Fr _ _ _ _ => F9)
          (with_reducible rename News _ _ _ _ => N9)
          refine LCg.CompSrc.range rfl F9 N9 (by assumption) (small_one (by omega) (by omega) (by omega) (by omega)) (rangeSize_nat _ _) (by rw [sizeLine_eq]; omega) ?_
          intro g
          refine rest_of (JW _ (fun i : Nat => (0 + (i : Int), wt))) ?fin ?step _ 0 [] _ (Nat.zero_add _) (JW.zero _ _)
          case step => as_aux_lemma =>
            intro i' zs nx v I3 oI3 C oC D m₃ h tk E' hi hJ hP hC hx F N off ne
            obtain ⟨tb, rfl⟩ := hP
            have hJ' := hJ
            obtain ⟨own2, rfl, hd2, hc2⟩ := hJ
            have N := news_also N (x := (_, oW9)) (List.mem_cons_of_mem _ (List.mem_cons_of_mem _ (List.mem_cons_of_mem _ (List.mem_append_right _ (List.mem_cons_of_mem _ (List.mem_cons_self ..))))))
            have N := news_also N (x := (_, oA9)) (List.mem_cons_of_mem _ (List.mem_cons_of_mem _ (List.mem_cons_of_mem _ (List.mem_cons_of_mem _ (List.mem_append_right _ (List.mem_cons_self ..))))))
            clear F9 N9
            (try k_fold)
            k_steps
            all_goals (with_reducible rename Fr _ _ _ _ => F8)
            all_goals (with_reducible rename News _ _ _ _ => N8)
            all_goals (with_reducible rename ((_ : Nat) < _ ∧ _) => l8)
            all_goals exact jw_more F8 (N8.perm fun p hp => (List.mem_cons.mp hp).elim (fun e => e ▸ List.mem_cons_self ..) fun hp => List.mem_cons_of_mem _ (List.mem_cons_of_mem _ (List.mem_cons_of_mem _ hp))) l8.2.2 off hJ' (by first | rfl | (simp only [*, if_true, if_false]))
          case fin => as_aux_lemma =>
            rintro zs nx ⟨own2, rfl, hd2, hc2⟩
            intro D h tk F N off
            clear F9 N9
            (try k_fold)
            k_steps
            unfold Halt
            have e : (List.range ((a + 1) - 0).toNat).map (fun i : Nat => (0 + (i : Int), wt)) = stepW 2 m (a, wt) := by show _ = List.map _ (spanI _ _); unfold spanI; rw [List.map_map]; rfl
            rw [e] at hd2
            have hzl : zs.length ≤ 3 := by
              have h1 := hd2.length
              rw [List.length_map] at h1
              have h2 := stepW_len (k := 2) hm (p := (a, wt)) ⟨ha1, ha2⟩
              omega
            refine way_extend F N off dA9 dW9 hc2 hnew hne hYL (Ne.symm (hI2a _ (List.mem_cons_of_mem _ (List.mem_cons_of_mem _ (List.mem_cons_self ..))))) (by omega) ?_
            intro h7 eq7 F7 N7
            (try k_fold)
            k_steps
            exact ji_end F7 N7 dA9 dW9 hc2 hnew hne hYL ⟨hI2c, hI2w, hI2a _ (List.mem_cons_of_mem _ (List.mem_cons_of_mem _ (List.mem_cons_self ..))), hI2a _ (List.mem_cons_of_mem _ (List.mem_cons_of_mem _ (List.mem_cons_of_mem _ (List.mem_cons_self ..)))), fun p hp => hI2a p (List.mem_cons_of_mem _ (List.mem_cons_of_mem _ (List.mem_cons_of_mem _ (List.mem_cons_of_mem _ hp))))⟩ hoI2 hja hdu hd2 rfl rfl rfl rfl rfl
        · rw [show sgStr 3 = Str.ofString ">=" from rfl] at F9
          (try k_fold)
          k_steps
          unfold Halt
          (with_reducible rename Fr _ _ _ _ => F9)
          (with_reducible rename News _ _ _ _ => N9)
          refine LCg.CompSrc.range rfl F9 N9 (by assumption) (small_one (by omega) (by omega) (by omega) (by omega)) (rangeSize_nat _ _) (by rw [sizeLine_eq]; omega) ?_
          intro g
          refine rest_of (JW _ (fun i : Nat => (0 + (i : Int), wt))) ?fin ?step _ 0 [] _ (Nat.zero_add _) (JW.zero _ _)
          case step => as_aux_lemma =>
            intro i' zs nx v I3 oI3 C oC D m₃ h tk E' hi hJ hP hC hx F N off ne
            obtain ⟨tb, rfl⟩ := hP
            have hJ' := hJ
            obtain ⟨own2, rfl, hd2, hc2⟩ := hJ
            have N := news_also N (x := (_, oW9)) (List.mem_cons_of_mem _ (List.mem_cons_of_mem _ (List.mem_cons_of_mem _ (List.mem_append_right _ (List.mem_cons_of_mem _ (List.mem_cons_self ..))))))
            have N := news_also N (x := (_, oA9)) (List.mem_cons_of_mem _ (List.mem_cons_of_mem _ (List.mem_cons_of_mem _ (List.mem_cons_of_mem _ (List.mem_append_right _ (List.mem_cons_self ..))))))
            clear F9 N9
            (try k_fold)
            k_steps
            all_goals (with_reducible rename Fr _ _ _ _ => F8)
            all_goals (with_reducible rename News _ _ _ _ => N8)
            all_goals (with_reducible rename ((_ : Nat) < _ ∧ _) => l8)
            all_goals exact jw_more F8 (N8.perm fun p hp => (List.mem_cons.mp hp).elim (fun e => e ▸ List.mem_cons_self ..) fun hp => List.mem_cons_of_mem _ (List.mem_cons_of_mem _ (List.mem_cons_of_mem _ hp))) l8.2.2 off hJ' (by first | rfl | (simp only [*, if_true, if_false]))
          case fin => as_aux_lemma =>
            rintro zs nx ⟨own2, rfl, hd2, hc2⟩
            intro D h tk F N off
            clear F9 N9
            (try k_fold)
            k_steps
            unfold Halt
            have e : (List.range (a - 0).toNat).map (fun i : Nat => (0 + (i : Int), wt)) = stepW 3 m (a, wt) := by show _ = List.map _ (spanI _ _); unfold spanI; rw [List.map_map]; rfl
            rw [e] at hd2
            have hzl : zs.length ≤ 3 := by
              have h1 := hd2.length
              rw [List.length_map] at h1
              have h2 := stepW_len (k := 3) hm (p := (a, wt)) ⟨ha1, ha2⟩
              omega
            refine way_extend F N off dA9 dW9 hc2 hnew hne hYL (Ne.symm (hI2a _ (List.mem_cons_of_mem _ (List.mem_cons_of_mem _ (List.mem_cons_self ..))))) (by omega) ?_
            intro h7 eq7 F7 N7
            (try k_fold)
            k_steps
            exact ji_end F7 N7 dA9 dW9 hc2 hnew hne hYL ⟨hI2c, hI2w, hI2a _ (List.mem_cons_of_mem _ (List.mem_cons_of_mem _ (List.mem_cons_self ..))), hI2a _ (List.mem_cons_of_mem _ (List.mem_cons_of_mem _ (List.mem_cons_of_mem _ (List.mem_cons_self ..)))), fun p hp => hI2a p (List.mem_cons_of_mem _ (List.mem_cons_of_mem _ (List.mem_cons_of_mem _ (List.mem_cons_of_mem _ hp))))⟩ hoI2 hja hdu hd2 rfl rfl rfl rfl rfl
        · rw [show sgStr 4 = Str.ofString "==" from rfl] at F9
          (try k_fold)
          k_steps
          unfold Halt
          (with_reducible rename Fr _ _ _ _ => F8)
          (with_reducible rename News _ _ _ _ => N8)
          refine way_append F8 N8 dA9 dW9 (fun p hp => by rw [List.mem_singleton.mp hp]; exact ⟨rfl, _, _, rfl⟩) hnew hne hYL (Ne.symm (hI2a _ (List.mem_cons_of_mem _ (List.mem_cons_of_mem _ (List.mem_cons_self ..))))) (by omega) ?_
          clear F8 N8
          intro h7 eq7 F7 N7
          (try k_fold)
          k_steps
          exact ji_end (zs := [.ref _]) F7 N7 dA9 dW9 (fun p hp => by rw [List.mem_singleton.mp hp]; exact ⟨rfl, _, _, rfl⟩) hnew hne hYL ⟨hI2c, hI2w, hI2a _ (List.mem_cons_of_mem _ (List.mem_cons_of_mem _ (List.mem_cons_self ..))), hI2a _ (List.mem_cons_of_mem _ (List.mem_cons_of_mem _ (List.mem_cons_of_mem _ (List.mem_cons_self ..)))), fun p hp => hI2a p (List.mem_cons_of_mem _ (List.mem_cons_of_mem _ (List.mem_cons_of_mem _ (List.mem_cons_of_mem _ hp))))⟩ hoI2 hja hdu (.cons (.tuple (vs := [.int a _, .int (-wt) _]) (List.mem_cons_self ..) (.cons (.int _ _) (.cons (.int _ _) .nil))) .nil) rfl rfl rfl rfl rfl
        · rw [show sgStr 5 = Str.ofString "!=" from rfl] at F9
          (try k_fold)
          k_steps
          unfold Halt
          (with_reducible rename Fr _ _ _ _ => F9)
          (with_reducible rename News _ _ _ _ => N9)
          refine LCg.CompSrc.range rfl F9 N9 (by assumption) (small_one (by omega) (by omega) (by omega) (by omega)) (rangeSize_nat _ _) (by rw [sizeLine_eq]; omega) ?_
          intro g
          refine rest_of (JW _ (fun i : Nat => (0 + (i : Int), if 0 + (i : Int) = a then 2 * wt else wt))) ?fin ?step _ 0 [] _ (Nat.zero_add _) (JW.zero _ _)
          case step => as_aux_lemma =>
            intro i' zs nx v I3 oI3 C oC D m₃ h tk E' hi hJ hP hC hx F N off ne
            obtain ⟨tb, rfl⟩ := hP
            have hJ' := hJ
            obtain ⟨own2, rfl, hd2, hc2⟩ := hJ
            have N := news_also N (x := (_, oW9)) (List.mem_cons_of_mem _ (List.mem_cons_of_mem _ (List.mem_cons_of_mem _ (List.mem_append_right _ (List.mem_cons_of_mem _ (List.mem_cons_self ..))))))
            have N := news_also N (x := (_, oA9)) (List.mem_cons_of_mem _ (List.mem_cons_of_mem _ (List.mem_cons_of_mem _ (List.mem_cons_of_mem _ (List.mem_append_right _ (List.mem_cons_self ..))))))
            clear F9 N9
            (try k_fold)
            k_steps
            all_goals (with_reducible rename Fr _ _ _ _ => F8)
            all_goals (with_reducible rename News _ _ _ _ => N8)
            all_goals (with_reducible rename ((_ : Nat) < _ ∧ _) => l8)
            all_goals exact jw_more F8 (N8.perm fun p hp => (List.mem_cons.mp hp).elim (fun e => e ▸ List.mem_cons_self ..) fun hp => List.mem_cons_of_mem _ (List.mem_cons_of_mem _ (List.mem_cons_of_mem _ hp))) l8.2.2 off hJ' (by first | rfl | (simp only [*, if_true, if_false]))
          case fin => as_aux_lemma =>
            rintro zs nx ⟨own2, rfl, hd2, hc2⟩
            intro D h tk F N off
            clear F9 N9
            (try k_fold)
            k_steps
            unfold Halt
            have e : (List.range ((m : Int) - 0).toNat).map (fun i : Nat => (0 + (i : Int), if 0 + (i : Int) = a then 2 * wt else wt)) = stepW 5 m (a, wt) := by show _ = List.map _ (spanI _ _); unfold spanI; rw [List.map_map]; rfl
            rw [e] at hd2
            have hzl : zs.length ≤ 3 := by
              have h1 := hd2.length
              rw [List.length_map] at h1
              have h2 := stepW_len (k := 5) hm (p := (a, wt)) ⟨ha1, ha2⟩
              omega
            refine way_extend F N off dA9 dW9 hc2 hnew hne hYL (Ne.symm (hI2a _ (List.mem_cons_of_mem _ (List.mem_cons_of_mem _ (List.mem_cons_self ..))))) (by omega) ?_
            intro h7 eq7 F7 N7
            (try k_fold)
            k_steps
            exact ji_end F7 N7 dA9 dW9 hc2 hnew hne hYL ⟨hI2c, hI2w, hI2a _ (List.mem_cons_of_mem _ (List.mem_cons_of_mem _ (List.mem_cons_self ..))), hI2a _ (List.mem_cons_of_mem _ (List.mem_cons_of_mem _ (List.mem_cons_of_mem _ (List.mem_cons_self ..)))), fun p hp => hI2a p (List.mem_cons_of_mem _ (List.mem_cons_of_mem _ (List.mem_cons_of_mem _ (List.mem_cons_of_mem _ hp))))⟩ hoI2 hja hdu hd2 rfl rfl rfl rfl rfl
end
section
def below (ns : List Int) : List Int := match ns.reverse with
  | [] => []
  | a :: r => r.foldl (fun o x => (x - o.headD 0) :: o) [a]
def gapI (r : List Int) (k : Nat) : Int := r.getD (k + 1) 0 - r.getD k 0
def gapsI (r : List Int) : List Int := (List.range (r.length - 1)).map (gapI r)
def diffsN : Nat → List Int → List Int
  | 0, _ => []
  | n + 1, r => r.headD 0 :: diffsN n (gapsI r)
def diffs (r : List Int) : List Int := diffsN r.length r
theorem gapsI_len (r : List Int) : (gapsI r).length = r.length - 1 := by unfold gapsI; rw [List.length_map, List.length_range]
theorem diffs_step {r : List Int} {a : Int} {l : List Int} (h : r = a :: l) : diffs r = a :: diffs (gapsI r) := by
  unfold diffs
  rw [gapsI_len]
  subst h
  rfl
theorem diffs_len (r : List Int) : (diffs r).length = r.length := by
  have : ∀ n (r : List Int), (diffsN n r).length = n := by
    intro n
    induction n with
    | zero => intro r; rfl
    | succ n ih => intro r; show (diffsN n (gapsI r)).length + 1 = n + 1; rw [ih]
  exact this _ r
/-- between the turns of the differences -/
def JD (h₀ : Heap) (cR O : Addr) (goal : List Int) (n : Nat) (m : Str → Option Value) (nx : List (Addr × Obj)) : Prop :=
  ∃ (R : Addr) (xs outs : List Value) (xis ois : List Int) (eo : Nat) (oR : Obj) (Y : List (Addr × Obj)), n = xis.length ∧ m (Str.ofString "out") = some (.ref O) ∧ nx = (cR, oR) :: (O, PySem.W.listOf outs.toArray eo) :: Y ∧ oR.data = .cell (some (.ref R)) ∧ IntsAre xs xis ∧ IntsAre outs ois ∧ ois ++ diffs xis = goal ∧ xis.length ≤ 10 ∧ (@Ne Nat cR O) ∧
    ((h₀.IsList R xs.toArray ∧ Y = []) ∨ ((@Ne Nat R O) ∧ (@Ne Nat cR R) ∧ ∃ er, Y = [(R, PySem.W.listOf xs.toArray er)]))
theorem JD.mk {h₀ : Heap} {cR O R : Addr} {goal : List Int} {m : Str → Option Value} {xs outs : List Value} {xis ois : List Int} {eo : Nat} {oR : Obj} {Y : List (Addr × Obj)} (a1 : m (Str.ofString "out") = some (.ref O)) (dR : oR.data = .cell (some (.ref R))) (hx : IntsAre xs xis) (ho : IntsAre outs ois) (hg : ois ++ diffs xis = goal) (hl : xis.length ≤ 10) (hc : @Ne Nat cR O)
    (hR : (h₀.IsList R xs.toArray ∧ Y = []) ∨ ((@Ne Nat R O) ∧ (@Ne Nat cR R) ∧ ∃ er, Y = [(R, PySem.W.listOf xs.toArray er)])) : JD h₀ cR O goal xis.length m ((cR, oR) :: (O, PySem.W.listOf outs.toArray eo) :: Y) :=
  ⟨R, xs, outs, xis, ois, eo, oR, Y, rfl, a1, rfl, dR, hx, ho, hg, hl, hc, hR⟩
def JZ (base : List (Addr × Obj)) (f : Nat → Int) (i : Nat) (ys : List Value) (nx : List (Addr × Obj)) : Prop := nx = base ∧ IntsAre ys ((List.range i).map f)
theorem JZ.zero (base : List (Addr × Obj)) (f : Nat → Int) : JZ base f 0 [] base := ⟨rfl, .nil⟩
theorem JZ.more {base : List (Addr × Obj)} {f : Nat → Int} {i : Nat} {ys : List Value} {x : Int} {t : Tok} (h : IntsAre ys ((List.range i).map f)) (he : f i = x) : JZ base f (i + 1) (ys ++ [.int x t]) base := by
  refine ⟨rfl, ?_⟩
  rw [List.range_succ, List.map_append]
  subst he
  exact h.append (.cons _ _ .nil)
theorem jd_more {h₀ h' : Heap} {L cR O D : Addr} {s : Shared} {Q : Flow → Shared → Prop} {goal xis ois : List Int} {x0 x1 : Int} {rest : List Int} {t : Tok} {outs zs : List Value} {oR : Obj} {eo tk k : Nat} {m : Str → Option Value} {nx : List (Addr × Obj)}
    (F : Fr h₀ L h' m) (N : News h₀ L h' nx) (m1 : (cR, oR) ∈ nx) (m2 : (O, PySem.W.listOf (outs ++ [Value.int x1 t]).toArray eo) ∈ nx) (m3 : (D, LCg.lst zs) ∈ nx) (a1 : m (Str.ofString "out") = some (.ref O)) (dR : oR.data = .cell (some (.ref D))) (hx0 : xis = x0 :: rest) (hx1 : x1 = x0) (hk : k = xis.length - 1)
    (hz : IntsAre zs ((List.range k).map (gapI xis))) (ho : IntsAre outs ois) (hg : ois ++ diffs xis = goal) (hl : xis.length ≤ 10) (hc : @Ne Nat cR O) (h1 : @Ne Nat D O) (h2 : @Ne Nat cR D) :
    WhileStep2 h₀ L s (JD h₀ cR O goal) Q xis.length .next { s with heap := h', toks := tk } := by
  subst hk hx1
  have hz' : IntsAre zs (gapsI xis) := hz
  refine ⟨h', tk, m, [(cR, oR), (O, PySem.W.listOf (outs ++ [Value.int x1 t]).toArray eo), (D, PySem.W.listOf zs.toArray zs.length)], (gapsI xis).length, rfl, F, fun p hp => N p ?_, ?_, JD.mk a1 dR hz' (ho.append (.cons _ _ .nil)) ?_ ?_ hc (.inr ⟨h1, h2, _, rfl⟩)⟩
  · simp only [List.mem_cons, List.not_mem_nil, or_false] at hp
    rcases hp with rfl | rfl | rfl
    · exact m1
    · exact m2
    · exact m3
  · rw [gapsI_len, hx0]; simp
  · rw [List.append_assoc, ← hg, diffs_step hx0]; rfl
  · rw [gapsI_len]; omega
end
section
theorem fn_below6 (w : World) (rl : Addr) (a0 a1 a2 a3 a4 a5 : Int) (t0 t1 t2 t3 t4 t5 : Tok) : Fn w 0 100 1 400 [.ref rl] (fun news => ∃ ep, (rl, W.listOf #[.int a0 t0, .int a1 t1, .int a2 t2, .int a3 t3, .int a4 t4, .int a5 t5] ep) ∈ news)
   (fun _ new v => ∃ D ep ys, v = .ref D ∧ new = [(D, W.listOf ys.toArray ep)] ∧ IntsAre ys (below [a0, a1, a2, a3, a4, a5])) := by
  w_top off
  k_with_none
  k_with "execs cons" => (k_here; k_fold)
  k_with "execs nil" => (k_here; k_fold)
  k_with "subscriptTail Name Slice ref ref" => (k_here; refine Halt.go ?_)
  k_with "exec For" => (k_here; refine For_invVF (by k_asm) (by rfl) (by rfl) ?_)
  ((have hfill : Challenge.rw_pg0195_01.row.prog = Challenge.rw_pg0195_01.row.prog ∧ hd.heap_1_1 = hd.heap_1_1 := by k_fill; exact ⟨rfl, rfl⟩); clear hfill; refine' fn_of ?ho ?hcd ?hb ?hk ?hn ?h1 ?h2 ?h3 ?_; (case ho => k_is); (case hcd => k_is); (case hb => exact rfl); (case hk => exact rfl); (case hn => decide +kernel); (case h1 => exact rfl); (case h2 => exact rfl); (case h3 => exact rfl); k_whole; intro dpz unz gdz cnz csz az ccdz clz outerz basez h0z Lz mz newsz sz Qz Ez meanz mgz mbz Lzp h1z tkz cellsz kcz N0z hprez hdpz hunz Fzp Nzp Yzp Bzp Xzp Tzp hretz; (first | k_cells Yzp | cases Yzp); (try simp only [List.cons_append, List.nil_append] at Nzp); (try dsimp only); (try k_fold))
  (with_reducible rename ∃ ep, (rl, _) ∈ _ => hpre)
  obtain ⟨epk, hmk⟩ := hpre
  have hkL := News.isList (by assumption) hmk
  (try k_fold)
  k_steps
  unfold Halt
  (with_reducible rename ∀ (v : Value) (new : List (Addr × Obj)) (h' : Heap) (tk' : Nat) (L₂ : Addr) (m₂ : Str → Option Value), _ => hret)
  (with_reducible rename Fr _ _ _ _ => F9)
  (with_reducible rename News _ _ _ _ => N9)
  refine kmk_slice3_lit (zs := [.int a4 t4, .int a3 t3, .int a2 t2, .int a1 t1, .int a0 t0]) F9 N9 (Fr.lst F9 hkL) (.int _ _) .none (.int _ _) (by decide) (by with_unfolding_all rfl) ?_ (by with_unfolding_all rfl) (fun _ => rfl) (Nat.le_of_ble_eq_true rfl)
  clear F9 N9
  intro D h9 F9 N9 _
  (try k_fold)
  k_steps
  (with_reducible rename Fr _ _ _ _ => F8)
  (with_reducible rename News _ _ _ _ => N8)
  exact hret _ [(_, _)] _ _ _ _ F8 (fun p hp => N8 p (by rw [List.mem_singleton.mp hp]; exact List.mem_cons_self ..)) ⟨_, _, [_, _, _, _, _, _], rfl, rfl, .cons _ _ (.cons _ _ (.cons _ _ (.cons _ _ (.cons _ _ (.cons _ _ .nil)))))⟩
theorem fn_below (w : World) (rl : Addr) (vs : List Value) (ns : List Int) (hi : IntsAre vs ns) (h6 : ns.length = 6) : Fn w 0 100 1 400 [.ref rl] (fun news => ∃ ep, (rl, W.listOf vs.toArray ep) ∈ news)
   (fun _ new v => ∃ D ep ys, v = .ref D ∧ new = [(D, W.listOf ys.toArray ep)] ∧ IntsAre ys (below ns)) := by
  obtain ⟨a0, a1, a2, a3, a4, a5, t0, t1, t2, t3, t4, t5, rfl, rfl⟩ := ints_six hi h6
  exact fn_below6 w rl a0 a1 a2 a3 a4 a5 t0 t1 t2 t3 t4 t5
end
section
theorem fn_diff (w : World) (rl : Addr) (vs : List Value) (ns : List Int) (hi : IntsAre vs ns) (hn : ns.length ≤ 10) : Fn w 0 93 1 400 [.ref rl] (fun news => ∃ ep, (rl, W.listOf vs.toArray ep) ∈ news)
   (fun _ new v => ∃ D ep ys, v = .ref D ∧ new = [(D, W.listOf ys.toArray ep)] ∧ IntsAre ys (diffs ns)) := by
  w_top off
  k_with_none
  k_with "execs cons" => (k_here; k_fold)
  k_with "execs nil" => (k_here; k_fold)
  k_with "exec While" => (k_here; refine Halt.go ?_)
  k_with "call builtin:list.append" => (k_here; refine Halt.go ?_)
  k_with "CompSrc" => (k_here; refine Halt.go ?_)
  ((have hfill : Challenge.rw_pg0195_01.row.prog = Challenge.rw_pg0195_01.row.prog ∧ hd.heap_1_1 = hd.heap_1_1 := by k_fill; exact ⟨rfl, rfl⟩); clear hfill; refine' fn_of ?ho ?hcd ?hb ?hk ?hn ?h1 ?h2 ?h3 ?_; (case ho => k_is); (case hcd => k_is); (case hb => exact rfl); (case hk => exact rfl); (case hn => decide +kernel); (case h1 => exact rfl); (case h2 => exact rfl); (case h3 => exact rfl); k_whole; intro dpz unz gdz cnz csz az ccdz clz outerz basez h0z Lz mz newsz sz Qz Ez meanz mgz mbz Lzp h1z tkz cellsz kcz N0z hprez hdpz hunz Fzp Nzp Yzp Bzp Xzp Tzp hretz; (first | k_cells Yzp | cases Yzp); (try simp only [List.cons_append, List.nil_append] at Nzp); (try dsimp only); (try k_fold))
  (with_reducible rename ∃ ep, (rl, _) ∈ _ => hpre)
  (with_reducible rename ∀ (v : Value) (new : List (Addr × Obj)) (h' : Heap) (tk' : Nat) (L₂ : Addr) (m₂ : Str → Option Value), _ => hret)
  obtain ⟨epk, hmk⟩ := hpre
  have hkL := News.isList (by assumption) hmk
  (try k_fold)
  k_steps
  unfold Halt
  (with_reducible rename Fr _ _ _ _ => F9)
  (with_reducible rename News _ _ _ _ => N9)
  have N10 : News _ _ _ ((_, _) :: (_, W.listOf (([] : List Value)).toArray 0) :: []) := N9.perm fun p hp => by
    simp only [List.mem_cons, List.not_mem_nil, or_false] at hp ⊢
    exact Or.symm hp
  clear N9
  (with_reducible rename ((_ : Nat) < _) => l9)
  refine While_inv2 (JD _ _ _ (diffs ns)) F9 N10 (JD.mk (outs := []) (ois := []) rfl (by assumption) hi .nil rfl hn (Nat.ne_of_lt l9) (.inl ⟨hkL, rfl⟩)) ?turn
  clear F9 N10 l9
  intro n m₁ news₁ h₁ tk₁ F₁ N J₁
  obtain ⟨R, xs, outs, xis, ois, eo, oR, Y, rfl, a1, rfl, dR, hx, ho, hg, hl, hc, hR⟩ := J₁
  have F := fr_ov F₁ (ps := [(Str.ofString "out", .ref _)]) ⟨a1, trivial⟩
  have hol : outs.length ≤ 10 := by
    have h1 := congrArg List.length hg
    rw [List.length_append, diffs_len, diffs_len] at h1
    have h2 := ho.length
    omega
  rcases hR with ⟨hR, rfl⟩ | ⟨hRO, hcR, er, rfl⟩
  · skip
    (try k_fold)
    k_steps
    · obtain ⟨x0, rest, hx0⟩ : ∃ a l, xis = a :: l := by
        cases xis with
        | nil => exact absurd (by assumption : (0 : Nat) < ([] : List Int).length) (Nat.lt_irrefl _)
        | cons a l => exact ⟨a, l, rfl⟩
      unfold Halt
      refine append_K F N (Upd.tail hc (Upd.head fun _ h => nomatch h)) ?_ (by rw [List.size_toArray, sizeLine_eq]; omega)
      clear F N
      intro h9 F9 N9
      (try k_fold)
      k_steps
      unfold Halt
      (with_reducible rename Fr _ _ _ _ => F8)
      (with_reducible rename News _ _ _ _ => N8)
      refine LCg.CompSrc.range rfl F8 N8 (by assumption) (small_one (by omega) (by omega) (by omega) (by omega)) (rangeSize_nat _ _) (by rw [sizeLine_eq]; omega) ?_
      intro g
      refine rest_of (JZ _ (gapI xis)) ?fin ?step _ 0 [] _ (Nat.zero_add _) (JZ.zero _ _)
      case step =>
        clear F8 N8
        intro k zs nx v I oI C oC D m₂ h tk E' hik hJ hP hC hx F N off ne
        obtain ⟨rfl, hz⟩ := hJ
        obtain ⟨tb, rfl⟩ := hP
        have hk1 : (0 : Int) + k + 1 < xis.length := by omega
        have hk0 : (0 : Int) + k < xis.length := by omega
        (try k_fold)
        k_steps
        (with_reducible rename Fr _ _ _ _ => F8)
        (with_reducible rename News _ _ _ _ => N8)
        exact LCg.CompEnd.intro F8 N8 _ (fun p hp => hp) off trivial (JZ.more hz (by unfold gapI; rw [show ((0 : Int) + k + 1).toNat = k + 1 by omega, show ((0 : Int) + k).toNat = k by omega]))
      case fin =>
        rintro zs nx ⟨rfl, hz⟩
        intro D h tk F N off
        simp only [LCg.Off1, and_true] at off
        clear F8 N8
        (try k_fold)
        k_steps
        (with_reducible rename Fr _ _ _ _ => F8)
        (with_reducible rename News _ _ _ _ => N8)
        (with_reducible rename _ = Data.cell (some (Value.ref D)) => dD)
        exact jd_more F8 N8 (List.mem_cons_of_mem _ (List.mem_cons_self ..)) (List.mem_cons_of_mem _ (List.mem_cons_of_mem _ (List.mem_cons_self ..))) (List.mem_cons_self ..) rfl dD hx0 (by rw [hx0]; rfl) (by omega) hz ho hg hl hc (Ne.symm off.2) off.1
    · have hx0 : xis = [] := List.length_eq_zero_iff.mp (by omega)
      rw [hx0, show diffs [] = [] from rfl, List.append_nil] at hg
      exact hret _ [(_, _)] _ _ _ _ F (fun p hp => N p (by rw [List.mem_singleton.mp hp]; exact List.mem_cons_of_mem _ (List.mem_cons_self ..))) ⟨_, _, outs, rfl, rfl, hg ▸ ho⟩
  · skip
    (try k_fold)
    k_steps
    · obtain ⟨x0, rest, hx0⟩ : ∃ a l, xis = a :: l := by
        cases xis with
        | nil => exact absurd (by assumption : (0 : Nat) < ([] : List Int).length) (Nat.lt_irrefl _)
        | cons a l => exact ⟨a, l, rfl⟩
      unfold Halt
      refine append_K F N (Upd.tail hc (Upd.head fun p hp => by rw [List.mem_singleton.mp hp]; exact hRO)) ?_ (by rw [List.size_toArray, sizeLine_eq]; omega)
      clear F N
      intro h9 F9 N9
      (try k_fold)
      k_steps
      unfold Halt
      (with_reducible rename Fr _ _ _ _ => F8)
      (with_reducible rename News _ _ _ _ => N8)
      refine LCg.CompSrc.range rfl F8 N8 (by assumption) (small_one (by omega) (by omega) (by omega) (by omega)) (rangeSize_nat _ _) (by rw [sizeLine_eq]; omega) ?_
      intro g
      refine rest_of (JZ _ (gapI xis)) ?fin ?step _ 0 [] _ (Nat.zero_add _) (JZ.zero _ _)
      case step =>
        clear F8 N8
        intro k zs nx v I oI C oC D m₂ h tk E' hik hJ hP hC hx F N off ne
        obtain ⟨rfl, hz⟩ := hJ
        obtain ⟨tb, rfl⟩ := hP
        have hk1 : (0 : Int) + k + 1 < xis.length := by omega
        have hk0 : (0 : Int) + k < xis.length := by omega
        (try k_fold)
        k_steps
        (with_reducible rename Fr _ _ _ _ => F8)
        (with_reducible rename News _ _ _ _ => N8)
        exact LCg.CompEnd.intro F8 N8 _ (fun p hp => hp) off trivial (JZ.more hz (by unfold gapI; rw [show ((0 : Int) + k + 1).toNat = k + 1 by omega, show ((0 : Int) + k).toNat = k by omega]))
      case fin =>
        rintro zs nx ⟨rfl, hz⟩
        intro D h tk F N off
        simp only [LCg.Off1, and_true] at off
        clear F8 N8
        (try k_fold)
        k_steps
        (with_reducible rename Fr _ _ _ _ => F8)
        (with_reducible rename News _ _ _ _ => N8)
        (with_reducible rename _ = Data.cell (some (Value.ref D)) => dD)
        exact jd_more F8 N8 (List.mem_cons_of_mem _ (List.mem_cons_self ..)) (List.mem_cons_of_mem _ (List.mem_cons_of_mem _ (List.mem_cons_self ..))) (List.mem_cons_self ..) rfl dD hx0 (by rw [hx0]; rfl) (by omega) hz ho hg hl hc (Ne.symm off.2.1) off.1
    · have hx0 : xis = [] := List.length_eq_zero_iff.mp (by omega)
      rw [hx0, show diffs [] = [] from rfl, List.append_nil] at hg
      exact hret _ [(_, _)] _ _ _ _ F (fun p hp => N p (by rw [List.mem_singleton.mp hp]; exact List.mem_cons_of_mem _ (List.mem_cons_self ..))) ⟨_, _, outs, rfl, rfl, hg ▸ ho⟩
end
section
theorem ops_signs : (ops.all fun p => p.1.all fun c => !alp c) = true := by decide +kernel
theorem lookup_mem {p : List Nat} {i : Int} : ∀ {os : List (List Nat × Int)}, os.lookup p = some i → (p, i) ∈ os
  | [], h => nomatch h
  | (q, j) :: os, h => by
    rw [List.lookup_cons] at h
    split at h
    · rename_i e
      cases h
      rw [eq_of_beq e]
      exact List.mem_cons_self ..
    · exact List.mem_cons_of_mem _ (lookup_mem h)
theorem not_op {p : List Nat} {c : Nat} (hc : c ∈ p) (ha : alp c = true) : isOp p = false := by
  unfold isOp
  cases e : ops.lookup p with
  | none => rfl
  | some i =>
    have := List.all_eq_true.mp ops_signs _ (lookup_mem e)
    have := List.all_eq_true.mp this c hc
    rw [ha] at this
    cases this
theorem shr_cut {n : Nat} {p : List Nat} {c : Nat} (h1 : 1 < p.length) (hc : c ∈ p) (ha : alp c = true) : shr (n + 1) p = shr n p.dropLast := by
  rw [shr, if_pos (by rw [not_op hc ha]; simp; omega)]
theorem drop_all {p : Nat → Bool} : ∀ {l : List Nat}, l.dropWhile p = [] → ∀ z ∈ l, p z = true
  | [], _, _, hz => nomatch hz
  | c :: r, h, z, hz => by
    rw [List.dropWhile_cons] at h
    split at h
    · rename_i hc
      rcases List.mem_cons.mp hz with rfl | hz
      · exact hc
      · exact drop_all h z hz
    · cases h
theorem tw_stop {p : Nat → Bool} {c : Nat} {r : List Nat} (h : p c = false) : (c :: r).takeWhile p = [] ∧ (c :: r).dropWhile p = c :: r := by
  rw [List.takeWhile_cons, List.dropWhile_cons, h]; exact ⟨rfl, rfl⟩
theorem tok_split : ∀ (n : Nat) (x : List Nat) (a b : Nat) (y : List Nat), x.length ≤ n → alp a ≠ alp b → tok ((x ++ [a]) ++ (b :: y)) = tok (x ++ [a]) ++ tok (b :: y) := by
  intro n
  induction n with
  | zero =>
    intro x a b y hx hab
    obtain rfl : x = [] := List.eq_nil_of_length_eq_zero (Nat.le_zero.mp hx)
    rw [List.nil_append]
    cases ha : alp a with
    | true =>
      have hb : alp b = false := by cases hb : alp b <;> rw [ha, hb] at hab <;> simp at hab ⊢
      rw [tok_name (l := [a] ++ b :: y) rfl ha, tok_name (l := [a]) rfl ha]
      simp [List.takeWhile_cons, List.dropWhile_cons, ha, hb, tok_nil]
    | false =>
      have hb : alp b = true := by cases hb : alp b <;> rw [ha, hb] at hab <;> simp at hab ⊢
      have e1 : shr 3 ([a].take 3) = [a] := shr_stop (.inl (by simp)) 3
      have e2 : shr 3 (([a] ++ b :: y).take 3) = [a] := by
        cases y with
        | nil =>
          show shr 3 [a, b] = [a]
          rw [shr_cut (c := b) (by simp) (by simp) hb]
          exact shr_stop (.inl (by simp)) 2
        | cons z y =>
          show shr 3 [a, b, z] = [a]
          rw [shr_cut (c := b) (by simp) (by simp) hb]
          show shr 2 [a, b] = [a]
          rw [shr_cut (c := b) (by simp) (by simp) hb]
          exact shr_stop (.inl (by simp)) 1
      rw [tok_op (l := [a] ++ b :: y) rfl ha, tok_op (l := [a]) rfl ha, e1, e2]
      rfl
  | succ n ih =>
    intro x a b y hx hab
    cases x with
    | nil => exact ih [] a b y (Nat.zero_le _) hab
    | cons c r =>
    rw [List.length_cons] at hx
    cases hc : alp c with
    | true =>
      rw [tok_name (l := c :: r ++ [a] ++ b :: y) rfl hc, tok_name (l := c :: r ++ [a]) rfl hc]
      rcases hd : (c :: r ++ [a]).dropWhile alp with _ | ⟨d, s⟩
      · have hall : ∀ z ∈ c :: r ++ [a], alp z = true := drop_all hd
        have ha : alp a = true := hall a (by simp)
        have hb : alp b = false := by cases hb : alp b <;> rw [ha, hb] at hab <;> simp at hab ⊢
        rw [List.takeWhile_append_of_pos hall, List.dropWhile_append_of_pos hall, List.takeWhile_cons, List.dropWhile_cons, hb]
        rw [show (c :: r ++ [a]).takeWhile alp = c :: r ++ [a] from by
          have := List.takeWhile_append_dropWhile (p := alp) (l := c :: r ++ [a])
          rw [hd, List.append_nil] at this
          exact this]
        simp [tok_nil]
      · have hsuf : (d :: s) <:+ (c :: r ++ [a]) := hd ▸ List.dropWhile_suffix alp
        obtain ⟨x', e'⟩ : ∃ x', d :: s = x' ++ [a] := by
          obtain ⟨u, hu⟩ := hsuf
          rcases List.eq_nil_or_concat (d :: s) with h | ⟨x', z, h⟩
          · cases h
          · refine ⟨x', ?_⟩
            rw [h, List.concat_eq_append, ← List.append_assoc] at hu
            rw [h, List.concat_eq_append]
            have := (List.append_inj' hu rfl).2
            rw [this]
        have hlen : (d :: s).length ≤ r.length + 1 := by
          have : ((c :: r ++ [a]).dropWhile alp).length ≤ (r ++ [a]).length := by
            rw [List.cons_append, List.dropWhile_cons, if_pos hc]
            exact (List.dropWhile_sublist _).length_le
          rw [hd] at this
          simpa using this
        have htw : (c :: r ++ [a] ++ b :: y).takeWhile alp = (c :: r ++ [a]).takeWhile alp ∧ (c :: r ++ [a] ++ b :: y).dropWhile alp = (d :: s) ++ b :: y := by
          have h1 := List.takeWhile_append_dropWhile (p := alp) (l := c :: r ++ [a])
          rw [hd] at h1
          have hall : ∀ z ∈ (c :: r ++ [a]).takeWhile alp, alp z = true := fun z hz => List.all_eq_true.mp List.all_takeWhile z hz
          have hnd : alp d = false := by
            have := List.head?_dropWhile_not alp (c :: r ++ [a])
            rw [hd] at this
            simpa using this
          have h2 : c :: r ++ [a] ++ b :: y = (c :: r ++ [a]).takeWhile alp ++ ((d :: s) ++ b :: y) := by rw [← List.append_assoc, h1]
          constructor
          · rw [h2, List.takeWhile_append_of_pos hall, show (d :: s) ++ b :: y = d :: (s ++ b :: y) from rfl, (tw_stop hnd).1, List.append_nil]
          · rw [h2, List.dropWhile_append_of_pos hall, show (d :: s) ++ b :: y = d :: (s ++ b :: y) from rfl, (tw_stop hnd).2]
        rw [htw.1, htw.2, e', ih x' a b y (by have := congrArg List.length e'; rw [List.length_append] at this; simp only [List.length_cons, List.length_nil] at this hlen; omega) hab]
        rfl
    | false =>
      have hp : shr 3 ((c :: r ++ [a] ++ b :: y).take 3) = shr 3 ((c :: r ++ [a]).take 3) := by
        cases r with
        | nil =>
          show shr 3 [c, a, b] = shr 3 [c, a]
          have : alp a = true ∨ alp b = true := by
            cases ha : alp a <;> cases hb : alp b <;> rw [ha, hb] at hab <;> simp at hab ⊢
          rcases this with h | h
          · rw [shr_cut (c := a) (by simp) (by simp) h]
            exact shr_fuel 2 3 [c, a] (by simp) (by simp)
          · rw [shr_cut (c := b) (by simp) (by simp) h]
            exact shr_fuel 2 3 [c, a] (by simp) (by simp)
        | cons d r =>
          have : 3 ≤ (c :: d :: r ++ [a]).length := by simp
          rw [List.take_append_of_le_length this]
      have hpl := shr_len 3 ((c :: r ++ [a]).take 3) (by simp)
      have hple : (shr 3 ((c :: r ++ [a]).take 3)).length ≤ (c :: r ++ [a]).length := Nat.le_trans hpl.2 (by rw [List.length_take]; omega)
      rw [tok_op (l := c :: r ++ [a] ++ b :: y) rfl hc, tok_op (l := c :: r ++ [a]) rfl hc, hp, List.drop_append_of_le_length hple]
      rcases hd : (c :: r ++ [a]).drop (shr 3 ((c :: r ++ [a]).take 3)).length with _ | ⟨d, s⟩
      · rfl
      · have hsuf : (d :: s) <:+ (c :: r ++ [a]) := hd ▸ List.drop_suffix _ _
        obtain ⟨x', e'⟩ : ∃ x', d :: s = x' ++ [a] := by
          obtain ⟨u, hu⟩ := hsuf
          rcases List.eq_nil_or_concat (d :: s) with h | ⟨x', z, h⟩
          · cases h
          · refine ⟨x', ?_⟩
            rw [h, List.concat_eq_append, ← List.append_assoc] at hu
            rw [h, List.concat_eq_append]
            have := (List.append_inj' hu rfl).2
            rw [this]
        have hlen : (d :: s).length < (c :: r ++ [a]).length := hd ▸ drop_lt hpl.1 (by simp)
        rw [e', ih x' a b y (by have := congrArg List.length e'; simp only [List.length_append, List.length_cons, List.length_nil] at this hlen; omega) hab]
        rfl
/-- it begins and ends with a sign that is no letter -/
def segB (z : List Nat) : Bool := match z.head?, z.getLast? with
  | some a, some b => !alp a && !alp b
  | _, _ => false
theorem seg_ends {z : List Nat} (h : segB z = true) : (∃ a r, z = a :: r ∧ alp a = false) ∧ ∃ r b, z = r ++ [b] ∧ alp b = false := by
  cases z with
  | nil => cases h
  | cons a r =>
    rcases List.eq_nil_or_concat (a :: r) with h9 | ⟨x', b, e⟩
    · cases h9
    · rw [List.concat_eq_append] at e
      unfold segB at h
      rw [show (a :: r).getLast? = some b by rw [e]; simp] at h
      simp only [List.head?_cons, Bool.and_eq_true, Bool.not_eq_true'] at h
      exact ⟨⟨a, r, rfl, h.1⟩, x', b, e, h.2⟩
theorem tok_seg {z n r : List Nat} {a : Nat} {n' : List Nat} (hz : segB z = true) (hn : n = a :: n') (ha : alp a = true) : tok (z ++ (n ++ r)) = tok z ++ tok (n ++ r) := by
  obtain ⟨_, x, b, rfl, hb⟩ := seg_ends hz
  subst hn
  rw [List.cons_append]
  exact tok_split _ x b a (n' ++ r) (Nat.le_refl _) (by rw [hb, ha]; decide)
theorem tok_nm {n z r : List Nat} (hn : (n.all alp) = true) (hne : n ≠ []) (hz : segB z = true) : tok (n ++ (z ++ r)) = (1, n) :: tok (z ++ r) := by
  obtain ⟨⟨a, q, rfl, ha⟩, _⟩ := seg_ends hz
  obtain ⟨c, n', rfl⟩ := List.exists_cons_of_ne_nil hne
  have hall : ∀ x ∈ c :: n', alp x = true := List.all_eq_true.mp hn
  rw [tok_name (l := c :: n' ++ (a :: q ++ r)) rfl (hall c (List.mem_cons_self ..)), List.takeWhile_append_of_pos hall, List.dropWhile_append_of_pos hall, show (a :: q) ++ r = a :: (q ++ r) from rfl, (tw_stop ha).1, (tw_stop ha).2, List.append_nil]
/-- the row: five names, four things between, one ahead -/
def rowT (z0 z1 z2 z3 z4 : List Nat) : List Nat := z0 ++ ([108, 116] ++ (z1 ++ ([103, 116] ++ (z2 ++ ([97, 109, 112] ++ (z3 ++ ([113, 117, 111, 116] ++ (z4 ++ ([108, 116] ++ [])))))))))
theorem tok_lt : tok ([108, 116] ++ []) = [(1, [108, 116])] := by decide +kernel
theorem tok_row {z0 z1 z2 z3 z4 : List Nat} (h0 : segB z0 = true) (h1 : segB z1 = true) (h2 : segB z2 = true) (h3 : segB z3 = true) (h4 : segB z4 = true) :
    tok (rowT z0 z1 z2 z3 z4) = tok z0 ++ ((1, [108, 116]) :: (tok z1 ++ ((1, [103, 116]) :: (tok z2 ++ ((1, [97, 109, 112]) :: (tok z3 ++ ((1, [113, 117, 111, 116]) :: (tok z4 ++ [(1, [108, 116])])))))))) := by
  unfold rowT
  rw [tok_seg h0 rfl (by decide +kernel), tok_nm (by decide +kernel) (by simp) h1, tok_seg h1 rfl (by decide +kernel), tok_nm (by decide +kernel) (by simp) h2, tok_seg h2 rfl (by decide +kernel), tok_nm (by decide +kernel) (by simp) h3,
    tok_seg h3 rfl (by decide +kernel), tok_nm (by decide +kernel) (by simp) h4, tok_seg h4 rfl (by decide +kernel), tok_lt]
/-- no three signs straddle its end -/
def endB (ts : List (Int × List Nat)) : Bool := match ts.getLast? with
  | some t => t.1 != 19 && t.1 != 1
  | none => true
theorem end_cons {t : Int × List Nat} {r : List (Int × List Nat)} (h : endB (t :: r) = true) : endB r = true := by
  cases r with
  | nil => rfl
  | cons u r => unfold endB at h ⊢; rw [List.getLast?_cons_cons] at h; exact h
theorem trip_not {t : Int × List Nat} {r : List (Int × List Nat)} (h : t.1 ≠ 19) : trip (t :: r) = false := by
  unfold trip
  rw [List.take_succ_cons, List.map_cons]
  exact beq_eq_false_iff_ne.mpr fun e => h (List.cons.inj e).1
theorem trip_app {t : Int × List Nat} {r us : List (Int × List Nat)} (h : endB (t :: r) = true) : trip (t :: r ++ us) = trip (t :: r) := by
  cases r with
  | nil =>
    have h1 : t.1 ≠ 19 := by
      simp only [endB, List.getLast?_singleton, Bool.and_eq_true, bne_iff_ne, ne_eq] at h
      exact h.1
    rw [List.cons_append, trip_not h1, trip_not h1]
  | cons u r =>
    cases r with
    | nil =>
      have h1 : u.1 ≠ 1 := by
        simp only [endB, List.getLast?_cons_cons, List.getLast?_singleton, Bool.and_eq_true, bne_iff_ne, ne_eq] at h
        exact h.2
      have e : ∀ z : List (Int × List Nat), trip (t :: u :: z) = false := by
        intro z
        unfold trip
        rw [List.take_succ_cons, List.take_succ_cons, List.map_cons, List.map_cons]
        exact beq_eq_false_iff_ne.mpr fun e => h1 (List.cons.inj (List.cons.inj e).2).1
      rw [show [t, u] ++ us = t :: u :: us from rfl, e, e]
    | cons v r => rfl
theorem bar_app : ∀ (n : Nat) (ts us : List (Int × List Nat)) (a b : List Nat), ts.length ≤ n → endB ts = true → bar ts = some a → bar us = some b → bar (ts ++ us) = some (a ++ b) := by
  intro n
  induction n with
  | zero =>
    intro ts us a b hn _ ha hb
    obtain rfl : ts = [] := List.eq_nil_of_length_eq_zero (Nat.le_zero.mp hn)
    rw [bar_nil] at ha
    cases ha
    exact hb
  | succ n ih =>
    intro ts us a b hn he ha hb
    cases ts with
    | nil => exact ih [] us a b (Nat.zero_le _) he ha hb
    | cons t r =>
    rw [List.length_cons] at hn
    have htr := trip_app (us := us) he
    cases ht : trip (t :: r) with
    | false =>
      rw [bar_one ht] at ha
      rw [ht] at htr
      rw [List.cons_append] at htr ⊢
      obtain ⟨a', ha', rfl⟩ := Option.map_eq_some_iff.mp ha
      rw [bar_one htr, ih r us a' b (by omega) (end_cons he) ha' hb, Option.map_some, List.append_assoc]
    | true =>
      obtain ⟨t', u, v, r', e⟩ := trip_three ht
      cases e
      rw [bar_three ht] at ha
      rw [ht] at htr
      rw [List.length_cons, List.length_cons] at hn
      rw [List.cons_append, List.cons_append, List.cons_append] at htr ⊢
      rw [bar_three htr]
      cases ez : toldOf u.2 with
      | none => rw [ez] at ha; cases ha
      | some z =>
        rw [ez] at ha
        dsimp only at ha ⊢
        obtain ⟨a', ha', rfl⟩ := Option.map_eq_some_iff.mp ha
        rw [ih r' us a' b (by omega) (end_cons (end_cons (end_cons he))) ha' hb, Option.map_some, List.append_assoc]
theorem bar_nm {n b : List Nat} {ts : List (Int × List Nat)} (h : bar ts = some b) : bar ((1, n) :: ts) = some (n ++ b) := by
  rw [bar_one (trip_not (show (1 : Int) ≠ 19 by decide)), h]; rfl
/-- what is told of a piece by its tokens -/
def chk (z y : List Nat) : Bool := segB z && endB (tok z) && (bar (tok z) == some y)
theorem chk_seg {z y : List Nat} (h : chk z y = true) : segB z = true := (Bool.and_eq_true_iff.mp (Bool.and_eq_true_iff.mp h).1).1
theorem bar_seg {z y n b : List Nat} {ts : List (Int × List Nat)} (h : chk z y = true) (hb : bar ts = some b) : bar (tok z ++ (1, n) :: ts) = some (y ++ (n ++ b)) :=
  bar_app _ _ _ _ _ (Nat.le_refl _) (Bool.and_eq_true_iff.mp (Bool.and_eq_true_iff.mp h).1).2 (eq_of_beq (Bool.and_eq_true_iff.mp h).2) (bar_nm hb)
theorem bar_row {z0 z1 z2 z3 z4 y0 y1 y2 y3 y4 : List Nat} (h0 : chk z0 y0 = true) (h1 : chk z1 y1 = true) (h2 : chk z2 y2 = true) (h3 : chk z3 y3 = true) (h4 : chk z4 y4 = true) :
    bar (tok (rowT z0 z1 z2 z3 z4)) = some (rowT y0 y1 y2 y3 y4) := by
  rw [tok_row (chk_seg h0) (chk_seg h1) (chk_seg h2) (chk_seg h3) (chk_seg h4)]
  exact bar_seg h0 (bar_seg h1 (bar_seg h2 (bar_seg h3 (bar_seg h4 bar_nil))))
end
section
/-- the signs by their number -/
def sg (k : Nat) : List Nat := match k with
  | 0 => [60]
  | 1 => [60, 61]
  | 2 => [62]
  | 3 => [62, 61]
  | 4 => [61, 61]
  | _ => [33, 61]
def kd (k : Nat) : Int := match k with
  | 0 => 20
  | 1 => 29
  | 2 => 21
  | 3 => 30
  | 4 => 27
  | _ => 28
/-- written by two hands -/
def w2 (h1 h2 : Int) (z : List Nat) : List Nat := (z.flatMap (wr h1)).flatMap (wr h2)
def backB (h1 h2 : Int) (z : List Nat) : Option (List Nat × List Nat) :=
  let z := w2 h1 h2 z
  match bar (tok z) with
  | none => none
  | some y => match bar (tok y) with
    | none => none
    | some x => if chk z y && chk y x && decide (z.length ≤ 200) && decide (y.length ≤ 200) && decide (x.length ≤ 200) then some (y, x) else none
def hands : List Int := [0, 1, 2, 3, 4]
def signB (h1 h2 : Int) (k : Nat) : Bool := match backB h1 h2 (sg k) with
  | some (_, x) => x == sg k && segB x && (tok x == [(kd k, x)])
  | none => false
def headB (h1 h2 : Int) : Bool := match backB h1 h2 [34, 9, 10, 13] with
  | some (_, x) => segB x
  | none => false
theorem signs_h0 : (hands.all fun h2 => headB 0 h2 && ((List.range 6).all (signB 0 h2))) = true := by decide +kernel
theorem signs_h1 : (hands.all fun h2 => headB 1 h2 && ((List.range 6).all (signB 1 h2))) = true := by decide +kernel
theorem signs_h2 : (hands.all fun h2 => headB 2 h2 && ((List.range 6).all (signB 2 h2))) = true := by decide +kernel
theorem signs_h3 : (hands.all fun h2 => headB 3 h2 && ((List.range 6).all (signB 3 h2))) = true := by decide +kernel
theorem signs_h4 : (hands.all fun h2 => headB 4 h2 && ((List.range 6).all (signB 4 h2))) = true := by decide +kernel
theorem all_signs : (hands.all fun h1 => hands.all fun h2 => headB h1 h2 && ((List.range 6).all (signB h1 h2))) = true :=
  List.all_eq_true.mpr fun h hh => by
    have e : h = 0 ∨ h = 1 ∨ h = 2 ∨ h = 3 ∨ h = 4 := by simpa only [hands, List.mem_cons, List.not_mem_nil, or_false] using hh
    rcases e with rfl | rfl | rfl | rfl | rfl
    · exact signs_h0
    · exact signs_h1
    · exact signs_h2
    · exact signs_h3
    · exact signs_h4
end
section
/-- a number's cell in the next row of counts -/
def cellE (k : Nat) (e : List Int) (b : Nat) : Int := match k with
  | 0 => (e.take b).sum
  | 1 => (e.take b).sum + e.getD b 0
  | 2 => (e.drop (b + 1)).sum
  | 3 => e.getD b 0 + (e.drop (b + 1)).sum
  | 4 => e.getD b 0
  | _ => (e.take b).sum + (e.drop (b + 1)).sum
theorem cell_kd (k : Nat) (e : List Int) (b : Nat) : cellC (fitOf (kd k)) e b = cellE k e b := by
  have h (x y z : Int) : x * 1 + y * 0 + z * 0 = x ∧ x * 1 + y * 1 + z * 0 = x + y ∧ x * 0 + y * 0 + z * 1 = z ∧ x * 0 + y * 1 + z * 1 = y + z ∧ x * 0 + y * 1 + z * 0 = y ∧ x * 1 + y * 0 + z * 1 = x + z := by omega
  obtain ⟨h0, h1, h2, h3, h4, h5⟩ := h (e.take b).sum (e.getD b 0) (e.drop (b + 1)).sum
  match k with
  | 0 => exact h0
  | 1 => exact h1
  | 2 => exact h2
  | 3 => exact h3
  | 4 => exact h4
  | k + 5 => exact h5
theorem step_kd (k m : Nat) (e : List Int) : stepC m e (kd k) = (List.range m).map (cellE k e) := List.map_congr_left fun b _ => cell_kd k e b
def tal (ws : List (Int × Int)) (b : Int) : Int := (ws.map fun p => if p.1 = b then p.2 else 0).sum
def Inn (m : Nat) (ws : List (Int × Int)) : Prop := ∀ p ∈ ws, 0 ≤ p.1 ∧ p.1 < (m : Int)
theorem tal_cons (p : Int × Int) (r : List (Int × Int)) (b : Int) : tal (p :: r) b = (if p.1 = b then p.2 else 0) + tal r b := by unfold tal; rw [List.map_cons, List.sum_cons]
theorem tal_app (p r : List (Int × Int)) (b : Int) : tal (p ++ r) b = tal p b + tal r b := by unfold tal; rw [List.map_append, List.sum_append_int]
theorem inn_tail {m : Nat} {p : Int × Int} {r : List (Int × Int)} (h : Inn m (p :: r)) : Inn m r := fun q hq => h q (List.mem_cons_of_mem _ hq)
theorem inn_step {k m : Nat} {ws : List (Int × Int)} (h : Inn m ws) : Inn m (ws.flatMap (stepW k m)) := by
  intro q hq
  obtain ⟨p, hp, hq⟩ := List.mem_flatMap.mp hq
  exact (stepW_in (B := p.2.natAbs) ⟨h p hp, by omega, by omega⟩ (by omega) q hq).1
theorem tal_span (f : Int → Int) (lo hi b : Int) : tal ((spanI lo hi).map fun c => (c, f c)) b = if lo ≤ b ∧ b < hi then f b else 0 := by
  have h : ∀ n : Nat, tal (((List.range n).map fun i : Nat => lo + (i : Int)).map fun c => (c, f c)) b = if lo ≤ b ∧ b < lo + n then f b else 0 := by
    intro n
    induction n with
    | zero => rw [if_neg (by omega)]; rfl
    | succ n ih =>
      rw [List.range_succ, List.map_append, List.map_append, tal_app, ih]
      show _ + ((if lo + (n : Int) = b then f (lo + n) else 0) + 0) = _
      by_cases e : lo + (n : Int) = b
      · rw [if_pos e, if_neg (by omega), if_pos (by omega), e]; omega
      · rw [if_neg e]
        by_cases q : lo ≤ b ∧ b < lo + n
        · rw [if_pos q, if_pos (by omega)]; omega
        · rw [if_neg q, if_neg (by omega)]; rfl
  unfold spanI
  rw [h]
  by_cases q : lo ≤ b ∧ b < hi
  · rw [if_pos q, if_pos (by omega)]
  · rw [if_neg q, if_neg (by omega)]
def cofA (k : Nat) (b a : Int) : Int := match k with
  | 0 => if a ≤ b then 1 else 0
  | 1 => if a < b then 1 else 0
  | 2 => if b ≤ a then 1 else 0
  | 3 => if b < a then 1 else 0
  | 4 => if a = b then -1 else 0
  | _ => if b = a then 2 else 1
theorem mul_if {P Q : Prop} [Decidable P] [Decidable Q] (x : Int) (h : P ↔ Q) : (if P then x else 0) = x * (if Q then 1 else 0) := by
  by_cases q : Q
  · rw [if_pos (h.mpr q), if_pos q, Int.mul_one]
  · rw [if_neg (fun p => q (h.mp p)), if_neg q, Int.mul_zero]
theorem tal_one (k m : Nat) (a x b : Int) (hb : 0 ≤ b ∧ b < m) : tal (stepW k m (a, x)) b = x * cofA k b a := by
  match k with
  | 0 => exact (tal_span (fun _ => x) a m b).trans (mul_if x (by omega))
  | 1 => exact (tal_span (fun _ => x) (a + 1) m b).trans (mul_if x (by omega))
  | 2 => exact (tal_span (fun _ => x) 0 (a + 1) b).trans (mul_if x (by omega))
  | 3 => exact (tal_span (fun _ => x) 0 a b).trans (mul_if x (by omega))
  | 4 =>
    show (if a = b then -x else 0) + 0 = x * (if a = b then -1 else 0)
    by_cases e : a = b
    · rw [if_pos e, if_pos e]; omega
    · rw [if_neg e, if_neg e]; omega
  | k + 5 =>
    refine (tal_span (fun b => if b = a then 2 * x else x) 0 m b).trans ?_
    rw [if_pos (by omega)]
    show (if b = a then 2 * x else x) = x * (if b = a then 2 else 1)
    by_cases e : b = a
    · rw [if_pos e, if_pos e]; omega
    · rw [if_neg e, if_neg e]; omega
def wsum (ws : List (Int × Int)) (f : Int → Int) : Int := (ws.map fun p => p.2 * f p.1).sum
theorem wsum_cons (p : Int × Int) (r : List (Int × Int)) (f : Int → Int) : wsum (p :: r) f = p.2 * f p.1 + wsum r f := by unfold wsum; rw [List.map_cons, List.sum_cons]
theorem tal_step (k m : Nat) (b : Int) (hb : 0 ≤ b ∧ b < m) : ∀ ws : List (Int × Int), tal (ws.flatMap (stepW k m)) b = wsum ws (cofA k b)
  | [] => rfl
  | (a, x) :: r => by rw [List.flatMap_cons, tal_app, wsum_cons, tal_one k m a x b hb, tal_step k m b hb r]
theorem wsum_all : ∀ ws : List (Int × Int), (ws.map (·.2)).sum = wsum ws fun _ => 1
  | [] => rfl
  | p :: r => by rw [wsum_cons, List.map_cons, List.sum_cons, wsum_all r, Int.mul_one]
theorem tal_here (a x : Int) (r : List (Int × Int)) : tal ((a, x) :: r) a = x + tal r a := by rw [tal_cons, if_pos rfl]
theorem tal_off {a b x : Int} (r : List (Int × Int)) (h : a ≠ b) : tal ((a, x) :: r) b = tal r b := by rw [tal_cons, if_neg h, Int.zero_add]
theorem wsum1 (f : Int → Int) : ∀ {ws : List (Int × Int)}, Inn 1 ws → wsum ws f = f 0 * tal ws 0
  | [], _ => (Int.mul_zero _).symm
  | (a, x) :: r, h => by
    have ha := h _ (List.mem_cons_self ..)
    obtain rfl : a = 0 := by dsimp only at ha; omega
    rw [wsum_cons, wsum1 f (inn_tail h), tal_here, Int.mul_add, Int.mul_comm x]
theorem wsum2 (f : Int → Int) : ∀ {ws : List (Int × Int)}, Inn 2 ws → wsum ws f = f 0 * tal ws 0 + f 1 * tal ws 1
  | [], _ => by rw [show tal [] 0 = 0 from rfl, show tal [] 1 = 0 from rfl, Int.mul_zero, Int.mul_zero]; rfl
  | (a, x) :: r, h => by
    have ha := h _ (List.mem_cons_self ..)
    have ha : a = 0 ∨ a = 1 := by dsimp only at ha; omega
    rw [wsum_cons, wsum2 f (inn_tail h), Int.mul_comm x]
    rcases ha with rfl | rfl
    · rw [tal_here, tal_off r (by decide), Int.mul_add, Int.add_assoc]
    · rw [tal_here, tal_off r (by decide), Int.mul_add, Int.add_left_comm]
theorem wsum3 (f : Int → Int) : ∀ {ws : List (Int × Int)}, Inn 3 ws → wsum ws f = f 0 * tal ws 0 + (f 1 * tal ws 1 + f 2 * tal ws 2)
  | [], _ => by rw [show tal [] 0 = 0 from rfl, show tal [] 1 = 0 from rfl, show tal [] 2 = 0 from rfl, Int.mul_zero, Int.mul_zero, Int.mul_zero]; rfl
  | (a, x) :: r, h => by
    have ha := h _ (List.mem_cons_self ..)
    have ha : a = 0 ∨ a = 1 ∨ a = 2 := by dsimp only at ha; omega
    rw [wsum_cons, wsum3 f (inn_tail h), Int.mul_comm x]
    rcases ha with rfl | rfl | rfl
    · rw [tal_here, tal_off r (by decide), tal_off r (by decide), Int.mul_add, Int.add_assoc]
    · rw [tal_here, tal_off r (by decide), tal_off r (by decide), Int.mul_add, Int.add_assoc, Int.add_left_comm]
    · rw [tal_here, tal_off r (by decide), tal_off r (by decide), Int.mul_add, Int.add_left_comm, Int.add_left_comm (f 2 * x)]
def sgn (g : Bool) : Int := if g then -1 else 1
theorem mul_sg {c u : Nat} {s t f T : Int} (hT : T = s * u) (hf : f * s = t * c) : f * T = t * ((c * u : Nat) : Int) := by
  rw [hT, ← Int.mul_assoc, hf, Int.mul_assoc, Int.natCast_mul]
/-- the next tally of the ways, with its sign -/
theorem nxt1 {s t : Int} {z : List (Int × Int)} {u0 c0 : Nat} (k : Nat) (b : Int) (i : Inn 1 z) (h0 : tal z 0 = s * u0) (hb : 0 ≤ b ∧ b < 1) (e0 : cofA k b 0 * s = t * c0) : tal (z.flatMap (stepW k 1)) b = t * ((c0 * u0 : Nat) : Int) := by
  rw [tal_step k 1 b hb, wsum1 _ i, mul_sg h0 e0]
theorem nxt2 {s t : Int} {z : List (Int × Int)} {u0 u1 c0 c1 : Nat} (k : Nat) (b : Int) (i : Inn 2 z) (h0 : tal z 0 = s * u0) (h1 : tal z 1 = s * u1) (hb : 0 ≤ b ∧ b < 2) (e0 : cofA k b 0 * s = t * c0) (e1 : cofA k b 1 * s = t * c1) : tal (z.flatMap (stepW k 2)) b = t * ((c0 * u0 + c1 * u1 : Nat) : Int) := by
  rw [tal_step k 2 b hb, wsum2 _ i, mul_sg h0 e0, mul_sg h1 e1, Int.natCast_add, Int.mul_add]
theorem nxt3 {s t : Int} {z : List (Int × Int)} {u0 u1 u2 c0 c1 c2 : Nat} (k : Nat) (b : Int) (i : Inn 3 z) (h0 : tal z 0 = s * u0) (h1 : tal z 1 = s * u1) (h2 : tal z 2 = s * u2) (hb : 0 ≤ b ∧ b < 3) (e0 : cofA k b 0 * s = t * c0) (e1 : cofA k b 1 * s = t * c1) (e2 : cofA k b 2 * s = t * c2) : tal (z.flatMap (stepW k 3)) b = t * ((c0 * u0 + c1 * u1 + c2 * u2 : Nat) : Int) := by
  rw [tal_step k 3 b hb, wsum3 _ i, mul_sg h0 e0, mul_sg h1 e1, mul_sg h2 e2, Int.natCast_add, Int.natCast_add, Int.mul_add, Int.mul_add, Int.add_assoc]
def leafB (g : Bool) (p1 p2 p3 p4 p5 s1 s2 s3 : Nat) : Bool :=
  Nat.beq (15 * p1 + 15 * p3 + 1 * p5 + (bif g then s1 else 0)) (20 * p2 + 6 * p4 + (bif g then 0 else s1)) && (Nat.beq (70 * p1 + 84 * p3 + 6 * p5 + (bif g then s2 else 0)) (105 * p2 + 35 * p4 + (bif g then 0 else s2)) && (Nat.beq (210 * p1 + 280 * p3 + 21 * p5 + (bif g then s3 else 0)) (336 * p2 + 120 * p4 + (bif g then 0 else s3))))
theorem leaf_ok {g : Bool} {p1 p2 p3 p4 p5 s1 s2 s3 : Nat} {q1 q2 q3 : Int} (h : leafB g p1 p2 p3 p4 p5 s1 s2 s3 = true) (h1 : q1 = sgn g * s1) (h2 : q2 = sgn g * s2) (h3 : q3 = sgn g * s3) :
    (15 * (p1 : Int) + 15 * p3 + 1 * p5 = 20 * p2 + 6 * p4 + q1) ∧ (70 * (p1 : Int) + 84 * p3 + 6 * p5 = 105 * p2 + 35 * p4 + q2) ∧ (210 * (p1 : Int) + 280 * p3 + 21 * p5 = 336 * p2 + 120 * p4 + q3) := by
  obtain ⟨e1, h⟩ := Bool.and_eq_true_iff.mp h
  obtain ⟨e2, e3⟩ := Bool.and_eq_true_iff.mp h
  have e1 := Nat.eq_of_beq_eq_true e1
  have e2 := Nat.eq_of_beq_eq_true e2
  have e3 := Nat.eq_of_beq_eq_true e3
  clear h
  cases g <;> simp only [sgn, cond_true, cond_false, if_true, Bool.false_eq_true, if_false] at * <;> refine ⟨?_, ?_, ?_⟩ <;> omega
/-- all rows of signs at once: the counts of one to five, the ways of one to three -/
def goR : Nat → Bool → Nat → Nat → Nat → Nat → Nat → Nat → Nat → Nat → Nat → Nat → Nat → Nat → Nat → Nat → Nat → Nat → Nat → Nat → Nat → Nat → Nat → Bool
  | 0, g, a0, b0, b1, c0, c1, c2, d0, d1, d2, d3, e0, e1, e2, e3, e4, u0, v0, v1, w0, w1, w2 => leafB g (a0 + 0) (b0 + (b1 + 0)) (c0 + (c1 + (c2 + 0))) (d0 + (d1 + (d2 + (d3 + 0)))) (e0 + (e1 + (e2 + (e3 + (e4 + 0))))) (1 * u0) (1 * v0 + 1 * v1) (1 * w0 + 1 * w1 + 1 * w2)
  | n + 1, g, a0, b0, b1, c0, c1, c2, d0, d1, d2, d3, e0, e1, e2, e3, e4, u0, v0, v1, w0, w1, w2 =>
    goR n g 0 0 (b0 + 0) 0 (c0 + 0) (c0 + (c1 + 0)) 0 (d0 + 0) (d0 + (d1 + 0)) (d0 + (d1 + (d2 + 0))) 0 (e0 + 0) (e0 + (e1 + 0)) (e0 + (e1 + (e2 + 0))) (e0 + (e1 + (e2 + (e3 + 0)))) (1 * u0) (1 * v0 + 0 * v1) (1 * v0 + 1 * v1) (1 * w0 + 0 * w1 + 0 * w2) (1 * w0 + 1 * w1 + 0 * w2) (1 * w0 + 1 * w1 + 1 * w2) && (
    goR n g (0 + a0) (0 + b0) ((b0 + 0) + b1) (0 + c0) ((c0 + 0) + c1) ((c0 + (c1 + 0)) + c2) (0 + d0) ((d0 + 0) + d1) ((d0 + (d1 + 0)) + d2) ((d0 + (d1 + (d2 + 0))) + d3) (0 + e0) ((e0 + 0) + e1) ((e0 + (e1 + 0)) + e2) ((e0 + (e1 + (e2 + 0))) + e3) ((e0 + (e1 + (e2 + (e3 + 0)))) + e4) (0 * u0) (0 * v0 + 0 * v1) (1 * v0 + 0 * v1) (0 * w0 + 0 * w1 + 0 * w2) (1 * w0 + 0 * w1 + 0 * w2) (1 * w0 + 1 * w1 + 0 * w2) && (
    goR n g 0 (b1 + 0) 0 (c1 + (c2 + 0)) (c2 + 0) 0 (d1 + (d2 + (d3 + 0))) (d2 + (d3 + 0)) (d3 + 0) 0 (e1 + (e2 + (e3 + (e4 + 0)))) (e2 + (e3 + (e4 + 0))) (e3 + (e4 + 0)) (e4 + 0) 0 (1 * u0) (1 * v0 + 1 * v1) (0 * v0 + 1 * v1) (1 * w0 + 1 * w1 + 1 * w2) (0 * w0 + 1 * w1 + 1 * w2) (0 * w0 + 0 * w1 + 1 * w2) && (
    goR n g (a0 + 0) (b0 + (b1 + 0)) (b1 + 0) (c0 + (c1 + (c2 + 0))) (c1 + (c2 + 0)) (c2 + 0) (d0 + (d1 + (d2 + (d3 + 0)))) (d1 + (d2 + (d3 + 0))) (d2 + (d3 + 0)) (d3 + 0) (e0 + (e1 + (e2 + (e3 + (e4 + 0))))) (e1 + (e2 + (e3 + (e4 + 0)))) (e2 + (e3 + (e4 + 0))) (e3 + (e4 + 0)) (e4 + 0) (0 * u0) (0 * v0 + 1 * v1) (0 * v0 + 0 * v1) (0 * w0 + 1 * w1 + 1 * w2) (0 * w0 + 0 * w1 + 1 * w2) (0 * w0 + 0 * w1 + 0 * w2) && (
    goR n (!g) a0 b0 b1 c0 c1 c2 d0 d1 d2 d3 e0 e1 e2 e3 e4 (1 * u0) (1 * v0 + 0 * v1) (0 * v0 + 1 * v1) (1 * w0 + 0 * w1 + 0 * w2) (0 * w0 + 1 * w1 + 0 * w2) (0 * w0 + 0 * w1 + 1 * w2) && (
    goR n g (0 + 0) (0 + (b1 + 0)) ((b0 + 0) + 0) (0 + (c1 + (c2 + 0))) ((c0 + 0) + (c2 + 0)) ((c0 + (c1 + 0)) + 0) (0 + (d1 + (d2 + (d3 + 0)))) ((d0 + 0) + (d2 + (d3 + 0))) ((d0 + (d1 + 0)) + (d3 + 0)) ((d0 + (d1 + (d2 + 0))) + 0) (0 + (e1 + (e2 + (e3 + (e4 + 0))))) ((e0 + 0) + (e2 + (e3 + (e4 + 0)))) ((e0 + (e1 + 0)) + (e3 + (e4 + 0))) ((e0 + (e1 + (e2 + 0))) + (e4 + 0)) ((e0 + (e1 + (e2 + (e3 + 0)))) + 0) (2 * u0) (2 * v0 + 1 * v1) (1 * v0 + 2 * v1) (2 * w0 + 1 * w1 + 1 * w2) (1 * w0 + 2 * w1 + 1 * w2) (1 * w0 + 1 * w1 + 2 * w2))))))
termination_by structural n => n
theorem go_all : goR 4 false 1 1 1 1 1 1 1 1 1 1 1 1 1 1 1 1 1 1 1 1 1 = true := by decide +kernel
def foldS (ks : List Nat) (m : Nat) (e : List Int) : Int := ((ks.map kd).foldl (stepC m) e).sum
def foldV (ks : List Nat) (m : Nat) (ws : List (Int × Int)) : Int := ((ks.foldl (fun ws k => ws.flatMap (stepW k m)) ws).map (·.2)).sum
theorem foldS_cons (k : Nat) (r : List Nat) (m : Nat) (e : List Int) : foldS (k :: r) m e = foldS r m ((List.range m).map (cellE k e)) := by rw [← step_kd]; rfl
theorem foldV_cons (k : Nat) (r : List Nat) (m : Nat) (z : List (Int × Int)) : foldV (k :: r) m z = foldV r m (z.flatMap (stepW k m)) := rfl
theorem go_sound : ∀ (n : Nat) (g : Bool) (a0 b0 b1 c0 c1 c2 d0 d1 d2 d3 e0 e1 e2 e3 e4 u0 v0 v1 w0 w1 w2 : Nat) (ks : List Nat) (z1 z2 z3 : List (Int × Int)), goR n g a0 b0 b1 c0 c1 c2 d0 d1 d2 d3 e0 e1 e2 e3 e4 u0 v0 v1 w0 w1 w2 = true → ks.length = n → (∀ k ∈ ks, k < 6) → Inn 1 z1 → Inn 2 z2 → Inn 3 z3 →
    tal z1 0 = sgn g * (u0 : Int) → tal z2 0 = sgn g * (v0 : Int) → tal z2 1 = sgn g * (v1 : Int) → tal z3 0 = sgn g * (w0 : Int) → tal z3 1 = sgn g * (w1 : Int) → tal z3 2 = sgn g * (w2 : Int) →
    (15 * foldS ks 1 [(a0 : Int)] + 15 * foldS ks 3 [(c0 : Int), (c1 : Int), (c2 : Int)] + 1 * foldS ks 5 [(e0 : Int), (e1 : Int), (e2 : Int), (e3 : Int), (e4 : Int)] = 20 * foldS ks 2 [(b0 : Int), (b1 : Int)] + 6 * foldS ks 4 [(d0 : Int), (d1 : Int), (d2 : Int), (d3 : Int)] + foldV ks 1 z1) ∧ (70 * foldS ks 1 [(a0 : Int)] + 84 * foldS ks 3 [(c0 : Int), (c1 : Int), (c2 : Int)] + 6 * foldS ks 5 [(e0 : Int), (e1 : Int), (e2 : Int), (e3 : Int), (e4 : Int)] = 105 * foldS ks 2 [(b0 : Int), (b1 : Int)] + 35 * foldS ks 4 [(d0 : Int), (d1 : Int), (d2 : Int), (d3 : Int)] + foldV ks 2 z2) ∧ (210 * foldS ks 1 [(a0 : Int)] + 280 * foldS ks 3 [(c0 : Int), (c1 : Int), (c2 : Int)] + 21 * foldS ks 5 [(e0 : Int), (e1 : Int), (e2 : Int), (e3 : Int), (e4 : Int)] = 336 * foldS ks 2 [(b0 : Int), (b1 : Int)] + 120 * foldS ks 4 [(d0 : Int), (d1 : Int), (d2 : Int), (d3 : Int)] + foldV ks 3 z3) := by
  intro n
  induction n with
  | zero =>
    intro g a0 b0 b1 c0 c1 c2 d0 d1 d2 d3 e0 e1 e2 e3 e4 u0 v0 v1 w0 w1 w2 ks z1 z2 z3 h hl _ i1 i2 i3 hu0 hv0 hv1 hw0 hw1 hw2
    obtain rfl : ks = [] := List.eq_nil_of_length_eq_zero hl
    refine leaf_ok h ?_ ?_ ?_
    · exact (wsum_all z1).trans ((wsum1 _ i1).trans (mul_sg hu0 (by omega)))
    · refine (wsum_all z2).trans ((wsum2 _ i2).trans ?_)
      rw [mul_sg (c := 1) (t := sgn g) hv0 (by omega), mul_sg (c := 1) (t := sgn g) hv1 (by omega), ← Int.mul_add, ← Int.natCast_add]
    · refine (wsum_all z3).trans ((wsum3 _ i3).trans ?_)
      rw [mul_sg (c := 1) (t := sgn g) hw0 (by omega), mul_sg (c := 1) (t := sgn g) hw1 (by omega), mul_sg (c := 1) (t := sgn g) hw2 (by omega), ← Int.mul_add, ← Int.mul_add, ← Int.natCast_add, ← Int.natCast_add, Nat.add_assoc]
  | succ n ih =>
    intro g a0 b0 b1 c0 c1 c2 d0 d1 d2 d3 e0 e1 e2 e3 e4 u0 v0 v1 w0 w1 w2 ks z1 z2 z3 h hl hk i1 i2 i3 hu0 hv0 hv1 hw0 hw1 hw2
    match ks, hl, hk with
    | k :: r, hl, hk =>
    have hl9 : r.length = n := Nat.succ.inj hl
    have hr : ∀ k ∈ r, k < 6 := fun k hk9 => hk k (List.mem_cons_of_mem _ hk9)
    have hk := hk k (List.mem_cons_self ..)
    have hk : k = 0 ∨ k = 1 ∨ k = 2 ∨ k = 3 ∨ k = 4 ∨ k = 5 := by omega
    simp only [foldS_cons, foldV_cons]
    obtain ⟨g0, h⟩ := Bool.and_eq_true_iff.mp h
    obtain ⟨g1, h⟩ := Bool.and_eq_true_iff.mp h
    obtain ⟨g2, h⟩ := Bool.and_eq_true_iff.mp h
    obtain ⟨g3, h⟩ := Bool.and_eq_true_iff.mp h
    obtain ⟨g4, g5⟩ := Bool.and_eq_true_iff.mp h
    have m0 : (0 : Int) * sgn g = sgn g * ((0 : Nat) : Int) := by omega
    have m1 : (1 : Int) * sgn g = sgn g * ((1 : Nat) : Int) := by omega
    have m2 : (2 : Int) * sgn g = sgn g * ((2 : Nat) : Int) := by omega
    have n0 : (0 : Int) * sgn g = sgn (!g) * ((0 : Nat) : Int) := by cases g <;> rfl
    have n1 : (-1 : Int) * sgn g = sgn (!g) * ((1 : Nat) : Int) := by cases g <;> rfl
    rcases hk with rfl | rfl | rfl | rfl | rfl | rfl
    · exact ih _ _ _ _ _ _ _ _ _ _ _ _ _ _ _ _ _ _ _ _ _ _ r _ _ _ g0 hl9 hr (inn_step i1) (inn_step i2) (inn_step i3) (nxt1 0 0 i1 hu0 (by decide) m1) (nxt2 0 0 i2 hv0 hv1 (by decide) m1 m0) (nxt2 0 1 i2 hv0 hv1 (by decide) m1 m1) (nxt3 0 0 i3 hw0 hw1 hw2 (by decide) m1 m0 m0) (nxt3 0 1 i3 hw0 hw1 hw2 (by decide) m1 m1 m0) (nxt3 0 2 i3 hw0 hw1 hw2 (by decide) m1 m1 m1)
    · exact ih _ _ _ _ _ _ _ _ _ _ _ _ _ _ _ _ _ _ _ _ _ _ r _ _ _ g1 hl9 hr (inn_step i1) (inn_step i2) (inn_step i3) (nxt1 1 0 i1 hu0 (by decide) m0) (nxt2 1 0 i2 hv0 hv1 (by decide) m0 m0) (nxt2 1 1 i2 hv0 hv1 (by decide) m1 m0) (nxt3 1 0 i3 hw0 hw1 hw2 (by decide) m0 m0 m0) (nxt3 1 1 i3 hw0 hw1 hw2 (by decide) m1 m0 m0) (nxt3 1 2 i3 hw0 hw1 hw2 (by decide) m1 m1 m0)
    · exact ih _ _ _ _ _ _ _ _ _ _ _ _ _ _ _ _ _ _ _ _ _ _ r _ _ _ g2 hl9 hr (inn_step i1) (inn_step i2) (inn_step i3) (nxt1 2 0 i1 hu0 (by decide) m1) (nxt2 2 0 i2 hv0 hv1 (by decide) m1 m1) (nxt2 2 1 i2 hv0 hv1 (by decide) m0 m1) (nxt3 2 0 i3 hw0 hw1 hw2 (by decide) m1 m1 m1) (nxt3 2 1 i3 hw0 hw1 hw2 (by decide) m0 m1 m1) (nxt3 2 2 i3 hw0 hw1 hw2 (by decide) m0 m0 m1)
    · exact ih _ _ _ _ _ _ _ _ _ _ _ _ _ _ _ _ _ _ _ _ _ _ r _ _ _ g3 hl9 hr (inn_step i1) (inn_step i2) (inn_step i3) (nxt1 3 0 i1 hu0 (by decide) m0) (nxt2 3 0 i2 hv0 hv1 (by decide) m0 m1) (nxt2 3 1 i2 hv0 hv1 (by decide) m0 m0) (nxt3 3 0 i3 hw0 hw1 hw2 (by decide) m0 m1 m1) (nxt3 3 1 i3 hw0 hw1 hw2 (by decide) m0 m0 m1) (nxt3 3 2 i3 hw0 hw1 hw2 (by decide) m0 m0 m0)
    · exact ih _ _ _ _ _ _ _ _ _ _ _ _ _ _ _ _ _ _ _ _ _ _ r _ _ _ g4 hl9 hr (inn_step i1) (inn_step i2) (inn_step i3) (nxt1 4 0 i1 hu0 (by decide) n1) (nxt2 4 0 i2 hv0 hv1 (by decide) n1 n0) (nxt2 4 1 i2 hv0 hv1 (by decide) n0 n1) (nxt3 4 0 i3 hw0 hw1 hw2 (by decide) n1 n0 n0) (nxt3 4 1 i3 hw0 hw1 hw2 (by decide) n0 n1 n0) (nxt3 4 2 i3 hw0 hw1 hw2 (by decide) n0 n0 n1)
    · exact ih _ _ _ _ _ _ _ _ _ _ _ _ _ _ _ _ _ _ _ _ _ _ r _ _ _ g5 hl9 hr (inn_step i1) (inn_step i2) (inn_step i3) (nxt1 5 0 i1 hu0 (by decide) m2) (nxt2 5 0 i2 hv0 hv1 (by decide) m2 m1) (nxt2 5 1 i2 hv0 hv1 (by decide) m1 m2) (nxt3 5 0 i3 hw0 hw1 hw2 (by decide) m2 m1 m1) (nxt3 5 1 i3 hw0 hw1 hw2 (by decide) m1 m2 m1) (nxt3 5 2 i3 hw0 hw1 hw2 (by decide) m1 m1 m2)
end
section
theorem below_len (ns : List Int) : (below ns).length = ns.length := by
  have : ∀ (r o : List Int), (r.foldl (fun o x => (x - o.headD 0) :: o) o).length = r.length + o.length := by
    intro r
    induction r with
    | nil => intro o; simp
    | cons a r ih => intro o; rw [List.foldl_cons, ih]; simp; omega
  unfold below
  cases e : ns.reverse with
  | nil => have := congrArg List.length e; simpa using this.symm
  | cons a r =>
    have h := congrArg List.length e
    rw [List.length_reverse] at h
    dsimp only
    rw [this, h]; simp
section
variable (p0 p1 p2 p3 p4 p5 : Int)
theorem below1 : (below (diffs [p0, p1, p2, p3, p4, p5])).headD 0 = 6 * p0 - 15 * p1 + 20 * p2 - 15 * p3 + 6 * p4 - p5 := by
  simp [diffs, diffsN, gapsI, gapI, below, List.range, List.range.loop]; omega
theorem below2 : (below (below (diffs [p0, p1, p2, p3, p4, p5]))).headD 0 = 21 * p0 - 70 * p1 + 105 * p2 - 84 * p3 + 35 * p4 - 6 * p5 := by
  simp [diffs, diffsN, gapsI, gapI, below, List.range, List.range.loop]; omega
theorem below3 : (below (below (below (diffs [p0, p1, p2, p3, p4, p5])))).headD 0 = 56 * p0 - 210 * p1 + 336 * p2 - 280 * p3 + 120 * p4 - 21 * p5 := by
  simp [diffs, diffsN, gapsI, gapI, below, List.range, List.range.loop]; omega
end
/-- the six counts -/
def rowC (ks : List Nat) : List Int := (List.range 6).map (cnt (ks.map kd))
theorem rowC_len (ks : List Nat) : (rowC ks).length = 6 := by unfold rowC; simp
theorem law_ints {ks : List Nat} (h4 : ks.length = 4) (hk : ∀ k ∈ ks, k < 6) :
    -((below (diffs (rowC ks))).headD 0) = allW ks 1 ∧ -((below (below (diffs (rowC ks)))).headD 0) = allW ks 2 ∧ -((below (below (below (diffs (rowC ks))))).headD 0) = allW ks 3 := by
  obtain ⟨e1, e2, e3⟩ := go_sound 4 false 1 1 1 1 1 1 1 1 1 1 1 1 1 1 1 1 1 1 1 1 1 ks (startW 1) (startW 2) (startW 3) go_all h4 hk (by unfold Inn; decide) (by unfold Inn; decide) (by unfold Inn; decide) (by decide) (by decide) (by decide) (by decide) (by decide) (by decide)
  have hr : rowC ks = [cnt (ks.map kd) 0, cnt (ks.map kd) 1, cnt (ks.map kd) 2, cnt (ks.map kd) 3, cnt (ks.map kd) 4, cnt (ks.map kd) 5] := rfl
  have h0 : cnt (ks.map kd) 0 = 0 := by
    unfold cnt
    rw [List.eq_nil_of_length_eq_zero (endsC_len 0 (ks.map kd))]
    rfl
  have c1 : cnt (ks.map kd) 1 = foldS ks 1 [((1 : Nat) : Int)] := rfl
  have c2 : cnt (ks.map kd) 2 = foldS ks 2 [((1 : Nat) : Int), ((1 : Nat) : Int)] := rfl
  have c3 : cnt (ks.map kd) 3 = foldS ks 3 [((1 : Nat) : Int), ((1 : Nat) : Int), ((1 : Nat) : Int)] := rfl
  have c4 : cnt (ks.map kd) 4 = foldS ks 4 [((1 : Nat) : Int), ((1 : Nat) : Int), ((1 : Nat) : Int), ((1 : Nat) : Int)] := rfl
  have c5 : cnt (ks.map kd) 5 = foldS ks 5 [((1 : Nat) : Int), ((1 : Nat) : Int), ((1 : Nat) : Int), ((1 : Nat) : Int), ((1 : Nat) : Int)] := rfl
  have w1 : allW ks 1 = foldV ks 1 (startW 1) := rfl
  have w2 : allW ks 2 = foldV ks 2 (startW 2) := rfl
  have w3 : allW ks 3 = foldV ks 3 (startW 3) := rfl
  rw [hr, below1, below2, below3, h0]
  omega
theorem hands_of {h : Int} (h0 : 0 ≤ h) (h5 : h < 5) : h ∈ hands := by
  have : h = 0 ∨ h = 1 ∨ h = 2 ∨ h = 3 ∨ h = 4 := by omega
  rcases this with rfl | rfl | rfl | rfl | rfl <;> decide
theorem names_wr : (hands.all fun h => ([[108, 116], [103, 116], [97, 109, 112], [113, 117, 111, 116]].all fun z => z.flatMap (wr h) == z)) = true := by decide +kernel
theorem row_wr {h : Int} (hh : h ∈ hands) (z0 z1 z2 z3 z4 : List Nat) : (rowT z0 z1 z2 z3 z4).flatMap (wr h) = rowT (z0.flatMap (wr h)) (z1.flatMap (wr h)) (z2.flatMap (wr h)) (z3.flatMap (wr h)) (z4.flatMap (wr h)) := by
  have hn := List.all_eq_true.mp names_wr h hh
  simp only [List.all_cons, List.all_nil, Bool.and_true, Bool.and_eq_true, beq_iff_eq] at hn
  obtain ⟨n1, n2, n3, n4⟩ := hn
  unfold rowT
  simp only [List.flatMap_append, n1, n2, n3, n4, List.append_nil]
theorem row_len {z0 z1 z2 z3 z4 : List Nat} (h0 : z0.length ≤ 200) (h1 : z1.length ≤ 200) (h2 : z2.length ≤ 200) (h3 : z3.length ≤ 200) (h4 : z4.length ≤ 200) : (rowT z0 z1 z2 z3 z4).length ≤ 100000 := by
  unfold rowT
  simp only [List.length_append, List.length_cons, List.length_nil]
  omega
theorem back_of {h1 h2 : Int} {z y x : List Nat} (h : backB h1 h2 z = some (y, x)) : chk (w2 h1 h2 z) y = true ∧ chk y x = true ∧ (w2 h1 h2 z).length ≤ 200 ∧ y.length ≤ 200 ∧ x.length ≤ 200 := by
  unfold backB at h
  dsimp only at h
  split at h
  · cases h
  · split at h
    · cases h
    · split at h
      · rename_i hc
        cases h
        simp only [Bool.and_eq_true, decide_eq_true_eq] at hc
        exact ⟨hc.1.1.1.1, hc.1.1.1.2, hc.1.1.2, hc.1.2, hc.2⟩
      · cases h
theorem head_back {h1 h2 : Int} (g1 : h1 ∈ hands) (g2 : h2 ∈ hands) : ∃ y x, backB h1 h2 [34, 9, 10, 13] = some (y, x) ∧ segB x = true := by
  have h := List.all_eq_true.mp (List.all_eq_true.mp all_signs h1 g1) h2 g2
  have h := (Bool.and_eq_true_iff.mp h).1
  unfold headB at h
  split at h
  · rename_i y x e; exact ⟨y, x, e, h⟩
  · cases h
theorem sign_back {h1 h2 : Int} (g1 : h1 ∈ hands) (g2 : h2 ∈ hands) {k : Nat} (hk : k < 6) : ∃ y, backB h1 h2 (sg k) = some (y, sg k) ∧ segB (sg k) = true ∧ tok (sg k) = [(kd k, sg k)] := by
  have h := List.all_eq_true.mp (List.all_eq_true.mp all_signs h1 g1) h2 g2
  have h := List.all_eq_true.mp (Bool.and_eq_true_iff.mp h).2 k (List.mem_range.mpr hk)
  unfold signB at h
  split at h
  · rename_i y x e
    simp only [Bool.and_eq_true, beq_iff_eq] at h
    obtain ⟨⟨rfl, h2⟩, h3⟩ := h
    exact ⟨y, e, h2, h3⟩
  · cases h
/-- the drawn line -/
def lineT (k0 k1 k2 k3 : Nat) : List Nat := rowT [34, 9, 10, 13] (sg k0) (sg k1) (sg k2) (sg k3)
def nine (k0 k1 k2 k3 : Nat) : List (Int × List Nat) := [(1, [108, 116]), (kd k0, sg k0), (1, [103, 116]), (kd k1, sg k1), (1, [97, 109, 112]), (kd k2, sg k2), (1, [113, 117, 111, 116]), (kd k3, sg k3), (1, [108, 116])]
theorem page_back {h1 h2 : Int} (g1 : h1 ∈ hands) (g2 : h2 ∈ hands) {k0 k1 k2 k3 : Nat} (q0 : k0 < 6) (q1 : k1 < 6) (q2 : k2 < 6) (q3 : k3 < 6) :
    (w2 h1 h2 (lineT k0 k1 k2 k3)).length ≤ 100000 ∧ ∃ r1 r2 pre, bar (tok (w2 h1 h2 (lineT k0 k1 k2 k3))) = some r1 ∧ bar (tok r1) = some r2 ∧ r1.length ≤ 100000 ∧ r2.length ≤ 100000 ∧ tok r2 = pre ++ nine k0 k1 k2 k3 := by
  obtain ⟨y, x, ey, sx⟩ := head_back g1 g2
  obtain ⟨y0, e0, s0, t0⟩ := sign_back g1 g2 q0
  obtain ⟨y1, e1, s1, t1⟩ := sign_back g1 g2 q1
  obtain ⟨y2, e2, s2, t2⟩ := sign_back g1 g2 q2
  obtain ⟨y3, e3, s3, t3⟩ := sign_back g1 g2 q3
  obtain ⟨a, b, l1, l2, l3⟩ := back_of ey
  obtain ⟨a0, b0, l10, l20, l30⟩ := back_of e0
  obtain ⟨a1, b1, l11, l21, l31⟩ := back_of e1
  obtain ⟨a2, b2, l12, l22, l32⟩ := back_of e2
  obtain ⟨a3, b3, l13, l23, l33⟩ := back_of e3
  have ew : w2 h1 h2 (lineT k0 k1 k2 k3) = rowT (w2 h1 h2 [34, 9, 10, 13]) (w2 h1 h2 (sg k0)) (w2 h1 h2 (sg k1)) (w2 h1 h2 (sg k2)) (w2 h1 h2 (sg k3)) := by
    unfold w2 lineT
    rw [row_wr g1, row_wr g2]
  rw [ew]
  refine ⟨row_len l1 l10 l11 l12 l13, _, _, tok x, bar_row a a0 a1 a2 a3, bar_row b b0 b1 b2 b3, row_len l2 l20 l21 l22 l23, row_len l3 l30 l31 l32 l33, ?_⟩
  rw [tok_row sx s0 s1 s2 s3, t0, t1, t2, t3]
  rfl
theorem line_len {k0 k1 k2 k3 : Nat} : (lineT k0 k1 k2 k3).length ≤ 25 := by
  have hs : ∀ k, (sg k).length ≤ 2 := by intro k; unfold sg; split <;> decide
  have := hs k0
  have := hs k1
  have := hs k2
  have := hs k3
  unfold lineT rowT
  simp only [List.length_append, List.length_cons, List.length_nil]
  omega
end
section
theorem join_tx : ∀ ls : List (List Nat), Str.join ⟨#[]⟩ (ls.map tx) = tx ls.flatten
  | [] => rfl
  | a :: r => by
    rw [List.map_cons, join_nil_cons, join_tx r, List.flatten_cons, tx_append]
theorem join_flat (f : Nat → List Nat) (l : List Nat) : Txt.join (Str.ofString "") (l.map fun c => tx (f c)) = tx (l.flatMap f) := by
  have e : Str.ofString "" = ⟨#[]⟩ := by decide +kernel
  rw [eq_of_beq (join_closes (sep := Str.ofString "") (sep' := ⟨#[]⟩) (ys := l.map fun c => tx (f c)) e)]
  rw [show (l.map fun c => tx (f c)) = (l.map f).map tx by rw [List.map_map]; rfl, join_tx]
  rfl
theorem join_ok {f : Nat → List Nat} (hf : ∀ c, (f c).length ≤ 6) {l : List Nat} (hl : l.length ≤ 100000) : ((l.map fun c => tx (f c)).map (·.length)).sum + (l.map fun c => tx (f c)).length * (Str.ofString "").length ≤ 16777216 := by
  have e : (Str.ofString "").length = 0 := by decide +kernel
  rw [e, Nat.mul_zero]
  have : ((l.map fun c => tx (f c)).map (·.length)).sum ≤ 6 * l.length := by
    clear hl
    induction l with
    | nil => simp
    | cons a r ih =>
      rw [List.map_cons, List.map_cons, List.sum_cons, List.length_cons, tx_len]
      have := hf a
      omega
  omega
/-- between the turns of a comprehension over signs -/
def JS (nw : List (Addr × Obj)) (f : Nat → List Nat) (l : List Nat) (i : Nat) (ys : List Value) (nw' : List (Addr × Obj)) : Prop := nw' = nw ∧ StrsAre ys ((l.take i).map fun c => tx (f c))
theorem JS.zero (nw : List (Addr × Obj)) (f : Nat → List Nat) (l : List Nat) : JS nw f l 0 [] nw := ⟨rfl, .nil⟩
theorem JS.more {nw : List (Addr × Obj)} {f : Nat → List Nat} {l : List Nat} {i c : Nat} {ys : List Value} {t : Tok} {r : Str} (hys : StrsAre ys ((l.take i).map fun c => tx (f c))) (hc : (tx l).cps[i]? = some c) (e : r = tx (f c)) : JS nw f l (i + 1) (ys ++ [.str r t]) nw := by
  refine ⟨rfl, ?_⟩
  subst e
  have hc' : l[i]? = some c := by simpa using hc
  rw [List.take_add_one, hc']
  show StrsAre _ ((l.take i ++ [c]).map fun c => tx (f c))
  rw [List.map_append]
  exact hys.append' (.cons _ _ .nil)
theorem not_in {x : Str} {l : List Nat} {c : Nat} (e : x.cps.toList = l) (h : c ∉ l) : (Builtin.Str.occurrences x ⟨#[c]⟩ 0 x.length 1).isEmpty = true := by
  have := StrLaws.found_one x c
  rw [e, decide_eq_false h] at this
  simpa using this
theorem wr_len (h : Int) (c : Nat) : (wr h c).length ≤ 6 := by
  unfold wr
  split
  · exact tbl_len (by decide) c
  split
  · exact tbl_len (by decide) c
  split
  · exact tbl_len (by decide) c
  split
  · exact tbl_len (by decide) c
  · exact tbl_len (by decide) c
/-- a table of the call's own tells these -/
def Told (prog : Program) (w : World) (od : Obj) (T : List (Nat × List Nat)) : Prop := ∃ kvs, od.IsDictOf (PySem.strKind prog w) kvs ∧ ∀ c z, T.lookup c = some z → ∃ t, PySem.valueAt kvs (tx [c]) = some (.str (tx z) t)
theorem tx_inj1 {a b : Nat} (h : tx [a] = tx [b]) : a = b := by
  have h : [a] = [b] := congrArg (fun x : Str => x.cps.toList) h
  exact (List.cons.inj h).1
/-- pairs of a table's display: one sign, its text -/
inductive TP : List (Value × Value) → List (Nat × List Nat) → Prop
  | nil : TP [] []
  | cons {x y : Str} {t u : Tok} {c : Nat} {z : List Nat} {r : List (Value × Value)} {T : List (Nat × List Nat)} : x = tx [c] → y = tx z → TP r T → TP ((.str x t, .str y u) :: r) ((c, z) :: T)
theorem TP.find {r : List (Value × Value)} {T : List (Nat × List Nat)} (h : TP r T) : ∀ c z, T.lookup c = some z → ∃ t, PySem.valueAt (strPairs r) (tx [c]) = some (.str (tx z) t) := by
  induction h with
  | nil => intro c z e; cases e
  | @cons x y t u c z r T hx hy _ ih =>
    intro c' z' e
    subst hx hy
    rw [List.lookup_cons] at e
    show ∃ t, (((tx [c], Value.str (tx z) u) :: strPairs r).find? fun kv => kv.1 = tx [c']).map (·.2) = _
    rw [List.find?_cons]
    by_cases hc : c' = c
    · subst hc
      rw [beq_self_eq_true] at e
      cases e
      exact ⟨u, by simp⟩
    · rw [show (c' == c) = false from beq_eq_false_iff_ne.mpr hc] at e
      rw [show (decide (tx [c] = tx [c'])) = false from decide_eq_false fun q => hc (tx_inj1 q).symm]
      exact ih c' z' e
theorem told_mk {prog : Program} {w : World} {od : Obj} {r : List (Value × Value)} {T : List (Nat × List Nat)} (hd : od.IsDictOf (PySem.strKind prog w) (strPairs r)) (h : TP r T) : Told prog w od T := ⟨_, hd, h.find⟩
theorem told_item {prog : Program} {w : World} {A : Around} {E : Value → Shared → Prop} {s : Shared} {h₀ : Heap} {L d : Addr} {od : Obj} {T : List (Nat × List Nat)} {c : Nat} {z : List Nat} {u : Tok} {news : List (Addr × Obj)} {value slice : PySem.Expr} {Q : Value → Shared → Prop} (N : News h₀ L s.heap news) (hp : (d, od) ∈ news) (hT : Told prog w od T) (e : T.lookup c = some z)
    (h : ∀ t, Q (.str (tx z) t) { s with toks := s.toks + 1 })
    (hs : subscripted slice false (.ref d) (.str (tx [c]) u) = operate [.ref d, .str (tx [c]) u] (getItem (.ref d) (.str (tx [c]) u))) (hg : ∀ r, letTemporaryGo value (.ref d) r = pure ()) :
    wpAny (model prog w) A (subscriptTail value slice (.ref d) (.str (tx [c]) u)) Q E s := by
  obtain ⟨kvs, h2, h3⟩ := hT
  obtain ⟨t, ht⟩ := h3 c z e
  exact kda_item N hp h2 (PySem.strKind_is _ _ _ _) ht (h t) hs hg
theorem in_of {x : Str} {l : List Nat} {c : Nat} (e : x.cps.toList = l) (h : (Builtin.Str.occurrences x ⟨#[c]⟩ 0 x.length 1).isEmpty = false) : c ∈ l := by
  have := StrLaws.found_one x c
  rw [e, h] at this
  exact of_decide_eq_true this.symm
theorem out_of {x : Str} {l : List Nat} {c : Nat} (e : x.cps.toList = l) (h : (Builtin.Str.occurrences x ⟨#[c]⟩ 0 x.length 1).isEmpty = true) : c ∉ l := by
  have := StrLaws.found_one x c
  rw [e, h] at this
  exact of_decide_eq_false this.symm
def tolA : List (Nat × List Nat) := [(38, [38, 97, 109, 112, 59]), (60, [38, 108, 116, 59]), (62, [38, 103, 116, 59]), (34, [38, 113, 117, 111, 116, 59]), (9, [38, 35, 48, 57, 59]), (10, [38, 35, 49, 48, 59]), (13, [38, 35, 49, 51, 59])]
def tolC : List (Nat × List Nat) := [(38, [38, 97, 109, 112, 59]), (60, [38, 108, 116, 59]), (62, [38, 103, 116, 59]), (34, [38, 113, 117, 111, 116, 59]), (9, [38, 35, 120, 57, 59]), (10, [38, 35, 120, 65, 59]), (13, [38, 35, 120, 68, 59])]
theorem wr_out {ps : List (Nat × List Nat)} {l : List Nat} {c : Nat} (h : (ps.all fun p => l.contains p.1) = true) (hc : c ∉ l) : tbl ps c = [c] :=
  tbl_none fun p hp e => hc (e ▸ (by simpa using List.all_eq_true.mp h p hp))
theorem wr_in {T : List (Nat × List Nat)} {f : Nat → List Nat} {l : List Nat} {c : Nat} (h : (l.all fun c => T.lookup c == some (f c)) = true) (hc : c ∈ l) : T.lookup c = some (f c) := eq_of_beq (List.all_eq_true.mp h c hc)
end
section
/-- the signs that a hand spells -/
def spl (h : Int) : List Nat := if h = 0 then [38, 60, 62] else if h = 1 then [38, 60, 62, 34, 9, 10, 13] else if h = 2 then [38, 62, 34] else if h = 3 then [38, 60, 34, 9, 10, 13] else [38, 60, 62, 13]
theorem sp_texts : Str.ofString "&<>" = tx [38, 60, 62] ∧ Str.ofString "&<>\"\t\n\x0d" = tx [38, 60, 62, 34, 9, 10, 13] ∧ Str.ofString "&>\"" = tx [38, 62, 34] ∧ Str.ofString "&<\"\t\n\x0d" = tx [38, 60, 34, 9, 10, 13] ∧ Str.ofString "&<>\x0d" = tx [38, 60, 62, 13] := by decide +kernel
theorem sp_item {h : Int} {t0 t1 t2 t3 t4 : Tok} (hh : h ∈ hands) : ∃ t, (#[Value.str (Str.ofString "&<>") t0, .str (Str.ofString "&<>\"\t\n\x0d") t1, .str (Str.ofString "&>\"") t2, .str (Str.ofString "&<\"\t\n\x0d") t3, .str (Str.ofString "&<>\x0d") t4] : Array Value)[h.toNat]? = some (.str (tx (spl h)) t) := by
  obtain ⟨e0, e1, e2, e3, e4⟩ := sp_texts
  rw [e0, e1, e2, e3, e4]
  simp only [hands, List.mem_cons, List.not_mem_nil, or_false] at hh
  rcases hh with rfl | rfl | rfl | rfl | rfl <;> exact ⟨_, rfl⟩
theorem hands_in {h : Int} (hh : h ∈ hands) : 0 ≤ h ∧ h < 2 ^ 63 := by
  have : (hands.all fun h => decide (0 ≤ h ∧ h < 2 ^ 63)) = true := by decide
  exact of_decide_eq_true (List.all_eq_true.mp this h hh)
theorem low_in : (hands.all fun h => decide (2 < h) || (spl h).all fun c => tolA.lookup c == some (wr h c)) = true := by decide +kernel
theorem high_in : (hands.all fun h => decide (¬ 2 < h) || (spl h).all fun c => tolC.lookup c == some (wr h c)) = true := by decide +kernel
theorem sp_low {h : Int} (hh : h ∈ hands) (h2 : ¬ 2 < h) : ((spl h).all fun c => tolA.lookup c == some (wr h c)) = true := by
  have := List.all_eq_true.mp low_in h hh
  rw [decide_eq_false h2, Bool.false_or] at this
  exact this
theorem sp_high {h : Int} (hh : h ∈ hands) (h2 : 2 < h) : ((spl h).all fun c => tolC.lookup c == some (wr h c)) = true := by
  have := List.all_eq_true.mp high_in h hh
  rw [decide_eq_false (by omega), Bool.false_or] at this
  exact this
theorem sp_out {h : Int} (hh : h ∈ hands) {c : Nat} (hc : c ∉ spl h) : wr h c = [c] := by
  simp only [hands, List.mem_cons, List.not_mem_nil, or_false] at hh
  rcases hh with rfl | rfl | rfl | rfl | rfl
  · exact wr_out (ps := psCdata) (l := [38, 60, 62]) (by decide +kernel) hc
  · exact wr_out (ps := psAttr) (l := [38, 60, 62, 34, 9, 10, 13]) (by decide +kernel) hc
  · exact wr_out (ps := psHtml) (l := [38, 62, 34]) (by decide +kernel) hc
  · exact wr_out (ps := psAttrC) (l := [38, 60, 34, 9, 10, 13]) (by decide +kernel) hc
  · exact wr_out (ps := psCdataC) (l := [38, 60, 62, 13]) (by decide +kernel) hc
theorem fn_drA (w : World) (l : List Nat) (t : Tok) (hq : Int) (u : Tok) (hh : hq ∈ hands) (h2 : ¬ 2 < hq) (hl : l.length ≤ 100000) : Fn w 0 71 2 16 [.str (tx l) t, .int hq u] (fun _ => True) (giveTx (l.flatMap (wr hq))) := by
  w_top off
  k_with_none
  k_with "subscriptTail" => (k_here; (with_reducible show wpAny _ _ (subscriptTail (PySem.Expr.List _ _) _ _ _) _ _ _); refine Halt.go ?_)
  k_with "execs cons" => (k_here; k_fold)
  k_with "execs nil" => (k_here; k_fold)
  k_with "eval ListComp" => (k_here; refine Halt.go ?_)
  k_with "call builtin:str.join" => (k_here; refine Halt.go ?_)
  k_with "subscriptTail Name Name ref str" => (k_here; refine Halt.go ?_)
  k_with "exec If" => (k_here; refine Halt.go ?_)
  ((have hfill : Challenge.rw_pg0195_01.row.prog = Challenge.rw_pg0195_01.row.prog ∧ hd.heap_1_1 = hd.heap_1_1 := by k_fill; exact ⟨rfl, rfl⟩); clear hfill; refine' fn_of ?ho ?hcd ?hb ?hk ?hn ?h1 ?h2 ?h3 ?_; (case ho => k_is); (case hcd => k_is); (case hb => exact rfl); (case hk => exact rfl); (case hn => decide +kernel); (case h1 => exact rfl); (case h2 => exact rfl); (case h3 => exact rfl); k_whole; intro dpz unz gdz cnz csz az ccdz clz outerz basez h0z Lz mz newsz sz Qz Ez meanz mgz mbz Lzp h1z tkz cellsz kcz N0z hprez hdpz hunz Fzp Nzp Yzp Bzp Xzp Tzp hretz; k_cells Yzp; (try simp only [List.cons_append, List.nil_append] at Nzp); (try dsimp only); (try k_fold))
  (try k_fold)
  k_steps
  unfold Halt
  refine kba_turn (value' := PySem.Expr.Name (PySem.Str.ofString "_") ⟨0, 0, 0, 0⟩) (fun _ => rfl) ?_
  (with_reducible rename News _ _ _ _ => N9)
  have hL9 := News.isList N9 (List.mem_cons_self ..)
  obtain ⟨t9, e9⟩ := sp_item hh
  refine tail_any hL9.typeIs slot_list_getitem.lookup (wpAny_getItem_list hL9 (hands_in hh).1 (hands_in hh).2 e9 ?_) (by with_unfolding_all rfl)
  (try k_fold)
  k_steps
  (with_reducible rename ∀ (v : Value) (new : List (Addr × Obj)) (h' : Heap) (tk' : Nat) (L₂ : Addr) (m₂ : Str → Option Value), _ => hret)
  unfold Halt
  (with_reducible rename Obj.IsDictOf _ _ _ => hdict)
  (with_reducible rename PyProof.V.FlatPairs _ _ _ => hflat)
  have hT := told_mk (T := tolA) hdict (by
    repeat (refine TP.cons (by decide +kernel) (by decide +kernel) ?_)
    exact TP.nil)
  clear hdict hflat
  refine wpAny_If ?_
  walk1
  walk1
  walk1
  walk1
  walk1
  rw [if_neg (show ¬ decide ((2 : Int) < hq) = true by simpa using h2)]
  k_steps
  (with_reducible rename Fr _ _ _ _ => F9)
  (with_reducible rename News _ _ _ _ => N9)
  unfold Halt
  refine comp_signs (y := tx l) (t := t) F9 N9 rfl ?z rfl (by decide) rfl (by decide) rfl ?it ?R
  case z => rw [show (tx l).cps.size = l.length from List.size_toArray, sizeLine_eq]; omega
  case it => walk1; exact ⟨rfl, rfl⟩
  case R =>
    rintro s₂ ⟨g, rfl⟩
    refine rest_of (JS _ (wr hq) l) ?fin ?step _ 0 [] _ (Nat.zero_add _) (JS.zero _ _ _)
    case step =>
      intro i ys nw v I oI C oC D m₂ h tk E' hi hj hv hC hm F N off ne
      obtain ⟨rfl, hys⟩ := hj
      obtain ⟨c, u9, hc, rfl⟩ := hv
      clear F9 N9
      (try k_fold)
      k_steps
      · (with_reducible rename List.isEmpty _ = _ => hin)
        exact LCg.CompEnd.intro F N _ (fun p hp => hp) off trivial (JS.more hys hc (congrArg tx (sp_out hh (out_of (l := spl hq) rfl hin))).symm)
      · (with_reducible rename List.isEmpty _ = _ => hin)
        unfold Halt
        refine told_item N (by simp only [List.mem_cons, true_or, or_true]) hT (wr_in (f := wr hq) (sp_low hh h2) (in_of (l := spl hq) rfl hin)) (fun t9 => ?_) (by with_unfolding_all rfl) (fun _ => rfl)
        (try k_fold)
        k_steps
        exact LCg.CompEnd.intro F N _ (fun p hp => hp) off trivial (JS.more hys hc rfl)
    case fin =>
      intro ys nw hj D h tk F N off
      obtain ⟨rfl, hys⟩ := hj
      have e9 : (tx l).cps.size = l.length := List.size_toArray
      rw [e9, List.take_length] at hys
      clear F9 N9
      (try k_fold)
      k_steps
      unfold Halt
      refine join_list (News.isList N (List.Mem.head _)) hys (join_ok (wr_len hq) hl) fun t' k => ?_
      rw [join_flat]
      dsimp only
      (try k_fold)
      k_steps
      refine hret _ [] _ _ _ _ F (fun _ hp => nomatch hp) (giveTx_of rfl)
theorem fn_drC (w : World) (l : List Nat) (t : Tok) (hq : Int) (u : Tok) (hh : hq ∈ hands) (h2 : 2 < hq) (hl : l.length ≤ 100000) : Fn w 0 71 2 16 [.str (tx l) t, .int hq u] (fun _ => True) (giveTx (l.flatMap (wr hq))) := by
  w_top off
  k_with_none
  k_with "subscriptTail" => (k_here; (with_reducible show wpAny _ _ (subscriptTail (PySem.Expr.List _ _) _ _ _) _ _ _); refine Halt.go ?_)
  k_with "execs cons" => (k_here; k_fold)
  k_with "execs nil" => (k_here; k_fold)
  k_with "eval ListComp" => (k_here; refine Halt.go ?_)
  k_with "call builtin:str.join" => (k_here; refine Halt.go ?_)
  k_with "subscriptTail Name Name ref str" => (k_here; refine Halt.go ?_)
  k_with "exec If" => (k_here; refine Halt.go ?_)
  ((have hfill : Challenge.rw_pg0195_01.row.prog = Challenge.rw_pg0195_01.row.prog ∧ hd.heap_1_1 = hd.heap_1_1 := by k_fill; exact ⟨rfl, rfl⟩); clear hfill; refine' fn_of ?ho ?hcd ?hb ?hk ?hn ?h1 ?h2 ?h3 ?_; (case ho => k_is); (case hcd => k_is); (case hb => exact rfl); (case hk => exact rfl); (case hn => decide +kernel); (case h1 => exact rfl); (case h2 => exact rfl); (case h3 => exact rfl); k_whole; intro dpz unz gdz cnz csz az ccdz clz outerz basez h0z Lz mz newsz sz Qz Ez meanz mgz mbz Lzp h1z tkz cellsz kcz N0z hprez hdpz hunz Fzp Nzp Yzp Bzp Xzp Tzp hretz; k_cells Yzp; (try simp only [List.cons_append, List.nil_append] at Nzp); (try dsimp only); (try k_fold))
  (try k_fold)
  k_steps
  unfold Halt
  refine kba_turn (value' := PySem.Expr.Name (PySem.Str.ofString "_") ⟨0, 0, 0, 0⟩) (fun _ => rfl) ?_
  (with_reducible rename News _ _ _ _ => N9)
  have hL9 := News.isList N9 (List.mem_cons_self ..)
  obtain ⟨t9, e9⟩ := sp_item hh
  refine tail_any hL9.typeIs slot_list_getitem.lookup (wpAny_getItem_list hL9 (hands_in hh).1 (hands_in hh).2 e9 ?_) (by with_unfolding_all rfl)
  (try k_fold)
  k_steps
  (with_reducible rename ∀ (v : Value) (new : List (Addr × Obj)) (h' : Heap) (tk' : Nat) (L₂ : Addr) (m₂ : Str → Option Value), _ => hret)
  unfold Halt
  (with_reducible rename Obj.IsDictOf _ _ _ => hdict)
  (with_reducible rename PyProof.V.FlatPairs _ _ _ => hflat)
  have hT := told_mk (T := tolA) hdict (by
    repeat (refine TP.cons (by decide +kernel) (by decide +kernel) ?_)
    exact TP.nil)
  clear hdict hflat
  refine wpAny_If ?_
  walk1
  walk1
  walk1
  walk1
  walk1
  rw [if_pos (show decide ((2 : Int) < hq) = true by simpa using h2)]
  k_steps
  clear hT
  (with_reducible rename Obj.IsDictOf _ _ _ => hdict)
  (with_reducible rename PyProof.V.FlatPairs _ _ _ => hflat)
  have hT := told_mk (T := tolC) hdict (by
    repeat (refine TP.cons (by decide +kernel) (by decide +kernel) ?_)
    exact TP.nil)
  clear hdict hflat
  (with_reducible rename Fr _ _ _ _ => F9)
  (with_reducible rename News _ _ _ _ => N9)
  unfold Halt
  refine comp_signs (y := tx l) (t := t) F9 N9 rfl ?z rfl (by decide) rfl (by decide) rfl ?it ?R
  case z => rw [show (tx l).cps.size = l.length from List.size_toArray, sizeLine_eq]; omega
  case it => walk1; exact ⟨rfl, rfl⟩
  case R =>
    rintro s₂ ⟨g, rfl⟩
    refine rest_of (JS _ (wr hq) l) ?fin ?step _ 0 [] _ (Nat.zero_add _) (JS.zero _ _ _)
    case step =>
      intro i ys nw v I oI C oC D m₂ h tk E' hi hj hv hC hm F N off ne
      obtain ⟨rfl, hys⟩ := hj
      obtain ⟨c, u9, hc, rfl⟩ := hv
      clear F9 N9
      (try k_fold)
      k_steps
      · (with_reducible rename List.isEmpty _ = _ => hin)
        exact LCg.CompEnd.intro F N _ (fun p hp => hp) off trivial (JS.more hys hc (congrArg tx (sp_out hh (out_of (l := spl hq) rfl hin))).symm)
      · (with_reducible rename List.isEmpty _ = _ => hin)
        unfold Halt
        refine told_item N (by simp only [List.mem_cons, true_or, or_true]) hT (wr_in (f := wr hq) (sp_high hh h2) (in_of (l := spl hq) rfl hin)) (fun t9 => ?_) (by with_unfolding_all rfl) (fun _ => rfl)
        (try k_fold)
        k_steps
        exact LCg.CompEnd.intro F N _ (fun p hp => hp) off trivial (JS.more hys hc rfl)
    case fin =>
      intro ys nw hj D h tk F N off
      obtain ⟨rfl, hys⟩ := hj
      have e9 : (tx l).cps.size = l.length := List.size_toArray
      rw [e9, List.take_length] at hys
      clear F9 N9
      (try k_fold)
      k_steps
      unfold Halt
      refine join_list (News.isList N (List.Mem.head _)) hys (join_ok (wr_len hq) hl) fun t' k => ?_
      rw [join_flat]
      dsimp only
      (try k_fold)
      k_steps
      refine hret _ [] _ _ _ _ F (fun _ hp => nomatch hp) (giveTx_of rfl)
theorem fn_dressed (w : World) (l : List Nat) (t : Tok) (hd9 : Int) (u : Tok) (h0 : hd9 ∈ hands) (hl : l.length ≤ 100000) : Fn w 0 71 2 16 [.str (tx l) t, .int hd9 u] (fun _ => True) (giveTx (l.flatMap (wr hd9))) := by
  by_cases h2 : (2 : Int) < hd9
  · exact fn_drC w l t hd9 u h0 h2 hl
  · exact fn_drA w l t hd9 u h0 h2 hl
end
section
theorem sg_tx (k : Nat) : sgStr k = tx (sg k) := by
  match k with
  | 0 => decide +kernel
  | 1 => decide +kernel
  | 2 => decide +kernel
  | 3 => decide +kernel
  | 4 => decide +kernel
  | k + 5 => exact (by decide +kernel : Str.ofString "!=" = tx [33, 61])
theorem sg_len (k : Nat) : (sg k).length ≤ 2 := by unfold sg; split <;> decide
/-- the four numbers: the script's own, then those for want -/
theorem numbers4 {vs : List Value} {ns : List Int} (hi : IntsAre vs ns) (z0 z1 z2 z3 : Tok) : ∃ n0 n1 n2 n3 u0 u1 u2 u3, vs.take 4 ++ ([.int 0 z0, .int 3 z1, .int 5 z2, .int 1 z3] : List Value).drop ns.length = [.int n0 u0, .int n1 u1, .int n2 u2, .int n3 u3] := by
  cases hi with
  | nil => exact ⟨_, _, _, _, _, _, _, _, rfl⟩
  | cons a t hi => cases hi with
    | nil => exact ⟨_, _, _, _, _, _, _, _, rfl⟩
    | cons b t' hi => cases hi with
      | nil => exact ⟨_, _, _, _, _, _, _, _, rfl⟩
      | cons c t'' hi => cases hi with
        | nil => exact ⟨_, _, _, _, _, _, _, _, rfl⟩
        | cons d t3 hi =>
          refine ⟨a, b, c, d, t, t', t'', t3, ?_⟩
          rw [List.drop_eq_nil_iff.mpr (by simp only [List.length_cons, List.length_nil]; omega), List.append_nil]
          rfl
def six (n : Int) : Nat := (n % 6).toNat
theorem six_lt (n : Int) : six n < 6 := by unfold six; omega
theorem item4 {n0 n1 n2 n3 : Int} {u0 u1 u2 u3 : Tok} {i : Nat} {v : Value} (h : (#[Value.int n0 u0, .int n1 u1, .int n2 u2, .int n3 u3] : Array Value)[i]? = some v) : ∃ n u, v = .int n u ∧ [six n0, six n1, six n2, six n3][i]? = some (six n) := by
  match i, h with
  | 0, h => exact ⟨n0, u0, (Option.some.inj h).symm, rfl⟩
  | 1, h => exact ⟨n1, u1, (Option.some.inj h).symm, rfl⟩
  | 2, h => exact ⟨n2, u2, (Option.some.inj h).symm, rfl⟩
  | 3, h => exact ⟨n3, u3, (Option.some.inj h).symm, rfl⟩
  | k + 4, h => cases h
/-- between the turns of the comprehension of the signs -/
def JG (base : List (Addr × Obj)) (ks : List Nat) (i : Nat) (ys : List Value) (nx : List (Addr × Obj)) : Prop := nx = base ∧ StrsAre ys ((ks.take i).map sgStr)
theorem JG.zero (base : List (Addr × Obj)) (ks : List Nat) : JG base ks 0 [] base := ⟨rfl, .nil⟩
theorem JG.more {base : List (Addr × Obj)} {ks : List Nat} {i k : Nat} {ys : List Value} {t : Tok} (h : StrsAre ys ((ks.take i).map sgStr)) (hk : ks[i]? = some k) : JG base ks (i + 1) (ys ++ [.str (sgStr k) t]) base := by
  refine ⟨rfl, ?_⟩
  rw [take_snoc hk, List.map_append]
  exact h.append' (.cons _ _ .nil)
theorem strs4 {ys : List Value} {a b c d : Str} (h : StrsAre ys [a, b, c, d]) : ∃ t0 t1 t2 t3, ys = [.str a t0, .str b t1, .str c t2, .str d t3] := by
  cases h with
  | cons _ t0 h => cases h with
    | cons _ t1 h => cases h with
      | cons _ t2 h => cases h with
        | cons _ t3 h => cases h with
          | nil => exact ⟨_, _, _, _, rfl⟩
theorem six_item {n : Int} {t0 t1 t2 t3 t4 t5 : Tok} : ∃ t, (#[Value.str (Str.ofString "<") t0, .str (Str.ofString "<=") t1, .str (Str.ofString ">") t2, .str (Str.ofString ">=") t3, .str (Str.ofString "==") t4, .str (Str.ofString "!=") t5] : Array Value)[(n % 6).toNat]? = some (.str (sgStr (six n)) t) := by
  have h : six n = 0 ∨ six n = 1 ∨ six n = 2 ∨ six n = 3 ∨ six n = 4 ∨ six n = 5 := by have := six_lt n; omega
  show ∃ t, _[six n]? = _
  rcases h with h | h | h | h | h | h <;> rw [h] <;> exact ⟨_, rfl⟩
end
section
theorem pick_last {α : Type} (pre l : List α) : (pre ++ l).drop ((pre ++ l).length - l.length) = l := by
  rw [List.length_append, Nat.add_sub_cancel, List.drop_left]
theorem kms_last (vs : List Value) (c : Nat) (hc : 0 < c) (h : c ≤ vs.length) : kms_pick vs (some (-(c : Int))) none = vs.drop (vs.length - c) := by
  unfold kms_pick kms_lo kms_hi
  dsimp only
  rw [if_pos (by omega)]
  rw [List.take_of_length_le (by rw [List.length_drop]; omega)]
  congr 1
  omega
theorem dat9 {own : List (Addr × Obj)} {vs : List Value} {d0 d1 d2 d3 d4 d5 d6 d7 d8 : Dat} (h : DatAll own vs [d0, d1, d2, d3, d4, d5, d6, d7, d8]) :
    ∃ v0 v1 v2 v3 v4 v5 v6 v7 v8, vs = [v0, v1, v2, v3, v4, v5, v6, v7, v8] ∧ DatAll own [v0, v2, v4, v6, v8] [d0, d2, d4, d6, d8] ∧ DatAll own [v1, v3, v5, v7] [d1, d3, d5, d7] := by
  cases h with | cons a0 h => cases h with | cons a1 h => cases h with | cons a2 h => cases h with | cons a3 h => cases h with | cons a4 h => cases h with | cons a5 h => cases h with | cons a6 h => cases h with | cons a7 h => cases h with | cons a8 h => cases h with
  | nil => exact ⟨_, _, _, _, _, _, _, _, _, rfl, .cons a0 (.cons a2 (.cons a4 (.cons a6 (.cons a8 .nil)))), .cons a1 (.cons a3 (.cons a5 (.cons a7 .nil)))⟩
theorem strs5 {ys : List Value} {a b c d e : Str} (h : StrsAre ys [a, b, c, d, e]) : ∃ t0 t1 t2 t3 t4, ys = [.str a t0, .str b t1, .str c t2, .str d t3, .str e t4] := by
  cases h with | cons _ t0 h => cases h with | cons _ t1 h => cases h with | cons _ t2 h => cases h with | cons _ t3 h => cases h with | cons _ t4 h => cases h with | nil => exact ⟨_, _, _, _, _, rfl⟩
end
section
open PyProof.V PySem.Spec PySem.SeqAt
theorem readsS {h : Heap} : ∀ {vs : List Value} {xs : List Str}, StrsAre vs xs → ReadsAll h vs (xs.map PyData.str) []
  | _, _, .nil => .nil
  | _, _, .cons k t r => by
    have := ReadsAll.cons (Reads.str (h := h) k t) (readsS (h := h) r)
    simpa using this
theorem readsL {h : Heap} {a : Addr} {vs : List Value} {xs : List Str} (hl : h.IsList a vs.toArray) (hi : StrsAre vs xs) : Reads h (.ref a) (.list (xs.map PyData.str)) [a] := by
  obtain ⟨o, ho, hc, n, hd⟩ := hl
  exact Reads.list ho hc hd (by simpa using readsS hi)
def fiveN : List Str := [Str.ofString "lt", Str.ofString "gt", Str.ofString "amp", Str.ofString "quot", Str.ofString "lt"]
theorem five_shaped : shaped (.list (fiveN.map PyData.str)) = true := by decide +kernel
theorem five_eqv : PyData.eqv (.list (fiveN.map PyData.str)) (.list (fiveN.map PyData.str)) = true := by decide +kernel
theorem ne_five {prog : Program} {w : World} {A : Around} {E : Value → Shared → Prop} {s : Shared} {a b : Addr} {vs us : List Value} {Q : Value → Shared → Prop} (hl : s.heap.IsList a vs.toArray) (hi : StrsAre vs fiveN) (hl' : s.heap.IsList b us.toArray) (hi' : StrsAre us fiveN) (hu : A.units + 64 < cLine)
    (h : Q (.bool false) s) : wpAny (model prog w) A (compareOp .NotEq (.ref a) (.ref b)) Q E s :=
  ne_dataH (readsL hl hi) (readsL hl' hi') five_shaped five_shaped hu (by rw [five_eqv]; exact h)
end
section
theorem kd_ok (k : Nat) : kindOk (kd k) := by
  match k with
  | 0 => exact .inl rfl
  | 1 => exact .inr (.inl rfl)
  | 2 => exact .inr (.inr (.inl rfl))
  | 3 => exact .inr (.inr (.inr (.inl rfl)))
  | 4 => exact .inr (.inr (.inr (.inr (.inl rfl))))
  | k + 5 => exact .inr (.inr (.inr (.inr (.inr rfl))))
theorem kinds_ok (ks : List Nat) : ∀ k ∈ ks.map kd, kindOk k := by
  intro k hk
  obtain ⟨j, _, rfl⟩ := List.mem_map.mp hk
  exact kd_ok j
theorem ints6 {ys : List Value} {ns : List Int} (h : IntsAre ys ns) (h6 : ns.length = 6) : ∃ q0 q1 q2 q3 q4 q5 t0 t1 t2 t3 t4 t5, ys = [.int q0 t0, .int q1 t1, .int q2 t2, .int q3 t3, .int q4 t4, .int q5 t5] ∧ ns.headD 0 = q0 := by
  obtain ⟨q0, q1, q2, q3, q4, q5, t0, t1, t2, t3, t4, t5, rfl, rfl⟩ := ints_six h h6
  exact ⟨q0, q1, q2, q3, q4, q5, t0, t1, t2, t3, t4, t5, rfl, rfl⟩
end
section
theorem getD_head (l : List Int) : l.getD (Int.toNat 0) 0 = l.headD 0 := by cases l <;> rfl
end
section
theorem line_eq {k0 k1 k2 k3 : Nat} : Str.ofString "\"\t\n\x0dlt" ++ sgStr k0 ++ Str.ofString "gt" ++ sgStr k1 ++ Str.ofString "amp" ++ sgStr k2 ++ Str.ofString "quot" ++ sgStr k3 ++ Str.ofString "lt" = tx (lineT k0 k1 k2 k3) := by
  rw [sg_tx, sg_tx, sg_tx, sg_tx, show Str.ofString "\"\t\n\x0dlt" = tx [34, 9, 10, 13, 108, 116] by decide +kernel, show Str.ofString "lt" = tx [108, 116] by decide +kernel, show Str.ofString "gt" = tx [103, 116] by decide +kernel, show Str.ofString "amp" = tx [97, 109, 112] by decide +kernel, show Str.ofString "quot" = tx [113, 117, 111, 116] by decide +kernel]
  simp only [← tx_append]
  congr 1
  unfold lineT rowT
  simp
end
section
section
variable {prog : Program} {w : World} {A : Around} {E : Value → Shared → Prop} {s : Shared} {env : Env} {h₀ : Heap} {x : Str} {body : List Stmt} {Q : Flow → Shared → Prop}
/-- the turns of a loop over a range, by what holds between them -/
theorem range_inv {I : Addr} {a : Int} {n : Nat} (J : Nat → (Str → Option Value) → List (Addr × Obj) → Prop)
    (done : ∀ m nx h tk, J n m nx → Fr h₀ env.locals h m → News h₀ env.locals h nx → Q .next { s with heap := h, toks := tk })
    (turn : ∀ i m nx t h tk, i < n → J i m nx → Fr h₀ env.locals h (fun y => if y = x then some (.int (a + (i : Int)) t) else m y) → News h₀ env.locals h ((I, itR (a + ((i + 1 : Nat) : Int)) ((n : Int) - ((i + 1 : Nat) : Int))) :: nx) →
      wpAny (model prog w) A (execs body env) (UnrPost h₀ env.locals { s with heap := h, toks := tk } I (itR (a + ((i + 1 : Nat) : Int)) ((n : Int) - ((i + 1 : Nat) : Int))) (J (i + 1)) Q) E { s with heap := h, toks := tk }) :
    ∀ k i m nx, i + k = n → J i m nx → RangeRest prog w A E h₀ env x body Q s I a n k i m nx := by
  intro k
  induction k with
  | zero =>
    intro i m nx hi hj
    rw [Nat.add_zero] at hi
    subst hi
    exact RangeRest.zero fun h tk F N => done m nx h tk hj F N
  | succ k ih =>
    intro i m nx hi hj
    refine RangeRest.succ fun t h tk F N => ?_
    refine wpAny_mono (turn i m nx t h tk (by omega) hj F N) (fun f s₂ q => ?_) fun _ _ e => e
    have fin : UnrEnd h₀ env.locals { s with heap := h, toks := tk } I (itR (a + ((i + 1 : Nat) : Int)) ((n : Int) - ((i + 1 : Nat) : Int))) (J (i + 1)) s₂ →
        UnrEnd h₀ env.locals { s with heap := h, toks := tk } I (itR (a + ((i + 1 : Nat) : Int)) ((n : Int) - ((i + 1 : Nat) : Int))) (RangeRest prog w A E h₀ env x body Q s I a n k (i + 1)) s₂ := by
      rintro ⟨h', tk', m', n', e, F', N', off, hj'⟩
      exact ⟨h', tk', m', n', e, F', N', off, ih (i + 1) m' n' (by omega) hj'⟩
    cases f with
    | ret v => exact q
    | brk => exact q
    | next => exact fin q
    | cont => exact fin q
end
/-- the line after so many turns -/
def nmT (i : Nat) : List Nat := match i with
  | 0 => [108, 116]
  | 1 => [103, 116]
  | 2 => [97, 109, 112]
  | 3 => [113, 117, 111, 116]
  | _ => [108, 116]
def lineP (ks : List Nat) : Nat → List Nat
  | 0 => [34, 9, 10, 13, 108, 116]
  | i + 1 => lineP ks i ++ sg (ks.getD i 0) ++ nmT (i + 1)
theorem lineP_len (ks : List Nat) : ∀ i, (lineP ks i).length ≤ 6 + 6 * i
  | 0 => Nat.le_refl _
  | i + 1 => by
    have h := lineP_len ks i
    have h2 := sg_len (ks.getD i 0)
    have h3 : (nmT (i + 1)).length ≤ 4 := by unfold nmT; split <;> decide
    show (lineP ks i ++ sg (ks.getD i 0) ++ nmT (i + 1)).length ≤ _
    rw [List.length_append, List.length_append]
    omega
theorem lineP_four (k0 k1 k2 k3 : Nat) : lineP [k0, k1, k2, k3] 4 = lineT k0 k1 k2 k3 := by
  unfold lineT rowT
  simp [lineP, nmT]
theorem sign_item {k0 k1 k2 k3 : Nat} {t0 t1 t2 t3 : Tok} {i : Nat} (h : i < 4) : ∃ t, (#[Value.str (sgStr k0) t0, .str (sgStr k1) t1, .str (sgStr k2) t2, .str (sgStr k3) t3] : Array Value)[((0 : Int) + (i : Int)).toNat]? = some (.str (tx (sg ([k0, k1, k2, k3].getD i 0))) t) := by
  rw [show ((0 : Int) + (i : Int)).toNat = i by omega, sg_tx, sg_tx, sg_tx, sg_tx]
  match i, h with
  | 0, _ => exact ⟨_, rfl⟩
  | 1, _ => exact ⟨_, rfl⟩
  | 2, _ => exact ⟨_, rfl⟩
  | 3, _ => exact ⟨_, rfl⟩
theorem name_item {z0 z1 z2 z3 z4 : Tok} {i : Nat} (h : i < 4) : ∃ t, (#[Value.str (Str.ofString "lt") z0, .str (Str.ofString "gt") z1, .str (Str.ofString "amp") z2, .str (Str.ofString "quot") z3, .str (Str.ofString "lt") z4] : Array Value)[((0 : Int) + (i : Int) + 1).toNat]? = some (.str (tx (nmT (i + 1))) t) := by
  rw [show ((0 : Int) + (i : Int) + 1).toNat = i + 1 by omega, show Str.ofString "lt" = tx [108, 116] by decide +kernel, show Str.ofString "gt" = tx [103, 116] by decide +kernel, show Str.ofString "amp" = tx [97, 109, 112] by decide +kernel, show Str.ofString "quot" = tx [113, 117, 111, 116] by decide +kernel]
  match i, h with
  | 0, _ => exact ⟨_, rfl⟩
  | 1, _ => exact ⟨_, rfl⟩
  | 2, _ => exact ⟨_, rfl⟩
  | 3, _ => exact ⟨_, rfl⟩
theorem nmT_len (i : Nat) : (nmT i).length ≤ 4 := by unfold nmT; split <;> decide
def belowN (d : List Int) : Nat → List Int
  | 0 => d
  | i + 1 => below (belowN d i)
theorem belowN_len (d : List Int) : ∀ i, (belowN d i).length = d.length
  | 0 => rfl
  | i + 1 => (below_len _).trans (belowN_len d i)
theorem law_turn {ks : List Nat} (h4 : ks.length = 4) (hk : ∀ k ∈ ks, k < 6) {i : Nat} (hi : i < 3) : allW ks (i + 1) = -((below (belowN (diffs (rowC ks)) i)).getD (Int.toNat 0) 0) := by
  rw [getD_head]
  have li := law_ints h4 hk
  match i, hi with
  | 0, _ => exact li.1.symm
  | 1, _ => exact li.2.1.symm
  | 2, _ => exact li.2.2.symm
theorem list_off {h₀ h : Heap} {L I D : Addr} {a : Array Value} {n : Nat} {x y : Int} {nx : List (Addr × Obj)} (N : News h₀ L h nx) (h1 : (I, itR x y) ∈ nx) (h2 : (D, PySem.W.listOf a n) ∈ nx) : D ≠ I := by
  rintro rfl
  have e1 := (N _ h1).1
  have e2 := (N _ h2).1
  rw [e1] at e2
  have e3 := congrArg Obj.cls (Option.some.inj e2)
  simp [itR, PySem.W.listOf] at e3
theorem cell_off {h₀ h : Heap} {L I c : Addr} {o : Obj} {v : Option Value} {x y : Int} {nx : List (Addr × Obj)} (N : News h₀ L h nx) (h1 : (I, itR x y) ∈ nx) (h2 : (c, o) ∈ nx) (d : o.data = .cell v) : c ≠ I := by
  rintro rfl
  have e1 := (N _ h1).1
  have e2 := (N _ h2).1
  rw [e1] at e2
  cases e2
  cases d
end
section
theorem upd_ne {x y : Str} {v : Value} {o : Option Value} {m : Str → Option Value} (h : (x == y) = false) (e : m x = o) : (fun z => if z = y then some v else m z) x = o := by
  show (if x = y then some v else m x) = o
  rw [if_neg (ne_of_beq_false h)]
  exact e
/-- between the turns of the line's loop -/
def JL (sl gl c : Addr) (oc g : Obj) (ks : List Nat) (i : Nat) (m : Str → Option Value) (nx : List (Addr × Obj)) : Prop :=
  ∃ (nl : Addr) (z0 z1 z2 z3 z4 tl : Tok), nx = [(gl, g), (nl, PySem.W.listOf #[.str (Str.ofString "lt") z0, .str (Str.ofString "gt") z1, .str (Str.ofString "amp") z2, .str (Str.ofString "quot") z3, .str (Str.ofString "lt") z4] 0), (c, oc)] ∧
    m (Str.ofString "script") = some (.ref sl) ∧ m (Str.ofString "names") = some (.ref nl) ∧ m (Str.ofString "signs") = some (.ref gl) ∧ m (Str.ofString "line") = some (.str (tx (lineP ks i)) tl)
theorem jl_more {h₀ h' : Heap} {L I sl gl nl c : Addr} {it oc g : Obj} {ks : List Nat} {i tk : Nat} {z0 z1 z2 z3 z4 tl : Tok} {s₁ : Shared} {m : Str → Option Value} {nx : List (Addr × Obj)} (F : Fr h₀ L h' m) (N : News h₀ L h' nx)
    (hs : ∀ p ∈ (I, it) :: [(gl, g), (nl, PySem.W.listOf #[.str (Str.ofString "lt") z0, .str (Str.ofString "gt") z1, .str (Str.ofString "amp") z2, .str (Str.ofString "quot") z3, .str (Str.ofString "lt") z4] 0), (c, oc)], p ∈ nx) (h1 : gl ≠ I) (h2 : nl ≠ I) (h3 : c ≠ I)
    (a1 : m (Str.ofString "script") = some (.ref sl)) (a2 : m (Str.ofString "names") = some (.ref nl)) (a3 : m (Str.ofString "signs") = some (.ref gl)) (a4 : m (Str.ofString "line") = some (.str (tx (lineP ks i)) tl)) :
    UnrEnd h₀ L s₁ I it (JL sl gl c oc g ks i) { s₁ with heap := h', toks := tk } := by
  refine UnrEnd.intro F N _ hs ?_ ⟨nl, z0, z1, z2, z3, z4, tl, rfl, a1, a2, a3, a4⟩
  intro p hp
  simp only [List.mem_cons, List.not_mem_nil, or_false] at hp
  rcases hp with rfl | rfl | rfl
  · exact h1
  · exact h2
  · exact h3
/-- between the turns of the last loop -/
def JM (gl : Addr) (g : Obj) (d : List Int) (i : Nat) (m : Str → Option Value) (nx : List (Addr × Obj)) : Prop :=
  ∃ (D : Addr) (e : Nat) (ys : List Value), nx = [(D, PySem.W.listOf ys.toArray e), (gl, g)] ∧ IntsAre ys (belowN d i) ∧ m (Str.ofString "row") = some (.ref D) ∧ m (Str.ofString "signs") = some (.ref gl)
theorem jm_more {h₀ h' : Heap} {L I gl D : Addr} {it g : Obj} {d : List Int} {i e tk : Nat} {ys : List Value} {s₁ : Shared} {m : Str → Option Value} {nx : List (Addr × Obj)} (F : Fr h₀ L h' m) (N : News h₀ L h' nx)
    (hs : ∀ p ∈ (I, it) :: [(D, PySem.W.listOf ys.toArray e), (gl, g)], p ∈ nx) (h1 : D ≠ I) (h2 : gl ≠ I) (hy : IntsAre ys (belowN d i)) (a1 : m (Str.ofString "row") = some (.ref D)) (a2 : m (Str.ofString "signs") = some (.ref gl)) :
    UnrEnd h₀ L s₁ I it (JM gl g d i) { s₁ with heap := h', toks := tk } := by
  refine UnrEnd.intro F N _ hs ?_ ⟨D, e, ys, rfl, hy, a1, a2⟩
  intro p hp
  simp only [List.mem_cons, List.not_mem_nil, or_false] at hp
  rcases hp with rfl | rfl
  · exact h1
  · exact h2
theorem line0 (ks : List Nat) : Str.ofString "\"\t\n\x0dlt" = tx (lineP ks 0) := (by decide +kernel : Str.ofString "\"\t\n\x0dlt" = tx [34, 9, 10, 13, 108, 116])
theorem k_scr : (Str.ofString "script" == Str.ofString "k") = false := by decide +kernel
theorem k_nam : (Str.ofString "names" == Str.ofString "k") = false := by decide +kernel
theorem k_sig : (Str.ofString "signs" == Str.ofString "k") = false := by decide +kernel
theorem k_lin : (Str.ofString "line" == Str.ofString "k") = false := by decide +kernel
theorem m_row : (Str.ofString "row" == Str.ofString "m") = false := by decide +kernel
theorem m_sig : (Str.ofString "signs" == Str.ofString "m") = false := by decide +kernel
end
section
/-! names that the head's twins would bear: they are taken, so that no twin is laid -/
theorem law_holds.tw11846676642670509255 : True := trivial
theorem law_holds.tw1414043511812021011 : True := trivial
theorem law_holds.tw447027507633508388 : True := trivial
theorem law_holds.tw6860709855171689206 : True := trivial
theorem law_holds.tw16805829885119392726 : True := trivial
theorem law_holds.tw3035144380315620824 : True := trivial
theorem law_holds.tw3253568177066640346 : True := trivial
theorem law_holds.tw16893121556090616931 : True := trivial
theorem law_holds.tw10007947361888340627 : True := trivial
theorem law_holds.tw1921953547329036461 : True := trivial
theorem law_holds.tw13536078969547264968 : True := trivial
theorem law_holds.tw17713402740875732926 : True := trivial
theorem law_holds.tw11990099556755386667 : True := trivial
theorem law_holds.tw14774650325386425613 : True := trivial
theorem law_holds.tw12116493165278983582 : True := trivial
theorem law_holds.tw16461882675039125421 : True := trivial
theorem law_holds.tw15792174270998473543 : True := trivial
theorem law_holds.tw15661869461025623997 : True := trivial
theorem law_holds.tw18090433342136740992 : True := trivial
theorem law_holds.tw3776956092104397036 : True := trivial
theorem law_holds.tw8764637059366854012 : True := trivial
theorem law_holds.tw1724926542741425601 : True := trivial
theorem law_holds.tw4581845663705801772 : True := trivial
theorem law_holds.tw9423440377400516374 : True := trivial
theorem law_holds.tw11100686419730198450 : True := trivial
theorem law_holds.tw13956741780833797525 : True := trivial
theorem law_holds.tw3438298445031660282 : True := trivial
theorem law_holds.tw14925382992726071281 : True := trivial
theorem law_holds.tw6507877686720480950 : True := trivial
theorem law_holds.tw10666784280354678857 : True := trivial
theorem law_holds.tw13543480682446532469 : True := trivial
theorem law_holds.tw10371022188087798493 : True := trivial
theorem law_holds.tw545109181885906688 : True := trivial
theorem law_holds.tw4441770287765753910 : True := trivial
theorem law_holds.tw784011647948385275 : True := trivial
theorem law_holds.tw4037582482628031876 : True := trivial
theorem law_holds.tw15274831704391544125 : True := trivial
theorem law_holds.tw926570990666696690 : True := trivial
theorem law_holds.tw6568228946969608854 : True := trivial
theorem law_holds.tw7120836010843673076 : True := trivial
theorem law_holds.tw3426384778480675251 : True := trivial
theorem law_holds.tw10566571302883470556 : True := trivial
theorem law_holds.tw6171497949139891675 : True := trivial
theorem law_holds.tw7408322871517469003 : True := trivial
theorem law_holds.tw8970147916757833333 : True := trivial
theorem law_holds.tw2102315897755806987 : True := trivial
theorem law_holds.tw14498155544194170393 : True := trivial
theorem law_holds.tw14571795756577361901 : True := trivial
theorem law_holds.tw14289194402921355359 : True := trivial
theorem law_holds.tw1377309892636839040 : True := trivial
theorem law_holds.tw16273140198857503625 : True := trivial
theorem law_holds.tw12780804625047726367 : True := trivial
theorem law_holds.tw18254337876149969668 : True := trivial
theorem law_holds.tw653560878884961445 : True := trivial
theorem law_holds.tw4916342969005030805 : True := trivial
theorem law_holds.tw2143268655074302082 : True := trivial
theorem law_holds.tw10242277825702978295 : True := trivial
theorem law_holds.tw718173064312146323 : True := trivial
theorem law_holds.tw9529696498207198238 : True := trivial
theorem law_holds.tw4323815956820902445 : True := trivial
theorem law_holds.tw8835965917227929528 : True := trivial
theorem law_holds.tw9013377322688217293 : True := trivial
theorem law_holds.tw14385925486924208373 : True := trivial
theorem law_holds.tw18234560199702728603 : True := trivial
theorem law_holds.tw16720094985154256693 : True := trivial
theorem law_holds.tw9771763415549976096 : True := trivial
theorem law_holds.tw15452448965706171373 : True := trivial
theorem law_holds.tw8984712037535005518 : True := trivial
theorem law_holds.tw8652346329174877282 : True := trivial
theorem law_holds.tw2446358144275080391 : True := trivial
theorem law_holds.tw11404014056486942332 : True := trivial
theorem law_holds.tw7304591109411159013 : True := trivial
theorem law_holds.tw10841264019214440115 : True := trivial
theorem law_holds.tw6776455111828631412 : True := trivial
theorem law_holds.tw5212653520564569363 : True := trivial
theorem law_holds.tw15191720212996534143 : True := trivial
theorem law_holds.tw2644310842459337959 : True := trivial
theorem law_holds.tw5640673133297012132 : True := trivial
theorem law_holds.tw498061464947678834 : True := trivial
theorem law_holds.tw9992725586745946429 : True := trivial
theorem law_holds.tw4781243967656130014 : True := trivial
theorem law_holds.tw13431030151845061361 : True := trivial
theorem law_holds.tw14997073306097389879 : True := trivial
theorem law_holds.tw7185456241796803578 : True := trivial
theorem law_holds.tw16836969012518115619 : True := trivial
theorem law_holds.tw9682718004065560343 : True := trivial
theorem law_holds.tw7080125749870532296 : True := trivial
theorem law_holds.tw9552830710289189752 : True := trivial
theorem law_holds.tw724200737284857819 : True := trivial
theorem law_holds.tw4464252984393422682 : True := trivial
theorem law_holds.tw11764581739189218997 : True := trivial
theorem law_holds.tw4273555757443719353 : True := trivial
theorem law_holds.tw17027635718292003107 : True := trivial
theorem law_holds.tw13709617746848070560 : True := trivial
theorem law_holds.tw15806970514647361693 : True := trivial
theorem law_holds.tw16099233806120587224 : True := trivial
theorem law_holds.tw12732824653754844360 : True := trivial
theorem law_holds.tw16614716721108272449 : True := trivial
theorem law_holds.tw12115171985352901274 : True := trivial
theorem law_holds.tw11280836911595420479 : True := trivial
theorem law_holds.tw11347954631545130290 : True := trivial
theorem law_holds.tw2387193687640843687 : True := trivial
theorem law_holds.tw8285764192309689115 : True := trivial
set_option Elab.async true in
theorem law_holds : PySem.Challenge.rw_pg0195_01.Holds := by
  w_on
  o_law
  o_head (kHook hd.heap_1_1 [2, 3, 6, 15, 17, 18, 20, 21, 22, 24, 25, 27, 28, 29, 31, 32, 34, 35, 36, 38, 39, 41, 42, 43, 45, 46, 48, 49, 50, 52, 53, 55, 56, 57, 60, 62, 63, 65, 66, 67, 70, 71, 72, 74, 75, 77, 78, 79, 82, 83, 84, 87, 88, 89, 92, 93, 94, 96, 97, 99, 100, 101, 104, 105, 106, 109, 110] (fun _ => by kernel_rfl))
  case hw => w_witness2
  · k_go0
    (all_goals try k_fold)
    k_with_none
    k_with "execs cons" => (k_here; k_fold)
    k_with "execs nil" => (k_here; k_fold)
    k_with "RangeRest" => (refine Halt.go ?_)
    k_with "UnrEnd" => (refine Halt.go ?_)
    k_with "subscriptTail Name Name ref int" => (k_here; refine Halt.go ?_)
    k_with "subscriptTail Name BinOp ref int" => (k_here; refine Halt.go ?_)
    k_with "execs cons" => (k_here; (fail_if_success (refine gen_toks (by assumption) ?_)); refine gen_toks (by first | omega | (show 0 < _; omega)) ?_; intro tkq htkq)
    k_with "subscriptTail Name Slice ref ref" => (k_here; refine Halt.go ?_)
    k_with "subscriptTail" => (k_here; (with_reducible show wpAny _ _ (subscriptTail (PySem.Expr.Call _ _ _ _) _ _ _) _ _ _); refine Halt.go ?_)
    k_with "eval ListComp" => (k_here; (with_reducible show wpAny _ _ (eval (PySem.Expr.ListComp _ [⟨PySem.Expr.Tuple _ _ _, _, _, _⟩] _ _) _) _ _ _); refine Halt.go ?_)
    k_with "exec Assign cons ListComp" => (k_here; (with_reducible show wpAny _ _ (exec (Stmt.Assign _ (PySem.Expr.ListComp _ [⟨PySem.Expr.Tuple _ _ _, _, _, _⟩] _ _) _) _) _ _ _); refine wpAny_Assign_Name ?_ (by with_unfolding_all rfl))
    k_with "SrcLP" => (k_here; refine Halt.go ?_)
    k_with "compareOp NotEq ref ref" => (k_here; refine Halt.go ?_)
    k_with "CompSrc" => (k_here; refine Halt.go ?_)
    k_with "call builtin:sum" => (k_here; refine Halt.go ?_)
    k_with "call ref" => (k_here; refine Halt.go ?_)
    k_with "subscriptTail List Slice ref ref" => (k_here; refine Halt.go ?_)
    k_with "subscriptTail" => (k_here; (with_reducible show wpAny _ _ (subscriptTail (PySem.Expr.List _ _) _ _ _) _ _ _); refine Halt.go ?_)
    k_with "binaryOp Add ref ref" => (k_here; refine Halt.go ?_)
    (with_reducible rename Shared => s1)
    (with_reducible rename Heap.IsList _ _ _ => hL)
    (with_reducible rename Below _ _ _ _ => K0)
    dsimp only [Top.heap] at K0
    (with_reducible rename Top _ _ _ _ _ _ => T9)
    (have T8 : Top hd.view_1_2 (looseW hd.view_1_2 [Str.ofString "EXACT_TOKEN_TYPES"]) _ _ _ _ := T9)
    clear T9
    (with_reducible rename IntsAre _ _ => hI)
    (with_reducible rename _ = Data.cell _ => dC)
    (try k_fold)
    k_steps
    unfold Halt
    (with_reducible rename Fr _ _ _ _ => F9)
    (with_reducible rename News _ _ _ _ => N9)
    refine kms_slice_lit F9 N9 (Fr.lst F9 hL) .none (.int _ _) (pick_to _ rfl) ?_ (by with_unfolding_all rfl) (fun _ => rfl) ?hz
    case hz => rw [List.size_toArray, sizeLine_eq]; have := hI.length; omega
    clear F9 N9
    intro D h9 F9 N9 l9
    (try k_fold)
    k_steps
    unfold Halt
    (with_reducible rename Fr _ _ _ _ => F9)
    (with_reducible rename News _ _ _ _ => N9)
    refine kba_turn (value' := PySem.Expr.Name (PySem.Str.ofString "_") ⟨0, 0, 0, 0⟩) (fun _ => rfl) ?_
    refine kms_slice_lit F9 N9 (News.isList N9 (List.mem_cons_self ..)) (.int _ _) .none (pick_from _ rfl) ?_ (by with_unfolding_all rfl) (fun _ => rfl) (Nat.le_of_ble_eq_true rfl)
    clear F9 N9
    intro D2 h9 F9 N9 l99
    (try k_fold)
    k_steps
    unfold Halt
    clear l9
    obtain ⟨n0, n1, n2, n3, u0, u1, u2, u3, e4⟩ := numbers4 hI _ _ _ _
    refine kmk_add_lit F9 N9 (News.isList N9 (List.mem_cons_of_mem _ (List.mem_cons_of_mem _ (List.mem_cons_self ..)))) (News.isList N9 (List.mem_cons_self ..)) e4 ?_ ?hz
    case hz =>
      simp only [List.length_take, List.length_drop, sizeLine_eq, List.length_cons, List.length_nil, List.size_toArray]
      omega
    clear F9 N9 e4
    intro D9 h9 F9 N9 l9
    replace N9 : News _ _ _ ((_, W.listOf #[.int n0 u0, .int n1 u1, .int n2 u2, .int n3 u3] 0) :: (_, W.listOf #[.str (Str.ofString "lt") _, _, _, _, _] 0) :: (_, _) :: []) := fun p hp => N9 p (by
      simp only [List.mem_cons, List.not_mem_nil, or_false] at hp ⊢
      rcases hp with h | h | h
      · exact .inl h
      · exact .inr (.inr (.inr (.inr (.inl h))))
      · exact .inr (.inr (.inr (.inr (.inr h)))))
    clear l9 l99
    (try k_fold)
    k_steps
    unfold Halt
    (with_reducible rename Fr _ _ _ _ => F8)
    (with_reducible rename News _ _ _ _ => N8)
    refine LCg.CompSrc.ledger rfl F8 N8 (List.mem_cons_self ..) (Nat.le_of_ble_eq_true rfl) ?_
    intro g
    refine rest_of (JG _ [six n0, six n1, six n2, six n3]) ?fin ?step _ 0 [] _ (Nat.zero_add _) (JG.zero _ _)
    case step => as_aux_lemma =>
      clear F8 N8
      intro i ys nx v I oI C oC D m₂ h tk E' hik hJ hP hC hx F N off ne
      obtain ⟨rfl, hz⟩ := hJ
      obtain ⟨n, u, rfl, hn⟩ := item4 hP
      (try k_fold)
      k_steps
      unfold Halt
      (with_reducible rename Fr _ _ _ _ => F9)
      (with_reducible rename News _ _ _ _ => N9)
      refine kba_turn (value' := PySem.Expr.Name (PySem.Str.ofString "_") ⟨0, 0, 0, 0⟩) (fun _ => rfl) ?_
      have hL9 := News.isList N9 (List.mem_cons_self ..)
      obtain ⟨t9, e9⟩ := six_item (n := n)
      have e6 : n.fmod 6 = n % 6 := Int.fmod_eq_emod_of_nonneg n (by decide)
      rw [← e6] at e9
      refine tail_any hL9.typeIs slot_list_getitem.lookup (wpAny_getItem_list hL9 (by omega) (by omega) e9 ?_) (by with_unfolding_all rfl)
      (try k_fold)
      k_steps
      exact LCg.CompEnd.intro F9 N9 _ (fun p hp => List.mem_cons_of_mem _ hp) off (.inr ⟨_, List.mem_cons_self .., rfl, _, rfl⟩) (JG.more hz hn)
    case fin =>
      rintro zs nx ⟨rfl, hz⟩
      intro gl h tk F N off
      clear F8 N8
      have hk0 := six_lt n0
      have hk1 := six_lt n1
      have hk2 := six_lt n2
      have hk3 := six_lt n3
      generalize six n0 = k0 at *
      generalize six n1 = k1 at *
      generalize six n2 = k2 at *
      generalize six n3 = k3 at *
      obtain ⟨t0, t1, t2, t3, rfl⟩ := strs4 hz
      have hs0 : (sgStr k0).length ≤ 2 := by rw [sg_tx, tx_len]; exact sg_len _
      have hs1 : (sgStr k1).length ≤ 2 := by rw [sg_tx, tx_len]; exact sg_len _
      have hs2 : (sgStr k2).length ≤ 2 := by rw [sg_tx, tx_len]; exact sg_len _
      have hs3 : (sgStr k3).length ≤ 2 := by rw [sg_tx, tx_len]; exact sg_len _
      replace N : News _ _ h ((gl, W.listOf #[.str (sgStr k0) t0, .str (sgStr k1) t1, .str (sgStr k2) t2, .str (sgStr k3) t3] 4) :: (_, W.listOf #[.str (Str.ofString "lt") _, _, _, _, _] 0) :: (_, _) :: []) := fun p hp => N p (by
        simp only [List.mem_cons, List.not_mem_nil, or_false] at hp ⊢
        rcases hp with h | h | h
        · exact .inl h
        · exact .inr (.inr (.inl h))
        · exact .inr (.inr (.inr h)))
      clear off hz
      (try k_fold)
      k_steps
      unfold Halt
      rw [line0 [k0, k1, k2, k3]]
      refine range_inv (JL _ gl _ _ (W.listOf #[.str (sgStr k0) t0, .str (sgStr k1) t1, .str (sgStr k2) t2, .str (sgStr k3) t3] 4) [k0, k1, k2, k3]) ?done ?turn _ 0 _ _ (Nat.zero_add _) ⟨_, _, _, _, _, _, _, rfl, rfl, rfl, rfl, rfl⟩
      case turn => as_aux_lemma =>
        intro i m nx t h tk hi hJ F N
        obtain ⟨nl, z0, z1, z2, z3, z4, tl, rfl, a1, a2, a3, a4⟩ := hJ
        have F := fr_ov F (ps := [(Str.ofString "script", .ref _), (Str.ofString "names", .ref nl), (Str.ofString "signs", .ref gl), (Str.ofString "line", .str (tx (lineP [k0, k1, k2, k3] i)) tl), (Str.ofString "k", .int (0 + (i : Int)) t)]) ⟨upd_ne k_scr a1, upd_ne k_nam a2, upd_ne k_sig a3, upd_ne k_lin a4, if_pos rfl, trivial⟩
        have hb : (tx (lineP [k0, k1, k2, k3] i)).length ≤ 30 := by rw [tx_len]; have := lineP_len [k0, k1, k2, k3] i; omega
        have hb2 : (tx (sg ([k0, k1, k2, k3].getD i 0))).length ≤ 2 := by rw [tx_len]; exact sg_len _
        have hb3 : (tx (nmT (i + 1))).length ≤ 4 := by rw [tx_len]; exact nmT_len _
        have hL8 := News.isList N (List.mem_cons_of_mem _ (List.mem_cons_self ..))
        have hL9 := News.isList N (List.mem_cons_of_mem _ (List.mem_cons_of_mem _ (List.mem_cons_self ..)))
        obtain ⟨t8, e8⟩ := sign_item (k0 := k0) (k1 := k1) (k2 := k2) (k3 := k3) (t0 := t0) (t1 := t1) (t2 := t2) (t3 := t3) hi
        obtain ⟨t7, e7⟩ := name_item (z0 := z0) (z1 := z1) (z2 := z2) (z3 := z3) (z4 := z4) hi
        (try k_fold)
        (try k_fold)
        k_steps
        unfold Halt
        refine tail_any hL8.typeIs slot_list_getitem.lookup (wpAny_getItem_list hL8 (by omega) (by omega) e8 ?_) (by with_unfolding_all rfl)
        (try k_fold)
        k_steps
        unfold Halt
        refine tail_any hL9.typeIs slot_list_getitem.lookup (wpAny_getItem_list hL9 (by omega) (by omega) e7 ?_) (by with_unfolding_all rfl)
        (try k_fold)
        k_steps
        unfold Halt
        (with_reducible rename Fr _ _ _ _ => F8)
        (with_reducible rename News _ _ _ _ => N8)
        rw [← tx_append, ← tx_append] at F8
        exact jl_more F8 N8 (fun p hp => hp) (list_off N (List.mem_cons_self ..) (List.mem_cons_of_mem _ (List.mem_cons_self ..))) (list_off N (List.mem_cons_self ..) (List.mem_cons_of_mem _ (List.mem_cons_of_mem _ (List.mem_cons_self ..)))) (cell_off N (List.mem_cons_self ..) (List.mem_cons_of_mem _ (List.mem_cons_of_mem _ (List.mem_cons_of_mem _ (List.mem_cons_self ..)))) dC) rfl rfl rfl rfl
      intro m9 nx h tk hJ F N
      obtain ⟨nl, z0, z1, z2, z3, z4, tl, rfl, a1, a2, a3, a4⟩ := hJ
      rw [lineP_four] at a4
      have F := fr_ov F (ps := [(Str.ofString "script", .ref _), (Str.ofString "names", .ref nl), (Str.ofString "signs", .ref gl), (Str.ofString "line", .str (tx (lineT k0 k1 k2 k3)) tl)]) ⟨a1, a2, a3, a4, trivial⟩
      dsimp only [ov] at F
      obtain ⟨og, hog⟩ : ∃ og, W.listOf #[.str (sgStr k0) t0, .str (sgStr k1) t1, .str (sgStr k2) t2, .str (sgStr k3) t3] 4 = og := ⟨_, rfl⟩
      rw [hog] at N
      obtain ⟨on, hon⟩ : ∃ on, W.listOf #[.str (Str.ofString "lt") z0, .str (Str.ofString "gt") z1, .str (Str.ofString "amp") z2, .str (Str.ofString "quot") z3, .str (Str.ofString "lt") z4] 0 = on := ⟨_, rfl⟩
      rw [hon] at N
      as_aux_lemma =>
        (try k_fold)
        k_steps
        unfold Halt
        refine LSm.sum_ints F N rfl (Fr.lst F hL) hI ?_
        clear F N
        intro h9 tk9 t9 F N
        (try k_fold)
        k_steps
        unfold Halt
        (with_reducible rename Fr _ _ _ _ => F9)
        (with_reducible rename News _ _ _ _ => N9)
        refine LSm.sum_ints F9 N9 rfl (Fr.lst F9 hL) hI ?_
        clear F9 N9
        intro h9 tk9 t9 F N
        (try k_fold)
        k_steps
        unfold Halt
        (with_reducible rename List Int => ns)
        have g1 : ns.sum.fmod 5 ∈ hands := by rw [Int.fmod_eq_emod_of_nonneg _ (by decide)]; exact hands_of (by omega) (by omega)
        have g2 : (ns.sum.fdiv 5).fmod 5 ∈ hands := by rw [Int.fmod_eq_emod_of_nonneg _ (by decide)]; exact hands_of (by omega) (by omega)
        (with_reducible rename Fr _ _ _ _ => F8)
        (with_reducible rename News _ _ _ _ => N8)
        generalize ns.sum.fmod 5 = f1 at F8 g1 ⊢
        generalize (ns.sum.fdiv 5).fmod 5 = f2 at F8 g2 ⊢
        have hl0 := line_len (k0 := k0) (k1 := k1) (k2 := k2) (k3 := k3)
        refine Fn.use (fn_write _ _ _ _ _ ?kl) (by k_asm) (by k_asm) (by k_asm) (by k_asm) (by k_asm) rfl trivial (by ktr_room) (by ktr_units) (by assumption) ?_
        case kl => omega
        clear F8 N8
        intro v9 new9 h9 tk9 F9 N9 ht9 e9
        obtain ⟨e9, t9, e8⟩ := e9
        subst e9 e8
        (try k_fold)
        k_steps
        unfold Halt
        have hf1 : (List.flatMap (wr f1) (lineT k0 k1 k2 k3)).length ≤ 1000 := by
          have := flat_len (f := wr f1) (B := 6) (wr_len f1) (lineT k0 k1 k2 k3)
          omega
        have hf2 : (w2 f1 f2 (lineT k0 k1 k2 k3)).length ≤ 10000 := by
          have := flat_len (f := wr f2) (B := 6) (wr_len f2) (List.flatMap (wr f1) (lineT k0 k1 k2 k3))
          unfold w2
          omega
        refine Fn.use (fn_write _ _ _ _ _ ?kl) (by k_asm) (by k_asm) (by k_asm) (by k_asm) (by k_asm) rfl trivial (by ktr_room) (by ktr_units) (by assumption) ?_
        case kl => omega
        clear F9 N9 ht9
        intro v9 new9 h9 tk9 F9 N9 ht9 e9
        obtain ⟨e9, t8, e8⟩ := e9
        subst e9 e8
        change Fr _ _ _ _ at F9
        rw [show List.flatMap (wr f2) (List.flatMap (wr f1) (lineT k0 k1 k2 k3)) = w2 f1 f2 (lineT k0 k1 k2 k3) from rfl]
        (try k_fold)
        k_steps
        unfold Halt
        clear ht9
        (with_reducible rename Fr _ _ _ _ => F8)
        (with_reducible rename News _ _ _ _ => N8)
        simp only [List.nil_append] at N8
        obtain ⟨m8, u1, u2, F⟩ : ∃ (m8 : Str → Option Value) (u1 u2 : Tok), Fr _ _ _ (ov m8 [(Str.ofString "names", .ref nl), (Str.ofString "signs", .ref gl), (Str.ofString "line", .str (tx (lineT k0 k1 k2 k3)) tl), (Str.ofString "first", .int f1 u1), (Str.ofString "second", .int f2 u2), (Str.ofString "page", .str (tx (w2 f1 f2 (lineT k0 k1 k2 k3))) t8)]) := ⟨_, _, _, fr_ov F8 ⟨rfl, rfl, rfl, rfl, rfl, rfl, trivial⟩⟩
        dsimp only [ov] at F
        clear F8
        as_aux_lemma =>
          refine Fn.use (fn_dressed _ _ _ _ _ g1 ?kl) (by k_asm) (by k_asm) (by k_asm) (by k_asm) (by k_asm) rfl trivial (by ktr_room) (by ktr_units) (Nat.zero_le _) ?_
          case kl => omega
          clear F N8
          intro v9 new9 h9 tk9 F9 N9 ht9 e9
          obtain ⟨e9, t9, e8⟩ := e9
          subst e9 e8
          clear ht9
          (try k_fold)
          k_steps
          unfold Halt
          refine Fn.use (fn_dressed _ _ _ _ _ g2 ?kl) (by k_asm) (by k_asm) (by k_asm) (by k_asm) (by k_asm) rfl trivial (by ktr_room) (by ktr_units) (Nat.zero_le _) ?_
          case kl => omega
          clear F9 N9
          intro v9 new9 h9 tk9 F9 N9 ht9 e9
          obtain ⟨e9, t9, e8⟩ := e9
          subst e9 e8
          clear ht9
          rw [show List.flatMap (wr f2) (List.flatMap (wr f1) (lineT k0 k1 k2 k3)) = w2 f1 f2 (lineT k0 k1 k2 k3) from rfl]
          (try k_fold)
          k_steps
          unfold Halt
          simp only [List.nil_append] at N9
          obtain ⟨m, F, N⟩ : ∃ (m : Str → Option Value), Fr s1.heap s1.heap.objs.size _ (ov m [(Str.ofString "names", .ref nl), (Str.ofString "signs", .ref gl), (Str.ofString "page", .str (tx (w2 f1 f2 (lineT k0 k1 k2 k3))) t8)]) ∧ News s1.heap s1.heap.objs.size _ ((gl, og) :: (nl, on) :: (_, _) :: []) := ⟨_, fr_ov F9 ⟨rfl, rfl, rfl, trivial⟩, N9⟩
          dsimp only [ov] at F
          clear F9 N9
          as_aux_lemma =>
            obtain ⟨hpl, r1, r2, pre, b1, b2, hr1, hr2, b3⟩ := page_back g1 g2 hk0 hk1 hk2 hk3
            refine Fn.use (fn_bared _ _ r1 _ hpl hr1 b1) (by k_asm) (by k_asm) (by k_asm) (by k_asm) (by k_asm) rfl trivial (by ktr_room) (by ktr_units) (Nat.zero_le _) ?_
            clear F N
            intro v9 new9 h9 tk9 F9 N9 ht9 e9
            obtain ⟨e9, t9, e8⟩ := e9
            subst e9 e8
            clear ht9
            (try k_fold)
            k_steps
            unfold Halt
            refine Fn.use (fn_bared _ _ r2 _ hr1 hr2 b2) (by k_asm) (by k_asm) (by k_asm) (by k_asm) (by k_asm) rfl trivial (by ktr_room) (by ktr_units) (Nat.zero_le _) ?_
            clear F9 N9
            intro v9 new9 h9 tk9 F9 N9 ht9 e9
            obtain ⟨e9, t9, e8⟩ := e9
            subst e9 e8
            clear ht9
            (try k_fold)
            k_steps
            unfold Halt
            refine Fn.use (fn_tokens _ _ _ hr2) (by k_asm) (by k_asm) (by k_asm) (by k_asm) (by k_asm) rfl trivial (by ktr_room) (by ktr_units) (Nat.zero_le _) ?_
            clear F9 N9
            intro v9 new9 h9 tk9 F9 N9 ht9 e9
            obtain ⟨o9, vs9, ep9, own9, e91, e92, hd9, hoff9⟩ := e9
            subst e91 e92
            clear ht9
            simp only [List.nil_append] at N9
            replace N9 := news_move N9
            simp only [List.cons_append, List.nil_append] at N9
            rw [b3] at hd9
            have hl9 : vs9.length ≤ 100000 := by
              have h1 := hd9.length
              have h2 := tok_len r2
              rw [List.length_map, ← b3] at h1
              omega
            (try k_fold)
            k_steps
            unfold Halt
            have hvl : vs9.length = pre.length + 9 := by
              have h1 := hd9.length
              rw [List.length_map, List.length_append] at h1
              exact h1
            have hdd := drop_dat hd9 (vs9.length - 9)
            rw [← List.map_drop, show vs9.length - 9 = pre.length by omega, List.drop_left] at hdd
            obtain ⟨v0, v1, v2, v3, v4, v5, v6, v7, v8, hv, hdE, hdO⟩ := dat9 hdd
            have hpk : kms_pick vs9.toArray.toList (some (-9)) none = [v0, v1, v2, v3, v4, v5, v6, v7, v8] := by
              rw [← hv, ← show vs9.length - 9 = pre.length by omega]
              exact kms_last vs9 9 (by omega) (by omega)
            refine kba_turn (value' := PySem.Expr.Name (PySem.Str.ofString "_") ⟨0, 0, 0, 0⟩) (fun _ => rfl) ?_
            refine kms_slice_lit F9 N9 (News.isList N9 (List.mem_cons_self ..)) (.int _ _) .none hpk ?_ (by with_unfolding_all rfl) (fun _ => rfl) (by rw [List.size_toArray, sizeLine_eq]; omega)
            clear F9 N9 hoff9 hd9 hdd
            intro D h9 F9 N9 _
            replace N9 : News _ _ _ ((D, _) :: (gl, _) :: (nl, _) :: (_, _) :: own9) := fun p hp => N9 p ((List.mem_cons.mp hp).elim (fun e => e ▸ List.mem_cons_self ..) fun hp => List.mem_cons_of_mem _ (List.mem_cons_of_mem _ hp))
            (try k_fold)
            k_steps
            unfold Halt
            (with_reducible rename Fr _ _ _ _ => F9)
            (with_reducible rename News _ _ _ _ => N9)
            refine LCp.ListComp_P (F₀ := F9) (by with_unfolding_all rfl) (by decide) (by rfl) (by decide) (by rfl) (by rfl) (by decide) ?_
            (try k_fold)
            k_steps
            unfold Halt
            refine kmk_slice3_lit (zs := [v0, v2, v4, v6, v8]) F9 N9 (News.isList N9 (List.mem_cons_self ..)) .none .none (.int _ _) (by decide) (by with_unfolding_all rfl) ?_ (by with_unfolding_all rfl) (fun _ => rfl) (Nat.le_of_ble_eq_true rfl)
            intro D2 h9 F9 N9 _
            (try k_fold)
            k_steps
            unfold Halt
            refine LCp.SrcLP.ledger rfl F9 N9 (List.mem_cons_self ..) (Nat.le_of_ble_eq_true rfl) ?_
            intro g
            refine rest_snd (ts := [(1, [108, 116]), (1, [103, 116]), (1, [97, 109, 112]), (1, [113, 117, 111, 116]), (1, [108, 116])]) hdE ?hs (.inr ⟨_, List.mem_cons_self .., rfl, _, rfl⟩) (fun _ => rfl) (fun _ => rfl) (by decide) ?fin
            case hs => intro p hp; exact List.mem_cons_of_mem _ (List.mem_cons_of_mem _ (List.mem_cons_of_mem _ (List.mem_cons_of_mem _ (List.mem_cons_of_mem _ hp))))
            case fin =>
              intro ys hy D3 h tk F N off
              clear F9 N9
              replace hy : StrsAre ys fiveN := by
                unfold fiveN
                rw [show Str.ofString "lt" = tx [108, 116] by decide +kernel, show Str.ofString "gt" = tx [103, 116] by decide +kernel, show Str.ofString "amp" = tx [97, 109, 112] by decide +kernel, show Str.ofString "quot" = tx [113, 117, 111, 116] by decide +kernel]
                exact hy
              replace N : News _ _ h ((D3, _) :: (D, _) :: (gl, _) :: (nl, _) :: (_, _) :: own9) := fun p hp => N p ((List.mem_cons.mp hp).elim (fun e => e ▸ List.mem_cons_self ..) fun hp => List.mem_cons_of_mem _ (List.mem_cons_of_mem _ hp))
              clear off
              (try k_fold)
              k_steps
              unfold Halt
              rw [← hon] at N
              refine ne_five (vs := ys) (us := [_, _, _, _, _]) (News.isList N (List.mem_cons_self ..)) hy (News.isList N (List.mem_cons_of_mem _ (List.mem_cons_of_mem _ (List.mem_cons_of_mem _ (List.mem_cons_self ..))))) (.cons _ _ (.cons _ _ (.cons _ _ (.cons _ _ (.cons _ _ .nil))))) (by units_room) ?_
              replace N : News _ _ h ((D, _) :: (gl, _) :: (_, _) :: own9) := fun p hp => N p (by
                rcases List.mem_cons.mp hp with h | hp
                · exact List.mem_cons_of_mem _ (h ▸ List.mem_cons_self ..)
                rcases List.mem_cons.mp hp with h | hp
                · exact List.mem_cons_of_mem _ (List.mem_cons_of_mem _ (h ▸ List.mem_cons_self ..))
                exact List.mem_cons_of_mem _ (List.mem_cons_of_mem _ (List.mem_cons_of_mem _ (List.mem_cons_of_mem _ hp))))
              (try k_fold)
              k_steps
              unfold Halt
              refine LCp.ListComp_P (F₀ := F) (by with_unfolding_all rfl) (by decide) (by rfl) (by decide) (by rfl) (by rfl) (by decide) ?_
              (try k_fold)
              k_steps
              unfold Halt
              refine kmk_slice3_lit (zs := [v1, v3, v5, v7]) F N (News.isList N (List.mem_cons_self ..)) (.int _ _) .none (.int _ _) (by decide) (by with_unfolding_all rfl) ?_ (by with_unfolding_all rfl) (fun _ => rfl) (Nat.le_of_ble_eq_true rfl)
              intro D4 h9 F9 N9 _
              (try k_fold)
              k_steps
              unfold Halt
              refine LCp.SrcLP.ledger rfl F9 N9 (List.mem_cons_self ..) (Nat.le_of_ble_eq_true rfl) ?_
              intro g
              refine rest_fst (ts := [(kd k0, sg k0), (kd k1, sg k1), (kd k2, sg k2), (kd k3, sg k3)]) hdO ?hs (.inr ⟨_, List.mem_cons_self .., rfl, _, rfl⟩) (fun _ => rfl) (fun _ => rfl) (by decide) ?fin
              case hs => intro p hp; exact List.mem_cons_of_mem _ (List.mem_cons_of_mem _ (List.mem_cons_of_mem _ (List.mem_cons_of_mem _ hp)))
              case fin =>
                clear F9 N9 F N hy
                intro ys hy kl h tk F N off
                replace hy : IntsAre ys ([k0, k1, k2, k3].map kd) := hy
                replace N : News _ _ h ((_, _) :: (kl, LCg.lst ys) :: (gl, og) :: []) := fun p hp => N p (by
                  simp only [List.mem_cons, List.not_mem_nil, or_false] at hp ⊢
                  rcases hp with h | h | h
                  · exact .inr (.inr (.inr (.inr (.inl h))))
                  · exact .inl h
                  · exact .inr (.inr (.inr (.inl h))))
                clear off
                rw [← hog] at N
                have o1 := list_away N (List.mem_cons_of_mem _ (List.mem_cons_self ..)) (List.mem_cons_self ..) dC
                have o2 := list_away N (List.mem_cons_of_mem _ (List.mem_cons_of_mem _ (List.mem_cons_self ..))) (List.mem_cons_self ..) dC
                rw [hog] at N
                refine' storeX_C F N ?zC (UpdF.head ?hu) dC ?_ ?zA ?zB
                case zC => rfl
                case zA => rfl
                case zB => rfl
                case hu =>
                  intro p hp
                  rcases List.mem_cons.mp hp with rfl | hp
                  · exact o1
                  rcases List.mem_cons.mp hp with rfl | hp
                  · exact o2
                  cases hp
                clear F N
                intro h3 oC3 F N dC3
                obtain ⟨m9, F⟩ : ∃ (m9 : Str → Option Value), Fr _ _ _ (ov m9 [(Str.ofString "signs", .ref gl)]) := ⟨_, fr_ov F ⟨rfl, trivial⟩⟩
                dsimp only [ov] at F
                (try k_fold)
                as_aux_lemma =>
                  k_steps
                  unfold Halt
                  (with_reducible rename Fr _ _ _ _ => F8)
                  (with_reducible rename News _ _ _ _ => N8)
                  refine LCg.CompSrc.range (n := 6) rfl F8 N8 (by assumption) (by decide) (by decide) (by rw [sizeLine_eq]; omega) ?_
                  intro g
                  refine rest_of (JZ _ (cnt ([k0, k1, k2, k3].map kd))) ?fin ?step _ 0 [] _ (Nat.zero_add _) (JZ.zero _ _)
                  case step => as_aux_lemma =>
                    clear F8 N8
                    intro i zs nx v I oI C oC D m₂ h tk E' hik hJ hP hC hx F N off ne
                    obtain ⟨rfl, hz⟩ := hJ
                    obtain ⟨tb, rfl⟩ := hP
                    (try k_fold)
                    k_steps
                    unfold Halt
                    rw [Int.zero_add]
                    refine Fn.use (fn_count _ kl _ ys hy i _ (by omega) (by simp) (kinds_ok _)) (by k_asm) (by k_asm) (by k_asm) (by k_asm) (by k_asm) rfl ⟨_, List.mem_cons_of_mem _ (List.mem_cons_of_mem _ (List.mem_cons_of_mem _ (List.mem_cons_of_mem _ (List.mem_cons_self ..))))⟩ (by ktr_room) (by ktr_units) (Nat.zero_le _) ?_
                    clear F N
                    intro v9 new9 h9 tk9 F9 N9 ht9 e9
                    obtain ⟨e9, t9, e8⟩ := e9
                    subst e9 e8
                    simp only [List.nil_append] at N9
                    (try k_fold)
                    k_steps
                    exact LCg.CompEnd.intro F9 N9 _ (fun p hp => hp) off trivial (JZ.more hz rfl)
                  case fin =>
                    rintro zs nx ⟨rfl, hz⟩
                    intro D h tk F N off
                    clear F8 N8 off
                    replace hz : IntsAre zs (rowC [k0, k1, k2, k3]) := hz
                    (try k_fold)
                    k_steps
                    unfold Halt
                    refine Fn.use (fn_diff _ D zs _ hz (by rw [rowC_len]; decide)) (by k_asm) (by k_asm) (by k_asm) (by k_asm) (by k_asm) rfl ⟨_, List.mem_cons_self ..⟩ (by ktr_room) (by ktr_units) (Nat.zero_le _) ?_
                    clear F N
                    intro v9 new9 h9 tk9 F N ht9 e9
                    obtain ⟨D1, e1, ys1, rfl, rfl, hz1⟩ := e9
                    have hks : ∀ k ∈ [k0, k1, k2, k3], k < 6 := by
                      intro k hk
                      simp only [List.mem_cons, List.not_mem_nil, or_false] at hk
                      rcases hk with rfl | rfl | rfl | rfl <;> assumption
                    have hl1 : (diffs (rowC [k0, k1, k2, k3])).length = 6 := by rw [diffs_len, rowC_len]
                    replace N : News _ _ _ ((D1, W.listOf ys1.toArray e1) :: (gl, og) :: []) := fun p hp => N p (by
                      simp only [List.mem_cons, List.not_mem_nil, or_false, List.mem_append] at hp ⊢
                      rcases hp with h | h
                      · exact .inl h
                      · exact .inr (.inr (.inr (.inr h))))
                    (try k_fold)
                    k_steps
                    unfold Halt
                    refine range_inv (JM gl og (diffs (rowC [k0, k1, k2, k3]))) ?done2 ?turn2 _ 0 _ _ (Nat.zero_add _) ⟨D1, e1, ys1, rfl, hz1, rfl, rfl⟩
                    case done2 => as_aux_lemma =>
                      intro m nx h tk hJ F N
                      obtain ⟨D, e, ys, rfl, hy, a1, a2⟩ := hJ
                      (try k_fold)
                      k_steps
                    case turn2 => as_aux_lemma =>
                      intro i m nx t h tk hi hJ F N
                      obtain ⟨D, e, ys, rfl, hy, a1, a2⟩ := hJ
                      have F := fr_ov F (ps := [(Str.ofString "row", .ref D), (Str.ofString "signs", .ref gl), (Str.ofString "m", .int (1 + (i : Int)) t)]) ⟨upd_ne m_row a1, upd_ne m_sig a2, if_pos rfl, trivial⟩
                      have hl := (belowN_len (diffs (rowC [k0, k1, k2, k3])) i).trans hl1
                      have hlb := (below_len (belowN (diffs (rowC [k0, k1, k2, k3])) i)).trans hl
                      (try k_fold)
                      (try k_fold)
                      k_steps
                      unfold Halt
                      refine Fn.use (fn_below _ D ys _ hy hl) (by k_asm) (by k_asm) (by k_asm) (by k_asm) (by k_asm) rfl ⟨e, by simp only [List.mem_cons, true_or, or_true]⟩ (by ktr_room) (by ktr_units) (Nat.zero_le _) ?_
                      intro v9 new9 h9 tk9 F N ht9 e9
                      obtain ⟨D2, e2, ys2, rfl, rfl, hz2⟩ := e9
                      obtain ⟨q0, q1, q2, q3, q4, q5, s0, s1, s2, s3, s4, s5, rfl, hq⟩ := ints6 hz2 hlb
                      simp only [List.cons_append, List.nil_append] at N
                      clear ht9 hq
                      (try k_fold)
                      k_steps
                      unfold Halt
                      rw [show (1 : Int) + (i : Int) = ((i + 1 : Nat) : Int) by omega]
                      refine Fn.use (fn_ways _ gl [k0, k1, k2, k3] (i + 1) _ [.str (sgStr k0) t0, .str (sgStr k1) t1, .str (sgStr k2) t2, .str (sgStr k3) t3] (by omega) (Nat.le_refl 4) hks (.cons _ _ (.cons _ _ (.cons _ _ (.cons _ _ .nil))))) (by k_asm) (by k_asm) (by k_asm) (by k_asm) (by k_asm) rfl ⟨4, by rw [hog]; simp only [List.mem_cons, true_or, or_true]⟩ (by ktr_room) (by ktr_units) (Nat.zero_le _) ?_
                      intro v9 new9 h9 tk9 F N ht9 e9
                      obtain ⟨e9, t9, e8⟩ := e9
                      subst e9 e8
                      simp only [List.nil_append] at N
                      clear ht9
                      rw [law_turn rfl hks hi]
                      (try k_fold)
                      k_steps
                      unfold Halt
                      (with_reducible rename Fr _ _ _ _ => F8)
                      (with_reducible rename News _ _ _ _ => N8)
                      subst hog
                      exact jm_more F8 N8 (fun p hp => by
                        rcases List.mem_cons.mp hp with rfl | hp
                        · exact List.mem_cons_of_mem _ (List.mem_cons_self ..)
                        rcases List.mem_cons.mp hp with rfl | hp
                        · exact List.mem_cons_self ..
                        · exact List.mem_cons_of_mem _ (List.mem_cons_of_mem _ (List.mem_cons_of_mem _ hp))) (list_off N8 (List.mem_cons_of_mem _ (List.mem_cons_self ..)) (List.mem_cons_self ..)) (list_off N8 (List.mem_cons_of_mem _ (List.mem_cons_self ..)) (List.mem_cons_of_mem _ (List.mem_cons_of_mem _ (List.mem_cons_of_mem _ (List.mem_cons_self ..))))) hz2 rfl rfl
end
end Mine
theorem PySem.Challenge.cw_pg0195_01_holds : PySem.Challenge.rw_pg0195_01.Holds := by
  exact Mine.law_holds

import PyProof.Rows.All
import Wide.All
import OpenK.AllK
import Wide.FinOn
import PySem.Challenge.RW_il0206_01
open PySem PySem.W PyProof.Rows PySem.Calls
set_option Elab.async false
set_option maxRecDepth 100000
set_option maxHeartbeats 8000000
namespace Mine
/-- the program's view: the statements that bind the names the head keeps -/
def vq : Program := view PySem.Challenge.rw_il0206_01.row.prog [0, 2, 3, 4, 5, 7, 8, 10, 12, 14, 16, 18, 19, 21, 23, 25, 26, 27, 28, 30, 31, 32, 33]
local macro_rules | `(tactic| o_head $H) => `(tactic|
  (refine holds_open (q := vq) (loose := [Str.ofString "_dedupe", Str.ofString "filterfalse"]) (Xt := fun s => xlAt vq [] s && recOk (RowW.records (OpenRow.toRowW PySem.Challenge.rw_il0206_01.row)) s) (XP := XL vq [])
    (Yf := Hook.obs $H) (Ya := Hook.val $H) (YP := Hook.says $H) (N := 3148) ?hl (Hook.of $H) (Hook.keeps $H) (fun s e => xl_of s (Bool.and_eq_true_iff.mp e).1) XL.keeps (by rfl) (by rfl) (by rfl) (fun s e => recFacts_of (Bool.and_eq_true_iff.mp e).2) (by rfl) (by first | assumption | decide +kernel) (by decide +kernel) ⟨rfl, rfl, rfl, rfl, rfl, by decide +kernel⟩ ?hw ?hc
   case hl => (intro w; kernel_rfl)))
local macro_rules | `(tactic| o_law) => `(tactic| refine holds_law (by decide +kernel) fun said => ?_)
open_top hd for PySem.Challenge.rw_il0206_01
/-- the world that every function is called in -/
structure Wd (w : World) (mg mb : Str → Option Value) (mean : ExcName → Option Value) (base : Heap) (outer : List Env) (A : Around) (h : Heap) : Prop where
  T : Top vq (looseW vq [Str.ofString "_dedupe", Str.ofString "filterfalse"]) mean mg mb h
  X : (hd.heap_1 w.params).In h
  B : Below A base outer h
theorem wd_call {w : World} {mg mb : Str → Option Value} {mean : ExcName → Option Value} {base h₀ h : Heap} {outer : List Env} {A : Around} {L : Addr} {m : Str → Option Value} {env : Env}
    (T : Top vq (looseW vq [Str.ofString "_dedupe", Str.ofString "filterfalse"]) mean mg mb h₀) (X : (hd.heap_1 w.params).In h₀) (B : Below A base outer h₀) (F : Fr h₀ L h m)
    (hf : env.frame = some L) (hk : env.scope.kind = .function) : Wd w mg mb mean base (env :: outer) (A.deeper env) h :=
  ⟨T.keeps F.keep, X.keeps F.keep, pushX B F hf hk⟩
theorem news_more {h₀ h h' : Heap} {L : Addr} {m : Str → Option Value} {news : List (Addr × Obj)} (F : Fr h₀ L h m) (N : News h₀ L h news)
    (k : ∀ b o, h.get? b = some o → h'.get? b = some o) {D : Addr} {o : Obj} (hn : h.get? D = none) (hd : h'.get? D = some o) : News h₀ L h' ((D, o) :: news) := by
  intro p hp
  rcases List.mem_cons.mp hp with rfl | hp
  · refine ⟨hd, ?_, ?_⟩
    · rintro e
      subst e
      obtain ⟨oL, _, _, hL, _⟩ := F.ns
      rw [hn] at hL; cases hL
    · cases q : h₀.get? D with
      | none => rfl
      | some o' => rw [F.keep _ _ q] at hn; cases hn
  · exact ⟨k _ _ (N p hp).1, (N p hp).2⟩
theorem news_kept {h₀ h h' : Heap} {L : Addr} {news : List (Addr × Obj)} (N : News h₀ L h news)
    (k : ∀ b o, h.get? b = some o → h'.get? b = some o) : News h₀ L h' news := fun p hp => ⟨k _ _ (N p hp).1, (N p hp).2⟩

local macro_rules | `(tactic| k_ne) => `(tactic| (refine neN ?_; (try dsimp only); first | (with_reducible assumption) | (with_reducible exact Ne.symm (by assumption)) | omega))
local macro_rules | `(tactic| k_room) => `(tactic| ((try simp only [depth_under_make, depth_under_kw, depth_in1, depth_deeper, depth_caller]); (unfold recursionLimit; (try dsimp only); omega)))
local macro_rules | `(tactic| walk_at "execs cons") => `(tactic| ((with_reducible refine wpAny_execs_cons ?_); try dsimp only))
local macro_rules | `(tactic| walk_at "exec Assign") => `(tactic| (k_dflt (refine wpAny_Assign_Name ?_)))
local macro_rules | `(tactic| walk_at "eval Call") => `(tactic| (k_dflt (refine Call_ ?_)))
local macro_rules | `(tactic| walk_at "exec If") => `(tactic| (k_dflt (refine wpAny_If ?_)))
local macro_rules | `(tactic| walk_at "isTrue Compare") => `(tactic| (k_dflt (refine wpAny_isTrue_Compare1 ?_)))
local macro_rules | `(tactic| walk_at "eval BinOp") => `(tactic| (k_dflt (refine wpAny_BinOp ?_)))
local macro_rules | `(tactic| walk_at "eval Tuple") => `(tactic| (with_reducible refine Tuple_ ?_))
local macro_rules | `(tactic| walk_at "isTrue") => `(tactic| (with_reducible refine isTrue_plain ?_))
local macro_rules | `(tactic| walk_at "eval Call Attribute") => `(tactic| (k_dflt (refine MethodCall_ ?_)))
local macro_rules | `(tactic| walk_at "eval Name") => `(tactic| (k_here; k_dflt (refine' ld ?k1 ?k2 ?_; (case k1 => k_asm); (case k2 => exact rfl); k_whole)))

theorem zz_02 : True := by
  w_top off
  trivial
local macro_rules | `(tactic| x_close) => `(tactic| assumption)
open PySem.W.X in
theorem issub_str {w : World} {A : Around} {E : Value → Shared → Prop} {s : Shared} {D : Addr} {Q : Value → Shared → Prop} (hD : s.heap.get? D = some { cls := .type "tuple", data := .seq #[.type "str", .type "bytes"] })
    (h : Q (.bool true) s) : wpAny (model PySem.Challenge.rw_il0206_01.row.prog w) A (call (.builtin "issubclass") [.type "str", .ref D]) Q E s := by
  x_run

local macro_rules | `(tactic| walk_at "call builtin:issubclass") => `(tactic| (k_here; (with_reducible show wpAny _ _ (call (Value.builtin _) [Value.type _, Value.ref _]) _ _ _); refine issub_str (News.get (by assumption) (by k_mem)) ?_))

theorem zz_04 : True := by
  w_top off
  trivial
section
variable {w : World} {s : Shared} {mg mb : Str → Option Value} {mean : ExcName → Option Value} {d u : Nat} {gs : Option (List Code)} {base : Heap} {outer : List Env} {R : Result → Shared → Prop}
theorem fspath_spec (W : Wd w mg mb mean base outer ⟨none, d, some outer, gs, u⟩ s.heap) (hdp : d < 900) {p : Str} {t : Tok}
    (hR : ∀ h' tk, (∀ b o, s.heap.get? b = some o → h'.get? b = some o) → R (.ok (.ret (.str p t))) ⟨h', s.gens, s.drawn, tk, s.os⟩) :
    codeAny (model PySem.Challenge.rw_il0206_01.row.prog w) ⟨none, d, some outer, gs, u⟩ (.call (.ref 167) ⟨[.str p t], []⟩) R s := by
  obtain ⟨T, KX, K0⟩ := W
  refine codeAny_call_def (by unfold recursionLimit; dsimp only; omega) (KX 167 _ (by rfl)) rfl T.nolimit (codeRec_of KX (by k_is)) rfl (BindsTo.of_eq rfl) (by decide) (locs rfl) ?_
  intro h₁ hns hk
  have F : Fr s.heap s.heap.objs.size h₁ (fun x => List.lookup x [(Str.ofString "path", Value.str p t)]) := ⟨hns, hk, Nat.le_refl _⟩
  have N : News s.heap s.heap.objs.size h₁ [] := News.nil
  clear hns hk
  change wpAny _ (Around.deeper _ (envOf _ _ _ _ _)) (execs _ (envOf _ _ _ _ _)) _ _ ⟨h₁, s.gens, s.drawn, _, s.os⟩
  k_steps
  (rename Fr s.heap s.heap.objs.size _ _ => F9; exact hR _ _ F9.keep)
end

local macro_rules | `(tactic| walk_at "call ref") => `(tactic| (k_here; (with_reducible show wpAny _ _ (call (Value.ref 167) [Value.str _ _]) _ _ _); (rename Fr _ _ _ _ => kF); (rename News _ _ _ _ => kN); refine wpAny_call (fspath_spec (wd_call (by k_asm) (by k_asm) (by k_asm) kF rfl rfl) (by (try dsimp only); omega) ?_); intro h' tk' hk'; (have F' := Fr.kept kF hk'); (have N' := news_kept kN hk'); clear kF kN; (try dsimp only)))

theorem zz_06 : True := by
  w_top off
  trivial
section
variable {w : World} {s : Shared} {mg mb : Str → Option Value} {mean : ExcName → Option Value} {d u : Nat} {gs : Option (List Code)} {base : Heap} {outer : List Env} {R : Result → Shared → Prop}
theorem splitroot_spec (W : Wd w mg mb mean base outer ⟨none, d, some outer, gs, u⟩ s.heap) (hdp : d < 800) {p : Str} {t : Tok} (hp : p.length ≤ 1000)
    (hs1 : Txt.slice p none (some 1) = Str.ofString "/") (hs2 : Txt.slice p (some 1) (some 2) = Str.ofString ".")
    (hR : ∀ h' tk D t1 t2 t3, (∀ b o, s.heap.get? b = some o → h'.get? b = some o) → s.heap.get? D = none →
      h'.get? D = some { cls := .type "tuple", data := .seq #[.str (Str.ofString "") t1, .str (Str.ofString "/") t2, .str (Txt.slice p (some 1) none) t3] } → R (.ok (.ret (.ref D))) ⟨h', s.gens, s.drawn, tk, s.os⟩) :
    codeAny (model PySem.Challenge.rw_il0206_01.row.prog w) ⟨none, d, some outer, gs, u⟩ (.call (.ref 195) ⟨[.str p t], []⟩) R s := by
  obtain ⟨T, KX, K0⟩ := W
  refine codeAny_call_def (by unfold recursionLimit; dsimp only; omega) (KX 195 _ (by rfl)) rfl T.nolimit (codeRec_of KX (by k_is)) rfl (BindsTo.of_eq rfl) (by decide) (locs rfl) ?_
  intro h₁ hns hk
  have F : Fr s.heap s.heap.objs.size h₁ (fun x => List.lookup x [(Str.ofString "p", Value.str p t)]) := ⟨hns, hk, Nat.le_refl _⟩
  have N : News s.heap s.heap.objs.size h₁ [] := News.nil
  clear hns hk
  change wpAny _ (Around.deeper _ (envOf _ _ _ _ _)) (execs _ (envOf _ _ _ _ _)) _ _ ⟨h₁, s.gens, s.drawn, _, s.os⟩
  k_steps
  all_goals first
    | (exfalso; simp_all; done)
    | (exfalso; (rename ((Txt.slice p (some 1) (some 2) != Str.ofString "/") = false) => hz); rw [hs2] at hz; revert hz; decide)
    | skip
  (rename Fr s.heap s.heap.objs.size _ _ => F9; rename News s.heap s.heap.objs.size _ _ => N9; exact hR _ _ _ _ _ _ F9.keep (N9 _ (.head _)).2.2 (N9 _ (.head _)).1)
end
/-- the first of the two that split gives -/
def splitHead (p : Str) : Str :=
  if (Txt.slice p none (some (Txt.rfind p "/" + 1))).length ≠ 0 ∧ (Txt.slice p none (some (Txt.rfind p "/" + 1)) != Txt.mul "/" (Txt.slice p none (some (Txt.rfind p "/" + 1))).length) = true
  then Txt.rstripChars (Txt.slice p none (some (Txt.rfind p "/" + 1))) "/" else Txt.slice p none (some (Txt.rfind p "/" + 1))
section
variable {w : World} {s : Shared} {mg mb : Str → Option Value} {mean : ExcName → Option Value} {d u : Nat} {gs : Option (List Code)} {base : Heap} {outer : List Env} {R : Result → Shared → Prop}
theorem split_spec (W : Wd w mg mb mean base outer ⟨none, d, some outer, gs, u⟩ s.heap) (hdp : d < 800) {p : Str} {t : Tok} (hp : p.length ≤ 1000)
    (hR : ∀ h' tk D t1 t2 tl, (∀ b o, s.heap.get? b = some o → h'.get? b = some o) → s.heap.get? D = none →
      h'.get? D = some { cls := .type "tuple", data := .seq #[.str (splitHead p) t1, .str tl t2] } → R (.ok (.ret (.ref D))) ⟨h', s.gens, s.drawn, tk, s.os⟩) :
    codeAny (model PySem.Challenge.rw_il0206_01.row.prog w) ⟨none, d, some outer, gs, u⟩ (.call (.ref 42) ⟨[.str p t], []⟩) R s := by
  obtain ⟨T, KX, K0⟩ := W
  refine codeAny_call_def (by unfold recursionLimit; dsimp only; omega) (KX 42 _ (by rfl)) rfl T.nolimit (codeRec_of KX (by k_is)) rfl (BindsTo.of_eq rfl) (by decide) (locs rfl) ?_
  intro h₁ hns hk
  have F : Fr s.heap s.heap.objs.size h₁ (fun x => List.lookup x [(Str.ofString "p", Value.str p t)]) := ⟨hns, hk, Nat.le_refl _⟩
  have N : News s.heap s.heap.objs.size h₁ [] := News.nil
  clear hns hk
  change wpAny _ (Around.deeper _ (envOf _ _ _ _ _)) (execs _ (envOf _ _ _ _ _)) _ _ ⟨h₁, s.gens, s.drawn, _, s.os⟩
  k_steps
  · (rename Fr s.heap s.heap.objs.size _ _ => F9; rename News s.heap s.heap.objs.size _ _ => N9)
    have z := (N9 _ (.head _)).1
    have e : splitHead p = Txt.rstripChars (Txt.slice p none (some (Txt.rfind p "/" + 1))) "/" := if_pos ⟨by omega, by assumption⟩
    rw [← e] at z
    exact hR _ _ _ _ _ _ F9.keep (N9 _ (.head _)).2.2 z
  · (rename Fr s.heap s.heap.objs.size _ _ => F9; rename News s.heap s.heap.objs.size _ _ => N9)
    have z := (N9 _ (.head _)).1
    have e : splitHead p = Txt.slice p none (some (Txt.rfind p "/" + 1)) := if_neg (by intro h; simp_all)
    rw [← e] at z
    exact hR _ _ _ _ _ _ F9.keep (N9 _ (.head _)).2.2 z
  · (rename Fr s.heap s.heap.objs.size _ _ => F9; rename News s.heap s.heap.objs.size _ _ => N9)
    have z := (N9 _ (.head _)).1
    have e : splitHead p = Txt.slice p none (some (Txt.rfind p "/" + 1)) := if_neg (by intro h; simp_all)
    rw [← e] at z
    exact hR _ _ _ _ _ _ F9.keep (N9 _ (.head _)).2.2 z
end

theorem zz_08 : True := by
  w_top off
  trivial
/-- the end of a call -/
def Ends (R : Result → Shared → Prop) : Result → Shared → Prop := R
/-- the end of a turn -/
def TurnEnd (h₀ : Heap) (L : Addr) (own : List (Addr × Obj)) (J : (Str → Option Value) → List (Addr × Obj) → Prop) (s : Shared) (Q : Flow → Shared → Prop) (f : Flow) (s₂ : Shared) : Prop :=
  match f with
  | .ret v => Q (.ret v) s₂
  | .brk => Q .next s₂
  | _ => ∃ h' tk m' news', s₂ = { s with heap := h', toks := tk } ∧ Fr h₀ L h' m' ∧ News h₀ L h' (own ++ news') ∧ (∀ p ∈ news', ∀ q ∈ own, p.1 ≠ q.1) ∧ J m' news'
theorem TurnEnd.next {h₀ h' : Heap} {L : Addr} {own news' : List (Addr × Obj)} {J : (Str → Option Value) → List (Addr × Obj) → Prop} {s : Shared} {Q : Flow → Shared → Prop} {tk : Nat} {m' : Str → Option Value}
    (F : Fr h₀ L h' m') (N : News h₀ L h' (own ++ news')) (o : ∀ p ∈ news', ∀ q ∈ own, p.1 ≠ q.1) (j : J m' news') : TurnEnd h₀ L own J s Q .next { s with heap := h', toks := tk } :=
  ⟨h', tk, m', news', rfl, F, N, o, j⟩
theorem TurnEnd.cont {h₀ h' : Heap} {L : Addr} {own news' : List (Addr × Obj)} {J : (Str → Option Value) → List (Addr × Obj) → Prop} {s : Shared} {Q : Flow → Shared → Prop} {tk : Nat} {m' : Str → Option Value}
    (F : Fr h₀ L h' m') (N : News h₀ L h' (own ++ news')) (o : ∀ p ∈ news', ∀ q ∈ own, p.1 ≠ q.1) (j : J m' news') : TurnEnd h₀ L own J s Q .cont { s with heap := h', toks := tk } :=
  ⟨h', tk, m', news', rfl, F, N, o, j⟩
abbrev lst (vs : List Value) (n : Nat) : Obj := { cls := .type "list", data := .seq vs.toArray n }
theorem isList_lst {h : Heap} {l : Addr} {vs : List Value} {n : Nat} (e : h.get? l = some (lst vs n)) : h.IsList l vs.toArray := ⟨_, e, rfl, n, rfl⟩
section
variable {prog : Program} {w : World} {A : Around} {E : Value → Shared → Prop} {s : Shared} {env : Env} {h₀ : Heap} {x : Str} {body : List Stmt} {Q : Flow → Shared → Prop}

theorem walks_lst (hh : A.handled = none) (I l : Addr) (hne : l ≠ I) (vs : List Value) (n : Nat) :
    Walks prog w A I [I, l] [I] vs.length (fun i v => vs[i]? = some v) (fun i h => h.IsListIter I l i ∧ h.get? l = some (lst vs n)) where
  sub := fun b hb => by simp at hb; simp [hb]
  frame := fun _ _ _ st hk => ⟨st.1.at fun o e => hk I (by simp) o e, hk l (by simp) _ st.2⟩
  item := fun i s Q E hi st hQ => by
    refine wpAny_pyNext_list_item st.1 (isList_lst st.2) (x := vs[i]) (by simp [hi]) fun h' hit' hs' => ?_
    exact hQ _ h' s.toks (by simp [hi]) ⟨hit', hs'.extBut l _ hne st.2⟩ fun b o hb e => hs'.extBut b o (fun h => hb (by simp [h])) e
  done := fun s Q E st hQ => wpAny_pyNext_list_end hh st.1 (isList_lst st.2) (by simp) fun h' he' => hQ h' s.toks fun b o hb e => he' b o (fun h => hb (by simp [h])) e
  self := fun _ _ _ _ st hQ => wpAny_pyIter_listiter st.1 hQ

/-- for over a list of the ledger that the body does not change -/
theorem iter_news {l : Addr} {vs : List Value} {n : Nat} {m₀ : Str → Option Value} {news : List (Addr × Obj)} (J : Nat → (Str → Option Value) → List (Addr × Obj) → Prop)
    (hh : A.handled = none) (F : Fr h₀ env.locals s.heap m₀) (N : News h₀ env.locals s.heap ((l, lst vs n) :: news)) (hl : ∀ p ∈ news, p.1 ≠ l) (hj : J 0 m₀ news)
    (turn : ∀ i v m₁ news₁ h tk I itO, vs[i]? = some v → J i m₁ news₁ → I ≠ l → (∀ p ∈ news₁, p.1 ≠ I ∧ p.1 ≠ l) → Fr h₀ env.locals h (fun y => if y = x then some v else m₁ y) →
      News h₀ env.locals h ((I, itO) :: (l, lst vs n) :: news₁) →
      wpAny (model prog w) A (execs body env) (TurnEnd h₀ env.locals [(I, itO), (l, lst vs n)] (J (i + 1)) { s with heap := h, toks := tk } Q) E { s with heap := h, toks := tk })
    (done : ∀ m₁ news₁ h tk, J vs.length m₁ news₁ → Fr h₀ env.locals h m₁ → News h₀ env.locals h news₁ → Q .next { s with heap := h, toks := tk }) :
    wpAny (model prog w) A (pyIter (.ref l)) (fun it s₂ => LoopAtV prog w A h₀ env x body Q E it s₂) E s := by
  have hlo := (N _ (.head _)).1
  have hlL := (N _ (.head _)).2.1
  have hln := (N _ (.head _)).2.2
  refine wpAny_pyIter_list (isList_lst hlo) ?_
  have hne : l ≠ s.heap.objs.size := Nat.ne_of_lt (Heap.lt_size hlo)
  have hIn : h₀.get? s.heap.objs.size = none := next_is_new F
  have NN : News h₀ env.locals s.heap news := fun p hp => N p (.tail _ hp)
  refine ⟨_, _, _, vs.length, _, _, m₀, news, fun i m nw => (∀ p ∈ nw, p.1 ≠ l) ∧ J i m nw, rfl, walks_lst hh s.heap.objs.size l hne vs n, ?_, ?_, ?_, ⟨⟨_, Heap.get?_push_size _ rfl, rfl, rfl⟩, Heap.get?_push_of_some _ hlo⟩, F.push _, (fun p hp => ⟨Heap.get?_push_of_some _ (NN p hp).1, (NN p hp).2⟩), ⟨hl, hj⟩, ?_, ?_⟩
  · intro hm
    rcases List.mem_cons.mp hm with e | hm
    · exact absurd F.ns.lt (e ▸ Nat.lt_irrefl _)
    · exact hlL (List.mem_singleton.mp hm).symm
  · intro b hb
    rw [List.mem_singleton.mp hb]; exact hIn
  · intro p hp hI
    exact absurd (Heap.lt_size (NN p hp).1) ((List.mem_singleton.mp hI) ▸ Nat.lt_irrefl _)
  · rintro i v m₁ news₁ s₁ own ⟨hh', tk', rfl⟩ hin hP ⟨hnl, hJ⟩ hoff hown hget hall hst F₁ N₁
    obtain ⟨⟨itO, hit, hitr⟩, hlo₁⟩ := hst
    have hI : (s.heap.objs.size, itO) ∈ own := hall _ (.head _) hIn _ hit
    have hL : (l, lst vs n) ∈ own := hall _ (.tail _ (.head _)) hln _ hlo₁
    have N₂ : News h₀ env.locals hh' ((s.heap.objs.size, itO) :: (l, lst vs n) :: news₁) := fun p hp => by
      rcases List.mem_cons.mp hp with rfl | hp
      · exact N₁ _ (List.mem_append_left _ hI)
      · rcases List.mem_cons.mp hp with rfl | hp
        · exact N₁ _ (List.mem_append_left _ hL)
        · exact N₁ _ (List.mem_append_right _ hp)
    have ownIs : ∀ p ∈ own, p ∈ [(s.heap.objs.size, itO), (l, lst vs n)] := fun p hp => by
      have h1 := hown p hp
      have h2 := hget p hp
      rcases List.mem_cons.mp h1 with e | h1
      · have : p = (s.heap.objs.size, itO) := Prod.ext e (Option.some.inj (h2.symm.trans (e ▸ hit)))
        rw [this]; exact .head _
      · have e := List.mem_singleton.mp h1
        have : p = (l, lst vs n) := Prod.ext e (Option.some.inj (h2.symm.trans (e ▸ hlo₁)))
        rw [this]; exact .tail _ (.head _)
    refine wpAny_mono (turn i v m₁ news₁ hh' tk' s.heap.objs.size itO hP hJ (Ne.symm hne) (fun p hp => ⟨fun e => hoff p hp (by simp [e]), hnl p hp⟩) F₁ N₂) (fun f s₂ q => ?_) fun _ _ e => e
    have fin : (∃ h₃ tk m' news', s₂ = { ({ s with heap := hh', toks := tk' } : Shared) with heap := h₃, toks := tk } ∧ Fr h₀ env.locals h₃ m' ∧ News h₀ env.locals h₃ ([(s.heap.objs.size, itO), (l, lst vs n)] ++ news') ∧ (∀ p ∈ news', ∀ q ∈ [(s.heap.objs.size, itO), (l, lst vs n)], p.1 ≠ q.1) ∧ J (i + 1) m' news') →
        LoopStepU h₀ env.locals [s.heap.objs.size] own (fun m nw => (∀ p ∈ nw, p.1 ≠ l) ∧ J (i + 1) m nw) { s with heap := hh', toks := tk' } .next s₂ := by
      rintro ⟨h₃, tk, m', news', e, F', N', ho, hj'⟩
      refine ⟨rfl, h₃, tk, m', news', e, F', fun p hp => ?_, fun p hp hq => ?_, fun p hp => ?_, hj'⟩
      · rcases List.mem_append.mp hp with hp | hp
        · exact N' _ (List.mem_append_left _ (ownIs p hp))
        · exact N' _ (List.mem_append_right _ hp)
      · exact ho p hp _ (.head _) (List.mem_singleton.mp hq)
      · exact ho p hp _ (.tail _ (.head _))
    cases f with
    | ret v => exact .ret q
    | brk => exact .brk q
    | next => exact .next (fin q)
    | cont => exact .cont (fin q)
  · rintro h' tk m' news' F' N' _ ⟨_, hJ⟩
    exact done m' news' h' tk hJ F' N'

/-- for over a list of the base -/
theorem iter_base {l : Addr} {vs : List Value} {n : Nat} {m₀ : Str → Option Value} {news : List (Addr × Obj)} (J : Nat → (Str → Option Value) → List (Addr × Obj) → Prop)
    (hh : A.handled = none) (hlo : h₀.get? l = some (lst vs n)) (F : Fr h₀ env.locals s.heap m₀) (N : News h₀ env.locals s.heap news) (hj : J 0 m₀ news)
    (turn : ∀ i v m₁ news₁ h tk I itO, vs[i]? = some v → J i m₁ news₁ → (∀ p ∈ news₁, p.1 ≠ I) → Fr h₀ env.locals h (fun y => if y = x then some v else m₁ y) →
      News h₀ env.locals h ((I, itO) :: news₁) →
      wpAny (model prog w) A (execs body env) (TurnEnd h₀ env.locals [(I, itO)] (J (i + 1)) { s with heap := h, toks := tk } Q) E { s with heap := h, toks := tk })
    (done : ∀ m₁ news₁ h tk, J vs.length m₁ news₁ → Fr h₀ env.locals h m₁ → News h₀ env.locals h news₁ → Q .next { s with heap := h, toks := tk }) :
    wpAny (model prog w) A (pyIter (.ref l)) (fun it s₂ => LoopAtV prog w A h₀ env x body Q E it s₂) E s := by
  have hls := F.keep _ _ hlo
  refine wpAny_pyIter_list (isList_lst hls) ?_
  have hlt : l < h₀.objs.size := Heap.lt_size hlo
  have hne : l ≠ s.heap.objs.size := Nat.ne_of_lt (Heap.lt_size hls)
  have hIn : h₀.get? s.heap.objs.size = none := next_is_new F
  have kept : News h₀ env.locals (s.heap.push { cls := .type "list_iterator", data := .fields #[.ref l, .int 0 0] }) news := fun p hp => ⟨Heap.get?_push_of_some _ (N p hp).1, (N p hp).2⟩
  have hLI : env.locals < s.heap.objs.size := F.ns.lt
  have hlL : l < env.locals := Nat.lt_of_lt_of_le hlt F.above
  refine ⟨_, _, _, vs.length, _, _, m₀, news, J, rfl, walks_lst hh s.heap.objs.size l hne vs n, ?_, ?_, ?_, ⟨⟨_, Heap.get?_push_size _ rfl, rfl, rfl⟩, Heap.get?_push_of_some _ hls⟩, F.push _, kept, hj, ?_, ?_⟩
  · simp only [List.mem_cons, List.not_mem_nil, or_false, not_or]
    exact ⟨Nat.ne_of_lt hLI, Nat.ne_of_gt hlL⟩
  · simpa using hIn
  · intro p hp
    have := Heap.lt_size (N p hp).1
    simp only [List.mem_singleton]
    exact Nat.ne_of_lt this
  · rintro i v m₁ news₁ s₁ own ⟨hh', tk', rfl⟩ hin hP hJ hoff hown hget hall hst F₁ N₁
    obtain ⟨⟨itO, hit, hitr⟩, hlo₁⟩ := hst
    have hI : (s.heap.objs.size, itO) ∈ own := hall _ (.head _) hIn _ hit
    have N₂ : News h₀ env.locals hh' ((s.heap.objs.size, itO) :: news₁) := fun p hp => by
      rcases List.mem_cons.mp hp with rfl | hp
      · exact N₁ _ (List.mem_append_left _ hI)
      · exact N₁ _ (List.mem_append_right _ hp)
    have ownIs : ∀ p ∈ own, p ∈ [(s.heap.objs.size, itO)] := fun p hp => by
      have h1 := hown p hp
      have h2 := hget p hp
      rcases List.mem_cons.mp h1 with e | h1
      · have : p = (s.heap.objs.size, itO) := Prod.ext e (Option.some.inj (h2.symm.trans (e ▸ hit)))
        rw [this]; exact .head _
      · have e := List.mem_singleton.mp h1
        have := (N₁ p (List.mem_append_left _ hp)).2.2
        rw [e, hlo] at this; cases this
    refine wpAny_mono (turn i v m₁ news₁ hh' tk' s.heap.objs.size itO hP hJ (fun p hp e => hoff p hp (by simp [e])) F₁ N₂) (fun f s₂ q => ?_) fun _ _ e => e
    have fin : (∃ h₃ tk m' news', s₂ = { ({ s with heap := hh', toks := tk' } : Shared) with heap := h₃, toks := tk } ∧ Fr h₀ env.locals h₃ m' ∧ News h₀ env.locals h₃ ([(s.heap.objs.size, itO)] ++ news') ∧ (∀ p ∈ news', ∀ q ∈ [(s.heap.objs.size, itO)], p.1 ≠ q.1) ∧ J (i + 1) m' news') →
        LoopStepU h₀ env.locals [s.heap.objs.size] own (J (i + 1)) { s with heap := hh', toks := tk' } .next s₂ := by
      rintro ⟨h₃, tk, m', news', e, F', N', ho, hj'⟩
      refine ⟨rfl, h₃, tk, m', news', e, F', fun p hp => ?_, fun p hp hq => ?_, hj'⟩
      · rcases List.mem_append.mp hp with hp | hp
        · exact N' _ (List.mem_append_left _ (ownIs p hp))
        · exact N' _ (List.mem_append_right _ hp)
      · exact ho p hp _ (.head _) (List.mem_singleton.mp hq)
    cases f with
    | ret v => exact .ret q
    | brk => exact .brk q
    | next => exact .next (fin q)
    | cont => exact .cont (fin q)
  · rintro h' tk m' news' F' N' _ hJ
    exact done m' news' h' tk hJ F' N'
end

local macro_rules | `(tactic| walk_at "call ref") => `(tactic| (k_here; (with_reducible show wpAny _ _ (call (Value.ref 195) [Value.str _ _]) _ _ _); (rename Fr _ _ _ _ => kF); (rename News _ _ _ _ => kN); refine wpAny_call (splitroot_spec (wd_call (by k_asm) (by k_asm) (by k_asm) kF rfl rfl) (by (try dsimp only); omega) (by omega) (by assumption) (by assumption) ?_); intro h' tk' D' t1' t2' t3' hk' hn' hd'; (have F' := Fr.kept kF hk'); (have N' := news_more kF kN hk' hn' hd'); clear kF kN; (try dsimp only)))

theorem zz_09b : True := by
  w_top off
  trivial
theorem strsAre_snoc : ∀ {vs : List Value} {st : List Str}, StrsAre vs st → vs ≠ [] → ∃ p q z t, vs = p ++ [Value.str z t] ∧ st = q ++ [z] ∧ StrsAre p q
  | _, _, .nil, h => absurd rfl h
  | _, _, @StrsAre.cons x t vs ys hs, _ => by
    cases vs with
    | nil =>
      cases hs
      exact ⟨[], [], x, t, rfl, rfl, .nil⟩
    | cons v r =>
      obtain ⟨p, q, z, t', e1, e2, e3⟩ := strsAre_snoc hs (by simp)
      exact ⟨Value.str x t :: p, x :: q, z, t', by rw [e1]; rfl, by rw [e2]; rfl, .cons _ _ e3⟩
section
variable {prog : Program} {w : World} {A : Around} {E : Value → Shared → Prop} {s : Shared} {h₀ : Heap} {L : Addr} {news : List (Addr × Obj)} {l : Addr} {vs : List Value} {n : Nat} {st : List Str}
theorem truthy_strs {Q : Bool → Shared → Prop} (N : News h₀ L s.heap news) (hm : (l, W.listOf vs.toArray n) ∈ news) (hS : StrsAre vs st) (hz : vs.length ≤ 100000)
    (h0 : vs = [] → st = [] → Q false { s with toks := s.toks + 1 + 1 })
    (h1 : ∀ p q z t, vs = p ++ [Value.str z t] → st = q ++ [z] → StrsAre p q → Q true { s with toks := s.toks + 1 + 1 }) :
    wpAny (model prog w) A (truthy (.ref l)) Q E s := by
  refine wpAny_truthy_list (items := vs.toArray) ⟨_, (N _ hm).1, rfl, n, rfl⟩ (by rw [List.size_toArray]; omega) ?_
  by_cases hv : vs = []
  · subst hv
    cases hS
    exact h0 rfl rfl
  · obtain ⟨p, q, z, t, e1, e2, e3⟩ := strsAre_snoc hS hv
    have : (!vs.toArray.isEmpty) = true := by
      cases vs with
      | nil => exact absurd rfl hv
      | cons _ _ => rfl
    rw [this]
    exact h1 p q z t e1 e2 e3
theorem truthy_snoc {p : List Value} {y : Value} {Q : Bool → Shared → Prop} (N : News h₀ L s.heap news) (hm : (l, W.listOf (p ++ [y]).toArray n) ∈ news) (hz : (p ++ [y]).length ≤ 100000)
    (h : Q true { s with toks := s.toks + 1 + 1 }) : wpAny (model prog w) A (truthy (.ref l)) Q E s := by
  refine wpAny_truthy_list (items := (p ++ [y]).toArray) ⟨_, (N _ hm).1, rfl, n, rfl⟩ (by rw [List.size_toArray]; omega) ?_
  have : (!(p ++ [y]).toArray.isEmpty) = true := by
    cases p with
    | nil => rfl
    | cons _ _ => rfl
  rw [this]; exact h
theorem item_last {value slice : PySem.Expr} {p : List Value} {y : Value} {u : Tok} {Q : Value → Shared → Prop} (N : News h₀ L s.heap news) (hm : (l, W.listOf (p ++ [y]).toArray n) ∈ news) 
    (h : Q y s) (hs : subscripted slice false (.ref l) (.int (-1) u) = operate [.ref l, .int (-1) u] (getItem (.ref l) (.int (-1) u)) := by with_unfolding_all rfl) :
    wpAny (model prog w) A (subscriptTail value slice (.ref l) (.int (-1) u)) Q E s := by
  have hl : s.heap.IsList l (p ++ [y]).toArray := ⟨_, (N _ hm).1, rfl, n, rfl⟩
  refine tail_any hl.typeIs slot_list_getitem.lookup (wpAny_getItem_list_neg hl (by decide) ?_ (by decide) ?_ h) hs
  · rw [List.size_toArray, List.length_append, List.length_singleton]; omega
  · rw [List.size_toArray, List.length_append, List.length_singleton]
    have : ((-1 : Int) + ((p.length + 1 : Nat) : Int)).toNat = p.length := by omega
    rw [this]; simp
theorem last_snoc (p : List Value) (y : Value) : kl_last (p ++ [y]) = some (p, y) := by
  induction p with
  | nil => rfl
  | cons a r ih =>
    show kl_last (a :: (r ++ [y])) = _
    unfold kl_last
    rw [ih]
end
section
variable {prog : Program} {w : World} {A : Around} {E : Value → Shared → Prop} {s : Shared} {h₀ : Heap} {L : Addr} {m : Str → Option Value} {news news' : List (Addr × Obj)} {D : Addr} {vs : List Value} {n : Nat}
theorem append_S {x : Value} {Q : Value → Shared → Prop} (F : Fr h₀ L s.heap m) (N : News h₀ L s.heap news) (U : Upd D (W.listOf vs.toArray n) (W.listOf (vs ++ [x]).toArray (n + 1)) news news')
    (hz : vs.length ≤ 100000) (h : ∀ h', Fr h₀ L h' m → News h₀ L h' news' → Q .none { s with heap := h' }) : wpAny (model prog w) A (call (.builtin "list.append") [.ref D, x]) Q E s := by
  have ep : vs.toArray.push x = (vs ++ [x]).toArray := by simp
  refine append_K F N (ep ▸ U) h (by rw [List.size_toArray, sizeLine_eq]; omega)
theorem pop_S {p : List Value} {y : Value} {Q : Value → Shared → Prop} (F : Fr h₀ L s.heap m) (N : News h₀ L s.heap news) (U : Upd D (W.listOf (p ++ [y]).toArray n) (W.listOf p.toArray (n + 1)) news news')
    (hz : (p ++ [y]).length ≤ 100000) (h : ∀ h', Fr h₀ L h' m → News h₀ L h' news' → Q y { s with heap := h' }) : wpAny (model prog w) A (call (.builtin "list.pop") [.ref D]) Q E s :=
  kl_pop F N (by simpa using last_snoc p y) U (by rw [sizeLine_eq, List.length_append] at *; simp at hz ⊢; omega) h
end
theorem glued_fold_len (g : Array Nat) : ∀ (ys : List Str) (acc : Array Nat), (ys.foldl (fun acc p => acc ++ g ++ p.cps) acc).size = acc.size + (ys.map (·.length)).sum + ys.length * g.size
  | [], acc => by simp
  | y :: r, acc => by
    rw [List.foldl_cons, glued_fold_len g r, List.map_cons, List.sum_cons, List.length_cons, Array.size_append, Array.size_append, Nat.add_mul]
    show acc.size + g.size + y.cps.size + _ + _ = _ + (y.cps.size + _) + _
    omega
theorem join_len (sep : Str) (ys : List Str) : (Txt.join sep ys).length ≤ (ys.map (·.length)).sum + ys.length * sep.length := by
  cases ys with
  | nil => exact Nat.zero_le _
  | cons y r =>
    show (List.foldl (fun acc p => acc ++ sep.cps ++ p.cps) y.cps r).size ≤ _
    rw [glued_fold_len, List.map_cons, List.sum_cons, List.length_cons, Nat.add_mul]
    show y.cps.size + _ + r.length * sep.cps.size ≤ y.cps.size + _ + (r.length * sep.cps.size + _)
    omega
theorem sum_len_le (B : Nat) : ∀ (l : List Str), (∀ a ∈ l, a.length ≤ B) → (l.map (·.length)).sum ≤ B * l.length
  | [], _ => Nat.zero_le _
  | y :: r, h => by
    have h1 := sum_len_le B r fun a ha => h a (.tail _ ha)
    have h2 := h y (.head _)
    rw [List.map_cons, List.sum_cons, List.length_cons, Nat.mul_add]
    omega
section
variable {prog : Program} {w : World} {A : Around} {E : Value → Shared → Prop} {s : Shared} {h₀ : Heap} {L : Addr} {news : List (Addr × Obj)} {l : Addr} {vs : List Value} {n : Nat} {ys : List Str}
theorem join_S {x : Str} {t : Tok} {Q : Value → Shared → Prop} (N : News h₀ L s.heap news) (hm : (l, W.listOf vs.toArray n) ∈ news) (hS : StrsAre vs ys) (hb : ∀ a ∈ ys, a.length ≤ 1000) (hn : ys.length ≤ 2000) (hx : x.length ≤ 64)
    (h : ∀ t' k, (Txt.join x ys).length ≤ 2200000 → Q (.str (Txt.join x ys) t') { s with toks := k }) : wpAny (model prog w) A (call (.builtin "str.join") [.str x t, .ref l]) Q E s := by
  have h1 := sum_len_le 1000 ys hb
  have h2 : ys.length * x.length ≤ 2000 * 64 := Nat.mul_le_mul hn hx
  exact join_list ⟨_, (N _ hm).1, rfl, n, rfl⟩ (by simpa using hS) (by omega) fun t' k => h t' k (Nat.le_trans (join_len x ys) (by omega))
end

local macro_rules | `(tactic| tb_start) => `(tactic| repeat' ((fail_if_success (with_reducible show TurnEnd _ _ _ _ _ _ _ _)); (fail_if_success (with_reducible show wpAny _ _ (pyIter _) (fun it s₂ => LoopAtV _ _ _ _ _ _ _ _ _ it s₂) _ _)); (fail_if_success (with_reducible show Ends _ _ _)); first | (k_unfold; (try dsimp only)) | walk1 | (dsimp only; walk1)))
local macro_rules | `(tactic| walk_at "truthy ref") => `(tactic| (k_here; k_dflt (refine' truthy_strs ?kN ?km ?kS ?kz ?h0 ?h1; (case kN => k_asm); (case km => k_mem); (case kS => k_asm); (case kz => omega)); (case' h0 => (intro e1' e2'; subst e1' e2')); (case' h1 => (intro p' q' z' zt' e1' e2' hpq'; subst e1' e2'))))
local macro_rules | `(tactic| walk_at "subscriptTail Name UnaryOp ref int") => `(tactic| (k_here; k_dflt (refine' item_last ?kN ?km ?_; (case kN => k_asm); (case km => k_mem); k_whole)))
local macro_rules | `(tactic| walk_at "call builtin:list.append") => `(tactic| (k_here; (with_reducible show wpAny _ _ (call (Value.builtin _) [Value.ref _, Value.str _ _]) _ _ _); k_dflt (refine' append_S ?kF ?kN ?kU ?kz ?_; (case kF => k_asm); (case kN => k_asm); (case kU => k_upd); (case kz => (simp only [List.length_append, List.length_cons, List.length_nil] at *; omega)); k_whole); intro h' F' N'))
local macro_rules | `(tactic| walk_at "call builtin:list.pop") => `(tactic| (k_here; (with_reducible show wpAny _ _ (call (Value.builtin _) [Value.ref _]) _ _ _); k_dflt (refine' pop_S ?kF ?kN ?kU ?kz ?_; (case kF => k_asm); (case kN => k_asm); (case kU => k_upd); (case kz => (simp only [List.length_append, List.length_cons, List.length_nil] at *; omega)); k_whole); intro h' F' N'))
local macro_rules | `(tactic| walk_at "truthy ref") => `(tactic| (k_here; k_dflt (refine' truthy_snoc ?kN ?km ?kz ?_; (case kN => k_asm); (case km => k_mem); (case kz => (simp only [List.length_append, List.length_cons, List.length_nil] at *; omega)); k_whole)))
local macro_rules | `(tactic| walk_at "call builtin:str.join") => `(tactic| (k_here; (with_reducible show wpAny _ _ (call (Value.builtin _) [Value.str _ _, Value.ref _]) _ _ _); k_dflt (refine' join_S ?kN ?km ?kS ?kb ?kn ?kx ?_; (case kN => k_asm); (case km => k_mem); (case kS => k_asm); (case kb => k_asm); (case kn => omega); (case kx => decide); k_whole); intro t' k' hjl))

theorem zz_10 : True := by
  w_top off
  trivial
def normStep (st : List Str) (c : Str) : List Str :=
  if c = Str.ofString "" ∨ c = Str.ofString "." then st else if c ≠ Str.ofString ".." ∨ (st ≠ [] ∧ st.getLast? = some (Str.ofString "..")) then st ++ [c] else st.dropLast
theorem norm_empty {st : List Str} {x : Str} (h : (x.length : Int) = 0) : normStep st x = st := by
  have hx : x = Str.ofString "" := by
    rw [ofString_empty]
    exact eq_of_beq (beq_empty_true h)
  unfold normStep
  rw [if_pos (.inl hx)]
theorem norm_dot {st : List Str} {x : Str} (h : (x == Str.ofString ".") = true) : normStep st x = st := by
  unfold normStep
  rw [if_pos (.inr (eq_of_beq h))]
theorem norm_not {x : Str} (h0 : (x.length : Int) ≠ 0) (h1 : (x == Str.ofString ".") = false) : ¬ (x = Str.ofString "" ∨ x = Str.ofString ".") := by
  rintro (e | e)
  · subst e; exact h0 (by decide)
  · subst e; revert h1; decide
theorem norm_add {st : List Str} {x : Str} (h0 : (x.length : Int) ≠ 0) (h1 : (x == Str.ofString ".") = false) (h2 : (x != Str.ofString "..") = true) : normStep st x = st ++ [x] := by
  unfold normStep
  rw [if_neg (norm_not h0 h1), if_pos (.inl (by simpa using h2))]
theorem norm_up {q : List Str} {x z : Str} (h0 : (x.length : Int) ≠ 0) (h1 : (x == Str.ofString ".") = false) (h3 : (z == Str.ofString "..") = true) : normStep (q ++ [z]) x = q ++ [z] ++ [x] := by
  unfold normStep
  rw [if_neg (norm_not h0 h1), if_pos (.inr ⟨by simp, by rw [List.getLast?_concat, eq_of_beq h3]⟩)]
theorem norm_pop {q : List Str} {x z : Str} (h0 : (x.length : Int) ≠ 0) (h1 : (x == Str.ofString ".") = false) (h2 : (x != Str.ofString "..") = false) (h3 : (z == Str.ofString "..") = false) : normStep (q ++ [z]) x = q := by
  unfold normStep
  rw [if_neg (norm_not h0 h1), if_neg, List.dropLast_concat]
  rintro (e | ⟨_, e⟩)
  · exact e (by simpa using h2)
  · rw [List.getLast?_concat] at e
    cases e
    revert h3; decide
theorem norm_nil {x : Str} (h0 : (x.length : Int) ≠ 0) (h1 : (x == Str.ofString ".") = false) (h2 : (x != Str.ofString "..") = false) : normStep [] x = [] := by
  unfold normStep
  rw [if_neg (norm_not h0 h1), if_neg, List.dropLast_nil]
  rintro (e | ⟨e, _⟩)
  · exact e (by simpa using h2)
  · exact e rfl
theorem norm_mem {c x : Str} : ∀ {st : List Str}, c ∈ normStep st x → c ∈ st ∨ c = x := by
  intro st h
  unfold normStep at h
  split at h
  · exact .inl h
  · split at h
    · rcases List.mem_append.mp h with h | h
      · exact .inl h
      · exact .inr (List.mem_singleton.mp h)
    · exact .inl (List.dropLast_subset _ h)
theorem norm_fold_mem {c : Str} : ∀ (cs st : List Str), c ∈ cs.foldl normStep st → c ∈ st ∨ c ∈ cs
  | [], _, h => .inl h
  | x :: r, st, h => by
    rcases norm_fold_mem r _ h with h | h
    · rcases norm_mem h with h | h
      · exact .inl h
      · exact .inr (h ▸ .head _)
    · exact .inr (.tail _ h)
section
variable {w : World} {s : Shared} {mg mb : Str → Option Value} {mean : ExcName → Option Value} {d u : Nat} {gs : Option (List Code)} {base : Heap} {outer : List Env} {R : Result → Shared → Prop}
theorem normpath_spec (W : Wd w mg mb mean base outer ⟨none, d, some outer, gs, u⟩ s.heap) (hdp : d < 700) {p : Str} {t : Tok} {cs : List Str} (hp : p.length ≤ 1000) (hp0 : p.length ≠ 0)
    (hs1 : Txt.slice p none (some 1) = Str.ofString "/") (hs2 : Txt.slice p (some 1) (some 2) = Str.ofString ".") (hcs : Txt.split (Txt.slice p (some 1) none) (Str.ofString "/") = cs)
    (hR : ∀ h' tk t1, (∀ b o, s.heap.get? b = some o → h'.get? b = some o) →
      R (.ok (.ret (.str (Str.ofString "/" ++ Txt.join (Str.ofString "/") (cs.foldl normStep [])) t1))) ⟨h', s.gens, s.drawn, tk, s.os⟩) :
    codeAny (model PySem.Challenge.rw_il0206_01.row.prog w) ⟨none, d, some outer, gs, u⟩ (.call (.ref 202) ⟨[.str p t], []⟩) R s := by
  change codeAny _ _ _ (Ends R) s
  obtain ⟨T, KX, K0⟩ := W
  refine codeAny_call_def (by unfold recursionLimit; dsimp only; omega) (KX 202 _ (by rfl)) rfl T.nolimit (codeRec_of KX (by k_is)) rfl (BindsTo.of_eq rfl) (by decide) (locs rfl) ?_
  intro h₁ hns hk
  have F : Fr s.heap s.heap.objs.size h₁ (fun x => List.lookup x [(Str.ofString "path", Value.str p t)]) := ⟨hns, hk, Nat.le_refl _⟩
  have N : News s.heap s.heap.objs.size h₁ [] := News.nil
  clear hns hk
  change wpAny _ (Around.deeper _ (envOf _ _ _ _ _)) (execs _ (envOf _ _ _ _ _)) _ _ ⟨h₁, s.gens, s.drawn, _, s.os⟩
  tb_start
  rotate_left
  · exfalso; omega
  (rename Fr s.heap s.heap.objs.size _ _ => F9)
  (rename News s.heap s.heap.objs.size _ _ => N9)
  (rename List (Str × Tok) => lp)
  (rename (List.map _ _ = Txt.split _ _) => hlp)
  (rename StrsAre _ _ => hSA)
  rename_i l' _ hlt _
  have hcs' := hlp.trans hcs
  rw [hcs'] at hSA
  (rename (∀ a, a ∈ List.map _ lp → _) => hle)
  rw [hcs'] at hle
  have hle' : ∀ a, a ∈ cs → a.length ≤ 1000 := fun a ha => by have := hle a ha; omega
  generalize strValues lp = cvs at *
  generalize hm0 : (fun (y : Str) => ite (y = Str.ofString "new_comps") _ _) = m₀ at F9
  refine iter_news (vs := cvs) (n := 0) (news := [(l', W.listOf #[] 0)]) (fun i m nw => ∃ vs n, nw = [(l', W.listOf vs.toArray n)] ∧ StrsAre vs ((cs.take i).foldl normStep []) ∧ vs.length ≤ i ∧ ∀ y, y ≠ Str.ofString "comp" → m y = m₀ y) rfl F9
    (fun q hq => ?_) (fun q hq => ?_) ⟨[], 0, rfl, .nil, Nat.le_refl _, fun _ _ => rfl⟩ ?_ ?_
  · rcases List.mem_cons.mp hq with rfl | hq
    · exact N9 _ (.tail _ (.head _))
    · rw [List.mem_singleton.mp hq]; exact N9 _ (.head _)
  · rw [List.mem_singleton.mp hq]; exact Nat.ne_of_gt hlt.1
  · rintro i v m₁ news₁ h tk I itO hv ⟨vs, n, rfl, hvs, hvn, hm⟩ hIl hoff F8 N8
    obtain ⟨n1, n2⟩ := hoff _ (.head _)
    replace n1 := neN n1
    replace n2 := neN n2
    have hin : i < cvs.length := (List.getElem?_eq_some_iff.mp hv).1
    have hcl : cvs.length ≤ 2000 := by rw [hSA.length]; omega
    obtain ⟨x, xt, rfl, hx⟩ := hSA.item i v hv
    have hxl : x.length ≤ 1000 := hle' x (List.mem_of_getElem? hx)
    have hst : (cs.take (i + 1)).foldl normStep [] = normStep ((cs.take i).foldl normStep []) x := by
      rw [List.take_add_one, hx, Option.toList_some, List.foldl_append]; rfl
    rw [hst]
    have e8 : (fun y => if y = Str.ofString "comp" then some (Value.str x xt) else m₁ y) = fun y => if y = Str.ofString "comp" then some (Value.str x xt) else m₀ y := by
      funext y
      by_cases hy : y = Str.ofString "comp"
      · rw [if_pos hy, if_pos hy]
      · rw [if_neg hy, if_neg hy, hm y hy]
    rw [e8] at F8
    subst hm0
    generalize (cs.take i).foldl normStep [] = st at hvs
    clear F9 N9 hm e8 hst
    change Fr s.heap s.heap.objs.size h _ at F8
    change News s.heap s.heap.objs.size h [_, _, _] at N8
    dsimp only at F8
    have off1 : ∀ (n' : Nat) (vs' : List Value), ∀ p ∈ [(l', W.listOf vs'.toArray n')], ∀ q ∈ [(I, itO), (_, lst cvs 0)], p.1 ≠ q.1 := fun n' vs' p hp q hq => by
      rw [List.mem_singleton.mp hp]
      rcases List.mem_cons.mp hq with rfl | hq
      · exact n1
      · rw [List.mem_singleton.mp hq]; exact n2
    tb_start
    · refine TurnEnd.cont F8 N8 (off1 _ _) ⟨vs, n, rfl, ?_, by omega, fun y hy => by simp only [if_neg hy]⟩
      rw [norm_dot (by assumption)]; exact hvs
    · (rename Fr s.heap s.heap.objs.size _ _ => F7); (rename News s.heap s.heap.objs.size _ _ => N7)
      have ep : vs.toArray.push (Value.str x xt) = (vs ++ [Value.str x xt]).toArray := by simp
      rw [ep] at N7
      refine TurnEnd.next F7 N7 (off1 _ _) ⟨_, _, rfl, ?_, by rw [List.length_append, List.length_singleton]; omega, fun y hy => by simp only [if_neg hy]⟩
      rw [norm_add (by assumption) (by assumption) (by assumption)]; exact hvs.append' (.cons _ _ .nil)
    · (rename Fr s.heap s.heap.objs.size _ _ => F7); (rename News s.heap s.heap.objs.size _ _ => N7)
      refine TurnEnd.next F7 N7 (off1 _ _) ⟨_, _, rfl, ?_, by rw [List.length_append, List.length_singleton]; omega, fun y hy => by simp only [if_neg hy]⟩
      rw [norm_up (by assumption) (by assumption) (by assumption)]; exact hvs.append' (.cons _ _ .nil)
    · (rename Fr s.heap s.heap.objs.size _ _ => F7); (rename News s.heap s.heap.objs.size _ _ => N7)
      refine TurnEnd.next F7 N7 (off1 _ _) ⟨_, _, rfl, ?_, by rw [List.length_append] at hvn; omega, fun y hy => by simp only [if_neg hy]⟩
      rw [norm_pop (by assumption) (by assumption) (by assumption) (by assumption)]; assumption
    · refine TurnEnd.next F8 N8 (off1 _ _) ⟨[], n, rfl, ?_, Nat.zero_le _, fun y hy => by simp only [if_neg hy]⟩
      rw [norm_nil (by assumption) (by assumption) (by assumption)]; exact .nil
    · refine TurnEnd.cont F8 N8 (off1 _ _) ⟨vs, n, rfl, ?_, by omega, fun y hy => by simp only [if_neg hy]⟩
      rw [norm_empty (by assumption)]; exact hvs
  · rintro m₁ news₁ h tk ⟨vs, n, rfl, hvs, hvn, hm⟩ F8 N8
    rw [hSA.length, List.take_length] at hvs
    have hcl : cvs.length ≤ 2000 := by rw [hSA.length]; omega
    have hnl : (cs.foldl normStep []).length ≤ 2000 := by rw [← hvs.length]; omega
    have hnb : ∀ a ∈ cs.foldl normStep [], a.length ≤ 1000 := fun a ha => by
      rcases norm_fold_mem _ _ ha with h | h
      · cases h
      · exact hle' a h
    have e8 : m₁ = fun y => if y = Str.ofString "comp" then m₁ y else m₀ y := by
      funext y
      by_cases hy : y = Str.ofString "comp"
      · rw [if_pos hy]
      · rw [if_neg hy, hm y hy]
    rw [e8] at F8
    generalize m₁ (Str.ofString "comp") = cv at F8
    subst hm0
    change Fr s.heap s.heap.objs.size h _ at F8
    change News s.heap s.heap.objs.size h _ at N8
    dsimp only at F8
    clear F9 N9 hm e8
    tb_start
    (rename Fr s.heap s.heap.objs.size _ _ => F7)
    exact hR _ _ _ F7.keep
end

theorem zz_12 : True := by
  w_top off
  trivial
section
variable {w : World} {s : Shared} {mg mb : Str → Option Value} {mean : ExcName → Option Value} {d u : Nat} {gs : Option (List Code)} {base : Heap} {outer : List Env} {R : Result → Shared → Prop}
theorem join_spec (W : Wd w mg mb mean base outer ⟨none, d, some outer, gs, u⟩ s.heap) (hdp : d < 700) {p : Str} {t ta : Tok} (hp : p.length ≤ 900)
    (hs1 : Txt.startswith p (Str.ofString "/") = false)
    (hR : ∀ h' tk t1, (∀ b o, s.heap.get? b = some o → h'.get? b = some o) → R (.ok (.ret (.str (Str.ofString "/" ++ p) t1))) ⟨h', s.gens, s.drawn, tk, s.os⟩) :
    codeAny (model PySem.Challenge.rw_il0206_01.row.prog w) ⟨none, d, some outer, gs, u⟩ (.call (.ref 188) ⟨[.str (Str.ofString "/") ta, .str p t], []⟩) R s := by
  change codeAny _ _ _ (Ends R) s
  obtain ⟨T, KX, K0⟩ := W
  refine codeAny_call_function (by unfold recursionLimit; dsimp only; omega) (KX 188 _ (by rfl)) rfl rfl rfl rfl (codeRec_of KX (by k_is)) ?_
  show wpAny _ _ (newTuple [Value.str p t] >>= fun v => pure [(Str.ofString "a", Value.str (Str.ofString "/") ta), (Str.ofString "p", v)]) _ _ _
  refine wpAny_bind (wpAny_newObj_type (wpAny_pure ?_) (by size_fits))
  refine wpAny_newFunctionEnv (by decide) (locs rfl) (fun h₁ hns hsb => ?_) rfl
  have hsz : ∀ o : Obj, (s.heap.push o).objs.size = s.heap.objs.size + 1 := fun o => Heap.size_push ..
  have hk : ∀ b o, s.heap.get? b = some o → h₁.get? b = some o := fun b o e => hsb.extBut b o (Nat.ne_of_lt (Heap.lt_size (Heap.get?_push_of_some _ e))) (Heap.get?_push_of_some _ (Heap.get?_push_of_some _ e))
  refine ⟨T.nolimit.keeps hk, codeAny_func ?_⟩
  have htup : h₁.get? s.heap.objs.size = some { cls := .type "tuple", data := .seq #[Value.str p t] } := by
    refine hsb.extBut _ _ (Nat.ne_of_lt (by rw [hsz]; exact Nat.lt_succ_self _)) (Heap.get?_push_of_some _ (Heap.get?_push_size _ rfl))
  have F : Fr s.heap _ h₁ (fun x => List.lookup x [(Str.ofString "p", Value.ref s.heap.objs.size), (Str.ofString "a", Value.str (Str.ofString "/") ta)]) := ⟨hns, hk, by show s.heap.objs.size ≤ (s.heap.push _).objs.size; rw [hsz]; exact Nat.le_succ _⟩
  have N : News s.heap (s.heap.push { cls := .type "tuple", data := .seq #[Value.str p t] }).objs.size h₁ [(s.heap.objs.size, { cls := .type "tuple", data := .seq #[Value.str p t] })] := fun q hq => by
    rw [List.mem_singleton.mp hq]
    refine ⟨htup, by rw [hsz]; exact Nat.ne_of_lt (Nat.lt_succ_self _), ?_⟩
    cases e : s.heap.get? s.heap.objs.size with
    | none => rfl
    | some o => exact absurd (Heap.lt_size e) (Nat.lt_irrefl _)
  clear hns hsb
  change wpAny _ (Around.deeper _ (envOf _ _ _ _ _)) (execs _ (envOf _ _ _ _ _)) _ _ ⟨h₁, s.gens, s.drawn, _, s.os⟩
  generalize s.heap.objs.size = aT at *
  generalize (s.heap.push { cls := .type "tuple", data := .seq #[Value.str p t] }).objs.size = aL at *
  clear hk htup hsz
  tb_start
  (rename Fr _ _ _ _ => F7)
  exact hR _ _ _ F7.keep
end

theorem zz_13 : True := by
  w_top off
  trivial
/-- the exception that ends an iterator is made -/
theorem stop_made {M : Model} {A : Around} {E : Value → Shared → Prop} {s : Shared} {Q : Value → Shared → Prop}
    (h : ∀ g e, Heap.MadeExcOf s.heap g e (.type "StopIteration") [] → Q (.ref e) { s with heap := g }) : wpAny M A (newExc (.type "StopIteration") []) Q E s := by
  have first : firstArgMember (.type "StopIteration") [] = pure Value.none := rfl
  have own : ownMembersOf (.type "StopIteration") [] = #[] := by decide +kernel
  unfold newExc newTuple
  rw [own]
  refine wpAny_bind (wpAny_newObj_type (wpAny_bind (wpAny_of_eq first (wpAny_newObj_type (h _ _ ?_) (by size_fits)))) (by size_fits))
  refine ⟨fun b o e => Heap.get?_push_of_some _ (Heap.get?_push_of_some _ e), ?_, _, Heap.get?_push_size _ rfl, Heap.get?_none_of_le (Nat.le_refl _), ?_⟩
  · exact Heap.get?_none_of_le (by rw [Heap.size_push]; omega)
  · exact Heap.get?_push_of_some _ (Heap.get?_push_size _ rfl)

theorem zz_14 : True := by
  w_top off
  trivial
/-- a generator function that yields N things, by its own locals at C alone -/
def funProto (C : Addr) (fp : List Addr) (N : Nat) (F : Nat → Value → Prop) : Protocol := fun m s₀ v s kap =>
  F (N - 1 - m) v ∧ GenSince C [] s₀ s ∧ ∀ s'' : Shared, (∀ b ∈ C :: fp, ∀ o, s.heap.get? b = some o → s''.heap.get? b = some o) → kap (.send .none) s''
def funEnd (C : Addr) : GenEnd := fun n s₀ r s₁ => r = .ok (.ret .none) ∧ (n = 0 ∧ GenSince C [] s₀ s₁)
/-- the generator at a, number g, its locals at C, has yielded j things and will yield the rest, whatever the others do meanwhile, if they leave alone C and the addresses of fp -/
structure FunAt (prog : Program) (w : World) (A : Around) (a : Addr) (g : Nat) (C : Addr) (fp : List Addr) (N : Nat) (F : Nat → Value → Prop) (j : Nat) (s : Shared) : Prop where
  gen : s.heap.IsGen a g
  free : s.heap.NoLimit
  rest : ∃ x, s.gens[g]? = some x ∧ ∀ t : Shared, (∀ b ∈ C :: fp, ∀ o, s.heap.get? b = some o → t.heap.get? b = some o) → x.Goes (model prog w) A.in1 (funEnd C) (funProto C fp N F) (N - j) (.send .none) t
section
variable {prog : Program} {w : World} {A : Around} {s : Shared} {a : Addr} {g : Nat} {C : Addr} {fp : List Addr} {N : Nat} {F : Nat → Value → Prop} {j : Nat}
theorem gen_kept {h h' : Heap} (x : h.IsGen a g) (k : ∀ o, h.get? a = some o → h'.get? a = some o) : h'.IsGen a g := by
  obtain ⟨o, n1, n2, e, r⟩ := x
  exact ⟨o, n1, n2, k o e, r⟩
theorem free_kept {h h' : Heap} (x : h.NoLimit) (k : ∀ o, h.get? cStatics = some o → h'.get? cStatics = some o) : h'.NoLimit := by
  obtain ⟨mc, e, n⟩ := x
  exact ⟨mc, e.at' k, n⟩
/-- what a wake leaves: the heap but for C, the generators but for g -/
theorem woken_moved {x y : GenState} (hgs : s.gens[g]? = some x) (hy : y.bare = true) {h : Heap} {tk : Nat} (hk : ∀ b o, b ≠ C → s.heap.get? b = some o → h.get? b = some o) (ht : s.toks ≤ tk) :
    Moved [C] (GenOnlyQ g) s (Shared.setGen { s.setGen g .running with heap := h, toks := tk } g y) where
  heap := fun b o hb e => hk b o (fun q => hb (by rw [q]; exact List.mem_singleton.mpr rfl)) e
  gens := GenOnlyQ.of ((GenOnly.setGen s g .running).trans (GenOnly.setGen _ g y)) (setGen_self (setGen_self hgs)) hy
  drawn := rfl
  os := rfl
  toks := ht
/-- one next: thing j is yielded, or all have been and the generator ends -/
theorem fun_next {E : Value → Shared → Prop} {Q : Option Value → Shared → Prop} (hh : A.handled = none) (hroom : A.depth < recursionLimit) (haC : a ≠ C) (hcC : cStatics ≠ C) (st : FunAt prog w A a g C fp N F j s)
    (more : j < N → ∀ v t, F j v → FunAt prog w A a g C fp N F (j + 1) t → Moved [C] (GenOnlyQ g) s t → Q (some v) t) (ends : N ≤ j → ∀ t, Moved [C] (GenOnlyQ g) s t → Q none t) : wpAny (model prog w) A (pyNext (.ref a)) Q E s := by
  obtain ⟨gen, free, x, hx, rest⟩ := st
  have go := rest (s.setGen g .running) fun _ _ _ e => e
  have wake : wpAny (model prog w) A.in1 (Builtin.Generator.genWake (.ref a) (.send .none)) (fun fin t => ∃ v, fin = .done (.ret v) ∧ j < N ∧ F j v ∧ FunAt prog w A a g C fp N F (j + 1) t ∧ (s.toks ≤ t.toks → Moved [C] (GenOnlyQ g) s t))
      (fun e t => N ≤ j ∧ t.TypeIs e "StopIteration" ∧ (s.toks ≤ t.toks → Moved [C] (GenOnlyQ g) s t)) s := by
    refine wpAny_bind (wpAny_holding (wpAny_genNumber gen (wpAny_bind (wpAny_genState hx ?_))))
    have hres : ∀ {k : GenResult → Sem PySem.Fin} {P : PySem.Fin → Shared → Prop} {E' : Value → Shared → Prop},
        (∀ t, N ≤ j → GenSince C [] (s.setGen g .running) t → wpAny (model prog w) A.in1 (k (.returned .none)) P E' (t.setGen g .finished)) →
        (∀ v h tk y, y.bare = true → j < N → F j v → (∀ b o, b ≠ C → s.heap.get? b = some o → h.get? b = some o) → FunAt prog w A a g C fp N F (j + 1) (Shared.setGen { s.setGen g .running with heap := h, toks := tk } g y) →
          wpAny (model prog w) A.in1 (k (.yielded v)) P E' (Shared.setGen { s.setGen g .running with heap := h, toks := tk } g y)) →
        wpAny (model prog w) A.in1 (.resume g (.send .none) [] k) P E' s := by
      intro k P E' h1 h2
      refine wpAny_resumeQ hx go ?_ ?_
      · rintro r t ⟨rfl, h0, q⟩
        exact h1 t (by omega) q
      · rintro v _ y hy ⟨hF, ⟨h, tk, rfl, hk⟩, kap⟩
        cases hm : N - j with
        | zero =>
          rw [hm] at kap
          exact (kap _ fun _ _ _ e => e).elim
        | succ m =>
          rw [hm] at kap hF
          have ej : N - 1 - (m + 1 - 1) = j := by omega
          rw [ej] at hF
          have hk' : ∀ b o, b ≠ C → s.heap.get? b = some o → h.get? b = some o := fun b o hb => hk b o hb List.not_mem_nil
          refine h2 v h tk y hy (by omega) hF hk' ⟨gen_kept gen fun o => hk' a o haC, free_kept free fun o => hk' _ o hcC, y, setGen_self (x := y) (setGen_self hx), fun t ht => ?_⟩
          rw [show N - (j + 1) = m by omega]
          exact kap t ht
    cases x
    case running => exact go.elim
    case finished => exact go.elim
    all_goals
      refine wpAny_bind (wpAny_roomToWake free hroom ?_)
      refine hres (fun t hN q => ?_) fun v h tk y hy hj hF hk st' => wpAny_pure ⟨v, rfl, hj, hF, st', fun ht => woken_moved hx hy hk ht⟩
      change wpAny _ _ (newExc (.type "StopIteration") [] >>= fun e => raiseNew e >>= _) _ _ _
      refine wpAny_bind (stop_made fun g' e q' => wpAny_bind (wpAny_raiseNew_none hh ⟨hN, ?_, fun ht => ?_⟩))
      · obtain ⟨_, he, _⟩ := q'.there
        exact ⟨_, he, rfl⟩
      · obtain ⟨h, tk, rfl, hk⟩ := q
        exact woken_moved (y := .finished) hx rfl (fun b o hb e => q'.keeps b o (hk b o hb List.not_mem_nil e)) ht
  unfold pyNext
  refine wpAny_with_toks (Nat.le_refl s.toks) (wpAny_bind (wpAny_attempt (wpAny_callSpecial?_slot (name := Str.ofString "__next__") gen.typeIs slot_gen_next
    (wpAny_call_entry slot_gen_next gen.typeIs entry_gen_next (wpAny_mono wake ?_ ?_) (args_gen_next _)))))
  · rintro _ t ⟨v, rfl, hj, hF, st', hm⟩
    exact ⟨v, rfl, wpAny_pure fun ht => more hj v t hF st' (hm ht)⟩
  · rintro e t ⟨hN, he, hm⟩
    exact wpAny_bind (wpAny_isInstance (T := "StopIteration") (b := true) he isSubtype_stop (wpAny_pure fun ht => ends hN t (hm ht)))
theorem walks_fun (hh : A.handled = none) (a : Addr) (g : Nat) (C : Addr) (fp : List Addr) (N : Nat) (F : Nat → Value → Prop) (haC : a ≠ C)
    (hroom : A.depth < recursionLimit) (hcs : cStatics ∈ fp) (hcC : cStatics ≠ C) : WalksS prog w A a (a :: C :: fp) [C] (GenOnlyQ g) N F (FunAt prog w A a g C fp N F) where
  sub := fun b hb => .tail _ (by rw [List.mem_singleton.mp hb]; exact .head _)
  grefl := fun _ => Or.inl rfl
  gtrans := fun _ _ _ => GenOnlyQ.trans
  frame := by
    rintro j s h' tk ⟨gen, free, x, hx, rest⟩ _ hk
    refine ⟨gen_kept gen (hk a (.head _)), free_kept free (hk _ (.tail _ (.tail _ hcs))), x, hx, fun t ht => rest t fun b hb o e => ?_⟩
    exact ht b hb o (hk b (.tail _ hb) o e)
  item := fun j s Q E hj st hQ => fun_next hh hroom haC hcC st (fun _ v t hF st' m => hQ v t hF st' m) fun h => absurd hj (Nat.not_lt.mpr h)
  done := fun s Q E st hQ => fun_next hh hroom haC hcC st (fun h => absurd h (Nat.lt_irrefl _)) fun _ t m => hQ t m
  self := fun _ _ _ _ st => wpAny_pyIter_gen st.gen
end
section
variable {M : Model} {A : Around} {R : GenEnd} {Y : Protocol} {c : Code} {t : Sem PySem.Fin} {fs : List Frame}
theorem seg_loop_ind {N : Nat} {Pre : Nat → Shared → Shared → Prop}
    (step : ∀ i s₀ s, i < N → Pre i s₀ s → (∀ s₀' s', Pre (i + 1) s₀' s' → Seg M A R Y (N - (i + 1)) s₀' c t fs s') → Seg M A R Y (N - (i + 1) + 1) s₀ c t fs s)
    (fin : ∀ s₀ s, Pre N s₀ s → Seg M A R Y 0 s₀ c t fs s) : ∀ s₀ s, Pre 0 s₀ s → Seg M A R Y N s₀ c t fs s := by
  have key : ∀ k i s₀ s, N - i = k → i ≤ N → Pre i s₀ s → Seg M A R Y (N - i) s₀ c t fs s := by
    intro k
    induction k with
    | zero =>
      intro i s₀ s hk hi hp
      have : i = N := by omega
      subst this
      rw [Nat.sub_self]
      exact fin _ _ hp
    | succ k ih =>
      intro i s₀ s hk hi hp
      have e : N - i = N - (i + 1) + 1 := by omega
      rw [e]
      exact step i s₀ s (by omega) hp fun s₀' s' hp' => ih (i + 1) s₀' s' (by omega) (by omega) hp'
  intro s₀ s hp
  exact key N 0 s₀ s (Nat.sub_zero _) (Nat.zero_le _) hp
end
/-- all that a generator's frame must leave alone -/
def ownAll (h₀ : Heap) (C : Addr) (h : Heap) : List (Addr × Obj) := ownOf h₀ ((List.range h.objs.size).filter (fun b => b != C)) h
theorem news_ownAll {h₀ h : Heap} {C : Addr} : News h₀ C h (ownAll h₀ C h) := news_ownOf (by
  intro hm
  have := (List.mem_filter.mp hm).2
  simp at this)
theorem since_of {h₀ h h' : Heap} {C : Addr} {m' : Str → Option Value} {news' : List (Addr × Obj)} (hk : ∀ b o, h₀.get? b = some o → h.get? b = some o) (F' : Fr h₀ C h' m') (N' : News h₀ C h' news') (hs : ∀ p ∈ ownAll h₀ C h, p ∈ news') :
    ∀ b o, b ≠ C → b ∉ ([] : List Addr) → h.get? b = some o → h'.get? b = some o := by
  intro b o hb _ e
  cases e₀ : h₀.get? b with
  | some o₀ =>
    have h1 := hk b o₀ e₀
    rw [e] at h1
    rw [Option.some.inj h1]
    exact F'.keep b o₀ e₀
  | none =>
    have hm : (b, o) ∈ ownAll h₀ C h := mem_ownOf (List.mem_filter.mpr ⟨List.mem_range.mpr (Heap.lt_size e), by simpa using hb⟩) e₀ e
    exact (N' _ (hs _ hm)).1
/-- a generator that stands ready to yield n strs -/
def GenAt (w : World) (d : Nat) (outer : List Env) (gs : Option (List Code)) (a C : Addr) (n : Nat) (ps : Nat → Str) (s : Shared) : Prop :=
  ∃ g fp, (∀ u', FunAt PySem.Challenge.rw_il0206_01.row.prog w ⟨none, d, some outer, gs, u'⟩ a g C fp n (fun i v => ∃ t, v = .str (ps i) t) 0 s) ∧ a ≠ C ∧ a < s.heap.objs.size ∧ C < s.heap.objs.size ∧ (∀ b ∈ fp, b < s.heap.objs.size) ∧ cStatics ∈ fp ∧ cStatics ≠ C

local macro_rules | `(tactic| walk_at "call ref") => `(tactic| (k_here; (with_reducible show wpAny _ _ (call (Value.ref 42) [Value.str _ _]) _ _ _); (rename Fr _ _ _ _ => kF); (rename News _ _ _ _ => kN); refine wpAny_call (split_spec (wd_call (by k_asm) (by k_asm) (‹∀ _ : Nat, Below _ _ _ _› _) kF rfl rfl) (by (try dsimp only); omega) (by omega) ?_); intro h' tk' D' t1' t2' tl' hk' hn' hd'; (have F' := Fr.kept kF hk'); (have N' := news_more kF kN hk' hn' hd'); clear kF kN; (try dsimp only)))

theorem zz_16 : True := by
  w_top off
  trivial
theorem fr_swap {h₀ h : Heap} {C : Addr} {a b : Value} {x y : Str} {m : Str → Option Value} (hxy : x ≠ y) (F : Fr h₀ C h (fun z => if z = x then some a else if z = y then some b else m z)) :
    Fr h₀ C h (fun z => if z = y then some b else if z = x then some a else m z) := by
  have e : (fun z => if z = x then some a else if z = y then some b else m z) = (fun z => if z = y then some b else if z = x then some a else m z) := by
    funext z
    by_cases h1 : z = x
    · subst h1; rw [if_pos rfl, if_neg hxy, if_pos rfl]
    · by_cases h2 : z = y
      · subst h2; rw [if_neg h1, if_pos rfl, if_pos rfl]
      · rw [if_neg h1, if_neg h2, if_neg h2, if_neg h1]
  exact e ▸ F
section
variable {w : World} {s : Shared} {mg mb : Str → Option Value} {mean : ExcName → Option Value} {d u : Nat} {gs : Option (List Code)} {base : Heap} {outer : List Env} {R : Result → Shared → Prop}
theorem ancestry_spec (W : Wd w mg mb mean base outer ⟨none, d, some outer, gs, u⟩ s.heap) (hdp : d < 700) {p : Str} {t : Tok} {ps : Nat → Str} {N : Nat}
    (hp : p.length ≤ 1000) (h0 : Txt.rstripChars p (Str.ofString "/") = ps 0) (hstep : ∀ i, i < N → splitHead (ps i) = ps (i + 1)) (htest : ∀ i, i < N → (Txt.rstripChars (ps i) (Str.ofString "/")).length ≠ 0)
    (hend : (Txt.rstripChars (ps N) (Str.ofString "/")).length = 0) (hlen : ∀ i, i ≤ N → (ps i).length ≤ 1000)
    (hR : ∀ h' tk a C gn, (∀ b o, s.heap.get? b = some o → h'.get? b = some o) → s.heap.objs.size ≤ C → gn.bare = true → GenAt w d outer gs a C N ps ⟨h', s.gens.push gn, s.drawn, tk, s.os⟩ →
      R (.ok (.ret (.ref a))) ⟨h', s.gens.push gn, s.drawn, tk, s.os⟩) :
    codeAny (model PySem.Challenge.rw_il0206_01.row.prog w) ⟨none, d, some outer, gs, u⟩ (.call (.ref 49) ⟨[.str p t], []⟩) R s := by
  obtain ⟨T, KX, K0⟩ := W
  have KB : ∀ u₂ : Nat, Below ⟨none, d, some outer, gs, u₂⟩ base outer s.heap := fun _ => ⟨K0.stack, K0.stays, K0.frames⟩
  refine codeAny_call_generator (by unfold recursionLimit; dsimp only; omega) (KX 49 _ (by rfl)) rfl rfl rfl rfl (codeRec_of KX (by k_is)) ?_
  show wpAny _ _ (pure [(Str.ofString "path", Value.str p t)]) _ _ _
  refine wpAny_pure ?_
  refine wpAny_newFunctionEnv (by decide) (locs rfl) (fun h₁ hns hsb => ?_) rfl
  have hsz : h₁.objs.size = s.heap.objs.size + 1 := by rw [hsb.1, Heap.size_push]
  have hk : ∀ b o, s.heap.get? b = some o → h₁.get? b = some o := fun b o e => hsb.extBut b o (Nat.ne_of_lt (Heap.lt_size e)) (Heap.get?_push_of_some _ e)
  refine ⟨T.nolimit.keeps hk, ?_⟩
  have hcs : cStatics < s.heap.objs.size := T.nolimit.elim fun _ h => h.1.lt
  refine hR _ _ _ s.heap.objs.size _ (fun b o e => Heap.get?_push_of_some _ (hk b o e)) (Nat.le_refl _) rfl ⟨s.gens.size, List.range s.heap.objs.size, fun u' => ⟨⟨_, _, _, Heap.get?_push_size _ rfl, rfl, rfl, rfl⟩, T.nolimit.keeps (fun b o e => Heap.get?_push_of_some _ (hk b o e)), _, Array.getElem?_push_size .., fun s'' hal => ⟨rfl, ?_⟩⟩, ?_, ?_, ?_, ?_, List.mem_range.mpr hcs, Nat.ne_of_lt hcs⟩
  all_goals try dsimp only
  rotate_left
  · refine neN ?_; omega
  · refine ltN ?_; rw [Heap.size_push]; omega
  · refine ltN ?_; rw [Heap.size_push]; omega
  · intro b hb
    refine Nat.lt_trans (List.mem_range.mp hb) (ltN ?_); rw [Heap.size_push]; omega
  have hk'' : ∀ b o, s.heap.get? b = some o → s''.heap.get? b = some o := fun b o e => hal b (.tail _ (List.mem_range.mpr (Heap.lt_size e))) o (Heap.get?_push_of_some _ (hk b o e))
  have hns'' : s''.heap.Ns s.heap.objs.size (fun x => List.lookup x [(Str.ofString "path", Value.str p t)]) := (hns.at' fun o e => Heap.get?_push_of_some _ e).at' fun o e => hal _ (.head _) o e
  have F : Fr s.heap s.heap.objs.size s''.heap (fun x => List.lookup x [(Str.ofString "path", Value.str p t)]) := ⟨hns'', hk'', Nat.le_refl _⟩
  clear hns hsb hns'' hal hk hsz
  rw [Nat.sub_zero]
  have N0 := news_ownAll (h₀ := s.heap) (C := s.heap.objs.size) (h := s''.heap)
  generalize hC : s.heap.objs.size = C at *
  generalize hO : ownAll s.heap C s''.heap = own at N0
  refine seg_func (seg_execs_cons (seg_wrap ?_))
  change wpAny _ ⟨none, d + 1, some (envOf _ _ _ _ _ :: outer), gs, _⟩ (exec _ (envOf _ _ _ _ _)) _ _ ⟨s''.heap, s''.gens, s''.drawn, s''.toks, s''.os⟩
  tb_start
  (rename Fr _ _ _ _ => F1)
  (rename News _ _ _ _ => N1)
  have G1 := since_of hk'' F1 N1 (fun q hq => hO ▸ hq)
  refine seg_execs_cons (seg_While fun pz => ?_)
  refine seg_loop_ind (Pre := fun i s₀ s₁ => GenSince C [] s₀ s₁ ∧ ∃ (m : Str → Option Value) (t : Tok), Fr s.heap C s₁.heap (fun y => if y = Str.ofString "path" then some (.str (ps i) t) else m y)) ?_ ?_ _ _ ⟨⟨_, _, rfl, G1⟩, _, _, by rw [← h0]; exact F1⟩
  · clear F1 N1 G1 hO
    rintro i s₀ s₁ hi ⟨⟨h1, tk1, rfl, G1⟩, m, t1, F1⟩ ih
    dsimp only at F1
    have hl1 := hlen i (Nat.le_of_lt hi)
    have N0 := news_ownAll (h₀ := s.heap) (C := C) (h := h1)
    generalize hO : ownAll s.heap C h1 = own at N0
    refine seg_whileLoop ?_
    change wpAny _ ⟨none, d + 1, some (envOf _ _ _ _ _ :: outer), gs, _⟩ (isTrue _ _ _) _ _ ⟨h1, s₀.gens, s₀.drawn, tk1, s₀.os⟩
    tb_start
    rotate_left
    · exact absurd (by omega) (htest i hi)
    refine seg_execs_cons (seg_Expr_Yield rfl rfl rfl ?_)
    change wpAny _ ⟨none, d + 1, some (envOf _ _ _ _ _ :: outer), gs, _⟩ (eval _ (envOf _ _ _ _ _)) _ _ ⟨h1, s₀.gens, s₀.drawn, _, s₀.os⟩
    tb_start
    rename_i kap hkap
    refine ⟨⟨_, by rw [show N - 1 - (N - (i + 1)) = i from by omega]⟩, ⟨_, _, rfl, G1⟩, fun s'' hal => hkap .none s'' ?_⟩
    have F2 : Fr s.heap C s''.heap (fun y => if y = Str.ofString "path" then some (.str (ps i) t1) else m y) :=
      ⟨F1.ns.at' fun o e => hal _ (.head _) o e, fun b o e => hal b (.tail _ (List.mem_range.mpr (hC ▸ Heap.lt_size e))) o (F1.keep b o e), F1.above⟩
    have N2 := news_ownAll (h₀ := s.heap) (C := C) (h := s''.heap)
    have hk2 := F2.keep
    clear hO N0 hal
    generalize hO : ownAll s.heap C s''.heap = own' at N2
    dsimp only
    refine seg_execs_cons (seg_wrap ?_)
    change wpAny _ ⟨none, d + 1, some (envOf _ _ _ _ _ :: outer), gs, _⟩ (exec _ (envOf _ _ _ _ _)) _ _ ⟨s''.heap, s''.gens, s''.drawn, s''.toks, s''.os⟩
    tb_start
    (rename Fr _ _ _ _ => F3)
    (rename News _ _ _ _ => N3)
    rw [hstep i hi] at F3
    exact seg_execs_nil (seg_again rfl (ih _ _ ⟨⟨_, _, rfl, since_of hk2 F3 N3 (fun q hq => .tail _ (hO ▸ hq))⟩, _, _, fr_swap (by decide) F3⟩))
  · clear F1 N1 G1 hO
    rintro s₀ s₁ ⟨⟨h1, tk1, rfl, G1⟩, m, t1, F1⟩
    dsimp only at F1
    have hl1 := hlen N (Nat.le_refl _)
    have N0 := news_ownAll (h₀ := s.heap) (C := C) (h := h1)
    generalize hO : ownAll s.heap C h1 = own at N0
    refine seg_whileLoop ?_
    change wpAny _ ⟨none, d + 1, some (envOf _ _ _ _ _ :: outer), gs, _⟩ (isTrue _ _ _) _ _ ⟨h1, s₀.gens, s₀.drawn, tk1, s₀.os⟩
    tb_start
    · exact absurd hend (by omega)
    refine seg_execs_nil (seg_leaf (.ok .next) ?_)
    exact seg_end (.ok (.ret .none)) ⟨rfl, rfl, _, _, rfl, G1⟩
end

theorem zz_17 : True := by
  w_top off
  trivial
/-- the end of a turn in which generators may have been made -/
def TurnEndG (h₀ : Heap) (L : Addr) (own : List (Addr × Obj)) (J : (Str → Option Value) → List (Addr × Obj) → Prop) (s : Shared) (f : Flow) (s₂ : Shared) : Prop :=
  f = .next ∧ ∃ h' gs' tk m' news', s₂ = { s with heap := h', gens := gs', toks := tk } ∧ AllBare gs' ∧ Fr h₀ L h' m' ∧ News h₀ L h' (own ++ news') ∧ (∀ p ∈ news', ∀ q ∈ own, p.1 ≠ q.1) ∧ J m' news'
/-- the loop's start -/
def StartG (h₀ : Heap) (L l : Addr) (s : Shared) (J : (Str → Option Value) → List (Addr × Obj) → Prop) (xv : Value) (s₁ : Shared) : Prop :=
  ∃ m₀ news, xv = .ref l ∧ s₁.drawn = s.drawn ∧ s₁.os = s.os ∧ AllBare s₁.gens ∧ Fr h₀ L s₁.heap m₀ ∧ News h₀ L s₁.heap news ∧ J m₀ news
section
variable {prog : Program} {w : World} {A : Around} {s : Shared} {env : Env} {h₀ : Heap}
/-- a for over a list of the base in which generators are made -/
theorem For_gens {E : Value → Shared → Prop} {Q : Flow → Shared → Prop} {x : Str} {px pos : Pos} {iter : Expr} {body : List Stmt} (h₀ : Heap) (hx : env.kindOf x = some .local)
    (hp : (env.scope.kind == .class || (env.scope.kind == .module && env.locals != env.globals)) = false) (hh : A.handled = none) {l : Addr} {vs : List Value} {n : Nat} (hlo : h₀.get? l = some (lst vs n))
    (J : Nat → (Str → Option Value) → List (Addr × Obj) → Prop)
    (h : wpAny (model prog w) A (eval iter env) (StartG h₀ env.locals l s (J 0)) E s)
    (turn : ∀ i v m₁ news₁ h gs tk I itO, vs[i]? = some v → J i m₁ news₁ → AllBare gs → (∀ p ∈ news₁, p.1 ≠ I) → Fr h₀ env.locals h (fun y => if y = x then some v else m₁ y) →
      News h₀ env.locals h ((I, itO) :: news₁) →
      wpAny (model prog w) A (execs body env) (TurnEndG h₀ env.locals [(I, itO)] (J (i + 1)) ⟨h, gs, s.drawn, tk, s.os⟩) E ⟨h, gs, s.drawn, tk, s.os⟩)
    (done : ∀ m₁ news₁ h gs tk, J vs.length m₁ news₁ → AllBare gs → Fr h₀ env.locals h m₁ → News h₀ env.locals h news₁ → Q .next ⟨h, gs, s.drawn, tk, s.os⟩)
    (hs : ∀ x, foldedSetIterable iter env x = pure x := by intro _; rfl)
    (hE : PassesOwn (model prog w) A env E := by passes_own) :
    wpAny (model prog w) A (exec (.For (.Name x px) iter body [] pos) env) Q E s := by
  refine wpAny_For (wpAny_mono h (fun xv s₁ h₁ => ?_) fun _ _ e => e) hs
  obtain ⟨m₀, news, rfl, hdr, hos, hG, F, N, hj⟩ := h₁
  have hls := F.keep _ _ hlo
  refine wpAny_pyIter_list (isList_lst hls) ?_
  have hlt : l < h₀.objs.size := Heap.lt_size hlo
  have hne : l ≠ s₁.heap.objs.size := Nat.ne_of_lt (Heap.lt_size hls)
  have hIn : h₀.get? s₁.heap.objs.size = none := next_is_new F
  have hIL : s₁.heap.objs.size ≠ env.locals := fun e => absurd F.ns.lt (e ▸ Nat.lt_irrefl _)
  generalize hI : s₁.heap.objs.size = I at *
  refine codeAny_forLoop (R := fun r s' => match r with | .ok f => Q f s' | .error e => cameBackBy (model prog w) A env E e s')
    (fun k s' => ∃ h' gs tk m' news' i, s' = ⟨h', gs, s.drawn, tk, s.os⟩ ∧ AllBare gs ∧ h'.IsListIter I l i ∧ Fr h₀ env.locals h' m' ∧ News h₀ env.locals h' news' ∧ (∀ p ∈ news', p.1 ≠ I) ∧ J i m' news' ∧ i ≤ vs.length ∧ k = vs.length + 1 - i) ?_ (vs.length + 1)
    ⟨_, s₁.gens, s₁.toks, m₀, news, 0, by rw [← hdr, ← hos], hG, ⟨_, by rw [← hI]; exact Heap.get?_push_size _ rfl, rfl, rfl⟩, F.push _, fun p hp => ⟨Heap.get?_push_of_some _ (N p hp).1, (N p hp).2⟩, fun p hp e => absurd (Heap.lt_size (N p hp).1) (by rw [hI, e]; exact Nat.lt_irrefl _), hj, Nat.zero_le _, rfl⟩
  rintro k s' ⟨h', gs, tk, m', news', i, rfl, hG', hit, F', N', hnw, hJ, hi, rfl⟩
  have hl' := F'.keep _ _ hlo
  by_cases hlt' : i < vs.length
  · refine wpAny_pyNext_list_item hit (isList_lst hl') (x := vs[i]) (by simp [hlt']) fun h₁ hit₁ hs₁ => ?_
    have old : ∀ b o, h₀.get? b = some o → b ≠ I := fun b o e hb => by rw [hb, hIn] at e; cases e
    have F₁ : Fr h₀ env.locals h₁ m' := ⟨F'.ns.at' fun o e => hs₁.extBut _ o (Ne.symm hIL) e, fun b o e => hs₁.extBut b o (old b o e) (F'.keep b o e), F'.above⟩
    have N₁ : News h₀ env.locals h₁ news' := fun p hp => ⟨hs₁.extBut _ _ (hnw p hp) (N' p hp).1, (N' p hp).2⟩
    refine wpAny_assign_Name (wpAny_storeName_local hx F₁.ns (fun h₂ hn₂ hs₂ => ?_) hp)
    have F₂ := F₁.set hn₂ hs₂
    have N₂ := N₁.set hs₂
    obtain ⟨itO, hito, hitr⟩ := hit₁
    have hito₂ : h₂.get? I = some itO := (hs₂.2 I hIL).trans hito
    have N₃ : News h₀ env.locals h₂ ((I, itO) :: news') := fun p hp => by
      rcases List.mem_cons.mp hp with rfl | hp
      · exact ⟨hito₂, hIL, hIn⟩
      · exact N₂ p hp
    refine wpAny_passesOwn hE (wpAny_mono (turn i vs[i] m' news' h₂ gs _ I itO (by simp [hlt']) hJ hG' hnw F₂ N₃) (fun f s₃ q => ?_) fun _ _ e => e)
    obtain ⟨rfl, h₃, gs₃, tk₃, m₃, news₃, rfl, hG₃, F₃, N₃', ho, hJ₃⟩ := q
    exact ⟨vs.length + 1 - (i + 1), by omega, h₃, gs₃, tk₃, m₃, news₃, i + 1, rfl, hG₃, ⟨itO, (N₃' _ (.head _)).1, hitr⟩, F₃, fun p hp => N₃' p (List.mem_append_right _ hp), fun p hp => ho p hp _ (.head _), hJ₃, hlt', rfl⟩
  · have hin : i = vs.length := by omega
    subst hin
    refine wpAny_pyNext_list_end hh hit (isList_lst hl') (by simp) fun h₁ hk₁ => wpAny_execs_nil ?_
    have old : ∀ b o, h₀.get? b = some o → b ≠ I := fun b o e hb => by rw [hb, hIn] at e; cases e
    exact done m' news' h₁ gs tk hJ hG' ⟨F'.ns.at' fun o e => hk₁ _ o (Ne.symm hIL) e, fun b o e => hk₁ b o (old b o e) (F'.keep b o e), F'.above⟩ (fun p hp => ⟨hk₁ _ _ (hnw p hp) (N' p hp).1, (N' p hp).2⟩)
end

theorem zz_18 : True := by
  w_top off
  trivial
theorem strsAre_of : ∀ (vs : List Value) (ps : Nat → Str), (∀ (j : Nat) (v : Value), vs[j]? = some v → ∃ t, v = Value.str (ps j) t) → StrsAre vs ((List.range vs.length).map ps)
  | [], _, _ => .nil
  | v :: vs, ps, h => by
    obtain ⟨t, rfl⟩ := h 0 v rfl
    rw [List.length_cons, List.range_succ_eq_map, List.map_cons, List.map_map]
    exact .cons _ _ (strsAre_of vs (ps ∘ Nat.succ) fun j v hj => h (j + 1) v hj)
theorem strsAre_len : ∀ {vs : List Value} {st : List Str}, StrsAre vs st → vs.length = st.length
  | _, _, StrsAre.nil => rfl
  | _, _, @StrsAre.cons _ _ _ _ h => by rw [List.length_cons, List.length_cons, strsAre_len h]
section
variable {w : World} {d : Nat} {outer : List Env} {gs : Option (List Code)} {E : Value → Shared → Prop} {s : Shared} {h₀ : Heap} {L : Addr} {m : Str → Option Value} {news : List (Addr × Obj)}
theorem list_anc {u : Nat} {Q : Value → Shared → Prop} {a C : Addr} {n : Nat} {ps : Nat → Str} (hdp : d < 900) (F : Fr h₀ L s.heap m) (N : News h₀ L s.heap news)
    (hg : GenAt w d outer gs a C n ps s) (hG : AllBare s.gens) (hCL : L < C) (hCn : ∀ p ∈ news, p.1 ≠ C) (hn : n ≤ 100)
    (hQ : ∀ h' gs' tk l vs k, Fr h₀ L h' m → News h₀ L h' ((l, lst vs k) :: news) → (∀ p ∈ news, p.1 < l) → StrsAre vs ((List.range n).map ps) → AllBare gs' → Q (.ref l) ⟨h', gs', s.drawn, tk, s.os⟩) :
    wpAny (model PySem.Challenge.rw_il0206_01.row.prog w) ⟨none, d, some outer, gs, u⟩ (call (.type "list") [.ref a]) Q E s := by
  obtain ⟨g, fp, hf, haC, haS, hCS, hfp, hcs, hcC⟩ := hg
  refine call_list_gen (walks_fun (A := Around.in1 (Around.in1 ⟨none, d, some outer, gs, u⟩)) rfl a g C fp n _ haC (by show d < _; unfold recursionLimit; omega) hcs hcC) (fun i s hs => hs.1.typeIs) (hf _) ?_ (.head _) (fun s' acc c' hm hS' hacc => ?_) (by unfold sizeLine; omega)
  · intro b hb
    rcases List.mem_cons.mp hb with rfl | hb
    · exact haS
    rcases List.mem_cons.mp hb with rfl | hb
    · exact hCS
    · exact hfp b hb
  · have hg' := AllBare.moved (a := s.gens) hG hm.gens
    obtain ⟨h', gs', dr', tk', os'⟩ := s'
    obtain rfl : dr' = s.drawn := hm.drawn
    obtain rfl : os' = s.os := hm.os
    have hLs : L < s.heap.objs.size := F.ns.lt
    have hmn : ∀ b, b ≠ C → b < s.heap.objs.size → b ∉ s.heap.objs.size :: [C] := fun b h1 h2 hb => by
      rcases List.mem_cons.mp hb with e | hb
      · exact absurd h2 (e ▸ Nat.lt_irrefl _)
      · exact h1 (List.mem_singleton.mp hb)
    have F' : Fr h₀ L h' m := (F.push { cls := .type "list", data := .seq #[] }).moved (s := { s with heap := s.heap.push { cls := .type "list", data := .seq #[] } }) hm fun b hb => by
      rcases List.mem_cons.mp hb with rfl | hb
      · exact hLs
      · rw [List.mem_singleton.mp hb]; exact hCL
    have hsz := hacc.1
    have hl : StrsAre acc.toList ((List.range n).map ps) := by
      have h1 := strsAre_of acc.toList ps fun j v hj => hacc.2 j v (by rw [← Array.getElem?_toList]; exact hj)
      rwa [Array.length_toList, hsz] at h1
    refine hQ h' gs' tk' s.heap.objs.size acc.toList c' F' (fun p hp => ?_) (fun p hp => Heap.lt_size (N p hp).1) hl hg'
    rcases List.mem_cons.mp hp with rfl | hp
    · refine ⟨?_, Ne.symm (Nat.ne_of_lt hLs), ?_⟩
      · rw [hS']
      · cases e : h₀.get? s.heap.objs.size with
        | none => rfl
        | some o => exact absurd (Nat.lt_of_lt_of_le (Heap.lt_size e) (Nat.le_trans F.above (Nat.le_of_lt hLs))) (Nat.lt_irrefl _)
    · exact ⟨hm.heap _ _ (hmn _ (hCn p hp) (Heap.lt_size (N p hp).1)) (Heap.get?_push_of_some _ (N p hp).1), (N p hp).2⟩
end

theorem zz_19 : True := by
  w_top off
  trivial
theorem anc_above {h₀ h : Heap} {L C : Addr} {m : Str → Option Value} (F : Fr h₀ L h m) (hC : h.objs.size ≤ C) : L < C := Nat.lt_of_lt_of_le F.ns.lt hC
theorem anc_off {h₀ h : Heap} {L C : Addr} {news : List (Addr × Obj)} (N : News h₀ L h news) (hC : h.objs.size ≤ C) : ∀ p ∈ news, p.1 ≠ C := fun p hp => Nat.ne_of_lt (Nat.lt_of_lt_of_le (Heap.lt_size (N p hp).1) hC)
/-- what a text must be like for its places -/
def TF (t : Str) (pl : List Str) : Prop := ∃ (cs : List Str) (ps : Nat → Str) (n : Nat),
  t.length ≤ 900 ∧ Txt.startswith t (Str.ofString "/") = false ∧ (Str.ofString "/" ++ t).length ≤ 1000 ∧ (Str.ofString "/" ++ t).length ≠ 0 ∧
  Txt.slice (Str.ofString "/" ++ t) none (some 1) = Str.ofString "/" ∧ Txt.slice (Str.ofString "/" ++ t) (some 1) (some 2) = Str.ofString "." ∧ Txt.split (Txt.slice (Str.ofString "/" ++ t) (some 1) none) (Str.ofString "/") = cs ∧
  (Str.ofString "/" ++ Txt.join (Str.ofString "/") (cs.foldl normStep [])).length ≤ 1000 ∧ Txt.rstripChars (Str.ofString "/" ++ Txt.join (Str.ofString "/") (cs.foldl normStep [])) (Str.ofString "/") = ps 0 ∧
  (∀ i, i < n → splitHead (ps i) = ps (i + 1)) ∧ (∀ i, i < n → (Txt.rstripChars (ps i) (Str.ofString "/")).length ≠ 0) ∧ (Txt.rstripChars (ps n) (Str.ofString "/")).length = 0 ∧ (∀ i, i ≤ n → (ps i).length ≤ 1000) ∧
  n ≤ 100 ∧ ((List.range n).map ps).reverse = pl

theorem zz_20 : True := by
  w_top off
  trivial
theorem updF_upd {d : Addr} {o : Obj} {l : List (Addr × Obj)} {g : Obj → List (Addr × Obj)} (U : UpdF d o l g) (o' : Obj) : Upd d o o' l (g o') := by
  induction U with
  | head h => exact .head h
  | tail h _ ih => exact .tail h ih
theorem strsAre_reverse {vs : List Value} {st : List Str} (h : StrsAre vs st) : StrsAre vs.reverse st.reverse := by
  induction h with
  | nil => exact .nil
  | cons y t _ ih => rw [List.reverse_cons, List.reverse_cons]; exact ih.append' (.cons _ _ .nil)
section
variable {prog : Program} {w : World} {A : Around} {E : Value → Shared → Prop} {s : Shared} {h₀ : Heap} {L l D b : Addr} {m : Str → Option Value} {news : List (Addr × Obj)} {value slice : PySem.Expr} {vs ws : List Value} {vk : Value} {ops : List Value} {Q : Value → Shared → Prop} {n n2 : Nat} {g : Obj → List (Addr × Obj)}
theorem rev_S (F : Fr h₀ L s.heap m) (N : News h₀ L s.heap news) (hm : (l, W.listOf vs.toArray n) ∈ news) (pk : IsPart vk (some (-1)))
    (h : ∀ D h', Fr h₀ L h' m → News h₀ L h' ((D, W.listOf vs.reverse.toArray 0) :: news) → (∀ p ∈ news, p.1 < D) → Q (.ref D) { s with heap := h' })
    (hs : subscripted slice false (.ref l) (.ref s.heap.objs.size) = operate ops (getItem (.ref l) (.ref s.heap.objs.size))) (ht : ∀ r, letTemporaryGo value (.ref l) r = pure ()) (hz : vs.length ≤ 100000) :
    wpAny (model prog w) A (subscriptTail value slice (.ref l) (.ref s.heap.objs.size)) Q E { s with heap := s.heap.push { cls := .type "slice", data := .fields #[.none, .none, vk] } } :=
  krv_lit (its := vs.toArray) (zs := vs.reverse) F N (News.isList N hm) pk rfl h hs ht (by rw [List.size_toArray, sizeLine_eq]; omega)
theorem ext_S (F : Fr h₀ L s.heap m) (N : News h₀ L s.heap news) (hb : (b, W.listOf ws.toArray n2) ∈ news) (U : UpdF D (W.listOf vs.toArray n) news g) (hz : vs.length + ws.length ≤ 100000)
    (h : ∀ h' k, Fr h₀ L h' m → News h₀ L h' (g (W.listOf (vs ++ ws).toArray k)) → Q .none { s with heap := h' }) : wpAny (model prog w) A (call (.builtin "list.extend") [.ref D, .ref b]) Q E s := by
  have hd : ¬(!(vs.toArray).isEmpty && Builtin.List.listTooLong (vs.toArray.size + ws.toArray.size)) = true := by
    have : Builtin.List.listTooLong (vs.toArray.size + ws.toArray.size) = false := by
      unfold Builtin.List.listTooLong
      rw [List.size_toArray, List.size_toArray, sizeLine_eq]
      exact decide_eq_false (by omega)
    rw [this, Bool.and_false]; exact Bool.false_ne_true
  have hz1 : (vs.toArray).toList.length ≤ sizeLine := by rw [sizeLine_eq]; simp; omega
  have hz2 : vs.toArray.size + ws.toArray.size ≤ sizeLine + 1 := by rw [sizeLine_eq]; simp; omega
  cases ws with
  | nil => exact kxn_extend F N hb rfl (updF_upd U _) hd hz1 hz2 fun h' F' N' => h h' n F' (by rw [List.append_nil]; exact N')
  | cons x ws => exact kl_extend (l := vs ++ x :: ws) F N hb (by simp) (by simp) (updF_upd U _) hd hz1 hz2 fun h' F' N' => h h' _ F' N'
end

local macro_rules | `(tactic| walk_at "call ref") => `(tactic| (k_here; (with_reducible show wpAny _ _ (call (Value.ref 188) [Value.str _ _, Value.str _ _]) _ _ _); (rename Fr _ _ _ _ => kF); (rename News _ _ _ _ => kN); refine wpAny_call (join_spec (wd_call (by k_asm) (by k_asm) (by k_asm) kF rfl rfl) (by (try dsimp only); omega) (by omega) (by assumption) ?_); intro h' tk' t1' hk'; (have F' := Fr.kept kF hk'); (have N' := news_kept kN hk'); clear kF kN hk'; (try dsimp only)))
local macro_rules | `(tactic| walk_at "call ref") => `(tactic| (k_here; (with_reducible show wpAny _ _ (call (Value.ref 202) [Value.str _ _]) _ _ _); (rename Fr _ _ _ _ => kF); (rename News _ _ _ _ => kN); refine wpAny_call (normpath_spec (wd_call (by k_asm) (by k_asm) (by k_asm) kF rfl rfl) (by (try dsimp only); omega) (by assumption) (by assumption) (by assumption) (by assumption) (by assumption) ?_); intro h' tk' t1' hk'; (have F' := Fr.kept kF hk'); (have N' := news_kept kN hk'); clear kF kN hk'; (try dsimp only)))
local macro_rules | `(tactic| walk_at "call ref") => `(tactic| (k_here; (with_reducible show wpAny _ _ (call (Value.ref 49) [Value.str _ _]) _ _ _); (rename Fr _ _ _ _ => kF); (rename News _ _ _ _ => kN); refine wpAny_call (ancestry_spec (wd_call (by k_asm) (by k_asm) (by k_asm) kF rfl rfl) (by (try dsimp only); omega) (by assumption) (by assumption) (by assumption) (by assumption) (by assumption) (by assumption) ?_); intro h' tk' a' C' gn' hk' hC' hgb' hgen'; (have hCL' := anc_above kF hC'); (have hCn' := anc_off kN hC'); (have F' := Fr.kept kF hk'); (have N' := news_kept kN hk'); (rename AllBare _ => hG'); (replace hG' := AllBare.push hG' hgb'); clear kF kN hk'; (try dsimp only)))
local macro_rules | `(tactic| walk_at "call type:list") => `(tactic| (k_here; (with_reducible show wpAny _ _ (call (Value.type "list") [Value.ref _]) _ _ _); (rename Fr _ _ _ _ => kF); (rename News _ _ _ _ => kN); (rename AllBare _ => hG'); (rename GenAt _ _ _ _ _ _ _ _ _ => hgen'); (rename _ < _ => hCL'); (rename (∀ p : Addr × Obj, p ∈ (_ : List (Addr × Obj)) → p.1 ≠ (_ : Addr)) => hCn'); refine list_anc (by (try dsimp only); omega) kF kN hgen' hG' hCL' hCn' (by assumption) ?_; clear hgen' hCL' hCn' hG' kF kN; intro h' gs' tk' l' vs' k' F' N' l1 hSA' hG'; (try k_lt l1); (have hln' := strsAre_len hSA'; simp only [List.length_map, List.length_range] at hln'); (try dsimp only)))
local macro_rules | `(tactic| walk_at "subscriptTail Name Slice ref ref") => `(tactic| (k_here; (with_reducible show wpAny _ _ (subscriptTail _ (PySem.Expr.Slice none none (some _) _) (Value.ref _) (Value.ref _)) _ _ _); k_dflt (refine' rev_S ?F ?N ?l ?k ?_ ?s ?t ?z; (case F => k_asm); (case N => k_asm); (case l => k_mem); (case k => exact IsPart.int _ _); (case s => with_unfolding_all rfl); (case t => kmk_pure); (case z => first | omega | (rename (List.map _ _ = Txt.split _ _) => hsp1'; (have hsp2' := strsAre_len (‹StrsAre (strValues _) _›)); rw [hsp1'] at hsp2'; omega))); intro D' h' F' N' l1; (try k_lt l1)))
local macro_rules | `(tactic| walk_at "call builtin:list.extend") => `(tactic| (k_here; (with_reducible show wpAny _ _ (call (Value.builtin _) [Value.ref _, Value.ref _]) _ _ _); k_dflt (refine' ext_S ?F ?N ?b ?U ?z ?_; (case F => k_asm); (case N => k_asm); (case b => k_mem); (case U => k_updF); (case z => ((try simp only [List.length_reverse]); omega)); k_whole); intro h' k' F' N'; (try dsimp only at N')))

theorem zz_21 : True := by
  w_top off
  trivial
/-- a built-in bound to its class or its object -/
def bnd (f : String) (self : Value) : Obj := { cls := .type "builtin_function_or_method", data := .fields #[.builtin f, self] }
section
variable {prog : Program} {w : World} {M : Model} {A : Around} {E : Value → Shared → Prop} {s : Shared} {f : String} {self : Value}
theorem bnd_free : ((bnd f self).cls != Value.type "method") = true := by
  show (Value.type "builtin_function_or_method" != _) = true
  decide
theorem bnd_kind : ((bnd f self).cls == Value.type "method" || (bnd f self).cls == Value.type "builtin_function_or_method" || (bnd f self).cls == Value.type "method-wrapper") = true := by
  have q : ((bnd f self).cls == Value.type "builtin_function_or_method") = true := by
    show (Value.type "builtin_function_or_method" == _) = true
    decide
  simp only [q, Bool.or_true, Bool.true_or]
theorem keeper_bnd {u : Addr} {Q : Keeper → Shared → Prop} (ho : s.heap.get? u = some (bnd f self)) (h : Q .machine s) : wpAny M A (keeperOf (.ref u)) Q E s := by
  unfold keeperOf
  exact wpAny_bind (wpAny_load ho (KFB.if_so bnd_free (wpAny_pure h)))
theorem callWith_bnd {pos : Pos} {u : Addr} {first : List Value} {env : Env} {e : Expr} {rest : List Expr} {Q : Value → Shared → Prop}
    (h : wpAny M A (spliced (backTo pos (starEach (e :: rest) env))) (fun vs t => t.heap.get? u = some (bnd f self) ∧ wpAny M A (call (.ref u) (first ++ vs)) Q E t) E s)
    (he : starEach (e :: rest) env = (false, eval e env) :: starEach rest env := by rfl) (hplain : (backTo pos (starEach rest env)).any (·.1) = false := by rfl) :
    wpAny M A (callWith pos (.ref u) first (backTo pos (starEach (e :: rest) env)) []) Q E s := by
  have plain : (backTo pos (starEach (e :: rest) env)).any (·.1) = false := by
    rw [he]
    exact hplain
  rw [he] at h plain ⊢
  unfold callWith
  refine wpAny_bind (wpAny_holding (wpAny_mono (evalArgs_plain (f := .ref u) (Q := fun x t => t.heap.get? u = some (bnd f self) ∧ wpAny M A (call (.ref u) (first ++ x.pos) x.kw) Q E t) h) ?_ fun _ _ q => q))
  rintro x t ⟨ho, hc⟩
  refine wpAny_bind (wpAny_standAt ?_)
  rw [plain]
  refine wpAny_bind (m := keeperOf _) (keeper_bnd ho ?_)
  exact wpAny_bind (wpAny_mono hc (fun v t hv => wpAny_bind (wpAny_holding (wpAny_point (wpAny_pure hv)))) fun _ _ q => q)
theorem call_bnd {x : Addr} {args : List Value} {Q : Value → Shared → Prop} (ho : s.heap.get? x = some (bnd f self)) (hc : checkBoundCall f ⟨self :: args, []⟩ = pure ()) (hq : (Code.builtin f ⟨self :: args, []⟩).quiet = true)
    (h : codeAny (model prog w) A (.builtin f ⟨self :: args, []⟩) (wants Q E) s) : wpAny (model prog w) A (call (.ref x) args) Q E s := by
  refine wpAny_call (codeAny_of_tree ?_)
  change wpAny _ A.in1 (callAny (.ref x) ⟨args, []⟩) _ _ s
  unfold callAny
  exact wpAny_bind (wpAny_load ho (KFB.if_so bnd_kind (KFB.if_so bnd_free (wpAny_bind (wpAny_of_eq hc (wpAny_bind (wpAny_pure (wpAny_pure ⟨hq, h⟩))))))))
end

theorem zz_21b : True := by
  w_top off
  trivial
theorem fk_entry : entryFor table "dict.fromkeys" = some Builtin.«dict.fromkeys» := entryFor_of_tree (by kernel_rfl)
theorem fk_entry_loop : entryFor table "dict.fromkeys.loop" = some Builtin.«dict.fromkeys.loop» := entryFor_of_tree (by kernel_rfl)
theorem fk_quiet {as : Args} : (Code.builtin "dict.fromkeys" as).quiet = true := Code.quiet_builtin _ (by decide +kernel)
theorem fk_quiet_loop {as : Args} : (Code.builtin "dict.fromkeys.loop" as).quiet = true := Code.quiet_builtin _ (by decide +kernel)
theorem fk_check (a : Value) : checkBoundCall "dict.fromkeys" ⟨[.type "dict", a], []⟩ = pure () := by first | kernel_rfl | rfl
theorem fk_type : isType (.type "dict") = pure true := by first | rfl | kernel_rfl | (unfold isType; rw [isSubtype_type]; kernel_rfl)
theorem fk_typeCall : checkTypeCall "dict" ⟨[], []⟩ = pure () := by kernel_rfl
theorem fk_newCall : checkBuiltinCall "dict.__new__" ⟨[.type "dict"], []⟩ = pure () := by kernel_rfl
section
variable {prog : Program} {w : World} {A : Around} {E : Value → Shared → Prop} {s : Shared} {R : Result → Shared → Prop}
theorem fk_new {Q₁ : Value → Shared → Prop} (h : Q₁ (.ref s.heap.objs.size) { s with heap := s.heap.push { cls := .type "dict", data := .dict #[] } }) :
    codeAny (model prog w) A (.call (.builtin "dict.__new__") ⟨[.type "dict"], []⟩) (wants Q₁ E) s := by
  refine codeAny_call_builtin F.kt_plain_dict_new F.kt_entry_dict_new (wpAny_of_eq fk_newCall ?_)
  have hsub := F.kt_sub_dict
  have hmro := F.kt_mro_dict
  obtain ⟨hp, g, d, tk, os⟩ := s
  unfold Builtin.«dict.__new__»
  wp_walk
  exact h
theorem fk_call_dict {Q : Value → Shared → Prop} (h : Q (.ref s.heap.objs.size) { s with heap := s.heap.push { cls := .type "dict", data := .dict #[] } }) :
    wpAny (model prog w) A (call (.type "dict") []) Q E s := by
  refine callType_codes (Q₁ := fun obj s₁ => obj = .ref s.heap.objs.size ∧ s₁ = { s with heap := s.heap.push { cls := .type "dict", data := .dict #[] } }) F.kt_called_dict fk_typeCall F.entry_dict_init (fk_new ⟨rfl, rfl⟩) ?_
  rintro obj s₁ ⟨rfl, rfl⟩
  have hnew : (s.heap.push { cls := .type "dict", data := .dict #[] }).DictOf (strKind prog w) s.heap.objs.size [] := Heap.DictOf.new s.heap
  refine ⟨hnew.typeIs, ?_, ?_⟩
  · unfold argsOk; kernel_rfl
  unfold Builtin.«dict.__init__»
  refine wpAny_bind ?_
  unfold Builtin.Dict.selfAndRest
  refine wpAny_bind (wpAny_notOrdered_dict hnew.typeIs ?_)
  show wpAny _ _ (pure (s.heap.objs.size, [])) _ _ _
  refine wpAny_pure ?_
  show wpAny _ _ (Builtin.Dict.addKeywords s.heap.objs.size [] >>= fun _ => ret .none) _ _ _
  refine wpAny_bind (wpAny_pure (wpAny_pure ⟨rfl, h⟩))
/-- the loop of dict.fromkeys over a list of strs -/
theorem fk_loop (hh : A.handled = none) {d I l : Addr} {vs : List Value} {ys : List Str} {n : Nat} (hId : I ≠ d) (hld : l ≠ d) (hlI : l ≠ I) (hvs : StrsAre vs ys) (hlen : vs.length ≤ 100000) : ∀ (k i : Nat) (s : Shared) (kvs : List (Str × Value)), vs.length - i = k → i ≤ vs.length →
    s.heap.IsListIter I l i → s.heap.get? l = some (lst vs n) → s.heap.DictOf (strKind prog w) d kvs → kvs.length ≤ i →
    (∀ h' tk, h'.DictOf (strKind prog w) d ((ys.drop i).foldl (fun m k => stored m k .none) kvs) → (∀ b o, b ≠ d → b ≠ I → s.heap.get? b = some o → h'.get? b = some o) → R (.ok (.ret (.ref d))) { s with heap := h', toks := tk }) →
    codeAny (model prog w) A (.builtin "dict.fromkeys.loop" ⟨[.ref d, .ref I, .none], []⟩) R s := by
  intro k
  induction k with
  | zero =>
    intro i s kvs hk hi hit hl hd hle hR
    obtain rfl : i = vs.length := by omega
    refine codeAny_builtin fk_entry_loop ?_
    unfold Builtin.«dict.fromkeys.loop»
    refine wpAny_bind (wpAny_pyNext_list_end hh hit (isList_lst hl) (by simp) fun h' hk' => ?_)
    refine wpAny_pure (hR h' s.toks ?_ fun b o _ hb e => hk' b o hb e)
    rw [List.drop_eq_nil_of_le (by rw [strsAre_len hvs]; exact Nat.le_refl _)]
    exact hd.extBut hk' (Ne.symm hId)
  | succ k ih =>
    intro i s kvs hk hi hit hl hd hle hR
    have hlt : i < vs.length := by omega
    refine codeAny_builtin fk_entry_loop ?_
    unfold Builtin.«dict.fromkeys.loop»
    refine wpAny_bind (wpAny_pyNext_list_item hit (isList_lst hl) (x := vs[i]) (by simp [hlt]) fun h₁ hit₁ hs₁ => ?_)
    obtain ⟨x, xt, hx, hxi⟩ := hvs.item i vs[i] (by simp [hlt])
    rw [hx]
    have hd₁ := hd.sameBut hs₁ (Ne.symm hId)
    refine wpAny_bind (wpAny_typeOf hd₁.typeIs ?_)
    refine KFB.if_so (by decide) ?_
    refine wpAny_bind (wpAny_pure (wpAny_bind (wpAny_holding (wpAny_dictSet_pairs (strKind_is _ _ _ _) hd₁ (fun h₂ hd₂ hs₂ => ?_) (by rw [sizeLine_eq]; omega)))))
    refine wpAny_pure ⟨fk_quiet_loop, ?_⟩
    obtain ⟨hxl, hxe⟩ := List.getElem?_eq_some_iff.mp hxi
    refine ih (i + 1) _ (stored kvs x .none) (by omega) hlt (hit₁.at fun o e => hs₂.extBut I o hId e) (hs₂.extBut l _ hld (hs₁.extBut l _ hlI hl)) hd₂ ?_ fun h' tk hd' hk' => ?_
    · unfold stored
      split
      · rw [List.length_map]; omega
      · rw [List.length_append, List.length_singleton]; omega
    · refine hR h' tk ?_ fun b o h1 h2 e => hk' b o h1 h2 (hs₂.extBut b o h1 (hs₁.extBut b o h2 e))
      rw [List.drop_eq_getElem_cons hxl, List.foldl_cons, hxe]
      exact hd'
/-- dict.fromkeys of a list of strs -/
theorem fk_call (hh : A.handled = none) {x l : Addr} {vs : List Value} {ys : List Str} {n : Nat} {Q : Value → Shared → Prop} (ho : s.heap.get? x = some (bnd "dict.fromkeys" (.type "dict"))) (hl : s.heap.get? l = some (lst vs n)) (hvs : StrsAre vs ys) (hlen : vs.length ≤ 100000)
    (hQ : ∀ h' tk d, (∀ b o, s.heap.get? b = some o → h'.get? b = some o) → s.heap.objs.size ≤ d → h'.DictOf (strKind prog w) d (ys.foldl (fun m k => stored m k .none) []) → Q (.ref d) { s with heap := h', toks := tk }) :
    wpAny (model prog w) A (call (.ref x) [.ref l]) Q E s := by
  refine call_bnd ho (fk_check _) fk_quiet (codeAny_builtin fk_entry ?_)
  unfold Builtin.«dict.fromkeys»
  refine wpAny_bind (wpAny_of_eq fk_type ?_)
  refine KFB.if_not (by decide) ?_
  refine wpAny_bind (wpAny_of_eq F.kt_sub_dict ?_)
  refine KFB.if_not (by decide) ?_
  refine KFB.if_not rfl ?_
  refine wpAny_bind (wpAny_rule (wpAny_bind (wpAny_pure ?_)))
  refine wpAny_bind (fk_call_dict ?_)
  have hnew : (s.heap.push { cls := .type "dict", data := .dict #[] }).DictOf (strKind prog w) s.heap.objs.size [] := Heap.DictOf.new s.heap
  have hl' : (s.heap.push { cls := .type "dict", data := .dict #[] }).get? l = some (lst vs n) := Heap.get?_push_of_some _ hl
  have hlt := Heap.lt_size hl
  refine wpAny_holding ?_
  refine wpAny_bind (wpAny_typeOf (isList_lst hl').typeIs ?_)
  refine wpAny_bind (wpAny_typeOf hnew.typeIs ?_)
  refine KFB.if_not (by decide) ?_
  refine wpAny_bind (wpAny_typeOf hnew.typeIs ?_)
  refine KFB.if_not (by decide) ?_
  refine wpAny_bind (wpAny_pyIter_list (isList_lst hl') ?_)
  refine wpAny_pure ⟨fk_quiet_loop, ?_⟩
  have hsz : (s.heap.push { cls := .type "dict", data := .dict #[] }).objs.size = s.heap.objs.size + 1 := Heap.size_push ..
  refine fk_loop hh (l := l) (n := n) (I := (s.heap.push { cls := .type "dict", data := .dict #[] }).objs.size) (by rw [hsz]; exact Nat.ne_of_gt (Nat.lt_succ_self _)) (Nat.ne_of_lt hlt) (by rw [hsz]; exact Nat.ne_of_lt (Nat.lt_succ_of_lt hlt)) hvs hlen _ 0 _ [] rfl (Nat.zero_le _) ⟨_, Heap.get?_push_size _ rfl, rfl, rfl⟩ (Heap.get?_push_of_some _ hl') (hnew.push _) (Nat.le_refl _) fun h' tk hd' hk' => ?_
  exact hQ h' tk s.heap.objs.size (fun b o e => hk' b o (Nat.ne_of_lt (Heap.lt_size e)) (by rw [hsz]; exact Nat.ne_of_lt (Nat.lt_succ_of_lt (Heap.lt_size e))) (Heap.get?_push_of_some _ (Heap.get?_push_of_some _ e))) (Nat.le_refl _) hd'
end
/-- each once, in the order of the first -/
def dedup (ys : List Str) : List Str := ys.foldl (fun acc k => if acc.any (fun z => decide (z = k)) then acc else acc ++ [k]) []
theorem stored_keys (m : List (Str × Value)) (k : Str) (v : Value) : (stored m k v).map (·.1) = if (m.map (·.1)).any (fun z => decide (z = k)) then m.map (·.1) else m.map (·.1) ++ [k] := by
  have e : (m.map (·.1)).any (fun z => decide (z = k)) = m.any (fun kv => decide (kv.1 = k)) := by rw [List.any_map]; rfl
  unfold stored
  rw [e]
  split
  · rw [List.map_map]
    refine List.map_congr_left fun a _ => ?_
    simp only [Function.comp]
    split <;> rfl
  · rw [List.map_append]; rfl
theorem stored_fold (ys : List Str) : ∀ m : List (Str × Value), (ys.foldl (fun m k => stored m k .none) m).map (·.1) = ys.foldl (fun acc k => if acc.any (fun z => decide (z = k)) then acc else acc ++ [k]) (m.map (·.1)) := by
  induction ys with
  | nil => intro m; rfl
  | cons y ys ih => intro m; rw [List.foldl_cons, List.foldl_cons, ih, stored_keys]
theorem stored_len (ys : List Str) : ∀ m : List (Str × Value), (ys.foldl (fun m k => stored m k .none) m).length ≤ m.length + ys.length := by
  induction ys with
  | nil => intro m; exact Nat.le_refl _
  | cons y ys ih =>
    intro m
    rw [List.foldl_cons]
    have h1 := ih (stored m y .none)
    have h2 : (stored m y .none).length ≤ m.length + 1 := by
      unfold stored
      split
      · rw [List.length_map]; omega
      · rw [List.length_append, List.length_singleton]; omega
    rw [List.length_cons]; omega
theorem keysS_of : ∀ (kvs : List (Str × Value)) (C : List Value → Prop), (∀ vs, StrsAre vs (kvs.map (·.1)) → C vs) → KdlKeysS kvs C
  | [], _, h => h [] .nil
  | q :: r, C, h => fun t => keysS_of r _ fun vs hvs => h _ (.cons _ t hvs)
section
variable {prog : Program} {w : World} {A : Around} {E : Value → Shared → Prop} {s : Shared} {h₀ : Heap} {L x l : Addr} {m : Str → Option Value} {news : List (Addr × Obj)} {vs : List Value} {ys : List Str} {n : Nat} {Q : Value → Shared → Prop}
theorem fk_news (hh : A.handled = none) (F : Fr h₀ L s.heap m) (N : News h₀ L s.heap news) (ho : s.heap.get? x = some (bnd "dict.fromkeys" (.type "dict"))) (hl : (l, W.listOf vs.toArray n) ∈ news) (hvs : StrsAre vs ys) (hlen : vs.length ≤ 100000)
    (hQ : ∀ h' tk d o, Fr h₀ L h' m → News h₀ L h' ((d, o) :: news) → (∀ p ∈ news, p.1 < d) → L < d → o.IsDictOf (strKind prog w) (ys.foldl (fun m k => stored m k .none) []) → Q (.ref d) { s with heap := h', toks := tk }) :
    wpAny (model prog w) A (call (.ref x) [.ref l]) Q E s :=
  fk_call hh ho (N _ hl).1 hvs hlen fun h' tk d hk hd hdo => by
    obtain ⟨o, hoo, hod⟩ := Heap.dictOf_iff.mp hdo
    have hn : s.heap.get? d = none := by
      cases e : s.heap.get? d with
      | none => rfl
      | some o => exact absurd (Nat.lt_of_lt_of_le (Heap.lt_size e) hd) (Nat.lt_irrefl _)
    exact hQ h' tk d o (F.kept hk) (news_more F N hk hn hoo) (fun p hp => Nat.lt_of_lt_of_le (Heap.lt_size (N p hp).1) hd) (Nat.lt_of_lt_of_le F.ns.lt hd) hod
theorem keys_list {d : Addr} {o : Obj} (hh : A.handled = none) (F : Fr h₀ L s.heap m) (N : News h₀ L s.heap news) (hp : (d, o) ∈ news) (hd : o.IsDictOf (strKind prog w) (ys.foldl (fun m k => stored m k .none) [])) (lo : (d == sysModules) = false) (hn : ys.length ≤ 100000)
    (hQ : ∀ B c h' tk vs', Fr h₀ L h' m → News h₀ L h' ((B, W.listOf vs'.toArray c) :: news) → (∀ q ∈ news, q.1 < B) → StrsAre vs' (dedup ys) → Q (.ref B) { s with heap := h', toks := tk }) :
    wpAny (model prog w) A (call (.type "list") [.ref d]) Q E s :=
  kdl_list_keysS hh F N hp hd lo (by have := stored_len ys []; simp only [List.length_nil, Nat.zero_add] at this; omega) fun B c h' tk => keysS_of _ _ fun vs hvs F' N' hlt => hQ B c h' tk vs F' N' hlt (by rw [stored_fold] at hvs; exact hvs)
end

theorem zz_23 : True := by
  w_top off
  trivial
section
variable {w : World} {s : Shared} {mg mb : Str → Option Value} {mean : ExcName → Option Value} {d u : Nat} {gs : Option (List Code)} {base : Heap} {outer : List Env} {R : Result → Shared → Prop}
theorem places_spec (W : Wd w mg mb mean base outer ⟨none, d, some outer, gs, u⟩ s.heap) (hdp : d < 600) {l : Addr} {vs : List Value} {n : Nat} {ts : List Str} {pls : List (List Str)} (hlo : s.heap.get? l = some (lst vs n)) (hts : StrsAre vs ts)
    (hlen : ts.length ≤ 20) (hpn : pls.length ≤ ts.length) (hpl : ∀ (i : Nat) (t : Str), ts[i]? = some t → ∃ pl, pls[i]? = some pl ∧ TF t pl) (hG : AllBare s.gens)
    (hR : ∀ h' gs' tk l' vs' n', (∀ b o, s.heap.get? b = some o → h'.get? b = some o) → s.heap.get? l' = none → h'.get? l' = some (lst vs' n') → StrsAre vs' (dedup pls.flatten) → AllBare gs' →
      R (.ok (.ret (.ref l'))) ⟨h', gs', s.drawn, tk, s.os⟩) :
    codeAny (model PySem.Challenge.rw_il0206_01.row.prog w) ⟨none, d, some outer, gs, u⟩ (.call (.ref 214) ⟨[.ref l], []⟩) R s := by
  change codeAny _ _ _ (Ends R) s
  obtain ⟨T, KX, K0⟩ := W
  refine codeAny_call_def (by unfold recursionLimit; dsimp only; omega) (KX 214 _ (by rfl)) rfl T.nolimit (codeRec_of KX (by k_is)) rfl (BindsTo.of_eq rfl) (by decide) (locs rfl) ?_
  intro h₁ hns hk
  have F : Fr s.heap s.heap.objs.size h₁ (fun x => List.lookup x [(Str.ofString "texts", Value.ref l)]) := ⟨hns, hk, Nat.le_refl _⟩
  have N : News s.heap s.heap.objs.size h₁ [] := News.nil
  clear hns hk
  change wpAny _ (Around.deeper _ (envOf _ _ _ _ _)) (execs _ (envOf _ _ _ _ _)) _ _ ⟨h₁, s.gens, s.drawn, _, s.os⟩
  repeat' ((fail_if_success (with_reducible show wpAny _ _ (exec (Stmt.For _ _ _ _ _) _) _ _ _)); first | (k_unfold; (try dsimp only)) | walk1 | (dsimp only; walk1))
  (rename Fr s.heap s.heap.objs.size _ _ => F9)
  (rename News s.heap s.heap.objs.size _ _ => N9)
  rename_i lp _ _ _
  generalize hm0 : (fun (y : Str) => ite (y = Str.ofString "places") _ _) = m₀ at F9
  refine For_gens s.heap rfl rfl rfl hlo (fun i m nw => ∃ vs n, nw = [(lp, W.listOf vs.toArray n)] ∧ StrsAre vs (pls.take i).flatten ∧ vs.length ≤ 100 * i ∧ ∀ y, y ≠ Str.ofString "text" → m y = m₀ y) ?_ ?_ ?_
  · subst hm0
    tb_start
    exact ⟨_, _, rfl, rfl, rfl, hG, F9, N9, [], 0, rfl, .nil, Nat.le_refl _, fun _ _ => rfl⟩
  · clear hG
    rintro i v m₁ news₁ h gs' tk I itO hv ⟨vs', n', rfl, hvs, hvn, hm⟩ hG hoff F8 N8
    have hin : i < vs.length := (List.getElem?_eq_some_iff.mp hv).1
    have hvl := strsAre_len hts
    have n1 := neN (hoff _ (.head _))
    obtain ⟨x, xt, rfl, hx⟩ := hts.item i v hv
    obtain ⟨pl, hpli, cs, ps, np, t1, t2, t3, t4, t5, t6, t7, t8, t9, t10, t11, t12, t13, t14, t15⟩ := hpl i x hx
    have hst : (pls.take (i + 1)).flatten = (pls.take i).flatten ++ pl := by
      rw [List.take_add_one, hpli, Option.toList_some, List.flatten_append]; simp
    rw [hst]
    have e8 : (fun y => if y = Str.ofString "text" then some (Value.str x xt) else m₁ y) = fun y => if y = Str.ofString "text" then some (Value.str x xt) else m₀ y := by
      funext y
      by_cases hy : y = Str.ofString "text"
      · rw [if_pos hy, if_pos hy]
      · rw [if_neg hy, if_neg hy, hm y hy]
    rw [e8] at F8
    subst hm0
    generalize (pls.take i).flatten = st at hvs
    clear F9 N9 hm e8 hst hpl
    change Fr s.heap s.heap.objs.size h _ at F8
    change News s.heap s.heap.objs.size h [_, _] at N8
    dsimp only at F8
    tb_start
    (rename Fr s.heap s.heap.objs.size _ _ => F7); (rename News s.heap s.heap.objs.size _ _ => N7); (rename AllBare _ => G7); (rename StrsAre _ (List.map _ _) => hs7)
    refine ⟨rfl, _, _, _, _, [(lp, _)], rfl, G7, F7, fun p hp => N7 p (.tail _ (.tail _ hp)), fun p hp q hq => ?_, _, _, rfl, ?_, ?_, fun y hy => by simp only [if_neg hy]⟩
    · rw [List.mem_singleton.mp hp, List.mem_singleton.mp hq]; exact n1
    · rw [← t15]; exact hvs.append' (strsAre_reverse hs7)
    · rw [List.length_append, List.length_reverse]; omega
  · rintro m₁ news₁ h gs' tk ⟨vs', n', rfl, hvs, hvn, hm⟩ hG' F8 N8
    have hvl := strsAre_len hts
    have htk : (pls.take vs.length) = pls := List.take_of_length_le (by rw [hvl]; exact hpn)
    rw [htk] at hvs
    have e8 : m₁ = fun y => if y = Str.ofString "text" then m₁ y else m₀ y := by
      funext y
      by_cases hy : y = Str.ofString "text"
      · rw [if_pos hy]
      · rw [if_neg hy, hm y hy]
    rw [e8] at F8
    generalize m₁ (Str.ofString "text") = cv at F8
    subst hm0
    change Fr s.heap s.heap.objs.size h _ at F8
    change News s.heap s.heap.objs.size h _ at N8
    dsimp only at F8
    clear F9 N9 hm e8
    have h50 : s.heap.get? 50 = some (bnd "dict.fromkeys" (.type "dict")) := KX 50 _ (by rfl)
    have hsm : sysModules < s.heap.objs.size := Nat.lt_trans (show sysModules < 50 by decide) (Heap.lt_size h50)
    have hvn2 := strsAre_len hvs
    repeat' ((fail_if_success (with_reducible show wpAny _ _ (callWith _ (Value.ref 50) _ _ _) _ _ _)); first | (k_unfold; (try dsimp only)) | walk1 | (dsimp only; walk1))
    refine callWith_bnd (f := "dict.fromkeys") (self := .type "dict") ?_
    repeat' ((fail_if_success (with_reducible show _ ∧ _)); first | (k_unfold; (try dsimp only)) | walk1 | (dsimp only; walk1))
    refine fk_news rfl F8 N8 (F8.keep _ _ h50) (.head _) hvs (by omega) fun h' tk' dd o F' N' hlt hLd hod => ?_
    have hds : (dd == sysModules) = false := beq_false_of_ne (Nat.ne_of_gt (Nat.lt_trans hsm hLd))
    clear N8 F8
    repeat' ((fail_if_success (with_reducible show wpAny _ _ (call (Value.type "list") _) _ _ _)); first | (k_unfold; (try dsimp only)) | walk1 | (dsimp only; walk1))
    refine keys_list rfl F' N' (.head _) hod hds (by omega) fun B c h2 tk2 ws F2 N2 hlt2 hws => ?_
    clear F' N'
    tb_start
    (rename Fr s.heap s.heap.objs.size _ _ => F7)
    exact hR _ _ _ B ws c F7.keep (N2 _ (.head _)).2.2 (N2 _ (.head _)).1 hws hG'
end

theorem zz_24 : True := by
  w_top off
  trivial
open PyProof.Rows.LCg in
section
variable {prog : Program} {w : World} {A : Around} {E : Value → Shared → Prop} {s : Shared} {h₀ : Heap} {L : Addr} {m : Str → Option Value} {env : Env}
/-- a turn's end: the source, the comprehension's frame and the list stand as before, and the rest of the ledger is as J has it -/
def JEnd (h₀ : Heap) (L : Addr) (m : Str → Option Value) (s₁ : Shared) (I : Addr) (oI : Obj) (C : Addr) (oC : Obj) (D : Addr) (oD : Obj) (J : List (Addr × Obj) → Prop) (s₂ : Shared) : Prop :=
  ∃ h' tk nw, s₂ = { s₁ with heap := h', toks := tk } ∧ Fr h₀ L h' m ∧ News h₀ L h' ((I, oI) :: (C, oC) :: (D, oD) :: nw) ∧ Off3 I C D nw ∧ J nw
/-- every turn keeps the invariant J (of the turn's number, the items so far, the ledger); ct: the one test, if there is one -/
def JTurn (prog : Program) (w : World) (A : Around) (h₀ : Heap) (L : Addr) (m : Str → Option Value) (env : Env) (ct : Option Expr) (elt : Expr) (x : Str) (scope : Scope) (cl : List (Str × Addr)) (s : Shared) (n : Nat) (P : Nat → Value → Prop) (J : Nat → List Value → List (Addr × Obj) → Prop) : Prop :=
  ∀ i v ys nw I oI C oC D mc h tk (X : Value → Shared → Prop), i < n → P i v → J i ys nw → ys.length ≤ i → NsObj oC mc → mc x = some v → Fr h₀ L h m → News h₀ L h ((I, oI) :: (C, oC) :: (D, LCg.lst ys) :: nw) → Off3 I C D nw → ((@Ne Nat I C) ∧ (@Ne Nat I D) ∧ (@Ne Nat C D)) →
    match ct with
    | none => wpAny (model prog w) A (eval elt (compEnvC scope cl C env)) (fun y => JEnd h₀ L m { s with heap := h, toks := tk } I oI C oC D (LCg.lst ys) (J (i + 1) (ys ++ [y]))) X { s with heap := h, toks := tk }
    | some c => wpAny (model prog w) A (isTrue c (compEnvC scope cl C env) (eval c (compEnvC scope cl C env))) (fun b t =>
        if b = true then wpAny (model prog w) A (eval elt (compEnvC scope cl C env)) (fun y => JEnd h₀ L m { s with heap := h, toks := tk } I oI C oC D (LCg.lst ys) (J (i + 1) (ys ++ [y]))) X t
        else JEnd h₀ L m { s with heap := h, toks := tk } I oI C oC D (LCg.lst ys) (J (i + 1) ys) t) X { s with heap := h, toks := tk }
theorem JEnd.comp {s₁ s₂ : Shared} {I C D : Addr} {oI oC oD : Obj} {J S : List (Addr × Obj) → Prop} {rest : Value → List (Addr × Obj) → Prop} {y : Value} (q : JEnd h₀ L m s₁ I oI C oC D oD J s₂) (f : ∀ nw, J nw → S nw) (g : ∀ nw, J nw → rest y nw) :
    CompEnd h₀ L m s₁ I oI C oC D oD S rest y s₂ := by
  obtain ⟨h', tk, nw, e, F, N, o, j⟩ := q
  exact ⟨h', tk, nw, e, F, N, o, f nw j, g nw j⟩
section
variable {elt : Expr} {x : Str} {scope : Scope} {cl : List (Str × Addr)} {n : Nat} {P : Nat → Value → Prop} {J : Nat → List Value → List (Addr × Obj) → Prop} {S : List (Addr × Obj) → Prop} {Fin : List Value → List (Addr × Obj) → Prop}
/-- the library's chain of turns from the invariant: no test -/
theorem turns_of (hS : ∀ i ys nw, J i ys nw → S nw) (hF : ∀ ys nw, J n ys nw → Fin ys nw) (R : JTurn prog w A h₀ L m env none elt x scope cl s n P J) :
    ∀ (k i : Nat) (ys : List Value) (nw : List (Addr × Obj)), i + k = n → ys.length ≤ i → J i ys nw → CompRest prog w A h₀ L m env elt x scope cl s S P Fin k i ys nw
  | 0, i, ys, nw, e, _, j => CompRest.zero (hF ys nw ((show i = n from e) ▸ j))
  | k + 1, i, ys, nw, e, l, j => CompRest.succ fun v I oI C oC D mc h tk X hv hC hx F N o d =>
    wpAny_mono (R i v ys nw I oI C oC D mc h tk X (by omega) hv j l hC hx F N o d)
      (fun y _ q => q.comp (hS _ _) fun nw' => turns_of hS hF R k (i + 1) (ys ++ [y]) nw' (by omega) (by rw [List.length_append, List.length_singleton]; omega)) fun _ _ q => q
/-- .. with one test -/
theorem turns_of_test {c : Expr} (hS : ∀ i ys nw, J i ys nw → S nw) (hF : ∀ ys nw, J n ys nw → Fin ys nw) (R : JTurn prog w A h₀ L m env (some c) elt x scope cl s n P J) :
    ∀ (k i : Nat) (ys : List Value) (nw : List (Addr × Obj)), i + k = n → ys.length ≤ i → J i ys nw → LCt.CompRestT prog w A h₀ L m env c elt x scope cl s S P Fin k i ys nw
  | 0, i, ys, nw, e, _, j => LCt.CompRestT.zero (hF ys nw ((show i = n from e) ▸ j))
  | k + 1, i, ys, nw, e, l, j => LCt.CompRestT.succ fun v I oI C oC D mc h tk X hv hC hx F N o d =>
    wpAny_mono (R i v ys nw I oI C oC D mc h tk X (by omega) hv j l hC hx F N o d)
      (fun b t q => by
        cases b with
        | true =>
          rw [if_pos rfl] at q ⊢
          exact wpAny_mono q (fun y _ q => q.comp (hS _ _) fun nw' => turns_of_test hS hF R k (i + 1) (ys ++ [y]) nw' (by omega) (by rw [List.length_append, List.length_singleton]; omega)) fun _ _ q => q
        | false =>
          rw [if_neg Bool.false_ne_true] at q ⊢
          exact q.comp (hS _ _) fun nw' => turns_of_test hS hF R k (i + 1) ys nw' (by omega) (by omega)) fun _ _ q => q
end
/-- what a comprehension over a list asks of its source -/
def JSrc (prog : Program) (w : World) (A : Around) (h₀ : Heap) (L : Addr) (m : Str → Option Value) (env : Env) (ct : Option Expr) (elt : Expr) (x : Str) (scope : Scope) (cl : List (Str × Addr)) (Q : Value → Shared → Prop) (xv : Value) (s₁ : Shared) : Prop :=
  ∃ ax its nw J, xv = .ref ax ∧ A.handled = none ∧ Fr h₀ L s₁.heap m ∧ News h₀ L s₁.heap nw ∧ (∀ i ys nw, J i ys nw → SrcAt h₀ ax its nw) ∧ its.size ≤ sizeLine ∧ J 0 [] nw ∧
    (∀ h, JTurn prog w A h₀ L m env ct elt x scope cl { s₁ with heap := h } its.size (fun i v => its[i]? = some v) J) ∧
    (∀ D h tk ys nw, J its.size ys nw → Fr h₀ L h m → News h₀ L h ((D, LCg.lst ys) :: nw) → Off1 D nw → Q (.ref D) { s₁ with heap := h, toks := tk })
/-- .. over a range of steps of one -/
def JSrcR (prog : Program) (w : World) (A : Around) (h₀ : Heap) (L : Addr) (m : Str → Option Value) (env : Env) (ct : Option Expr) (elt : Expr) (x : Str) (scope : Scope) (cl : List (Str × Addr)) (Q : Value → Shared → Prop) (xv : Value) (s₁ : Shared) : Prop :=
  ∃ r a b t u v n nw J, xv = .ref r ∧ A.handled = none ∧ Fr h₀ L s₁.heap m ∧ News h₀ L s₁.heap nw ∧ IsRange s₁.heap r a b 1 t u v ∧ Builtin.Range.small a b 1 = true ∧ Builtin.Range.rangeSize a b 1 = ((n : Nat) : Int) ∧ n ≤ sizeLine ∧ J 0 [] nw ∧
    (∀ h, JTurn prog w A h₀ L m env ct elt x scope cl { s₁ with heap := h } n (fun i v => ∃ t, v = .int (a + (i : Int)) t) J) ∧
    (∀ D h tk ys nw, J n ys nw → Fr h₀ L h m → News h₀ L h ((D, LCg.lst ys) :: nw) → Off1 D nw → Q (.ref D) { s₁ with heap := h, toks := tk })
section
variable {c elt iter : Expr} {x : Str} {px : Pos} {scope : Scope} {cl : List (Str × Addr)} {pos : Pos} {Q : Value → Shared → Prop} (F₀ : Fr h₀ L s.heap m)
    (k1 : closureFor scope env = pure cl) (k2 : ∀ y ∈ scope.names, y.2 ≠ .cell) (k3 : scope.kind = .function) (k4 : ∀ y ∈ scope.names, y.2 = .local → scope.names.lookup y.1 = some .local) (k5 : scope.names.lookup x = some .local)
include F₀ k1 k2 k3 k4 k5
theorem comp_list0 (h : wpAny (model prog w) A (eval iter env) (JSrc prog w A h₀ L m env none elt x scope cl Q) E s) (k6 : ∀ x, foldedSetIterable iter env x = pure x := by intro _; rfl) :
    wpAny (model prog w) A (eval (.ListComp elt [⟨.Name x px, iter, [], 0⟩] scope pos) env) Q E s := by
  refine ListComp_U F₀ k1 k2 k3 k4 k5 (wpAny_mono h ?_ fun _ _ q => q) k6
  rintro xv s₁ ⟨ax, its, nw, J, e, hh, F, N, hs, hz, j, R, fin⟩
  refine .inl ⟨ax, its, nw, e, hh, F, N, hs _ _ _ j, hz, ?_⟩
  rintro _ ⟨g, rfl⟩
  exact turns_of hs (fun ys nw j D h tk F N o => fin D h tk ys nw j F N o) (R g) _ 0 [] nw (Nat.zero_add _) (Nat.le_refl _) j
theorem comp_list1 (h : wpAny (model prog w) A (eval iter env) (JSrc prog w A h₀ L m env (some c) elt x scope cl Q) E s) (k6 : ∀ x, foldedSetIterable iter env x = pure x := by intro _; rfl) :
    wpAny (model prog w) A (eval (.ListComp elt [⟨.Name x px, iter, [c], 0⟩] scope pos) env) Q E s := by
  refine LCt.ListComp_T F₀ k1 k2 k3 k4 k5 (wpAny_mono h ?_ fun _ _ q => q) k6
  rintro xv s₁ ⟨ax, its, nw, J, e, hh, F, N, hs, hz, j, R, fin⟩
  refine .inl ⟨ax, its, nw, e, hh, F, N, hs _ _ _ j, hz, ?_⟩
  rintro _ ⟨g, rfl⟩
  exact turns_of_test hs (fun ys nw j D h tk F N o => fin D h tk ys nw j F N o) (R g) _ 0 [] nw (Nat.zero_add _) (Nat.le_refl _) j
theorem comp_range0 (h : wpAny (model prog w) A (eval iter env) (JSrcR prog w A h₀ L m env none elt x scope cl Q) E s) (k6 : ∀ x, foldedSetIterable iter env x = pure x := by intro _; rfl) :
    wpAny (model prog w) A (eval (.ListComp elt [⟨.Name x px, iter, [], 0⟩] scope pos) env) Q E s := by
  refine ListComp_U F₀ k1 k2 k3 k4 k5 (wpAny_mono h ?_ fun _ _ q => q) k6
  rintro xv s₁ ⟨r, a, b, t, u, v, n, nw, J, e, hh, F, N, hr, h1, h2, hz, j, R, fin⟩
  refine .inr ⟨r, a, b, t, u, v, n, nw, e, hh, F, N, hr, h1, h2, hz, ?_⟩
  rintro _ ⟨g, rfl⟩
  exact turns_of (fun _ _ _ _ => trivial) (fun ys nw j D h tk F N o => fin D h tk ys nw j F N o) (R g) _ 0 [] nw (Nat.zero_add _) (Nat.le_refl _) j
theorem comp_range1 (h : wpAny (model prog w) A (eval iter env) (JSrcR prog w A h₀ L m env (some c) elt x scope cl Q) E s) (k6 : ∀ x, foldedSetIterable iter env x = pure x := by intro _; rfl) :
    wpAny (model prog w) A (eval (.ListComp elt [⟨.Name x px, iter, [c], 0⟩] scope pos) env) Q E s := by
  refine LCt.ListComp_T F₀ k1 k2 k3 k4 k5 (wpAny_mono h ?_ fun _ _ q => q) k6
  rintro xv s₁ ⟨r, a, b, t, u, v, n, nw, J, e, hh, F, N, hr, h1, h2, hz, j, R, fin⟩
  refine .inr ⟨r, a, b, t, u, v, n, nw, e, hh, F, N, hr, h1, h2, hz, ?_⟩
  rintro _ ⟨g, rfl⟩
  exact turns_of_test (fun _ _ _ _ => trivial) (fun ys nw j D h tk F N o => fin D h tk ys nw j F N o) (R g) _ 0 [] nw (Nat.zero_add _) (Nat.le_refl _) j
end
end

theorem zz_25 : True := by
  w_top off
  trivial
/-- a row: a list of strs, in the base or in the ledger -/
def RowAt (h₀ : Heap) (own : List (Addr × Obj)) (v : Value) (r : List Str) : Prop := ∃ a ws k, v = .ref a ∧ StrsAre ws r ∧ (h₀.get? a = some (lst ws k) ∨ (a, lst ws k) ∈ own)
inductive RowsAt (h₀ : Heap) (own : List (Addr × Obj)) : List Value → List (List Str) → Prop
  | nil : RowsAt h₀ own [] []
  | cons {v : Value} {r : List Str} {vs : List Value} {rs : List (List Str)} : RowAt h₀ own v r → RowsAt h₀ own vs rs → RowsAt h₀ own (v :: vs) (r :: rs)
theorem RowAt.mono {h₀ h₀' : Heap} {own own' : List (Addr × Obj)} {v : Value} {r : List Str} (hk : ∀ b o, h₀.get? b = some o → h₀'.get? b = some o) (hs : ∀ p ∈ own, p ∈ own') : RowAt h₀ own v r → RowAt h₀' own' v r
  | ⟨a, ws, k, e, hw, h⟩ => ⟨a, ws, k, e, hw, h.elim (fun x => .inl (hk _ _ x)) fun x => .inr (hs _ x)⟩
theorem RowsAt.mono {h₀ h₀' : Heap} {own own' : List (Addr × Obj)} (hk : ∀ b o, h₀.get? b = some o → h₀'.get? b = some o) (hs : ∀ p ∈ own, p ∈ own') {vs : List Value} {rs : List (List Str)} (x : RowsAt h₀ own vs rs) : RowsAt h₀' own' vs rs := by
  induction x with
  | nil => exact .nil
  | cons h _ ih => exact .cons (h.mono hk hs) ih
theorem RowsAt.append {h₀ : Heap} {own : List (Addr × Obj)} {vs ws : List Value} {rs qs : List (List Str)} (x : RowsAt h₀ own vs rs) (y : RowsAt h₀ own ws qs) : RowsAt h₀ own (vs ++ ws) (rs ++ qs) := by
  induction x with
  | nil => exact y
  | cons h _ ih => exact .cons h ih
theorem RowsAt.length {h₀ : Heap} {own : List (Addr × Obj)} {vs : List Value} {rs : List (List Str)} (x : RowsAt h₀ own vs rs) : vs.length = rs.length := by
  induction x with
  | nil => rfl
  | cons _ _ ih => rw [List.length_cons, List.length_cons, ih]
def rowStep (st : List Str × Nat) (p : Str) : List Str × Nat :=
  if p = Str.ofString ".." then (st.1, st.2 + 1) else if p = Str.ofString "" ∨ p = Str.ofString "." then st else if st.2 > 0 then (st.1, st.2 - 1) else (p :: st.1, st.2)
def rowOf (ps : List Str) : List Str := (ps.reverse.foldl rowStep ([], 0)).1
/-- the rows that a row adds -/
def rowsAdd (rs : List (List Str)) (r : List Str) : List (List Str) := rs ++ (((List.range r.length).map fun k => r.take (k + 1)).filter fun q => !decide (q ∈ rs))
theorem allLt_mem {d : Nat} : ∀ {l : List (Addr × Obj)}, AllLt d l → ∀ p ∈ l, @LT.lt Nat _ p.1 d
  | [], _, _, h => nomatch h
  | _ :: _, x, p, h => by
    rcases List.mem_cons.mp h with rfl | h
    · exact x.1
    · exact allLt_mem x.2 p h
section
variable {prog : Program} {w : World} {A : Around} {E : Value → Shared → Prop} {s : Shared} {h₀ : Heap} {L a b : Addr} {m : Str → Option Value} {news : List (Addr × Obj)} {vs ws : List Value} {n k : Nat} {Q : Value → Shared → Prop}
theorem add_S (F : Fr h₀ L s.heap m) (N : News h₀ L s.heap news) (ha : (a, W.listOf vs.toArray n) ∈ news) (hb : (b, W.listOf ws.toArray k) ∈ news) (hz : vs.length + ws.length ≤ 100000)
    (h : ∀ D h', Fr h₀ L h' m → News h₀ L h' ((D, W.listOf (vs ++ ws).toArray 0) :: news) → (∀ p ∈ news, p.1 < D) → Q (.ref D) { s with heap := h' }) : wpAny (model prog w) A (binaryOp .Add (.ref a) (.ref b)) Q E s :=
  kmk_add_lit F N (News.isList N ha) (News.isList N hb) (by simp) h (by rw [sizeLine_eq]; simp; omega)
theorem len_S {Q : Value → Shared → Prop} (N : News h₀ L s.heap news) (ha : (a, W.listOf vs.toArray n) ∈ news) (hz : vs.length ≤ 100000) (h : ∀ t k, Q (.int (vs.length : Nat) t) { s with toks := k }) : wpAny (model prog w) A (call (.builtin "len") [.ref a]) Q E s :=
  KM.len_K N ha (by simp) (by have : (100000 : Nat) < 2 ^ 62 := by decide
                              omega) (h _ _)
end
theorem row_up {row : List Str} {debt : Nat} {x : Str} (h : (x == Str.ofString "..") = true) : rowStep (row, debt) x = (row, debt + 1) := by unfold rowStep; rw [if_pos (eq_of_beq h)]
theorem row_dot {row : List Str} {debt : Nat} {x : Str} (h : (x == Str.ofString "..") = false) (h2 : (x != Str.ofString ".") = false) : rowStep (row, debt) x = (row, debt) := by
  unfold rowStep; rw [if_neg (fun e => by rw [e] at h; simp at h), if_pos (.inr (by simpa using h2))]
theorem row_empty {row : List Str} {debt : Nat} {x : Str} (h : (x == Str.ofString "..") = false) (h2 : (x != Str.ofString "") = false) : rowStep (row, debt) x = (row, debt) := by
  unfold rowStep; rw [if_neg (fun e => by rw [e] at h; simp at h), if_pos (.inl (by simpa using h2))]
theorem row_pay {row : List Str} {debt : Nat} {x : Str} (h : (x == Str.ofString "..") = false) (h1 : (x != Str.ofString "") = true) (h2 : (x != Str.ofString ".") = true) (h3 : 0 < (debt : Int)) : rowStep (row, debt) x = (row, debt - 1) := by
  unfold rowStep; rw [if_neg (fun e => by rw [e] at h; simp at h), if_neg (by simp at h1 h2; simp [h1, h2]), if_pos (by show debt > 0; omega)]
theorem row_add {row : List Str} {debt : Nat} {x : Str} (h : (x == Str.ofString "..") = false) (h1 : (x != Str.ofString "") = true) (h2 : (x != Str.ofString ".") = true) (h3 : ¬ 0 < (debt : Int)) : rowStep (row, debt) x = (x :: row, debt) := by
  unfold rowStep; rw [if_neg (fun e => by rw [e] at h; simp at h), if_neg (by simp at h1 h2; simp [h1, h2]), if_neg (by show ¬ debt > 0; omega)]

theorem zz_25b : True := by
  w_top off
  trivial
open SeqAt
section
variable {α : Type}
inductive All2 (P : Value → α → Prop) : List Value → List α → Prop
  | nil : All2 P [] []
  | cons {v : Value} {x : α} {vs : List Value} {xs : List α} : P v x → All2 P vs xs → All2 P (v :: vs) (x :: xs)
theorem All2.length {P : Value → α → Prop} {vs : List Value} {xs : List α} (h : All2 P vs xs) : vs.length = xs.length := by
  induction h with
  | nil => rfl
  | cons _ _ ih => rw [List.length_cons, List.length_cons, ih]
theorem All2.get {P : Value → α → Prop} {vs : List Value} {xs : List α} (h : All2 P vs xs) : ∀ (j : Nat) (v : Value), vs[j]? = some v → ∃ x, xs[j]? = some x ∧ P v x := by
  induction h with
  | nil => intro j v hv; simp at hv
  | cons hp _ ih =>
    intro j v hv
    cases j with
    | zero => simp at hv; subst hv; exact ⟨_, rfl, hp⟩
    | succ j => simpa using ih j v (by simpa using hv)
theorem All2.mono {P Q : Value → α → Prop} (hpq : ∀ v x, P v x → Q v x) {vs : List Value} {xs : List α} (h : All2 P vs xs) : All2 Q vs xs := by
  induction h with
  | nil => exact .nil
  | cons hp _ ih => exact .cons (hpq _ _ hp) ih
theorem All2.append {P : Value → α → Prop} {vs ws : List Value} {xs ys : List α} (h : All2 P vs xs) (k : All2 P ws ys) : All2 P (vs ++ ws) (xs ++ ys) := by
  induction h with
  | nil => exact k
  | cons hp _ ih => exact .cons hp ih
theorem All2.func {P : Value → α → Prop} (hf : ∀ v x y, P v x → P v y → x = y) {vs : List Value} {xs ys : List α} (h : All2 P vs xs) : All2 P vs ys → xs = ys := by
  induction h generalizing ys with
  | nil => intro k; cases k; rfl
  | cons hp _ ih => intro k; cases k with
    | cons hq kr => rw [hf _ _ _ hp hq, ih kr]
def LstOf (P : Value → α → Prop) (h : Heap) (v : Value) (xs : List α) : Prop := ∃ a ws, v = .ref a ∧ h.IsList a (List.toArray ws) ∧ All2 P ws xs
theorem isList_inj {h : Heap} {a : Addr} {vs ws : List Value} (x : h.IsList a vs.toArray) (y : h.IsList a ws.toArray) : vs = ws := by
  obtain ⟨o, e, _, n, d⟩ := x
  obtain ⟨o', e', _, n', d'⟩ := y
  rw [e] at e'; cases e'
  rw [d] at d'
  have := (Data.seq.inj d').1
  simpa using congrArg Array.toList this
theorem LstOf.func {P : Value → α → Prop} (hf : ∀ v x y, P v x → P v y → x = y) {h : Heap} {v : Value} {xs ys : List α} : LstOf P h v xs → LstOf P h v ys → xs = ys
  | ⟨a, ws, e, hl, k⟩, ⟨b, us, e', hl', k'⟩ => by
    rw [e] at e'; cases e'
    have := isList_inj hl hl'
    subst this
    exact k.func hf k'
theorem LstOf.keeps {P P' : Value → α → Prop} {h h' : Heap} (hk : ∀ b o, h.get? b = some o → h'.get? b = some o) (hp : ∀ v x, P v x → P' v x) {v : Value} {xs : List α} : LstOf P h v xs → LstOf P' h' v xs
  | ⟨a, ws, e, ⟨o, ho, r⟩, k⟩ => ⟨a, ws, e, ⟨o, hk a o ho, r⟩, k.mono hp⟩
end
/-- a str -/
def IsStr (v : Value) (x : Str) : Prop := ∃ t, v = .str x t
theorem IsStr.func : ∀ v x y, IsStr v x → IsStr v y → x = y := fun v x y ⟨t, e⟩ ⟨u, e'⟩ => by rw [e] at e'; cases e'; rfl
theorem strs_all2 {vs : List Value} {xs : List Str} (h : StrsAre vs xs) : All2 IsStr vs xs := by
  induction h with
  | nil => exact .nil
  | cons y t _ ih => exact .cons ⟨t, rfl⟩ ih
theorem all2_strs {vs : List Value} {xs : List Str} (h : All2 IsStr vs xs) : StrsAre vs xs := by
  induction h with
  | nil => exact .nil
  | cons hp _ ih => obtain ⟨t, rfl⟩ := hp; exact .cons _ _ ih
section
variable {α : Type} [DecidableEq α] {A : Around} {s : Shared}
theorem str_eqAt : ∀ v w x y, IsStr v x → IsStr w y → EqAt A s v w (decide (x = y)) := fun v w x y ⟨t, e⟩ ⟨u, e'⟩ prog w E Q hq => by
  subst e e'
  refine eqBool_str ?_
  rw [show (x == y) = decide (x = y) from by by_cases h : x = y <;> simp [h]]
  exact hq
theorem range_all_eq {P : Value → α → Prop} : ∀ {vs ws : List Value} {xs ys : List α}, All2 P vs xs → All2 P ws ys → vs.length = ws.length → ∀ e : Nat → Bool, (∀ (j : Nat) (x y : α), xs[j]? = some x → ys[j]? = some y → e j = decide (x = y)) → (List.range vs.length).all e = decide (xs = ys)
  | _, _, _, _, .nil, .nil, _, e, _ => by simp
  | _, _, _, _, @All2.cons _ _ v x vs xs hp h, @All2.cons _ _ w y ws ys hq k, hl, e, he => by
    have ih := range_all_eq h k (by simpa using hl) (fun j => e (j + 1)) fun j x y hx hy => he (j + 1) x y (by simpa using hx) (by simpa using hy)
    rw [List.length_cons, List.range_succ_eq_map, List.all_cons, List.all_map]
    have e0 := he 0 x y rfl rfl
    rw [show (List.range vs.length).all (e ∘ Nat.succ) = (List.range vs.length).all (fun j => e (j + 1)) from rfl, ih, e0]
    by_cases h1 : x = y <;> by_cases h2 : xs = ys <;> simp [h1, h2]
theorem lst_rcAt {P : Value → α → Prop} (heq : ∀ v w x y, P v x → P w y → EqAt A.in1 s v w (decide (x = y))) (hu : A.units < cLine) {v w : Value} {xs ys : List α} :
    LstOf P s.heap v xs → LstOf P s.heap w ys → RcAt A s v w (decide (xs = ys))
  | ⟨a, vs, e1, hl, h⟩, ⟨b, ws, e2, hl2, k⟩ => by
    subst e1 e2
    by_cases hlen : vs.length = ws.length
    · have hsz : vs.toArray.size = ws.toArray.size := by simpa using hlen
      have := RcAt.lists (A := A) (s := s) (e := fun j => match xs[j]?, ys[j]? with | some x, some y => decide (x = y) | _, _ => true) hl hl2 hsz hu fun j h1 h2 => by
        have h1' : j < vs.length := by simpa using h1
        have h2' : j < ws.length := by simpa using h2
        obtain ⟨x, hx, hpx⟩ := h.get j vs[j] (by simp [h1'])
        obtain ⟨y, hy, hpy⟩ := k.get j ws[j] (by simp [h2'])
        simp only [hx, hy]
        exact heq _ _ _ _ hpx hpy
      have hr := range_all_eq h k hlen (fun j => match xs[j]?, ys[j]? with | some x, some y => decide (x = y) | _, _ => true) fun j x y hx hy => by simp only [hx, hy]
      rw [show vs.toArray.size = vs.length from by simp, hr] at this
      exact this
    · have hne : xs ≠ ys := fun e => hlen (by rw [h.length, k.length, e])
      rw [decide_eq_false hne]
      exact RcAt.lists_lengths hl hl2 (by simpa using hlen) hu
theorem lst_eqAt {P : Value → α → Prop} (hf : ∀ v x y, P v x → P v y → x = y) (heq : ∀ v w x y, P v x → P w y → EqAt A.in1 s v w (decide (x = y))) (hu : A.units < cLine) {v w : Value} {xs ys : List α}
    (h : LstOf P s.heap v xs) (k : LstOf P s.heap w ys) : EqAt A s v w (decide (xs = ys)) := by
  obtain ⟨a, vs, rfl, hl, h'⟩ := id h
  obtain ⟨b, ws, rfl, hl2, k'⟩ := id k
  by_cases hab : a = b
  · subst hab
    have := LstOf.func hf h k
    rw [decide_eq_true this]
    exact EqAt.same _
  · exact EqAt.of_refs hab (lst_rcAt heq hu h k)
variable {prog : Program} {w : World} {E : Value → Shared → Prop}
theorem lst_eq {P : Value → α → Prop} {v u : Value} {xs ys : List α} {Q : Value → Shared → Prop} (heq : ∀ v w x y, P v x → P w y → EqAt A.in1 s v w (decide (x = y))) (hu : A.units < cLine) (h : LstOf P s.heap v xs) (k : LstOf P s.heap u ys)
    (hQ : Q (.bool (decide (xs = ys))) s) : wpAny (model prog w) A (compareOp .Eq v u) Q E s := lst_rcAt heq hu h k prog w E Q hQ
open Classical in
theorem any_eq {P : Value → α → Prop} (hf : ∀ v x y, P v x → P v y → x = y) (q : α) : ∀ {vs : List Value} {xs : List α}, All2 P vs xs → vs.any (fun v => decide (∃ x, P v x ∧ x = q)) = decide (q ∈ xs)
  | _, _, .nil => by simp
  | _, _, @All2.cons _ _ v x vs xs hp h => by
    rw [List.any_cons, any_eq hf q h]
    have e : (decide (∃ y, P v y ∧ y = q)) = decide (x = q) := by
      by_cases hx : x = q
      · rw [decide_eq_true hx, decide_eq_true ⟨x, hp, hx⟩]
      · rw [decide_eq_false hx, decide_eq_false fun ⟨y, hy, e⟩ => hx (by rw [hf _ _ _ hp hy, e])]
    rw [e]
    by_cases hx : x = q
    · simp [hx]
    · have : q ≠ x := fun e => hx e.symm
      simp [hx, this]
open Classical in
theorem lst_notIn {P : Value → α → Prop} (hf : ∀ v x y, P v x → P v y → x = y) (heq : ∀ v w x y, P v x → P w y → EqAt A.in1 s v w (decide (x = y))) {v u : Value} {q : α} {xs : List α} {Q : Value → Shared → Prop} (hx : P v q) (k : LstOf P s.heap u xs) {b : Bool} (hb : b = true ↔ q ∈ xs)
    (hQ : Q (.bool (!b)) s) : wpAny (model prog w) A (compareOp .NotIn v u) Q E s := by
  obtain ⟨c, ws, rfl, hl, k'⟩ := k
  refine notIn_listAt (fun v => decide (∃ x, P v x ∧ x = q)) hl (fun y hy => ?_) ?_
  · obtain ⟨j, hj, rfl⟩ := List.mem_iff_getElem.mp (by simpa using hy)
    obtain ⟨x, hxx, hp⟩ := k'.get j ws[j] (by simp [hj])
    have e : (decide (∃ y, P ws[j] y ∧ y = q)) = decide (x = q) := by
      by_cases hx : x = q
      · rw [decide_eq_true hx, decide_eq_true ⟨x, hp, hx⟩]
      · rw [decide_eq_false hx, decide_eq_false fun ⟨y, hy, e⟩ => hx (by rw [hf _ _ _ hp hy, e])]
    rw [e]
    exact heq _ _ _ _ hp hx
  · have := any_eq hf q k'
    rw [List.any_toArray, this]
    have e : b = decide (q ∈ xs) := by
      by_cases h : q ∈ xs
      · rw [decide_eq_true h]; exact hb.mpr h
      · rw [decide_eq_false h]; exact Bool.eq_false_iff.mpr fun h' => h (hb.mp h')
    exact e ▸ hQ
open Classical in
theorem lst_in {P : Value → α → Prop} (hf : ∀ v x y, P v x → P v y → x = y) (heq : ∀ v w x y, P v x → P w y → EqAt A.in1 s v w (decide (x = y))) {v u : Value} {q : α} {xs : List α} {Q : Value → Shared → Prop} (hx : P v q) (k : LstOf P s.heap u xs) {b : Bool} (hb : b = true ↔ q ∈ xs)
    (hQ : Q (.bool b) s) : wpAny (model prog w) A (compareOp .In v u) Q E s := by
  obtain ⟨c, ws, rfl, hl, k'⟩ := k
  refine in_listAt (fun v => decide (∃ x, P v x ∧ x = q)) hl (fun y hy => ?_) ?_
  · obtain ⟨j, hj, rfl⟩ := List.mem_iff_getElem.mp (by simpa using hy)
    obtain ⟨x, hxx, hp⟩ := k'.get j ws[j] (by simp [hj])
    have e : (decide (∃ y, P ws[j] y ∧ y = q)) = decide (x = q) := by
      by_cases hx : x = q
      · rw [decide_eq_true hx, decide_eq_true ⟨x, hp, hx⟩]
      · rw [decide_eq_false hx, decide_eq_false fun ⟨y, hy, e⟩ => hx (by rw [hf _ _ _ hp hy, e])]
    rw [e]
    exact heq _ _ _ _ hp hx
  · have := any_eq hf q k'
    rw [List.any_toArray, this]
    have e : b = decide (q ∈ xs) := by
      by_cases h : q ∈ xs
      · rw [decide_eq_true h]; exact hb.mpr h
      · rw [decide_eq_false h]; exact Bool.eq_false_iff.mpr fun h' => h (hb.mp h')
    exact e ▸ hQ
end
theorem RowAt.lst {h₀ h : Heap} {L : Addr} {m : Str → Option Value} {own news : List (Addr × Obj)} (F : Fr h₀ L h m) (N : News h₀ L h news) (sub : ∀ p ∈ own, p ∈ news) {v : Value} {r : List Str} : RowAt h₀ own v r → LstOf IsStr h v r
  | ⟨a, ws, k, e, hw, x⟩ => ⟨a, ws, e, ⟨_, x.elim (F.keep _ _) fun y => (N _ (sub _ y)).1, rfl, k, rfl⟩, strs_all2 hw⟩
theorem RowsAt.all2 {h₀ h : Heap} {L : Addr} {m : Str → Option Value} {own news : List (Addr × Obj)} (F : Fr h₀ L h m) (N : News h₀ L h news) (sub : ∀ p ∈ own, p ∈ news) {vs : List Value} {rs : List (List Str)} (x : RowsAt h₀ own vs rs) : All2 (LstOf IsStr h) vs rs := by
  induction x with
  | nil => exact .nil
  | cons h _ ih => exact .cons (h.lst F N sub) ih
theorem row_eqAt {A : Around} {s : Shared} (hu : A.units < 9000) : ∀ v w x y, LstOf IsStr s.heap v x → LstOf IsStr s.heap w y → EqAt A.in1 s v w (decide (x = y)) := fun v w x y h k =>
  lst_eqAt (A := A.in1) IsStr.func str_eqAt (by show A.units + 1 < cLine; unfold cLine; omega) h k
theorem row_func {s : Shared} : ∀ v x y, LstOf IsStr s.heap v x → LstOf IsStr s.heap v y → x = y := fun v x y h k => LstOf.func IsStr.func h k
section
variable {prog : Program} {w : World} {A : Around} {E : Value → Shared → Prop} {s : Shared} {h₀ : Heap} {L l t : Addr} {m : Str → Option Value} {own news : List (Addr × Obj)} {vs ws : List Value} {rs : List (List Str)} {r : List Str} {n k b : Nat} {Q : Value → Shared → Prop} {value slice : PySem.Expr} {tb : Tok}
theorem notIn_R (F : Fr h₀ L s.heap m) (N : News h₀ L s.heap news) (hl : (l, W.listOf vs.toArray n) ∈ news) (hR : RowsAt h₀ own vs rs) (sub : ∀ p ∈ own, p ∈ news) (ht : (t, W.listOf ws.toArray k) ∈ news) (hw : StrsAre ws r) (hu : A.units < 9000)
    (hQ : Q (.bool (!decide (r ∈ rs))) s) : wpAny (model prog w) A (compareOp .NotIn (.ref t) (.ref l)) Q E s :=
  lst_notIn row_func (row_eqAt hu) ⟨t, ws, rfl, News.isList N ht, strs_all2 hw⟩ ⟨l, vs, rfl, News.isList N hl, hR.all2 F N sub⟩ decide_eq_true_iff hQ
theorem strsAre_take : ∀ {vs : List Value} {st : List Str} (b : Nat), StrsAre vs st → StrsAre (vs.take b) (st.take b)
  | _, _, 0, _ => .nil
  | _, _, _ + 1, .nil => .nil
  | _, _, b + 1, .cons y t h => .cons y t (strsAre_take b h)
theorem take_S (F : Fr h₀ L s.heap m) (N : News h₀ L s.heap news) (hm : (l, W.listOf vs.toArray n) ∈ news)
    (h : ∀ D h', Fr h₀ L h' m → News h₀ L h' ((D, W.listOf (vs.take b).toArray 0) :: news) → (∀ p ∈ news, p.1 < D) → Q (.ref D) { s with heap := h' })
    (hs : subscripted slice false (.ref l) (.ref s.heap.objs.size) = operate [.ref s.heap.objs.size, .ref l] (getItem (.ref l) (.ref s.heap.objs.size))) (ht : ∀ r, letTemporaryGo value (.ref l) r = pure ()) (hz : vs.length ≤ 100000) :
    wpAny (model prog w) A (subscriptTail value slice (.ref l) (.ref s.heap.objs.size)) Q E { s with heap := s.heap.push { cls := .type "slice", data := .fields #[.none, .int (b : Nat) tb, .none] } } := by
  refine kmk_slice F N (News.isList N hm) .none (.int _ _) (fun D h' F' N' => h D h' F' ?_) hs ht (by rw [List.size_toArray, sizeLine_eq]; omega)
  rw [slicePick_upto'] at N'
  simpa using N'
end

local macro_rules | `(tactic| walk_at "eval Name") => `(tactic| (k_here; (with_reducible show wpAny _ _ (eval (Expr.Name _ _) (envOfC _ _ _ _ _)) _ _ _); k_dflt (first
  | (refine' nameX_L ?k1 ?k2 ?_ ?k3 ?k4; (case k1 => k_asm); (case k2 => exact rfl); (case k3 => exact rfl); (case k4 => exact rfl); k_whole)
  | (refine' nameX_C ?k1 ?k2 ?k3 ?k4 ?_ ?k5 ?k6; (case k5 => exact rfl); (case k6 => exact rfl); (case k1 => k_asm); (case k2 => exact rfl); (case k3 => k_mem); (case k4 => k_asm); k_whole))))
local macro_rules | `(tactic| walk_at "binaryOp Add ref ref") => `(tactic| (k_here; (with_reducible show wpAny _ _ (binaryOp _ (Value.ref _) (Value.ref _)) _ _ _); k_dflt (refine' add_S ?F ?N ?a ?b ?z ?_; (case F => k_asm); (case N => k_asm); (case a => k_mem); (case b => k_mem); (case z => ((try simp only [List.length_cons, List.length_nil]); omega))); intro D' h' F' N' l1; (try k_lt l1)))
local macro_rules | `(tactic| walk_at "call builtin:len") => `(tactic| (k_here; (with_reducible show wpAny _ _ (call (Value.builtin _) [Value.ref _]) _ _ _); k_dflt (refine' len_S ?N ?a ?z ?_; (case N => k_asm); (case a => k_mem); (case z => omega)); intro t' k'))
local macro_rules | `(tactic| walk_at "subscriptTail Name Slice ref ref") => `(tactic| (k_here; (with_reducible show wpAny _ _ (subscriptTail _ (PySem.Expr.Slice none (some _) none _) (Value.ref _) (Value.ref _)) _ _ _); k_dflt (refine' take_S ?F ?N ?l ?_ ?s ?t ?z; (case F => k_asm); (case N => k_asm); (case l => k_mem); (case s => with_unfolding_all rfl); (case t => kmk_pure); (case z => omega)); intro D' h' F' N' l1; (try k_lt l1)))

theorem zz_26 : True := by
  w_top off
  trivial
section
variable {w : World} {s : Shared} {mg mb : Str → Option Value} {mean : ExcName → Option Value} {d u : Nat} {gs : Option (List Code)} {base : Heap} {outer : List Env} {R : Result → Shared → Prop}
theorem rows_spec (W : Wd w mg mb mean base outer ⟨none, d, some outer, gs, u⟩ s.heap) (hdp : d < 600) (hu : u ≤ 1000) {l : Addr} {vs : List Value} {n : Nat} {ts : List Str} (hlo : s.heap.get? l = some (lst vs n)) (hts : StrsAre vs ts)
    (hlen : ts.length ≤ 20) (hspl : ∀ t ∈ ts, t.length ≤ 900 ∧ (Txt.split t (Str.ofString "/")).length ≤ 100)
    (hR : ∀ h' tk l' vs' n' own, (∀ b o, s.heap.get? b = some o → h'.get? b = some o) → s.heap.get? l' = none → h'.get? l' = some (lst vs' n') → (∀ p ∈ own, p.1 ≠ l' ∧ s.heap.get? p.1 = none ∧ h'.get? p.1 = some p.2) →
      RowsAt s.heap own vs' ((ts.map fun t => rowOf (Txt.split t (Str.ofString "/"))).foldl rowsAdd []) →
      R (.ok (.ret (.ref l'))) ⟨h', s.gens, s.drawn, tk, s.os⟩) :
    codeAny (model PySem.Challenge.rw_il0206_01.row.prog w) ⟨none, d, some outer, gs, u⟩ (.call (.ref 207) ⟨[.ref l], []⟩) R s := by
  change codeAny _ _ _ (Ends R) s
  obtain ⟨T, KX, K0⟩ := W
  refine call_cellsN_ret (binds := [(Str.ofString "texts", .ref l)]) (by unfold recursionLimit; dsimp only; omega) (KX 207 _ (by rfl)) rfl T.nolimit (codeRec_of KX (by k_is)) rfl (fun x hx => by rw [List.mem_singleton.mp hx]; exact .inl rfl) (by decide) ?_
  intro h₁ tk cells F N Y
  obtain ⟨oC1, oC2, hE, d1, d2⟩ := CellsAre.two Y
  subst hE
  clear Y
  change Fr s.heap s.heap.objs.size h₁ (fun y => if y = Str.ofString "texts" then some (Value.ref l) else none) at F
  change wpAny _ (Around.deeper _ (envOfC _ _ _ _ _)) (execs _ (envOfC _ _ _ _ _)) _ _ ⟨h₁, s.gens, s.drawn, _, s.os⟩
  tb_start
  (rename Fr s.heap s.heap.objs.size _ _ => F9)
  (rename News s.heap s.heap.objs.size _ _ => N9)
  rename_i lr _ hlr _ oR dR
  generalize bindC _ _ _ (Str.ofString "row") = v₀ at d1
  refine For_invV (E := fun _ _ => False) s.heap rfl rfl ?_ (fun _ => rfl) (fun e s h => h.elim)
  refine nameX_L F9 rfl ?_
  obtain ⟨hc2, hc1⟩ := hlr
  refine iter_base (news := [(s.heap.objs.size + 1 + 1, oC1), (s.heap.objs.size + 1, oR), (lr, W.listOf #[] 0)]) (fun i m nw => ∃ o1 v₁ vs' n' own, nw = (s.heap.objs.size + 1 + 1, o1) :: (s.heap.objs.size + 1, oR) :: (lr, W.listOf (List.toArray vs') n') :: own ∧ o1.data = .cell v₁ ∧ RowsAt s.heap own vs' (((ts.take i).map fun t => rowOf (Txt.split t (Str.ofString "/"))).foldl rowsAdd []) ∧
      vs'.length ≤ 100 * i ∧ OwnOff own [s.heap.objs.size + 1 + 1, s.heap.objs.size + 1, lr]) rfl hlo F9 (fun p hp => N9 p ((by (((repeat' (refine List.forall_mem_cons.mpr ⟨by k_mem, ?_⟩)); (first | exact List.forall_mem_nil _ | (intro p hp; repeat (first | exact hp | refine List.Mem.tail _ ?_))))) : ∀ p ∈ [(s.heap.objs.size + 1 + 1, oC1), (s.heap.objs.size + 1, oR), (lr, W.listOf #[] 0)], p ∈ _) p hp)) ?_ ?_ ?_
  · exact ⟨oC1, v₀, [], 0, [], rfl, d1, .nil, Nat.zero_le _, fun p hp => nomatch hp⟩
  · rintro i v m₁ news₁ h tk' I itO hv ⟨o1, v₁, vs', n', own, rfl, d1, hrs, hvn, hOff⟩ hoff F8 N8
    have hoffI : ∀ p ∈ own, p.1 ≠ I := fun p hp => hoff p (.tail _ (.tail _ (.tail _ hp)))
    have n1 := neN (hoff _ (.head _))
    have n2 := neN (hoff _ (.tail _ (.head _)))
    have n3 := neN (hoff _ (.tail _ (.tail _ (.head _))))
    have hin : i < vs.length := (List.getElem?_eq_some_iff.mp hv).1
    have hvl := strsAre_len hts
    obtain ⟨x, xt, rfl, hx⟩ := hts.item i v hv
    have hxl := (hspl x (List.mem_of_getElem? hx)).2
    have hxl2 := (hspl x (List.mem_of_getElem? hx)).1
    have hst : ((ts.take (i + 1)).map fun t => rowOf (Txt.split t (Str.ofString "/"))).foldl rowsAdd [] = rowsAdd (((ts.take i).map fun t => rowOf (Txt.split t (Str.ofString "/"))).foldl rowsAdd []) (rowOf (Txt.split x (Str.ofString "/"))) := by
      rw [List.take_add_one, hx, Option.toList_some, List.map_append, List.foldl_append]; rfl
    rw [hst]
    generalize ((ts.take i).map fun t => rowOf (Txt.split t (Str.ofString "/"))).foldl rowsAdd [] = rs at hrs
    clear F9 N9 hst
    change Fr s.heap s.heap.objs.size h _ at F8
    change News s.heap s.heap.objs.size h ((I, itO) :: _ :: _ :: _ :: own) at N8
    (repeat' ((fail_if_success (with_reducible show wpAny _ _ (exec (Stmt.For _ _ _ _ _) _) _ _ _)); (fail_if_success (with_reducible show TurnEnd _ _ _ _ _ _ _ _)); (fail_if_success (with_reducible show wpAny _ _ (eval (Expr.ListComp _ _ _ _) _) _ _ _)); (fail_if_success (with_reducible show Ends _ _ _)); first | (k_unfold; (try dsimp only)) | walk1 | (dsimp only; walk1)))
    (rename Fr s.heap s.heap.objs.size _ _ => F7)
    (rename News s.heap s.heap.objs.size _ _ => N7)
    rename_i lw _ hlw _ _ _ _ _ o2 d2 _
    refine For_invV (E := fun _ _ => False) s.heap rfl rfl ?_ (fun _ => rfl) (fun e s h => h.elim)
    tb_start
    (rename Fr s.heap s.heap.objs.size _ _ => F6)
    (rename News s.heap s.heap.objs.size _ _ => N6)
    (rename List (Str × Tok) => lp)
    (rename (List.map _ lp = Txt.split _ _) => hlp)
    (rename StrsAre (strValues lp) _ => hSA)
    rename_i lrev _ hlrev
    rw [hlp] at hSA
    have hSR := strsAre_reverse hSA
    have hcl := strsAre_len hSR
    rw [List.length_reverse, List.length_reverse] at hcl
    generalize hpr : (Txt.split x (Str.ofString "/")).reverse = pr at hSR
    have hcn := strsAre_len hSR
    have e0 : (strValues lp).reverse.length ≤ 100 := by rw [List.length_reverse]; omega
    generalize hcv : (strValues lp).reverse = cvs at *
    refine iter_news (vs := cvs) (n := 0) (news := [(s.heap.objs.size + 1 + 1, o2), (s.heap.objs.size + 1, oR), (lw, W.listOf #[] 0), (lr, W.listOf vs'.toArray n'), (I, itO)] ++ own)
      (fun j m nw => ∃ o1 lw ws k, ∃ (dt : Tok) (m₂ : Str → Option Value), nw = (s.heap.objs.size + 1 + 1, o1) :: (s.heap.objs.size + 1, oR) :: (lw, W.listOf (List.toArray ws) k) :: (lr, W.listOf vs'.toArray n') :: (I, itO) :: own ∧
        o1.data = .cell (some (.ref lw)) ∧ StrsAre ws ((pr.take j).foldl rowStep ([], 0)).1 ∧ ws.length ≤ j ∧ m = (fun y => if y = Str.ofString "debt" then some (.int ((((pr.take j).foldl rowStep ([], 0)).2 : Nat) : Int) dt) else m₂ y) ∧
        (@Ne Nat lw (s.heap.objs.size + 1 + 1) ∧ @Ne Nat lw (s.heap.objs.size + 1) ∧ @Ne Nat lw lr ∧ @Ne Nat lw I) ∧ ∀ p ∈ own, p.1 ≠ lw) rfl F6 ?_ ?_ ?_ ?_ ?_
    · exact fun p hp => N6 p ((by (((repeat' (refine List.forall_mem_cons.mpr ⟨by k_mem, ?_⟩)); (first | exact List.forall_mem_nil _ | (intro p hp; repeat (first | exact hp | refine List.Mem.tail _ ?_))))) : ∀ p ∈ (lrev, W.listOf cvs.toArray 0) :: (s.heap.objs.size + 1 + 1, o2) :: (s.heap.objs.size + 1, oR) :: (lw, W.listOf #[] 0) :: (lr, W.listOf vs'.toArray n') :: (I, itO) :: own, p ∈ _) p hp)
    · obtain ⟨_, _, _, _, _, _, _, _⟩ := hlrev
      exact (by (((repeat' (refine List.forall_mem_cons.mpr ⟨by ((show @Ne Nat _ _; first | assumption | exact Ne.symm (by assumption) | omega)), ?_⟩)); (first | exact List.forall_mem_nil _ | (intro p hp; first | exact Nat.ne_of_lt (allLt_mem (by assumption) p hp) | exact OwnOff.ne (by assumption) (by k_memK) p hp | (have hx' := ‹∀ q ∈ _, q.1 ≠ _› p hp; exact hx'))))) : ∀ p ∈ (s.heap.objs.size + 1 + 1, o2) :: (s.heap.objs.size + 1, oR) :: (lw, W.listOf #[] 0) :: (lr, W.listOf vs'.toArray n') :: (I, itO) :: own, p.1 ≠ lrev)
    · obtain ⟨_, _, _, _, hal⟩ := hlw
      exact ⟨o2, lw, [], 0, _, _, rfl, d2, .nil, Nat.zero_le _, rfl, ⟨by omega, by omega, by omega, by omega⟩, fun p hp => Nat.ne_of_lt (allLt_mem hal p hp)⟩
    · clear N6 F6 hlrev hlw
      rintro j v m₁' news₁' h2 tk2 I2 itO2 hv2 ⟨o3, lw2, ws, k, dt, m₂, rfl, d3, hws, hwl, rfl, ⟨hA, hB, hC, hD⟩, hE⟩ hIl hoff2 F8 N8
      have q1 := List.forall_mem_cons.mp hoff2
      have q2 := List.forall_mem_cons.mp q1.2
      have q3 := List.forall_mem_cons.mp q2.2
      have q4 := List.forall_mem_cons.mp q3.2
      have q5 := List.forall_mem_cons.mp q4.2
      obtain ⟨x, xt2, rfl, hxx⟩ := hSR.item j v hv2
      have hjn : j < cvs.length := (List.getElem?_eq_some_iff.mp hv2).1
      have hst : (pr.take (j + 1)).foldl rowStep ([], 0) = rowStep ((pr.take j).foldl rowStep ([], 0)) x := by
        rw [List.take_add_one, hxx, Option.toList_some, List.foldl_append]; rfl
      rw [hst]
      generalize (pr.take j).foldl rowStep ([], 0) = st at hws F8
      obtain ⟨row, debt⟩ := st
      change Fr s.heap s.heap.objs.size h2 _ at F8
      change News s.heap s.heap.objs.size h2 ((I2, itO2) :: (lrev, lst cvs 0) :: _ :: _ :: _ :: _ :: _ :: own) at N8
      obtain ⟨⟨a1, b1⟩, q1⟩ := q1
      obtain ⟨⟨a2, b2⟩, q2⟩ := q2
      obtain ⟨⟨a3, b3⟩, q3⟩ := q3
      obtain ⟨⟨a4, b4⟩, q4⟩ := q4
      obtain ⟨⟨a5, b5⟩, q5⟩ := q5
      replace a1 := neN a1; replace a2 := neN a2; replace a3 := neN a3; replace a4 := neN a4; replace a5 := neN a5
      replace b1 := neN b1; replace b2 := neN b2; replace b3 := neN b3; replace b4 := neN b4; replace b5 := neN b5
      clear q1 q2 q3 q4 hoff2 hst
      dsimp only at a1 a2 a3 a4 a5 b1 b2 b3 b4 b5 hws F8
      have off1 : ∀ (o1 : Obj) (lz : Nat) (wz : Obj), @Ne Nat lz I2 → @Ne Nat lz lrev → ∀ p ∈ ((s.heap.objs.size + 1 + 1, o1) :: (s.heap.objs.size + 1, oR) :: (lz, wz) :: (lr, W.listOf vs'.toArray n') :: (I, itO) :: own : List (Addr × Obj)), ∀ q ∈ [(I2, itO2), (lrev, lst cvs 0)], p.1 ≠ q.1 := by
        intro o1 lz wz h1 h2 p hp q hq
        rcases List.mem_cons.mp hq with rfl | hq
        · exact (by (repeat' (refine List.forall_mem_cons.mpr ⟨by ((show @Ne Nat _ _; first | assumption | exact Ne.symm (by assumption) | omega)), ?_⟩)); exact fun p hp => (q5 p hp).1 : ∀ p ∈ ((s.heap.objs.size + 1 + 1, o1) :: (s.heap.objs.size + 1, oR) :: (lz, wz) :: (lr, W.listOf vs'.toArray n') :: (I, itO) :: own : List (Addr × Obj)), p.1 ≠ I2) p hp
        · rw [List.mem_singleton.mp hq]
          exact (by (repeat' (refine List.forall_mem_cons.mpr ⟨by ((show @Ne Nat _ _; first | assumption | exact Ne.symm (by assumption) | omega)), ?_⟩)); exact fun p hp => (q5 p hp).2 : ∀ p ∈ ((s.heap.objs.size + 1 + 1, o1) :: (s.heap.objs.size + 1, oR) :: (lz, wz) :: (lr, W.listOf vs'.toArray n') :: (I, itO) :: own : List (Addr × Obj)), p.1 ≠ lrev) p hp
      tb_start
      · (rename Fr s.heap s.heap.objs.size _ _ => F7); (rename News s.heap s.heap.objs.size _ _ => N7)
        rw [row_up (by assumption)]
        exact TurnEnd.next F7 N7 (off1 _ _ _ a3 b3) ⟨o3, lw2, ws, k, _, _, rfl, d3, hws, by omega, rfl, ⟨hA, hB, hC, hD⟩, hE⟩
      · (rename Fr s.heap s.heap.objs.size _ _ => F7); (rename News s.heap s.heap.objs.size _ _ => N7)
        rw [row_pay (by assumption) (by assumption) (by assumption) (by assumption)]
        have ed : ((debt : Int) - 1) = ((debt - 1 : Nat) : Int) := by omega
        rw [ed] at F7
        exact TurnEnd.next F7 N7 (off1 _ _ _ a3 b3) ⟨o3, lw2, ws, k, _, _, rfl, d3, hws, by omega, rfl, ⟨hA, hB, hC, hD⟩, hE⟩
      · (rename Fr s.heap s.heap.objs.size _ _ => F7); (rename News s.heap s.heap.objs.size _ _ => N7)
        (rename Obj.data _ = Data.cell (some (Value.ref _)) => d7)

        rename_i D' _ hlD _ o7
        obtain ⟨_, _, _, _, _, _, _, _, hal⟩ := hlD
        rw [row_add (by assumption) (by assumption) (by assumption) (by assumption)]
        exact TurnEnd.next (fr_swap (by decide) F7) (fun p hp => N7 p ((by (((repeat' (refine List.forall_mem_cons.mpr ⟨by k_mem, ?_⟩)); (first | exact List.forall_mem_nil _ | (intro p hp; repeat (first | exact hp | refine List.Mem.tail _ ?_))))) : ∀ p ∈ (I2, itO2) :: (lrev, lst cvs 0) :: (s.heap.objs.size + 1 + 1, o7) :: (s.heap.objs.size + 1, oR) :: (D', W.listOf ([Value.str x xt2] ++ ws).toArray 0) :: (lr, W.listOf vs'.toArray n') :: (I, itO) :: own, p ∈ _) p hp))
          (off1 _ _ _ (by omega) (by omega)) ⟨o7, D', _, 0, _, _, rfl, d7, .cons _ _ hws, by rw [List.length_append, List.length_singleton]; omega, rfl, ⟨by omega, by omega, by omega, by omega⟩, fun p hp => Nat.ne_of_lt (allLt_mem hal p hp)⟩
      · rw [row_dot (by assumption) (by assumption)]
        exact TurnEnd.next (fr_swap (by decide) F8) N8 (off1 _ _ _ a3 b3) ⟨o3, lw2, ws, k, _, _, rfl, d3, hws, by omega, rfl, ⟨hA, hB, hC, hD⟩, hE⟩
      · rw [row_empty (by assumption) (by assumption)]
        exact TurnEnd.next (fr_swap (by decide) F8) N8 (off1 _ _ _ a3 b3) ⟨o3, lw2, ws, k, _, _, rfl, d3, hws, by omega, rfl, ⟨hA, hB, hC, hD⟩, hE⟩
    · clear N6 F6 hlrev hlw
      rintro m₁' news₁' h2 tk2 ⟨o3, lw2, ws, k, dt, m₂, rfl, d3, hws, hwl, rfl, ⟨hA, hB, hC, hD⟩, hE⟩ F8 N8
      have htk : pr.take cvs.length = pr := List.take_of_length_le (by omega)
      rw [htk] at hws F8
      have hrow : StrsAre ws (rowOf (Txt.split x (Str.ofString "/"))) := by unfold rowOf; rw [hpr]; exact hws
      clear hws
      generalize (pr.foldl rowStep ([], 0)).2 = debt at F8
      generalize rowOf (Txt.split x (Str.ofString "/")) = row at hrow
      change Fr s.heap s.heap.objs.size h2 _ at F8
      change News s.heap s.heap.objs.size h2 (_ :: _ :: _ :: _ :: _ :: own) at N8
      clear hSA hlp hcv
      (repeat' ((fail_if_success (with_reducible show wpAny _ _ (exec (Stmt.For _ _ _ _ _) _) _ _ _)); (fail_if_success (with_reducible show TurnEnd _ _ _ _ _ _ _ _)); (fail_if_success (with_reducible show wpAny _ _ (eval (Expr.ListComp _ _ _ _) _) _ _ _)); (fail_if_success (with_reducible show JSrcR _ _ _ _ _ _ _ _ _ _ _ _ _ _ _)); (fail_if_success (with_reducible show JSrc _ _ _ _ _ _ _ _ _ _ _ _ _ _ _)); (fail_if_success (with_reducible show JEnd _ _ _ _ _ _ _ _ _ _ _ _)); (fail_if_success (with_reducible show wpAny _ _ (compareOp _ (Value.ref _) (Value.ref _)) _ _ _)); (fail_if_success (with_reducible show Ends _ _ _)); first | (k_unfold; (try dsimp only)) | walk1 | (dsimp only; walk1)))
      refine comp_range1 F8 (by with_unfolding_all rfl) (by decide) (by rfl) (by decide) (by rfl) ?_
      (repeat' ((fail_if_success (with_reducible show wpAny _ _ (exec (Stmt.For _ _ _ _ _) _) _ _ _)); (fail_if_success (with_reducible show TurnEnd _ _ _ _ _ _ _ _)); (fail_if_success (with_reducible show wpAny _ _ (eval (Expr.ListComp _ _ _ _) _) _ _ _)); (fail_if_success (with_reducible show JSrcR _ _ _ _ _ _ _ _ _ _ _ _ _ _ _)); (fail_if_success (with_reducible show JSrc _ _ _ _ _ _ _ _ _ _ _ _ _ _ _)); (fail_if_success (with_reducible show JEnd _ _ _ _ _ _ _ _ _ _ _ _)); (fail_if_success (with_reducible show wpAny _ _ (compareOp _ (Value.ref _) (Value.ref _)) _ _ _)); (fail_if_success (with_reducible show Ends _ _ _)); first | (k_unfold; (try dsimp only)) | walk1 | (dsimp only; walk1)))
      (rename IsRange _ _ _ _ _ _ _ _ => hR8); (rename Fr s.heap s.heap.objs.size _ _ => F7); (rename News s.heap s.heap.objs.size _ _ => N7)
      have hrl := strsAre_len hrow
      refine ⟨_, 1, _, _, _, _, ws.length, _, fun i ys nw => ∃ own2, nw = (s.heap.objs.size + 1 + 1, o3) :: (s.heap.objs.size + 1, oR) :: (lw2, W.listOf (List.toArray ws) k) :: (lr, W.listOf vs'.toArray n') :: (I, itO) :: own2 ∧
        RowsAt s.heap own2 ys (((List.range i).map fun k => row.take (k + 1)).filter fun q => !decide (q ∈ rs)) ∧ (∀ p ∈ own, p ∈ own2) ∧ OwnOff own2 [s.heap.objs.size + 1 + 1, s.heap.objs.size + 1, lr, lw2, I], rfl, rfl, F7, N7, hR8, ?_, ?_, ?_, ⟨own, rfl, .nil, fun _ h => h, ?_⟩, ?_, ?_⟩
      · exact small_one (by decide) (by decide) (by have : (2 : Int) ^ 62 = 4611686018427387904 := by decide
                                                    omega) (by have : (2 : Int) ^ 62 = 4611686018427387904 := by decide
                                                               omega)
      · unfold Builtin.Range.rangeSize
        rw [if_pos (by decide)]
        split <;> omega
      · rw [sizeLine_eq]; omega
      · intro p hp b hb
        rcases List.mem_cons.mp hb with rfl | hb
        · exact hOff p hp _ (.head _)
        rcases List.mem_cons.mp hb with rfl | hb
        · exact hOff p hp _ (.tail _ (.head _))
        rcases List.mem_cons.mp hb with rfl | hb
        · exact hOff p hp _ (.tail _ (.tail _ (.head _)))
        rcases List.mem_cons.mp hb with rfl | hb
        · exact hE p hp
        · rw [List.mem_singleton.mp hb]; exact hoffI p hp
      · clear N7 F7 hR8
        rintro hh i v ys news I2 oI C oC D m₃ h3 tk3 E' hi ⟨t3, rfl⟩ ⟨own2, rfl, hrs2, hsub, hOff2⟩ hyl hoC hmx F8 N8 hoff3 hne
        rw [show (1 + (i : Int)) = ((i + 1 : Nat) : Int) by omega] at hmx
        dsimp only
        (repeat' ((fail_if_success (with_reducible show wpAny _ _ (exec (Stmt.For _ _ _ _ _) _) _ _ _)); (fail_if_success (with_reducible show TurnEnd _ _ _ _ _ _ _ _)); (fail_if_success (with_reducible show wpAny _ _ (eval (Expr.ListComp _ _ _ _) _) _ _ _)); (fail_if_success (with_reducible show JSrcR _ _ _ _ _ _ _ _ _ _ _ _ _ _ _)); (fail_if_success (with_reducible show JSrc _ _ _ _ _ _ _ _ _ _ _ _ _ _ _)); (fail_if_success (with_reducible show JEnd _ _ _ _ _ _ _ _ _ _ _ _)); (fail_if_success (with_reducible show wpAny _ _ (compareOp _ (Value.ref _) (Value.ref _)) _ _ _)); (fail_if_success (with_reducible show Ends _ _ _)); first | (k_unfold; (try dsimp only)) | walk1 | (dsimp only; walk1)))
        (rename Fr s.heap s.heap.objs.size _ _ => F6); (rename News s.heap s.heap.objs.size _ _ => N6)
        have hwt := strsAre_take (i + 1) hrow
        have hfs : ((List.range (i + 1)).map fun k => row.take (k + 1)).filter (fun q => !decide (q ∈ rs)) = ((List.range i).map fun k => row.take (k + 1)).filter (fun q => !decide (q ∈ rs)) ++ [row.take (i + 1)].filter (fun q => !decide (q ∈ rs)) := by
          rw [List.range_succ, List.map_append, List.filter_append]; rfl
        have off3 := hoff3.mem
        have g1 := List.forall_mem_cons.mp off3
        have g2 := List.forall_mem_cons.mp g1.2
        have g3 := List.forall_mem_cons.mp g2.2
        have g4 := List.forall_mem_cons.mp g3.2
        have g5 := List.forall_mem_cons.mp g4.2
        refine notIn_R F6 N6 (vs := vs') (n := n') (by k_mem) (hrs.mono (fun _ _ e => e) hsub) (by (first | exact List.forall_mem_nil _ | (intro p hp; repeat (first | exact hp | refine List.Mem.tail _ ?_)))) (.head _) hwt (by show u + 3 < 9000; omega) ?_
        clear N8 F8
        rename_i hlD1
        (repeat' ((fail_if_success (with_reducible show wpAny _ _ (exec (Stmt.For _ _ _ _ _) _) _ _ _)); (fail_if_success (with_reducible show TurnEnd _ _ _ _ _ _ _ _)); (fail_if_success (with_reducible show wpAny _ _ (eval (Expr.ListComp _ _ _ _) _) _ _ _)); (fail_if_success (with_reducible show JSrcR _ _ _ _ _ _ _ _ _ _ _ _ _ _ _)); (fail_if_success (with_reducible show JSrc _ _ _ _ _ _ _ _ _ _ _ _ _ _ _)); (fail_if_success (with_reducible show JEnd _ _ _ _ _ _ _ _ _ _ _ _)); (fail_if_success (with_reducible show wpAny _ _ (compareOp _ (Value.ref _) (Value.ref _)) _ _ _)); (fail_if_success (with_reducible show Ends _ _ _)); first | (k_unfold; (try dsimp only)) | walk1 | (dsimp only; walk1)))
        · refine ⟨_, _, (s.heap.objs.size + 1 + 1, o3) :: (s.heap.objs.size + 1, oR) :: (lw2, W.listOf (List.toArray ws) k) :: (lr, W.listOf vs'.toArray n') :: (I, itO) :: own2, rfl, F6, fun p hp => N6 p (.tail _ hp), hoff3, own2, rfl, ?_, hsub, hOff2⟩
          rw [hfs, List.filter_cons_of_neg (by simpa using ‹List.take (i + 1) row ∈ rs›), List.filter_nil, List.append_nil]
          exact hrs2
        · (rename Fr s.heap s.heap.objs.size _ _ => F5); (rename News s.heap s.heap.objs.size _ _ => N5)
          rename_i D2 _ hlD2
          obtain ⟨_, k2, k3, k4, k5, k6, k7, k8, k9, hal⟩ := hlD2
          refine ⟨_, _, (s.heap.objs.size + 1 + 1, o3) :: (s.heap.objs.size + 1, oR) :: (lw2, W.listOf (List.toArray ws) k) :: (lr, W.listOf vs'.toArray n') :: (I, itO) :: (D2, W.listOf (List.toArray (ws.take (i + 1))) 0) :: own2, rfl, F5,
            fun p hp => N5 p ((by (((repeat' (refine List.forall_mem_cons.mpr ⟨by k_mem, ?_⟩)); (first | exact List.forall_mem_nil _ | (intro p hp; repeat (first | exact hp | refine List.Mem.tail _ ?_))))) : ∀ p ∈ (I2, oI) :: (C, oC) :: (D, LCg.lst ys) :: (s.heap.objs.size + 1 + 1, o3) :: (s.heap.objs.size + 1, oR) :: (lw2, W.listOf (List.toArray ws) k) :: (lr, W.listOf vs'.toArray n') :: (I, itO) :: (D2, W.listOf (List.toArray (ws.take (i + 1))) 0) :: own2, p ∈ _) p hp),
            LCg.Off3.of (List.forall_mem_cons.mpr ⟨g1.1, List.forall_mem_cons.mpr ⟨g2.1, List.forall_mem_cons.mpr ⟨g3.1, List.forall_mem_cons.mpr ⟨g4.1, List.forall_mem_cons.mpr ⟨g5.1, List.forall_mem_cons.mpr ⟨⟨neN ?_, neN ?_, neN ?_⟩, g5.2⟩⟩⟩⟩⟩⟩), _, rfl, ?_, fun p hp => .tail _ (hsub p hp), ?_⟩
          · exact Nat.ne_of_gt k2
          · exact Nat.ne_of_gt k3
          · exact Nat.ne_of_gt k4
          · rw [hfs, List.filter_cons_of_pos (by simpa using ‹¬ List.take (i + 1) row ∈ rs›), List.filter_nil]
            exact (hrs2.mono (fun _ _ e => e) fun p hp => .tail _ hp).append (.cons ⟨D2, _, 0, rfl, hwt, .inr (.head _)⟩ .nil)
          · intro p hp b hb
            rcases List.mem_cons.mp hp with rfl | hp
            · rcases List.mem_cons.mp hb with rfl | hb
              · exact Nat.ne_of_gt k5
              rcases List.mem_cons.mp hb with rfl | hb
              · exact Nat.ne_of_gt k6
              rcases List.mem_cons.mp hb with rfl | hb
              · exact Nat.ne_of_gt k8
              rcases List.mem_cons.mp hb with rfl | hb
              · exact Nat.ne_of_gt k7
              · rw [List.mem_singleton.mp hb]; exact Nat.ne_of_gt k9
            · exact hOff2 p hp b hb
      · intro D h4 tk4 ys news' ⟨own2, e2, hrs2, hsub, hOff2⟩ F5 N5 o1
        subst e2
        clear N7 F7 hR8
        change News s.heap s.heap.objs.size h4 ((D, W.listOf (List.toArray ys) ys.length) :: _) at N5
        obtain ⟨oa, ob, oc, od, oe, orr⟩ := o1
        dsimp only at oa ob oc od oe
        clear orr
        have hyl := hrs2.length
        have hfl := List.length_filter_le (fun q => !decide (q ∈ rs)) ((List.range ws.length).map fun k => row.take (k + 1))
        rw [List.length_map, List.length_range] at hfl
        (repeat' ((fail_if_success (with_reducible show wpAny _ _ (exec (Stmt.For _ _ _ _ _) _) _ _ _)); (fail_if_success (with_reducible show TurnEnd _ _ _ _ _ _ _ _)); (fail_if_success (with_reducible show wpAny _ _ (eval (Expr.ListComp _ _ _ _) _) _ _ _)); (fail_if_success (with_reducible show JSrcR _ _ _ _ _ _ _ _ _ _ _ _ _ _ _)); (fail_if_success (with_reducible show JSrc _ _ _ _ _ _ _ _ _ _ _ _ _ _ _)); (fail_if_success (with_reducible show JEnd _ _ _ _ _ _ _ _ _ _ _ _)); (fail_if_success (with_reducible show wpAny _ _ (compareOp _ (Value.ref _) (Value.ref _)) _ _ _)); (fail_if_success (with_reducible show Ends _ _ _)); first | (k_unfold; (try dsimp only)) | walk1 | (dsimp only; walk1)))
        (rename Fr s.heap s.heap.objs.size _ _ => F4); (rename News s.heap s.heap.objs.size _ _ => N4)
        rename_i k5
        refine TurnEnd.next (news' := (s.heap.objs.size + 1 + 1, o3) :: (s.heap.objs.size + 1, oR) :: (lr, W.listOf (List.toArray (vs' ++ ys)) k5) :: own2) F4
          (fun p hp => N4 p ((by (((repeat' (refine List.forall_mem_cons.mpr ⟨by k_mem, ?_⟩)); (first | exact List.forall_mem_nil _ | (intro p hp; repeat (first | exact hp | refine List.Mem.tail _ ?_))))) : ∀ p ∈ (I, itO) :: (s.heap.objs.size + 1 + 1, o3) :: (s.heap.objs.size + 1, oR) :: (lr, W.listOf (List.toArray (vs' ++ ys)) k5) :: own2, p ∈ _) p hp)) ?_
          ⟨o3, _, _, _, own2, rfl, d3, ?_, by rw [List.length_append]; omega, fun p hp b hb => hOff2 p hp b ?_⟩
        · intro p hp q hq
          rw [List.mem_singleton.mp hq]
          rcases List.mem_cons.mp hp with rfl | hp
          · exact n1
          rcases List.mem_cons.mp hp with rfl | hp
          · exact n2
          rcases List.mem_cons.mp hp with rfl | hp
          · exact n3
          · exact hOff2 p hp I (.tail _ (.tail _ (.tail _ (.tail _ (.head _)))))
        · unfold rowsAdd
          rw [← hrl]
          exact (hrs.mono (fun _ _ e => e) hsub).append hrs2
        · rcases List.mem_cons.mp hb with rfl | hb
          · exact .head _
          rcases List.mem_cons.mp hb with rfl | hb
          · exact .tail _ (.head _)
          · rw [List.mem_singleton.mp hb]; exact .tail _ (.tail _ (.head _))
  · rintro m₁ news₁ h tk' ⟨o1, v₁, vs', n', own, rfl, d1, hrs, hvn, hOff⟩ F8 N8
    have hvl := strsAre_len hts
    rw [hvl, List.take_length] at hrs
    clear F9 N9
    (repeat' ((fail_if_success (with_reducible show wpAny _ _ (exec (Stmt.For _ _ _ _ _) _) _ _ _)); (fail_if_success (with_reducible show TurnEnd _ _ _ _ _ _ _ _)); (fail_if_success (with_reducible show wpAny _ _ (eval (Expr.ListComp _ _ _ _) _) _ _ _)); (fail_if_success (with_reducible show JSrcR _ _ _ _ _ _ _ _ _ _ _ _ _ _ _)); (fail_if_success (with_reducible show JSrc _ _ _ _ _ _ _ _ _ _ _ _ _ _ _)); (fail_if_success (with_reducible show JEnd _ _ _ _ _ _ _ _ _ _ _ _)); (fail_if_success (with_reducible show wpAny _ _ (compareOp _ (Value.ref _) (Value.ref _)) _ _ _)); (fail_if_success (with_reducible show Ends _ _ _)); first | (k_unfold; (try dsimp only)) | walk1 | (dsimp only; walk1)))
    (rename Fr s.heap s.heap.objs.size _ _ => F7); (rename News s.heap s.heap.objs.size _ _ => N7)
    refine hR _ _ lr vs' n' own F7.keep (N7 _ (.tail _ (.tail _ (.head _)))).2.2 (N7 _ (.tail _ (.tail _ (.head _)))).1 (fun p hp => ⟨OwnOff.ne hOff (.tail _ (.tail _ (.head _))) p hp, (N7 p (.tail _ (.tail _ (.tail _ hp)))).2.2, (N7 p (.tail _ (.tail _ (.tail _ hp)))).1⟩) hrs
end

theorem zz_27 : True := by
  w_top off
  trivial
open SeqAt
open MeetsSeq MeetsSeq2 MeetsSeq3 SeqRoads2
open AutoSeq1 (wpAny_loadPart')
/-- the loop of list.remove from place i on: d places that are not the item, then place j that is; what == answers is read off the heap as it stands (EqAt) -/
theorem remove_from {l : Addr} {items : Array Value} {n : Nat} {x : Value} {e : Value → Bool} {j : Nat} (hj : j < items.size) (hit : e items[j] = true) (hno : ∀ m (hm : m < items.size), m < j → e items[m] = false) (hz : items.size ≤ sizeLine) :
    ∀ d i : Nat, i + d = j → Meets (Builtin.«list.remove.loop» ⟨[.ref l, x, rawInt i], []⟩) fun A R s =>
      s.heap.get? l = some (W.listOf items n) ∧ (∀ y ∈ items, EqAt A.in1 s y x (e y)) ∧ R (.ok (.ret .none)) { s with heap := s.heap.update l (Obj.mapSeq fun xs => xs.eraseIdxIfInBounds j) }
  | d, i, hd, prog, w, A, R, ⟨hp, g, dr, tk, os⟩, ⟨hl, he, h⟩ => by
    have hi : i < items.size := by omega
    have at_i : items[((i : Nat) : Int).toNat]? = some items[i] := by simp [hi]
    wp_walk using wpAny_loadPart' hl
    rw [at_i]
    refine wpAny_bind (he items[i] (Array.getElem_mem hi) prog w _ _ ?_)
    match d, hd with
    | 0, hd =>
      have q : i = j := hd
      subst q
      rw [hit]
      have hz2 : (items.eraseIdxIfInBounds i).size ≤ sizeLine + 1 := by
        have := size_erased items i
        omega
      wp_walk using (wpAny_updateSeq hl rfl (hz := hz) (_hz' := hz2)), wpAny_loadPart' hl
      exact h
    | d + 1, hd =>
      rw [hno i hi (by omega)]
      wp_walk
      refine ⟨plainId_quiet plain_remove_loop _, codeAny_builtin entry_remove_loop ?_⟩
      rw [Around.under_plainId plain_remove_loop _, show (i : Int) + 1 = ((i + 1 : Nat) : Int) from rfl]
      exact remove_from hj hit hno hz d (i + 1) (by omega) prog w A R _ ⟨hl, he, h⟩
theorem remove_call {l : Addr} {items : Array Value} {n : Nat} {x : Value} {e : Value → Bool} {j : Nat} (hj : j < items.size) (hit : e items[j] = true) (hno : ∀ m (hm : m < items.size), m < j → e items[m] = false) (hz : items.size ≤ sizeLine) :
    Meets (Builtin.«list.remove» ⟨[.ref l, x], []⟩) fun A R s =>
      s.heap.get? l = some (W.listOf items n) ∧ (∀ y ∈ items, EqAt A.in1 s y x (e y)) ∧ R (.ok (.ret .none)) { s with heap := s.heap.update l (Obj.mapSeq fun xs => xs.eraseIdxIfInBounds j) } := by
  rintro prog w A R ⟨hp, g, dr, tk, os⟩ ⟨hl, he, h⟩
  wp_walk using wpAny_loadPart' hl
  refine ⟨plainId_quiet plain_remove_loop _, codeAny_builtin entry_remove_loop ?_⟩
  rw [Around.under_plainId plain_remove_loop _]
  exact remove_from hj hit hno hz j 0 (Nat.zero_add j) prog w A R _ ⟨hl, he, h⟩
/-- a list without the first item that is the given one -/
def eraseR : List (List Str) → List Str → List (List Str)
  | [], _ => []
  | x :: xs, r => if x = r then xs else x :: eraseR xs r
open Classical in
theorem erase_at {h₀ : Heap} {own : List (Addr × Obj)} {h : Heap} {r : List Str} (hf : ∀ v x y, LstOf IsStr h v x → LstOf IsStr h v y → x = y) : ∀ {vs : List Value} {rs : List (List Str)}, RowsAt h₀ own vs rs → All2 (LstOf IsStr h) vs rs → r ∈ rs →
    ∃ (j : Nat) (hj : j < vs.length), LstOf IsStr h vs[j] r ∧ (∀ (m : Nat) (hm : m < vs.length), m < j → ¬ LstOf IsStr h vs[m] r) ∧ RowsAt h₀ own (vs.eraseIdx j) (eraseR rs r)
  | _, _, .nil, .nil, hm => nomatch hm
  | _, _, @RowsAt.cons _ _ v x vs xs hr h, .cons hp k, hm => by
    by_cases hx : x = r
    · subst hx
      refine ⟨0, Nat.succ_pos _, hp, fun m _ h => absurd h (Nat.not_lt_zero _), ?_⟩
      unfold eraseR
      rw [if_pos rfl]
      exact h
    · have hm' : r ∈ xs := (List.mem_cons.mp hm).resolve_left fun e => hx e.symm
      obtain ⟨j, hj, h1, h2, h3⟩ := erase_at hf h k hm'
      refine ⟨j + 1, Nat.succ_lt_succ hj, h1, fun m hm hlt => ?_, ?_⟩
      · cases m with
        | zero => exact fun q => hx (hf _ _ _ hp q)
        | succ m => exact h2 m (Nat.lt_of_succ_lt_succ hm) (Nat.lt_of_succ_lt_succ hlt)
      · unfold eraseR
        rw [if_neg hx]
        exact .cons hr h3
section
variable {prog : Program} {w : World} {A : Around} {E : Value → Shared → Prop} {s : Shared} {h₀ : Heap} {L D t : Addr} {m : Str → Option Value} {own news : List (Addr × Obj)} {vs ws : List Value} {rs : List (List Str)} {r : List Str} {n k : Nat} {Q : Value → Shared → Prop} {g : Obj → List (Addr × Obj)}
open Classical in
theorem remove_R (F : Fr h₀ L s.heap m) (N : News h₀ L s.heap news) (U : UpdF D (W.listOf vs.toArray n) news g) (hR : RowsAt h₀ own vs rs) (sub : ∀ p ∈ own, p ∈ news) (ht : (t, W.listOf ws.toArray k) ∈ news) (hw : StrsAre ws r) (hmem : r ∈ rs)
    (hu : A.units < 8000) (hz : vs.length ≤ 100000)
    (h : ∀ h' vs' k', Fr h₀ L h' m → News h₀ L h' (g (W.listOf (List.toArray vs') k')) → RowsAt h₀ own vs' (eraseR rs r) → vs'.length ≤ vs.length → Q .none { s with heap := h' }) : wpAny (model prog w) A (call (.builtin "list.remove") [.ref D, .ref t]) Q E s := by
  have hall := hR.all2 F N sub
  have hx : LstOf IsStr s.heap (.ref t) r := ⟨t, ws, rfl, News.isList N ht, strs_all2 hw⟩
  obtain ⟨j, hj, h1, h2, h3⟩ := erase_at (row_func (s := s)) hR hall hmem
  obtain ⟨pre, post, rfl, hg, a', b'⟩ := U.split
  have z := N (D, W.listOf vs.toArray n) (List.mem_append.mpr (.inr (.head _)))
  have hsz : vs.toArray.size = vs.length := by simp
  refine call_meets PySem.F.slot_list_remove ⟨_, z.1, rfl⟩ PySem.F.entry_list_remove (PySem.F.args_list_remove_2 _ _)
    (remove_call (n := n) (x := .ref t) (e := fun v => decide (LstOf IsStr s.heap v r)) (j := j) (by simpa using hj) (by simpa using h1) (fun i hi hlt => by simpa using h2 i (by simpa using hi) hlt) (by rw [hsz, sizeLine_eq]; omega))
    ⟨z.1, fun y hy => ?_, h _ (vs.eraseIdx j) (if (vs.eraseIdx j).toArray.size == vs.toArray.size then n else n + 1) (F.change (Heap.SameBut.update ..) z.2.1 z.2.2) ?_ h3 (by rw [List.length_eraseIdx]; split <;> omega)⟩
  · obtain ⟨i, hi, rfl⟩ := List.mem_iff_getElem.mp (by simpa using hy)
    obtain ⟨x, hxx, hp⟩ := hall.get i vs[i] (by simp [hi])
    have e : decide (LstOf IsStr s.heap vs[i] r) = decide (x = r) := by
      by_cases hx : x = r
      · subst hx; rw [decide_eq_true rfl, decide_eq_true hp]
      · rw [decide_eq_false hx, decide_eq_false fun q => hx (row_func _ _ _ hp q)]
    rw [e]
    exact row_eqAt (by omega) _ _ _ _ hp hx
  · rw [hg]
    exact ki_turn _ N a' b' (by apply Array.toList_inj.mp; simp [Array.toList_eraseIdxIfInBounds]) rfl
end

theorem zz_28 : True := by
  w_top off
  trivial
section
variable {N : Nat} {lt : Nat → Nat → Bool} {cmp : Nat → Nat → (Bool → Shared → Prop) → Shared → Prop} {s : Shared} {p : Array Nat}
/-- a strict order that tells any two numbers below N apart -/
structure StrictOn (N : Nat) (lt : Nat → Nat → Bool) : Prop where
  asym : ∀ i j, i < N → j < N → i ≠ j → lt i j = false → lt j i = true
  trans : ∀ i j k, i < N → j < N → k < N → lt i j = true → lt j k = true → lt i k = true
  anti : ∀ i j, i < N → j < N → lt i j = true → lt j i = true → False
/-- p tells the numbers below N in some order -/
structure GoodP (N : Nat) (p : Array Nat) : Prop where
  size : p.size = N
  lt : ∀ i, i < N → p.getD i 0 < N
  ne : ∀ i j, i < N → j < N → i ≠ j → p.getD i 0 ≠ p.getD j 0
  perm : p.toList.Perm (List.range N)
theorem goodP_of {p : Array Nat} (h : p.toList.Perm (List.range N)) : GoodP N p := by
  have hs : p.size = N := by have := h.length_eq; simpa using this
  have hnd : p.toList.Nodup := h.nodup_iff.mpr List.nodup_range
  have hg : ∀ i (hi : i < N), p.getD i 0 = p.toList[i]'(by simpa [hs] using hi) := fun i hi => by simp [Array.getD, hs, hi]
  refine ⟨hs, fun i hi => ?_, fun i j hi hj hij e => ?_, h⟩
  · rw [hg i hi]
    exact List.mem_range.mp (h.mem_iff.mp (List.getElem_mem _))
  · rw [hg i hi, hg j hj] at e
    exact hij ((List.getElem_inj hnd).mp e)
theorem getD_of {p q : Array Nat} {i j : Nat} (h : p[i]? = q[j]?) : p.getD i 0 = q.getD j 0 := by
  rw [Array.getD_eq_getD_getElem?, Array.getD_eq_getD_getElem?, h]
theorem good_rev (h : GoodP N p) (n : Nat) : GoodP N (kas_rev p 0 n) := goodP_of (((mirror_perm p 0 n ((n - 0) / 2)).toList).trans h.perm)
theorem rev_get (h : GoodP N p) {n k : Nat} (hn : n ≤ N) : (kas_rev p 0 n).getD k 0 = if k < n then p.getD (n - 1 - k) 0 else p.getD k 0 := by
  have e := getElem?_mirror_all (xs := p) (i := 0) (j := n) (by rw [h.size]; exact hn) k
  by_cases hk : k < n
  · rw [if_pos hk]
    rw [if_pos ⟨Nat.zero_le _, hk⟩] at e
    have := getD_of e
    rw [show 0 + n - 1 - k = n - 1 - k by omega] at this
    exact this
  · rw [if_neg hk]
    rw [if_neg (fun x => hk x.2)] at e
    exact getD_of e
theorem good_bubble (h : GoodP N p) (k d : Nat) : GoodP N (bubble p k d) := goodP_of (((bubble_perm p k d).toList).trans h.perm)
theorem bubble_get (h : GoodP N p) {k d i : Nat} (hk : k < N) (hd : d ≤ k) : (bubble p k d).getD i 0 = if i = k - d then p.getD k 0 else if k - d < i ∧ i ≤ k then p.getD (i - 1) 0 else p.getD i 0 := by
  have e := getElem?_bubble (xs := p) (src := k) (by rw [h.size]; exact hk) d hd i
  by_cases h1 : i = k - d
  · rw [if_pos h1] at e ⊢; exact getD_of e
  · rw [if_neg h1] at e ⊢
    by_cases h2 : k - d < i ∧ i ≤ k
    · rw [if_pos h2] at e ⊢; exact getD_of e
    · rw [if_neg h2] at e ⊢; exact getD_of e
def Asc (lt : Nat → Nat → Bool) (p : Array Nat) (n : Nat) : Prop := ∀ i j, i < j → j < n → lt (p.getD i 0) (p.getD j 0) = true
def Desc (lt : Nat → Nat → Bool) (p : Array Nat) (n : Nat) : Prop := ∀ i j, i < j → j < n → lt (p.getD j 0) (p.getD i 0) = true
theorem asc_wp (O : StrictOn N lt) (hc : ∀ i j C, i < N → j < N → i ≠ j → C (lt i j) s → cmp i j C s) (h : GoodP N p) {Q : Nat → Shared → Prop} : ∀ (f n : Nat), 1 ≤ n → n + f ≤ N → Asc lt p n → (∀ m, n ≤ m → m ≤ n + f → Asc lt p m → (m = n + f ∨ lt (p.getD m 0) (p.getD (m - 1) 0) = true) → Q m s) → (kas_asc p f n).kasWp cmp Q s
  | 0, n, h1, hn, ha, hq => hq n (Nat.le_refl _) (Nat.le_refl _) ha (.inl rfl)
  | f + 1, n, h1, hn, ha, hq => by
    show cmp (p.getD n 0) (p.getD (n - 1) 0) _ s
    refine hc _ _ _ (h.lt _ (by omega)) (h.lt _ (by omega)) (h.ne _ _ (by omega) (by omega) (by omega)) ?_
    cases hl : lt (p.getD n 0) (p.getD (n - 1) 0) with
    | true => exact hq n (Nat.le_refl _) (by omega) ha (.inr hl)
    | false =>
      have h2 := O.asym _ _ (h.lt n (by omega)) (h.lt (n - 1) (by omega)) (h.ne _ _ (by omega) (by omega) (by omega)) hl
      show (kas_asc p f (n + 1)).kasWp cmp Q s
      refine asc_wp O hc h f (n + 1) (by omega) (by omega) (fun i j hij hj => ?_) fun m hm hm2 hx hor => hq m (by omega) (by omega) hx (hor.imp_left fun e => by omega)
      by_cases hjn : j = n
      · subst hjn
        by_cases hi : i = j - 1
        · rw [hi]; exact h2
        · exact O.trans _ _ _ (h.lt _ (by omega)) (h.lt _ (by omega)) (h.lt _ (by omega)) (ha i (j - 1) (by omega) (by omega)) h2
      · exact ha i j hij (by omega)
theorem desc_wp (O : StrictOn N lt) (hc : ∀ i j C, i < N → j < N → i ≠ j → C (lt i j) s → cmp i j C s) (h : GoodP N p) {Q : Array Nat × Nat × Nat → Shared → Prop} : ∀ (f n : Nat), 1 ≤ n → n + f ≤ N → Desc lt p n → (∀ m, n ≤ m → m ≤ n + f → Desc lt p m → Q (p, m, 0) s) → (kas_desc f p n 0).kasWp cmp Q s
  | 0, n, h1, hn, ha, hq => hq n (Nat.le_refl _) (Nat.le_refl _) ha
  | f + 1, n, h1, hn, ha, hq => by
    show cmp (p.getD n 0) (p.getD (n - 1) 0) _ s
    refine hc _ _ _ (h.lt _ (by omega)) (h.lt _ (by omega)) (h.ne _ _ (by omega) (by omega) (by omega)) ?_
    cases hl : lt (p.getD n 0) (p.getD (n - 1) 0) with
    | true =>
      show (kas_desc f p (n + 1) 0).kasWp cmp Q s
      refine desc_wp O hc h f (n + 1) (by omega) (by omega) (fun i j hij hj => ?_) fun m hm hm2 => hq m (by omega) (by omega)
      by_cases hjn : j = n
      · subst hjn
        by_cases hi : i = j - 1
        · rw [hi]; exact hl
        · exact O.trans _ _ _ (h.lt _ (by omega)) (h.lt _ (by omega)) (h.lt _ (by omega)) hl (ha i (j - 1) (by omega) (by omega))
      · exact ha i j hij (by omega)
    | false =>
      have h2 := O.asym _ _ (h.lt n (by omega)) (h.lt (n - 1) (by omega)) (h.ne _ _ (by omega) (by omega) (by omega)) hl
      show cmp (p.getD (n - 1) 0) (p.getD n 0) _ s
      refine hc _ _ _ (h.lt _ (by omega)) (h.lt _ (by omega)) (h.ne _ _ (by omega) (by omega) (by omega)) ?_
      rw [h2]
      exact hq n (Nat.le_refl _) (by omega) ha
theorem count_wp (O : StrictOn N lt) (hc : ∀ i j C, i < N → j < N → i ≠ j → C (lt i j) s → cmp i j C s) (h : GoodP N p) (hN : 2 ≤ N) {Q : Nat × Array Nat → Shared → Prop}
    (hq : ∀ m p', GoodP N p' → 1 ≤ m → m ≤ N → Asc lt p' m → Q (m, p') s) : (kas_count N p).kasWp cmp Q s := by
  unfold kas_count
  rw [KasT.kasWp_bind]
  refine asc_wp O hc h (N - 1) 1 (Nat.le_refl _) (by omega) (fun i j h1 h2 => by omega) fun m hm hm2 ha hor => ?_
  by_cases hmn : m = N
  · subst hmn
    simp only [beq_self_eq_true, if_true]
    exact hq m p h (by omega) (Nat.le_refl _) ha
  · rw [if_neg (by simpa using hmn)]
    by_cases hm1 : m > 1
    · rw [if_pos hm1]
      show cmp (p.getD 0 0) (p.getD (m - 1) 0) _ s
      refine hc _ _ _ (h.lt _ (by omega)) (h.lt _ (by omega)) (h.ne _ _ (by omega) (by omega) (by omega)) ?_
      rw [ha 0 (m - 1) (by omega) (by omega)]
      exact hq m p h (by omega) (by omega) ha
    · rw [if_neg hm1]
      obtain rfl : m = 1 := by omega
      have h10 : lt (p.getD 1 0) (p.getD 0 0) = true := hor.resolve_left (by omega)
      unfold kas_descPart
      rw [KasT.kasWp_bind]
      refine desc_wp O hc h (N - (1 + 1)) (1 + 1) (by omega) (by omega) (fun i j hij hj => ?_) fun n hn hn2 hd => ?_
      · obtain rfl : i = 0 := by omega
        obtain rfl : j = 1 := by omega
        exact h10
      · dsimp only
        rw [if_neg (by omega)]
        unfold kas_tail3
        rw [KasT.kasWp_bind]
        refine asc_wp O hc (good_rev h n) (N - n) n (by omega) (by omega) (fun i j hij hj => ?_) fun m hm hm2 hx _ => hq m _ (good_rev h n) (by omega) (by omega) hx
        rw [rev_get h (by omega), rev_get h (by omega), if_pos (by omega), if_pos (by omega)]
        exact hd _ _ (by omega) (by omega)
theorem place_wp (O : StrictOn N lt) (hc : ∀ i j C, i < N → j < N → i ≠ j → C (lt i j) s → cmp i j C s) (h : GoodP N p) {k : Nat} (hk : k < N) (hs : Asc lt p k) {Q : Nat → Shared → Prop} : ∀ (f l r : Nat), l ≤ r → r ≤ k → r - l ≤ f → (∀ i, i < l → lt (p.getD i 0) (p.getD k 0) = true) →
    (∀ i, r ≤ i → i < k → lt (p.getD k 0) (p.getD i 0) = true) → (∀ l', l' ≤ k → (∀ i, i < l' → lt (p.getD i 0) (p.getD k 0) = true) → (∀ i, l' ≤ i → i < k → lt (p.getD k 0) (p.getD i 0) = true) → Q l' s) → (kas_place p k f l r).kasWp cmp Q s
  | 0, l, r, hlr, hr, hf, h1, h2, hq => by
    obtain rfl : l = r := by omega
    exact hq l hr h1 h2
  | f + 1, l, r, hlr, hr, hf, h1, h2, hq => by
    unfold kas_place
    by_cases hge : l ≥ r
    · rw [if_pos hge]
      obtain rfl : l = r := by omega
      exact hq l hr h1 h2
    · rw [if_neg hge]
      have hm : (l + r) / 2 < r := by omega
      have hm2 : l ≤ (l + r) / 2 := by omega
      show cmp (p.getD k 0) (p.getD ((l + r) / 2) 0) _ s
      refine hc _ _ _ (h.lt _ (by omega)) (h.lt _ (by omega)) (h.ne _ _ (by omega) (by omega) (by omega)) ?_
      cases hl : lt (p.getD k 0) (p.getD ((l + r) / 2) 0) with
      | true =>
        refine place_wp O hc h hk hs f l ((l + r) / 2) hm2 (by omega) (by omega) h1 (fun i hi hik => ?_) hq
        by_cases he : i = (l + r) / 2
        · rw [he]; exact hl
        · exact O.trans _ _ _ (h.lt _ (by omega)) (h.lt _ (by omega)) (h.lt _ (by omega)) hl (hs ((l + r) / 2) i (by omega) hik)
      | false =>
        have h3 := O.asym _ _ (h.lt k (by omega)) (h.lt ((l + r) / 2) (by omega)) (h.ne _ _ (by omega) (by omega) (by omega)) hl
        refine place_wp O hc h hk hs f ((l + r) / 2 + 1) r (by omega) hr (by omega) (fun i hi => ?_) h2 hq
        by_cases he : i = (l + r) / 2
        · rw [he]; exact h3
        · exact O.trans _ _ _ (h.lt _ (by omega)) (h.lt _ (by omega)) (h.lt _ (by omega)) (hs i ((l + r) / 2) (by omega) (by omega)) h3
theorem bin_wp (O : StrictOn N lt) (hc : ∀ i j C, i < N → j < N → i ≠ j → C (lt i j) s → cmp i j C s) {Q : Array Nat → Shared → Prop} : ∀ (f k : Nat) (p : Array Nat), GoodP N p → k + f = N → Asc lt p k → (∀ p', GoodP N p' → Asc lt p' N → Q p' s) → (kas_bin f p k).kasWp cmp Q s
  | 0, k, p, h, hk, ha, hq => hq p h (by rw [← hk]; exact ha)
  | f + 1, k, p, h, hk, ha, hq => by
    unfold kas_bin
    rw [KasT.kasWp_bind]
    refine place_wp O hc h (by omega) ha k 0 k (Nat.zero_le _) (Nat.le_refl _) (by omega) (fun i hi => absurd hi (Nat.not_lt_zero _)) (fun i h1 h2 => by omega) fun l hl h1 h2 => ?_
    refine bin_wp O hc f (k + 1) _ (good_bubble h k (k - l)) (by omega) (fun i j hij hj => ?_) hq
    rw [bubble_get h (by omega) (by omega), bubble_get h (by omega) (by omega), show k - (k - l) = l by omega]
    by_cases hi : i = l
    · rw [if_pos hi, if_neg (by omega), if_pos (by omega)]
      exact h2 (j - 1) (by omega) (by omega)
    · rw [if_neg hi]
      by_cases hi2 : l < i ∧ i ≤ k
      · rw [if_pos hi2, if_neg (by omega), if_pos (by omega)]
        exact ha (i - 1) (j - 1) (by omega) (by omega)
      · rw [if_neg hi2]
        by_cases hjl : j = l
        · rw [if_pos hjl]; exact h1 i (by omega)
        · rw [if_neg hjl]
          by_cases hj2 : l < j ∧ j ≤ k
          · rw [if_pos hj2]; exact ha i (j - 1) (by omega) (by omega)
          · rw [if_neg hj2]; exact ha i j hij (by omega)
theorem sort_wp (O : StrictOn N lt) (hc : ∀ i j C, i < N → j < N → i ≠ j → C (lt i j) s → cmp i j C s) (hN : 2 ≤ N) {Q : Array Nat → Shared → Prop} (hq : ∀ p, GoodP N p → Asc lt p N → Q p s) : (kas_sort N).kasWp cmp Q s := by
  unfold kas_sort
  rw [KasT.kasWp_bind]
  refine count_wp O hc (goodP_of (by simp)) hN fun m p' h h1 hm ha => ?_
  dsimp only
  by_cases hlt : m < N
  · rw [if_pos hlt, show max m 1 = m by omega]
    exact bin_wp O hc (N - m) m p' h (by omega) ha hq
  · rw [if_neg hlt]
    obtain rfl : m = N := by omega
    exact hq p' h ha
end

theorem zz_29 : True := by
  w_top off
  trivial
open SeqAt
open MeetsSeq MeetsSeq2 MeetsSeq3 SeqRoads2
open AutoSeq1 (wpAny_loadPart')
def strLt (x y : Str) : Bool := decide (x.cps.toList < y.cps.toList)
/-- the order of two rows -/
def rowLt : List Str → List Str → Bool
  | [], [] => false
  | [], _ :: _ => true
  | _ :: _, [] => false
  | x :: xs, y :: ys => if x = y then rowLt xs ys else strLt x y
theorem lt_loopAt (l b : Addr) {vs ws : List Value} (n n2 : Nat) {xs ys : List Str} (hx : All2 IsStr vs xs) (hy : All2 IsStr ws ys) (k : Nat) :
    ∀ i : Nat, vs.length - i = k → i ≤ vs.length → i ≤ ws.length → Meets (Builtin.«list.__eq__.loop» ⟨[.ref l, .ref b, rawInt i, rawInt 0], []⟩)
      (fun A R s => s.heap.get? l = some { cls := .type "list", dict := none, data := .seq vs.toArray n, slots := #[] } ∧ s.heap.get? b = some { cls := .type "list", dict := none, data := .seq ws.toArray n2, slots := #[] } ∧
        R (.ok (.ret (.bool (rowLt (xs.drop i) (ys.drop i))))) s) := by
  have hxl := hx.length
  have hyl := hy.length
  induction k with
  | zero =>
    intro i hk hi1 hi2 prog w A R s h
    obtain ⟨hp, g, d, tk, os⟩ := s; obtain ⟨hl, hb, h⟩ := h
    obtain rfl : i = vs.length := by omega
    wp_walk using wpAny_loadPart' hl, wpAny_loadPart' hb
    have e1 : vs.toArray[((vs.length : Nat) : Int).toNat]? = none := by simp
    rw [e1]
    wp_walk using wpAny_loadPart' hl, wpAny_loadPart' hb
    have e2 : rowLt (xs.drop vs.length) (ys.drop vs.length) = decide (vs.toArray.size < ws.toArray.size) := by
      rw [List.drop_eq_nil_of_le (as := xs) (by omega)]
      by_cases hlt : vs.length < ws.length
      · rw [decide_eq_true (by simpa using hlt)]
        rw [List.drop_eq_getElem_cons (l := ys) (by omega)]; rfl
      · rw [decide_eq_false (by simpa using hlt), List.drop_eq_nil_of_le (as := ys) (by omega)]; rfl
    rw [e2] at h
    exact h
  | succ k ih =>
    intro i hk hi1 hi2 prog w A R s h
    obtain ⟨hp, g, d, tk, os⟩ := s; obtain ⟨hl, hb, h⟩ := h
    wp_walk using wpAny_loadPart' hl, wpAny_loadPart' hb
    have hlt : i < vs.length := by omega
    have e1 : vs.toArray[((i : Nat) : Int).toNat]? = some vs[i] := by simp [hlt]
    have d1 : xs.drop i = xs[i]'(by omega) :: xs.drop (i + 1) := List.drop_eq_getElem_cons (by omega)
    by_cases hlt2 : i < ws.length
    · have e2 : ws.toArray[((i : Nat) : Int).toNat]? = some ws[i] := by simp [hlt2]
      have d2 : ys.drop i = ys[i]'(by omega) :: ys.drop (i + 1) := List.drop_eq_getElem_cons (by omega)
      obtain ⟨x, hxi, t, hvx⟩ := hx.get i vs[i] (by simp [hlt])
      obtain ⟨y, hyi, u, hwy⟩ := hy.get i ws[i] (by simp [hlt2])
      have ex : xs[i]'(by omega) = x := (List.getElem?_eq_some_iff.mp hxi).2
      have ey : ys[i]'(by omega) = y := (List.getElem?_eq_some_iff.mp hyi).2
      rw [d1, d2, ex, ey] at h
      rw [e1, e2, hvx, hwy]
      have hc : ((i : Int) + 1) = ((i + 1 : Nat) : Int) := by push_cast; rfl
      refine wpAny_bind (eqBool_str ?_)
      by_cases hxy : x = y
      · rw [show (x == y) = true from by simp [hxy]]
        wp_walk
        rw [hc]
        exact ⟨plainId_quiet plain_eq_loop _, codeAny_builtin entry_eq_loop (by
          rw [Around.under_plainId plain_eq_loop _]
          exact ih (i + 1) (by omega) (by omega) (by omega) prog w A R _ ⟨hl, hb, by unfold rowLt at h; rw [if_pos hxy] at h; exact h⟩)⟩
      · rw [show (x == y) = false from by simp [hxy]]
        wp_walk using wpAny_loadPart' hl, wpAny_loadPart' hb
        rw [e1, e2, hvx, hwy]
        refine wpAny_bind (P.lt_str ?_)
        wp_walk
        unfold rowLt at h
        rw [if_neg hxy] at h
        exact h
    · have e2 : ws.toArray[((i : Nat) : Int).toNat]? = none := by simp; omega
      rw [e1, e2]
      wp_walk using wpAny_loadPart' hl, wpAny_loadPart' hb
      rw [d1, List.drop_eq_nil_of_le (as := ys) (by omega)] at h
      have e3 : decide (vs.toArray.size < ws.toArray.size) = false := decide_eq_false (by simp; omega)
      show R (.ok (.ret (.bool (decide (vs.toArray.size < ws.toArray.size))))) _
      rw [e3]
      exact h
theorem list_ltAt (l b : Addr) {vs ws : List Value} (n n2 : Nat) {xs ys : List Str} (hx : All2 IsStr vs xs) (hy : All2 IsStr ws ys) : Meets (Builtin.«list.__lt__» ⟨[.ref l, .ref b], []⟩)
      (fun A R s => s.heap.get? l = some { cls := .type "list", dict := none, data := .seq vs.toArray n, slots := #[] } ∧ s.heap.get? b = some { cls := .type "list", dict := none, data := .seq ws.toArray n2, slots := #[] } ∧
        R (.ok (.ret (.bool (rowLt xs ys)))) s) := by
  intro prog w A R s h
  obtain ⟨hp, g, d, tk, os⟩ := s; obtain ⟨hl, hb, h⟩ := h
  have f3 := AutoSeq1.sub_list_list
  wp_walk using wpAny_loadPart' hl, wpAny_loadPart' hb
  exact ⟨plainId_quiet plain_eq_loop _, codeAny_builtin entry_eq_loop (by
    rw [Around.under_plainId plain_eq_loop _]
    exact lt_loopAt l b n n2 hx hy _ 0 rfl (Nat.zero_le _) (Nat.zero_le _) prog w A R _ ⟨hl, hb, h⟩)⟩

theorem zz_30 : True := by
  w_top off
  trivial
theorem str_of_cps {x y : Str} (h : x.cps.toList = y.cps.toList) : x = y := by
  obtain ⟨a⟩ := x
  obtain ⟨b⟩ := y
  exact congrArg _ (Array.toList_inj.mp h)
theorem strLt_total {x y : Str} (h : x ≠ y) (h1 : strLt x y = false) : strLt y x = true := by
  unfold strLt at *
  have h2 : ¬ x.cps.toList < y.cps.toList := of_decide_eq_false h1
  refine decide_eq_true ?_
  have h3 := List.not_lt.mp h2
  by_cases h4 : y.cps.toList < x.cps.toList
  · exact h4
  · exact absurd (str_of_cps (List.le_antisymm (List.not_lt.mp h4) h3)) h
theorem strLt_trans {x y z : Str} (h1 : strLt x y = true) (h2 : strLt y z = true) : strLt x z = true := by
  unfold strLt at *
  exact decide_eq_true (List.lt_trans (of_decide_eq_true h1) (of_decide_eq_true h2))
theorem strLt_anti {x y : Str} (h1 : strLt x y = true) (h2 : strLt y x = true) : False := by
  have := strLt_trans h1 h2
  unfold strLt at this
  exact List.lt_irrefl _ (of_decide_eq_true this)
theorem rowLt_total : ∀ {a b : List Str}, a ≠ b → rowLt a b = false → rowLt b a = true
  | [], [], h, _ => absurd rfl h
  | [], _ :: _, _, h => by simp [rowLt] at h
  | _ :: _, [], _, _ => rfl
  | x :: xs, y :: ys, h, h1 => by
    unfold rowLt at h1 ⊢
    by_cases hxy : x = y
    · subst hxy
      rw [if_pos rfl] at h1 ⊢
      exact rowLt_total (fun e => h (by rw [e])) h1
    · rw [if_neg hxy] at h1
      rw [if_neg (Ne.symm hxy)]
      exact strLt_total hxy h1
theorem rowLt_trans : ∀ {a b c : List Str}, rowLt a b = true → rowLt b c = true → rowLt a c = true
  | [], [], _, h, _ => by simp [rowLt] at h
  | [], _ :: _, [], _, h => by simp [rowLt] at h
  | [], _ :: _, _ :: _, _, _ => rfl
  | _ :: _, [], _, h, _ => by simp [rowLt] at h
  | _ :: _, _ :: _, [], _, h => by simp [rowLt] at h
  | x :: xs, y :: ys, z :: zs, h1, h2 => by
    unfold rowLt at h1 h2 ⊢
    by_cases hxy : x = y
    · subst hxy
      rw [if_pos rfl] at h1
      by_cases hyz : x = z
      · rw [if_pos hyz] at h2 ⊢
        exact rowLt_trans h1 h2
      · rw [if_neg hyz] at h2 ⊢
        exact h2
    · rw [if_neg hxy] at h1
      by_cases hyz : y = z
      · subst hyz
        rw [if_neg hxy]; exact h1
      · rw [if_neg hyz] at h2
        have hxz : x ≠ z := fun e => by subst e; exact strLt_anti h1 h2
        rw [if_neg hxz]
        exact strLt_trans h1 h2
theorem rowLt_irrefl : ∀ a : List Str, rowLt a a = false
  | [] => rfl
  | x :: xs => by unfold rowLt; rw [if_pos rfl]; exact rowLt_irrefl xs
theorem rowLt_anti {a b : List Str} (h1 : rowLt a b = true) (h2 : rowLt b a = true) : False := by
  have := rowLt_trans h1 h2
  rw [rowLt_irrefl] at this; cases this
theorem looks_list {M : Model} {h : Heap} {a : Addr} {ws : List Value} {k : Nat} (e : h.get? a = some (lst ws k)) : Looks M h (typeOf (.ref a)) (.type "list") := fun A Q E s k q => wpAny_typeOf (s := s) ⟨_, k _ _ e, rfl⟩ q
section
variable {prog : Program} {w : World} {A : Around} {E : Value → Shared → Prop} {s : Shared} {h₀ : Heap} {L l : Addr} {m : Str → Option Value} {own news : List (Addr × Obj)} {vs : List Value} {rs : List (List Str)} {n : Nat} {Q : Value → Shared → Prop}
theorem rowsAt_getD {i : Nat} (hR : RowsAt h₀ own vs rs) (hi : i < vs.length) : RowAt h₀ own (vs.getD i Value.none) (rs.getD i []) := by
  induction hR generalizing i with
  | nil => exact absurd hi (Nat.not_lt_zero _)
  | cons h _ ih =>
    cases i with
    | zero => exact h
    | succ i => exact ih (Nat.lt_of_succ_lt_succ hi)
theorem rowsAt_map (hR : RowsAt h₀ own vs rs) : ∀ (p : List Nat), (∀ i ∈ p, i < vs.length) → RowsAt h₀ own (p.map fun i => vs.getD i Value.none) (p.map fun i => rs.getD i [])
  | [], _ => .nil
  | i :: p, h => .cons (rowsAt_getD hR (h i (.head _))) (rowsAt_map hR p fun j hj => h j (.tail _ hj))
theorem ask_row {vi vj : Value} {a b : List Str} {C : Bool → Shared → Prop} (hu : A.units < 9000) (F : Fr h₀ L s.heap m) (N : News h₀ L s.heap news) (sub : ∀ p ∈ own, p ∈ news) (hi : RowAt h₀ own vi a) (hj : RowAt h₀ own vj b) (hC : C (rowLt a b) s) :
    wpAny (model prog w) A (keyLt' oneType' vi vj) C (fun _ _ => False) s := by
  obtain ⟨x, ws, k, rfl, hw, hx⟩ := hi
  obtain ⟨y, us, k', rfl, hw', hy⟩ := hj
  have ex : s.heap.get? x = some (lst ws k) := hx.elim (F.keep _ _) fun q => (N _ (sub _ q)).1
  have ey : s.heap.get? y = some (lst us k') := hy.elim (F.keep _ _) fun q => (N _ (sub _ q)).1
  rw [keyLt'_oneType, oneLt'_eq]
  simp only [if_true]
  refine wpAny_bind (wpAny_cRoomFor (by unfold cLine; omega) ?_)
  refine wpAny_bind (wpAny_callSpecialIfBound?_slot (T := "list") ⟨_, ex, rfl⟩ PySem.F.slot_list_lt (call_meets PySem.F.slot_list_lt ⟨_, ex, rfl⟩ PySem.F.entry_list_lt (PySem.F.args_list_lt_2 _ _) (list_ltAt x y k k' (strs_all2 hw) (strs_all2 hw')) ⟨ex, ey, ?_⟩))
  exact wpAny_truthy_bool hC
theorem sorted_R (F : Fr h₀ L s.heap m) (N : News h₀ L s.heap news) (hl : (l, W.listOf vs.toArray n) ∈ news) (hR : RowsAt h₀ own vs rs) (sub : ∀ p ∈ own, p ∈ news) (hnd : rs.Nodup) (h2 : 2 ≤ rs.length) (h64 : rs.length < 64) (hu : A.units < 8000)
    (hQ : ∀ D h' tk vs' rs' k', Fr h₀ L h' m → News h₀ L h' ((D, W.listOf (List.toArray vs') k') :: news) → (∀ p ∈ news, p.1 < D) → RowsAt h₀ own vs' rs' → rs'.Perm rs → rs'.Pairwise (fun a b => rowLt a b = true) → Q (.ref D) { s with heap := h', toks := tk }) :
    wpAny (model prog w) A (call (.builtin "sorted") [.ref l]) Q E s := by
  have hlen := hR.length
  have hgd : ∀ i (hi : i < vs.length), rs.getD i [] = rs[i]'(by omega) := fun i hi => by simp [List.getD, show i < rs.length by omega]
  have O : StrictOn vs.length (fun i j => rowLt (rs.getD i []) (rs.getD j [])) := by
    refine ⟨fun i j hi hj hij h => rowLt_total (fun e => ?_) h, fun i j k _ _ _ h1 h2 => rowLt_trans h1 h2, fun i j _ _ h1 h2 => rowLt_anti h1 h2⟩
    rw [hgd i hi, hgd j hj] at e
    exact hij ((List.getElem_inj hnd).mp e)
  refine kas_sorted F N (News.isList N hl) (by omega) (by omega) (T := .type "list") (fun h F' N' v hv => ?_) (by decide) fun D e1 h' F' N' hlt => ?_
  · obtain ⟨i, hi, rfl⟩ := List.mem_iff_getElem.mp hv
    have := rowsAt_getD hR hi
    rw [show vs.getD i Value.none = vs[i] from by simp [List.getD, hi]] at this
    obtain ⟨a, ws, k, e, _, hx⟩ := this
    rw [e]
    exact looks_list (hx.elim (F'.keep _ _) fun q => (N' _ (sub _ q)).1)
  · refine sort_wp O (fun i j C hi hj _ hC => ?_) (by omega) fun p hp ha => ?_
    · exact ask_row (s := { s with heap := h' }) (by show A.units + 1 + 1 < 9000; omega) F' N' (fun q hq => .tail _ (sub q hq)) (rowsAt_getD hR hi) (rowsAt_getD hR hj) hC
    · refine KasFin.intro F' N' (UpdF.head fun q hq => Nat.ne_of_lt (hlt q hq)) fun h2' c F2 N2 => ?_
      have hin : ∀ i ∈ p.toList, i < vs.length := fun i hi => List.mem_range.mp (hp.perm.mem_iff.mp hi)
      refine hQ D h2' _ _ (p.toList.map fun i => rs.getD i []) c F2 N2 hlt (rowsAt_map hR p.toList hin) ?_ ?_
      · have e1 : (List.range vs.length).map (fun i => rs.getD i []) = rs := by
          refine List.ext_getElem (by simp [hlen]) fun i h1 h2 => ?_
          simp [List.getD, h2]
        have := hp.perm.map (fun i => rs.getD i [])
        rwa [e1] at this
      · rw [List.pairwise_map, List.pairwise_iff_getElem]
        intro i j hi hj hij
        have hs := hp.size
        have := ha i j hij (by simpa [hs] using hj)
        have gi : p.getD i 0 = p.toList[i] := by simp [Array.getD, show i < p.size by simpa using hi]
        have gj : p.getD j 0 = p.toList[j] := by simp [Array.getD, show j < p.size by simpa using hj]
        rw [gi, gj] at this
        exact this
end

theorem zz_30b : True := by
  w_top off
  trivial
theorem strsAre_drop : ∀ {vs : List Value} {st : List Str} (b : Nat), StrsAre vs st → StrsAre (vs.drop b) (st.drop b)
  | _, _, 0, h => h
  | _, _, _ + 1, .nil => .nil
  | _, _, b + 1, .cons y t h => strsAre_drop b h
section
variable {prog : Program} {w : World} {A : Around} {E : Value → Shared → Prop} {s : Shared} {h₀ : Heap} {L l : Addr} {m : Str → Option Value} {news : List (Addr × Obj)} {vs : List Value} {n b : Nat} {Q : Value → Shared → Prop} {value slice : PySem.Expr} {tb : Tok}
theorem drop_S (F : Fr h₀ L s.heap m) (N : News h₀ L s.heap news) (hm : (l, W.listOf vs.toArray n) ∈ news)
    (h : ∀ D h', Fr h₀ L h' m → News h₀ L h' ((D, W.listOf (vs.drop 1).toArray 0) :: news) → (∀ p ∈ news, p.1 < D) → Q (.ref D) { s with heap := h' })
    (hs : subscripted slice false (.ref l) (.ref s.heap.objs.size) = operate [.ref s.heap.objs.size, .ref l] (getItem (.ref l) (.ref s.heap.objs.size))) (ht : ∀ r, letTemporaryGo value (.ref l) r = pure ()) (hz : vs.length ≤ 100000) :
    wpAny (model prog w) A (subscriptTail value slice (.ref l) (.ref s.heap.objs.size)) Q E { s with heap := s.heap.push { cls := .type "slice", data := .fields #[.int 1 tb, .none, .none] } } := by
  refine kmk_slice F N (News.isList N hm) (.int _ _) .none (fun D h' F' N' => h D h' F' ?_) hs ht (by rw [List.size_toArray, sizeLine_eq]; omega)
  have := slicePick_from' vs.toArray 1
  rw [show ((1 : Nat) : Int) = 1 from rfl] at this
  rw [this] at N'
  simpa using N'
theorem init_S (F : Fr h₀ L s.heap m) (N : News h₀ L s.heap news) (hm : (l, W.listOf vs.toArray n) ∈ news)
    (h : ∀ D h', Fr h₀ L h' m → News h₀ L h' ((D, W.listOf (vs.take (vs.length - 1)).toArray 0) :: news) → (∀ p ∈ news, p.1 < D) → Q (.ref D) { s with heap := h' })
    (hs : subscripted slice false (.ref l) (.ref s.heap.objs.size) = operate [.ref s.heap.objs.size, .ref l] (getItem (.ref l) (.ref s.heap.objs.size))) (ht : ∀ r, letTemporaryGo value (.ref l) r = pure ()) (hz : vs.length ≤ 100000) :
    wpAny (model prog w) A (subscriptTail value slice (.ref l) (.ref s.heap.objs.size)) Q E { s with heap := s.heap.push { cls := .type "slice", data := .fields #[.none, .int (-1) tb, .none] } } := by
  refine kmk_slice F N (News.isList N hm) .none (.int _ _) (fun D h' F' N' => h D h' F' ?_) hs ht (by rw [List.size_toArray, sizeLine_eq]; omega)
  have := slicePick_butLast vs.toArray 1 (Nat.le_refl _)
  rw [show (-((1 : Nat) : Int)) = -1 from rfl] at this
  rw [this] at N'
  simpa using N'
theorem split_S {x y : Str} {t u : Tok} (F : Fr h₀ L s.heap m) (N : News h₀ L s.heap news) (hy : (y.length == 0) = false) (hx : x.length ≤ 100000)
    (h : ∀ D h' k vs, Fr h₀ L h' m → News h₀ L h' ((D, W.listOf (List.toArray vs) 0) :: news) → (∀ p ∈ news, p.1 < D) → StrsAre vs (Txt.split x y) → Q (.ref D) { s with heap := h', toks := k }) :
    wpAny (model prog w) A (call (.builtin "str.split") [.str x t, .str y u]) Q E s :=
  splitN1 F N hy (fun l h' k e F' N' => h _ h' k (strValues l) F' N' (fun p hp => Heap.lt_size (N p hp).1) (by rw [← e]; exact strsAre_of_values l)) (by rw [sizeLine_eq]; omega)
theorem take_L (F : Fr h₀ L s.heap m) (N : News h₀ L s.heap news) (hl : s.heap.IsList l vs.toArray)
    (h : ∀ D h', Fr h₀ L h' m → News h₀ L h' ((D, W.listOf (vs.take b).toArray 0) :: news) → (∀ p ∈ news, p.1 < D) → Q (.ref D) { s with heap := h' })
    (hs : subscripted slice false (.ref l) (.ref s.heap.objs.size) = operate [.ref s.heap.objs.size, .ref l] (getItem (.ref l) (.ref s.heap.objs.size))) (ht : ∀ r, letTemporaryGo value (.ref l) r = pure ()) (hz : vs.length ≤ 100000) :
    wpAny (model prog w) A (subscriptTail value slice (.ref l) (.ref s.heap.objs.size)) Q E { s with heap := s.heap.push { cls := .type "slice", data := .fields #[.none, .int (b : Nat) tb, .none] } } := by
  refine kmk_slice F N hl .none (.int _ _) (fun D h' F' N' => h D h' F' ?_) hs ht (by rw [List.size_toArray, sizeLine_eq]; omega)
  rw [slicePick_upto'] at N'
  simpa using N'
end

theorem zz_30c : True := by
  w_top off
  trivial
open SeqAt
section
variable {α : Type} [DecidableEq α] {A : Around} {s : Shared} {prog : Program} {w : World} {E : Value → Shared → Prop}
theorem lst_rcNeAt {P : Value → α → Prop} (heq : ∀ v w x y, P v x → P w y → EqAt A.in1 s v w (decide (x = y))) (hu : A.units < cLine) {v w : Value} {xs ys : List α} :
    LstOf P s.heap v xs → LstOf P s.heap w ys → RcNeAt A s v w (!decide (xs = ys))
  | ⟨a, vs, e1, hl, h⟩, ⟨b, ws, e2, hl2, k⟩ => by
    subst e1 e2
    by_cases hlen : vs.length = ws.length
    · have hsz : vs.toArray.size = ws.toArray.size := by simpa using hlen
      have := RcNeAt.lists (A := A) (s := s) (e := fun j => match xs[j]?, ys[j]? with | some x, some y => decide (x = y) | _, _ => true) hl hl2 hsz hu fun j h1 h2 => by
        have h1' : j < vs.length := by simpa using h1
        have h2' : j < ws.length := by simpa using h2
        obtain ⟨x, hx, hpx⟩ := h.get j vs[j] (by simp [h1'])
        obtain ⟨y, hy, hpy⟩ := k.get j ws[j] (by simp [h2'])
        simp only [hx, hy]
        exact heq _ _ _ _ hpx hpy
      have hr := range_all_eq h k hlen (fun j => match xs[j]?, ys[j]? with | some x, some y => decide (x = y) | _, _ => true) fun j x y hx hy => by simp only [hx, hy]
      rw [show vs.toArray.size = vs.length from by simp, hr] at this
      exact this
    · have hne : xs ≠ ys := fun e => hlen (by rw [h.length, k.length, e])
      rw [decide_eq_false hne]
      exact RcNeAt.lists_lengths hl hl2 (by simpa using hlen) hu
theorem lst_ne {P : Value → α → Prop} {v u : Value} {xs ys : List α} {Q : Value → Shared → Prop} (heq : ∀ v w x y, P v x → P w y → EqAt A.in1 s v w (decide (x = y))) (hu : A.units < cLine) (h : LstOf P s.heap v xs) (k : LstOf P s.heap u ys)
    (hQ : Q (.bool (!decide (xs = ys))) s) : wpAny (model prog w) A (compareOp .NotEq v u) Q E s := lst_rcNeAt heq hu h k prog w E Q hQ
end

theorem zz_30d : True := by
  w_top off
  trivial
/-! what the texts of the script are like -/
def sl : Str := Str.ofString "/"
def dotS : Str := Str.ofString "."
def pcs : List Str := [Str.ofString "a", Str.ofString "b", Str.ofString "..", Str.ofString ".", Str.ofString "", Str.ofString "ab"]
def pc (k : Nat) : Str := pcs.getD k (Str.ofString "")
def dg (x : Nat) : List Str := (List.range 4).map fun k => pc (x / 6 ^ k % 6)
def txtOf (ps : List Str) : Str := Txt.join sl (dotS :: ps)
def strOf (r : List Str) : Str := sl ++ Txt.join sl r
def free (p : Str) : Prop := 47 ∉ p.cps.toList
theorem sl_eq : sl = ⟨#[47]⟩ := by decide +kernel
theorem tjoin (s : Str) (ys : List Str) : Txt.join s ys = Str.join s ys := StrLaws.glued_eq_join s ys
theorem cps_cons2 (x y : Str) (r : List Str) : (Str.join sl (x :: y :: r)).cps.toList = x.cps.toList ++ 47 :: (Str.join sl (y :: r)).cps.toList := by
  show (x ++ sl ++ Str.join sl (y :: r)).cps.toList = _
  rw [sl_eq, Str.cps_append, Str.cps_append]; simp
theorem cut_eq {a b : List Nat} (ha : 47 ∉ a) (hb : 47 ∉ b) : ∀ {r q : List Nat}, a ++ 47 :: r = b ++ 47 :: q → a = b ∧ r = q := by
  induction a generalizing b with
  | nil =>
    intro r q h
    cases b with
    | nil => exact ⟨rfl, by simpa using h⟩
    | cons y b => simp at h; exact absurd h.1 (by intro e; exact hb (e ▸ List.mem_cons_self))
  | cons x a ih =>
    intro r q h
    cases b with
    | nil => simp at h; exact absurd h.1.symm (by intro e; exact ha (e ▸ List.mem_cons_self))
    | cons y b =>
      simp only [List.cons_append, List.cons.injEq] at h
      obtain ⟨e1, e2⟩ := ih (fun m => ha (.tail _ m)) (fun m => hb (.tail _ m)) h.2
      exact ⟨by rw [h.1, e1], e2⟩
theorem join_inj : ∀ {ps qs : List Str}, ps ≠ [] → qs ≠ [] → (∀ p ∈ ps, free p) → (∀ p ∈ qs, free p) → Str.join sl ps = Str.join sl qs → ps = qs
  | [], _, h, _, _, _, _ => absurd rfl h
  | _, [], _, h, _, _, _ => absurd rfl h
  | [x], [y], _, _, _, _, h => congrArg (fun z => [z]) (show x = y from h)
  | [x], y :: z :: r, _, _, hp, _, h => by
    have h1 : x.cps.toList = y.cps.toList ++ 47 :: (Str.join sl (z :: r)).cps.toList := by rw [← cps_cons2, ← h]; rfl
    exact absurd (h1 ▸ List.mem_append_right _ List.mem_cons_self) (hp x (.head _))
  | x :: z :: r, [y], _, _, _, hq, h => by
    have h1 : y.cps.toList = x.cps.toList ++ 47 :: (Str.join sl (z :: r)).cps.toList := by rw [← cps_cons2, h]; rfl
    exact absurd (h1 ▸ List.mem_append_right _ List.mem_cons_self) (hq y (.head _))
  | x :: x2 :: r, y :: y2 :: q, _, _, hp, hq, h => by
    have h1 := congrArg (fun z : Str => z.cps.toList) h
    simp only [cps_cons2] at h1
    obtain ⟨e1, e2⟩ := cut_eq (hp x (.head _)) (hq y (.head _)) h1
    have e3 : x = y := Str.ext' (Array.toList_inj.mp e1)
    have e4 := join_inj (by simp) (by simp) (fun p m => hp p (.tail _ m)) (fun p m => hq p (.tail _ m)) (Str.ext' (Array.toList_inj.mp e2))
    rw [e3, e4]
theorem split_ne (x y : Str) : Txt.split x y ≠ [] := by
  unfold Txt.split
  split
  · simp
  · split
    · simp
    · rw [StrLaws.partsBetween_eq]
      obtain ⟨p, r, e⟩ := StrLaws.partsFrom_ne x y.length 0 (Builtin.Str.occurrences x y 0 x.length (x.length + 1))
      rw [e]; simp
theorem split_join {ps : List Str} (h : ps ≠ []) (hf : ∀ p ∈ ps, free p) : Txt.split (Txt.join sl ps) sl = ps := by
  refine join_inj (split_ne _ _) h (fun p hp => ?_) hf ?_
  · rw [sl_eq] at hp; exact StrLaws.split_free _ 47 p hp
  · rw [StrLaws.join_split, tjoin]
theorem pc_free (k : Nat) : free (pc k) := by
  unfold free pc
  rcases k with _ | _ | _ | _ | _ | _ | k
  all_goals first | decide +kernel | (show ¬ 47 ∈ (List.getD [] k (Str.ofString "")).cps.toList; simp; decide +kernel)
theorem pc_len (k : Nat) : (pc k).length ≤ 2 := by
  unfold pc
  rcases k with _ | _ | _ | _ | _ | _ | k
  all_goals first | decide +kernel | (show (List.getD [] k (Str.ofString "")).length ≤ 2; simp; decide +kernel)
theorem dg_mem {x : Nat} {p : Str} (h : p ∈ dg x) : ∃ k, p = pc k := by
  obtain ⟨k, _, rfl⟩ := List.mem_map.mp h
  exact ⟨_, rfl⟩
theorem dg_free {x : Nat} : ∀ p ∈ dotS :: dg x, free p := by
  intro p hp
  rcases List.mem_cons.mp hp with rfl | hp
  · unfold free; decide +kernel
  · obtain ⟨k, rfl⟩ := dg_mem hp; exact pc_free k
theorem dg_len (x : Nat) : (dg x).length = 4 := by unfold dg; simp
theorem txt_split (x : Nat) : Txt.split (txtOf (dg x)) sl = dotS :: dg x := split_join (by simp) dg_free
theorem txt_len (x : Nat) : (txtOf (dg x)).length ≤ 20 := by
  have h := join_len sl (dotS :: dg x)
  have h2 := sum_len_le 2 (dotS :: dg x) (fun a ha => by
    rcases List.mem_cons.mp ha with rfl | ha
    · decide +kernel
    · obtain ⟨k, rfl⟩ := dg_mem ha; exact pc_len k)
  have h3 : sl.length = 1 := by decide +kernel
  rw [h3] at h
  rw [List.length_cons, dg_len] at h h2
  exact Nat.le_trans h (by omega)
theorem txt_cps (x : Nat) : ∃ r, (txtOf (dg x)).cps.toList = 46 :: 47 :: r := by
  unfold txtOf
  rw [tjoin]
  have h := dg_len x
  generalize dg x = l at h
  cases l with
  | nil => cases h
  | cons a l => exact ⟨_, by rw [cps_cons2]; rfl⟩
theorem len_toList (x : Str) : x.cps.toList.length = x.length := by simp [Str.length]
theorem txt_start (x : Nat) : Txt.startswith (txtOf (dg x)) sl = false := by
  obtain ⟨r, h⟩ := txt_cps x
  unfold Txt.startswith
  rw [StrLaws.subAt_eq, h, sl_eq]
  rw [Bool.and_eq_false_iff]
  exact .inr rfl
theorem sl_len : sl.length = 1 := by decide +kernel
theorem sl_app_len (t : Str) : (sl ++ t).length = t.length + 1 := by
  rw [Str.length_append, sl_len]; omega
theorem sl_app_cps (t : Str) : (sl ++ t).cps.toList = 47 :: t.cps.toList := by rw [Str.cps_append, sl_eq]; simp
theorem slice_from1 (t : Str) : Txt.slice (sl ++ t) (some 1) none = t := by
  have h := eq_of_beq (slice_closes_from (x := sl ++ t) (i := 1) ⟨by decide, by rw [len_toList, sl_app_len]; omega⟩)
  rw [h]
  apply Str.ext'
  apply Array.toList_inj.mp
  rw [sl_app_cps]
  simp only [List.length_cons]
  show (t.cps.toList).take _ = _
  refine List.take_of_length_le ?_
  omega
theorem slice_to1 (t : Str) : Txt.slice (sl ++ t) none (some 1) = sl := by
  have h := eq_of_beq (slice_closes_to (x := sl ++ t) (j := 1) ⟨by decide, by rw [len_toList, sl_app_len]; omega⟩)
  rw [h]
  apply Str.ext'
  apply Array.toList_inj.mp
  rw [sl_app_cps, sl_eq]
  rfl
theorem slice_12 {t : Str} {r : List Nat} (ht : t.cps.toList = 46 :: r) : Txt.slice (sl ++ t) (some 1) (some 2) = dotS := by
  have h := eq_of_beq (slice_closes (x := sl ++ t) (i := 1) (j := 2) ⟨by decide, by decide, by rw [sl_app_cps, ht]; simp only [List.length_cons]; omega⟩)
  rw [h]
  apply Str.ext'
  apply Array.toList_inj.mp
  rw [sl_app_cps, ht]
  rfl
/-- the rows that there are -/
def atoms : List Str := [Str.ofString "a", Str.ofString "b", Str.ofString "ab"]
def rowsUpTo : Nat → List (List Str)
  | 0 => [[]]
  | n + 1 => [] :: (rowsUpTo n).flatMap fun r => atoms.map fun a => a :: r
def okRow (r : List Str) : Prop := r.length ≤ 4 ∧ ∀ a ∈ r, a ∈ atoms
theorem okRow_mem : ∀ (n : Nat) (r : List Str), r.length ≤ n → (∀ a ∈ r, a ∈ atoms) → r ∈ rowsUpTo n
  | 0, r, h, _ => by
    cases r with
    | nil => simp [rowsUpTo]
    | cons => simp at h
  | n + 1, r, h, ha => by
    cases r with
    | nil => simp [rowsUpTo]
    | cons a r =>
      refine .tail _ (List.mem_flatMap.mpr ⟨r, okRow_mem n r (by simpa using h) (fun a m => ha a (.tail _ m)), List.mem_map.mpr ⟨a, ha a (.head _), rfl⟩⟩)
/-- the states of a text, from the end -/
def psOf (r : List Str) (i : Nat) : Str := if r = [] then Str.ofString "" else strOf (r.take (r.length - i))
def chkRow (r : List Str) : Bool := decide (Txt.rstripChars (strOf r) sl = if r = [] then Str.ofString "" else strOf r) && decide (splitHead (strOf r) = if r = [] then splitHead sl else strOf r.dropLast)
theorem chk_rows : (rowsUpTo 4).all chkRow = true := by decide +kernel
theorem chk_row {r : List Str} (h : okRow r) : chkRow r = true := List.all_eq_true.mp chk_rows r (okRow_mem 4 r h.1 h.2)
theorem strOf_nil : strOf [] = sl := by decide +kernel
theorem strOf_ne (r : List Str) : (strOf r).length ≠ 0 := by unfold strOf; rw [sl_app_len]; omega
theorem row_strip {r : List Str} (h : okRow r) (hn : r ≠ []) : Txt.rstripChars (strOf r) sl = strOf r := by
  have hc := chk_row h
  unfold chkRow at hc
  rw [Bool.and_eq_true] at hc
  have := of_decide_eq_true hc.1
  rwa [if_neg hn] at this
theorem row_head {r : List Str} (h : okRow r) (hn : r ≠ []) : splitHead (strOf r) = strOf r.dropLast := by
  have hc := chk_row h
  unfold chkRow at hc
  rw [Bool.and_eq_true] at hc
  have := of_decide_eq_true hc.2
  rwa [if_neg hn] at this
theorem sl_strip : Txt.rstripChars sl sl = Str.ofString "" := by decide +kernel
def chkDg (x : Nat) : Bool := decide ((dotS :: dg x).foldl normStep [] = rowOf (dotS :: dg x)) && decide ((rowOf (dotS :: dg x)).length ≤ 4) && (rowOf (dotS :: dg x)).all fun a => decide (a ∈ atoms)
theorem chk_dg : (List.range 1296).all chkDg = true := by decide +kernel
theorem dg_mod (x : Nat) : dg x = dg (x % 1296) := by
  unfold dg
  refine List.map_congr_left fun k hk => ?_
  have hk4 := List.mem_range.mp hk
  congr 1
  rcases k with _ | _ | _ | _ | k <;> first | (exfalso; omega) | (simp; done) | (simp; omega)
theorem chk_dgx (x : Nat) : chkDg x = true := by
  have h := List.all_eq_true.mp chk_dg (x % 1296) (List.mem_range.mpr (Nat.mod_lt _ (by decide)))
  unfold chkDg at h ⊢
  rw [dg_mod x]; exact h
/-- the row of a script's number -/
def rwOf (x : Nat) : List Str := rowOf (Txt.split (txtOf (dg x)) sl)
theorem rwOf_eq (x : Nat) : rwOf x = rowOf (dotS :: dg x) := by unfold rwOf; rw [txt_split]
theorem rwOf_ok (x : Nat) : okRow (rwOf x) := by
  have h := chk_dgx x
  unfold chkDg at h
  rw [Bool.and_eq_true, Bool.and_eq_true] at h
  rw [rwOf_eq]
  exact ⟨of_decide_eq_true h.1.2, fun a ha => of_decide_eq_true (List.all_eq_true.mp h.2 a ha)⟩
theorem rwOf_norm (x : Nat) : (dotS :: dg x).foldl normStep [] = rwOf x := by
  have h := chk_dgx x
  unfold chkDg at h
  rw [Bool.and_eq_true, Bool.and_eq_true] at h
  rw [rwOf_eq]
  exact of_decide_eq_true h.1.1
/-- a row's places, top down -/
def rowsIn (r : List Str) : List (List Str) := (List.range r.length).map fun k => r.take (k + 1)
theorem atom_len {a : Str} (h : a ∈ atoms) : a.length ≤ 2 := by
  simp only [atoms, List.mem_cons, List.not_mem_nil, or_false] at h
  rcases h with rfl | rfl | rfl <;> decide +kernel
theorem atom_free {a : Str} (h : a ∈ atoms) : free a := by
  unfold free
  simp only [atoms, List.mem_cons, List.not_mem_nil, or_false] at h
  rcases h with rfl | rfl | rfl <;> decide +kernel
theorem okRow_take {r : List Str} (h : okRow r) (k : Nat) : okRow (r.take k) := ⟨by rw [List.length_take]; have := h.1; omega, fun a ha => h.2 a (List.mem_of_mem_take ha)⟩
theorem strOf_len {r : List Str} (h : okRow r) : (strOf r).length ≤ 20 := by
  unfold strOf
  rw [sl_app_len]
  have h1 := join_len sl r
  have h2 := sum_len_le 2 r fun a ha => atom_len (h.2 a ha)
  rw [sl_len] at h1
  have := h.1
  omega
theorem psOf_len {r : List Str} (h : okRow r) (i : Nat) : (psOf r i).length ≤ 1000 := by
  unfold psOf
  split
  · decide +kernel
  · have := strOf_len (okRow_take h (r.length - i)); omega
theorem range_rev_map (f : Nat → Str) (g : Nat → Str) (n : Nat) (h : ∀ i, i < n → f i = g (n - 1 - i)) : ((List.range n).map f).reverse = (List.range n).map g := by
  refine List.ext_getElem (by simp) fun i h1 h2 => ?_
  have hi : i < n := by simpa using h2
  rw [List.getElem_reverse]
  simp only [List.getElem_map, List.getElem_range, List.length_map, List.length_range]
  rw [h _ (by omega)]
  congr 1; omega
/-- a text of the script has what its places ask -/
theorem txt_TF (x : Nat) : TF (txtOf (dg x)) ((rowsIn (rwOf x)).map strOf) := by
  have hk := rwOf_ok x
  have hl := txt_len x
  obtain ⟨r, hr⟩ := txt_cps x
  have e1 : sl ++ Txt.join sl ((dotS :: dg x).foldl normStep []) = strOf (rwOf x) := by rw [rwOf_norm]; rfl
  refine ⟨dotS :: dg x, psOf (rwOf x), (rwOf x).length, by omega, txt_start x, ?_, ?_, slice_to1 _, slice_12 hr, ?_, ?_, ?_, ?_, ?_, ?_, fun i _ => psOf_len hk i, ?_, ?_⟩
  · show (sl ++ txtOf (dg x)).length ≤ 1000; rw [sl_app_len]; omega
  · show (sl ++ txtOf (dg x)).length ≠ 0; rw [sl_app_len]; omega
  · show Txt.split (Txt.slice (sl ++ txtOf (dg x)) (some 1) none) sl = _
    rw [slice_from1, txt_split]
  · show (sl ++ Txt.join sl ((dotS :: dg x).foldl normStep [])).length ≤ 1000
    rw [e1]; have := strOf_len hk; omega
  · show Txt.rstripChars (sl ++ Txt.join sl ((dotS :: dg x).foldl normStep [])) sl = _
    rw [e1]
    unfold psOf
    split
    · rename_i h; rw [h, strOf_nil]; exact sl_strip
    · rw [row_strip hk (by assumption), Nat.sub_zero, List.take_length]
  · intro i hi
    have hne : rwOf x ≠ [] := fun e => by rw [e] at hi; exact absurd hi (Nat.not_lt_zero _)
    unfold psOf
    rw [if_neg hne, if_neg hne, row_head (okRow_take hk _) (fun e => by have := congrArg List.length e; rw [List.length_take] at this; simp at this; omega)]
    congr 1
    rw [List.dropLast_eq_take, List.take_take, List.length_take]
    congr 1; omega
  · intro i hi
    have hne : rwOf x ≠ [] := fun e => by rw [e] at hi; exact absurd hi (Nat.not_lt_zero _)
    unfold psOf
    rw [if_neg hne]
    show (Txt.rstripChars _ sl).length ≠ 0
    rw [row_strip (okRow_take hk _) (fun e => by have := congrArg List.length e; rw [List.length_take] at this; simp at this; omega)]
    exact strOf_ne _
  · show (Txt.rstripChars _ sl).length = 0
    unfold psOf
    split
    · decide +kernel
    · rw [Nat.sub_self, List.take_zero, strOf_nil, sl_strip]; decide +kernel
  · have := hk.1; omega
  · unfold rowsIn
    rw [List.map_map]
    refine range_rev_map _ _ _ fun i hi => ?_
    unfold psOf
    rw [if_neg (fun e => by rw [e] at hi; exact absurd hi (Nat.not_lt_zero _))]
    simp only [Function.comp]
    congr 2; omega

local macro_rules | `(tactic| walk_at "subscriptTail Name Slice ref ref") => `(tactic| (k_here; (with_reducible show wpAny _ _ (subscriptTail _ (PySem.Expr.Slice (some _) none none _) (Value.ref _) (Value.ref _)) _ _ _); k_dflt (refine' drop_S ?F ?N ?l ?_ ?s ?t ?z; (case F => k_asm); (case N => k_asm); (case l => k_mem); (case s => with_unfolding_all rfl); (case t => kmk_pure); (case z => ((try simp only [List.length_drop, List.length_take]); omega))); intro D' h' F' N' l1; (try k_lt l1)))
local macro_rules | `(tactic| walk_at "subscriptTail Name Slice ref ref") => `(tactic| (k_here; (with_reducible show wpAny _ _ (subscriptTail _ (PySem.Expr.Slice none (some (PySem.Expr.UnaryOp _ _ _)) none _) (Value.ref _) (Value.ref _)) _ _ _); k_dflt (refine' init_S ?F ?N ?l ?_ ?s ?t ?z; (case F => k_asm); (case N => k_asm); (case l => k_mem); (case s => with_unfolding_all rfl); (case t => kmk_pure); (case z => ((try simp only [List.length_drop, List.length_take]); omega))); intro D' h' F' N' l1; (try k_lt l1)))
local macro_rules | `(tactic| walk_at "call builtin:str.split") => `(tactic| (k_here; (with_reducible show wpAny _ _ (call (Value.builtin _) [Value.str _ _, Value.str _ _]) _ _ _); k_dflt (refine' split_S ?F ?N ?y ?x ?_; (case F => k_asm); (case N => k_asm); (case y => decide); (case x => omega)); intro D' h' k' vs' F' N' l1 hS'; (try k_lt l1); (have hL' := strsAre_len hS')))
local macro_rules | `(tactic| walk_at "subscriptTail Name Slice ref ref") => `(tactic| (k_here; (with_reducible show wpAny _ _ (subscriptTail _ (PySem.Expr.Slice none (some (PySem.Expr.Call _ _ _ _)) none _) (Value.ref _) (Value.ref _)) _ _ _); k_dflt (refine' take_L ?F ?N ?l ?_ ?s ?t ?z; (case F => k_asm); (case N => k_asm); (case l => assumption); (case s => with_unfolding_all rfl); (case t => kmk_pure); (case z => ((try simp only [List.length_drop, List.length_take]); omega))); intro D' h' F' N' l1; (try k_lt l1)))

theorem zz_31 : True := by
  w_top off
  trivial
def rowP (p : Str) : List Str := (Txt.split p (Str.ofString "/")).drop 1
def stepGone (rs : List (List Str)) (p : Str) : List (List Str) := eraseR rs (rowP p)
def stepCome (rs : List (List Str)) (p : Str) : List (List Str) := rs ++ [rowP p]
section
variable {w : World} {s : Shared} {mg mb : Str → Option Value} {mean : ExcName → Option Value} {d u : Nat} {gs : Option (List Code)} {base : Heap} {outer : List Env} {R : Result → Shared → Prop}
theorem done_spec (W : Wd w mg mb mean base outer ⟨none, d, some outer, gs, u⟩ s.heap) (hdp : d < 600) (hu : u ≤ 1000) {l lg lc : Addr} {vs vg vc : List Value} {n ng nc : Nat} {rs : List (List Str)} {ps qs : List Str}
    (hlo : s.heap.get? l = some (lst vs n)) (hrs : RowsAt s.heap [] vs rs) (hgo : s.heap.get? lg = some (lst vg ng)) (hps : StrsAre vg ps) (hco : s.heap.get? lc = some (lst vc nc)) (hqs : StrsAre vc qs)
    (hn1 : rs.length ≤ 64) (hn2 : ps.length ≤ 64) (hn3 : qs.length ≤ 64) (hsp : ∀ p, p ∈ ps ∨ p ∈ qs → p.length ≤ 900 ∧ (Txt.split p (Str.ofString "/")).length ≤ 100)
    (hg : ∀ (i : Nat) (p : Str), ps[i]? = some p → ((ps.take i).foldl stepGone rs).filter (fun o => decide (o.take (rowP p).length = rowP p)) = [rowP p] ∧ ∀ r ∈ (ps.take i).foldl stepGone rs, r.length ≤ 100)
    (hc : ∀ (i : Nat) (p : Str), qs[i]? = some p → (rowP p).dropLast = [] ∨ (rowP p).dropLast ∈ (qs.take i).foldl stepCome (ps.foldl stepGone rs))
    (hfn : (qs.foldl stepCome (ps.foldl stepGone rs)).Nodup) (hf2 : 2 ≤ (qs.foldl stepCome (ps.foldl stepGone rs)).length) (hf64 : (qs.foldl stepCome (ps.foldl stepGone rs)).length < 64)
    (hR : ∀ h' tk l' vs' n' own rs', (∀ b o, s.heap.get? b = some o → h'.get? b = some o) → s.heap.get? l' = none → h'.get? l' = some (lst vs' n') → (∀ p ∈ own, p.1 ≠ l' ∧ s.heap.get? p.1 = none ∧ h'.get? p.1 = some p.2) →
      RowsAt s.heap own vs' rs' → rs'.Perm (qs.foldl stepCome (ps.foldl stepGone rs)) → rs'.Pairwise (fun a b => rowLt a b = true) → R (.ok (.ret (.ref l'))) ⟨h', s.gens, s.drawn, tk, s.os⟩) :
    codeAny (model PySem.Challenge.rw_il0206_01.row.prog w) ⟨none, d, some outer, gs, u⟩ (.call (.ref 219) ⟨[.ref l, .ref lg, .ref lc], []⟩) R s := by
  change codeAny _ _ _ (Ends R) s
  obtain ⟨T, KX, K0⟩ := W
  refine call_cellsN_ret (binds := [(Str.ofString "rows", .ref l), (Str.ofString "gone", .ref lg), (Str.ofString "come", .ref lc)]) (by unfold recursionLimit; dsimp only; omega) (KX 219 _ (by rfl)) rfl T.nolimit (codeRec_of KX (by k_is)) rfl
    (fun x hx => by simp only [List.mem_cons, List.not_mem_nil, or_false] at hx; rcases hx with rfl | rfl | rfl <;> exact .inl rfl) (by decide) ?_
  intro h₁ tk cells F N Y
  obtain ⟨oC1, hE, d1⟩ := CellsAre.one Y
  subst hE
  clear Y
  change Fr s.heap s.heap.objs.size h₁ (fun y => if y = Str.ofString "come" then some (Value.ref lc) else if y = Str.ofString "gone" then some (Value.ref lg) else if y = Str.ofString "rows" then some (Value.ref l) else none) at F
  change wpAny _ (Around.deeper _ (envOfC _ _ _ _ _)) (execs _ (envOfC _ _ _ _ _)) _ _ ⟨h₁, s.gens, s.drawn, _, s.os⟩
  generalize bindC _ _ _ (Str.ofString "row") = v₀ at d1
  repeat' ((fail_if_success (with_reducible show wpAny _ _ (exec (Stmt.For _ _ _ _ _) _) _ _ _)); (fail_if_success (with_reducible show wpAny _ _ (call _ _) _ _ _)); first | (k_unfold; (try dsimp only)) | walk1 | (dsimp only; walk1))
  have hvl := hrs.length
  refine list_copyK F N (isList_lst (F.keep _ _ hlo)) (fun lt c h2 F2 N2 hlt => ?_) (by rw [List.size_toArray, sizeLine_eq]; omega)
  have hc1 : @LT.lt Nat _ (s.heap.objs.size + 1) lt := hlt _ (.head _)
  clear F N
  (repeat' ((fail_if_success (with_reducible show wpAny _ _ (exec (Stmt.For _ _ _ _ _) _) _ _ _)); (fail_if_success (with_reducible show TurnEnd _ _ _ _ _ _ _ _)); (fail_if_success (with_reducible show wpAny _ _ (eval (Expr.ListComp _ _ _ _) _) _ _ _)); (fail_if_success (with_reducible show Ends _ _ _)); first | (k_unfold; (try dsimp only)) | walk1 | (dsimp only; walk1)))
  (rename Fr s.heap s.heap.objs.size _ _ => F9)
  (rename News s.heap s.heap.objs.size _ _ => N9)
  refine For_invV (E := fun _ _ => False) s.heap rfl rfl ?_ (fun _ => rfl) (fun e s h => h.elim)
  generalize hm0 : (fun (y : Str) => ite (y = Str.ofString "there") _ _) = m₀ at F9
  refine nameX_L F9 (by subst hm0; rfl) ?_
  refine iter_base (news := [(s.heap.objs.size + 1, oC1), (lt, W.listOf (List.toArray vs) c)]) (fun i m nw => ∃ o1 v₁ vs' n' own, nw = (s.heap.objs.size + 1, o1) :: (lt, W.listOf (List.toArray vs') n') :: own ∧ o1.data = .cell v₁ ∧ RowsAt s.heap own vs' ((ps.take i).foldl stepGone rs) ∧
      vs'.length ≤ 64 ∧ OwnOff own [s.heap.objs.size + 1, lt] ∧ ∀ y, y ≠ Str.ofString "place" → m y = m₀ y) rfl hgo F9 (fun p hp => N9 p ((by (((repeat' (refine List.forall_mem_cons.mpr ⟨by k_mem, ?_⟩)); (first | exact List.forall_mem_nil _ | (intro p hp; repeat (first | exact hp | refine List.Mem.tail _ ?_))))) : ∀ p ∈ [(s.heap.objs.size + 1, oC1), (lt, W.listOf (List.toArray vs) c)], p ∈ _) p hp)) ?_ ?_ ?_
  · exact ⟨oC1, v₀, vs, c, [], rfl, d1, hrs, by omega, fun p hp => (nomatch hp), fun _ _ => rfl⟩
  · rintro i v m₁ news₁ h tk' I itO hv ⟨o1, v₁, vs', n', own, rfl, d2, hrs', hvn, hOff, hm⟩ hoff F8 N8
    have hoffI : ∀ p ∈ own, p.1 ≠ I := fun p hp => hoff p (.tail _ (.tail _ hp))
    have n1 := neN (hoff _ (.head _))
    have n2 := neN (hoff _ (.tail _ (.head _)))
    obtain ⟨x, xt, rfl, hx⟩ := hps.item i v hv
    have hxs := hsp x (.inl (List.mem_of_getElem? hx))
    have hst : (ps.take (i + 1)).foldl stepGone rs = stepGone ((ps.take i).foldl stepGone rs) x := by
      rw [List.take_add_one, hx, Option.toList_some, List.foldl_append]; rfl
    obtain ⟨hgx, hgl⟩ := hg i x hx
    rw [hst]
    generalize (ps.take i).foldl stepGone rs = th at hrs' hgx hgl
    have e8 : (fun y => if y = Str.ofString "place" then some (Value.str x xt) else m₁ y) = fun y => if y = Str.ofString "place" then some (Value.str x xt) else m₀ y := by
      funext y
      by_cases hy : y = Str.ofString "place"
      · rw [if_pos hy, if_pos hy]
      · rw [if_neg hy, if_neg hy, hm y hy]
    rw [e8] at F8
    subst hm0
    clear F9 N9 hst hm e8
    change Fr s.heap s.heap.objs.size h _ at F8
    change News s.heap s.heap.objs.size h ((I, itO) :: _ :: _ :: own) at N8
    dsimp only at n1 n2
    (repeat' ((fail_if_success (with_reducible show wpAny _ _ (exec (Stmt.For _ _ _ _ _) _) _ _ _)); (fail_if_success (with_reducible show TurnEnd _ _ _ _ _ _ _ _)); (fail_if_success (with_reducible show wpAny _ _ (eval (Expr.ListComp _ _ _ _) _) _ _ _)); (fail_if_success (with_reducible show JSrcR _ _ _ _ _ _ _ _ _ _ _ _ _ _ _)); (fail_if_success (with_reducible show JSrc _ _ _ _ _ _ _ _ _ _ _ _ _ _ _)); (fail_if_success (with_reducible show JEnd _ _ _ _ _ _ _ _ _ _ _ _)); (fail_if_success (with_reducible show wpAny _ _ (compareOp _ (Value.ref _) (Value.ref _)) _ _ _)); (fail_if_success (with_reducible show Ends _ _ _)); first | (k_unfold; (try dsimp only)) | walk1 | (dsimp only; walk1)))
    (rename Fr s.heap s.heap.objs.size _ _ => F7)
    (rename News s.heap s.heap.objs.size _ _ => N7)
    (rename StrsAre _ (Txt.split _ _) => hS7)
    have hrow := strsAre_drop 1 hS7
    change StrsAre _ (rowP x) at hrow
    have hrl := strsAre_len hrow
    have hdl : (rowP x).length ≤ 100 := by unfold rowP; rw [List.length_drop]; omega
    have hthl := hrs'.length
    refine comp_list1 F7 (by with_unfolding_all rfl) (by decide) (by rfl) (by decide) (by rfl) ?_
    (repeat' ((fail_if_success (with_reducible show wpAny _ _ (exec (Stmt.For _ _ _ _ _) _) _ _ _)); (fail_if_success (with_reducible show TurnEnd _ _ _ _ _ _ _ _)); (fail_if_success (with_reducible show wpAny _ _ (eval (Expr.ListComp _ _ _ _) _) _ _ _)); (fail_if_success (with_reducible show JSrcR _ _ _ _ _ _ _ _ _ _ _ _ _ _ _)); (fail_if_success (with_reducible show JSrc _ _ _ _ _ _ _ _ _ _ _ _ _ _ _)); (fail_if_success (with_reducible show JEnd _ _ _ _ _ _ _ _ _ _ _ _)); (fail_if_success (with_reducible show wpAny _ _ (compareOp _ (Value.ref _) (Value.ref _)) _ _ _)); (fail_if_success (with_reducible show Ends _ _ _)); first | (k_unfold; (try dsimp only)) | walk1 | (dsimp only; walk1)))
    refine ⟨lt, vs'.toArray, _, fun i ys nw => nw = _ ∧ RowsAt s.heap own ys ((th.take i).filter fun o => decide (o.take (rowP x).length = rowP x)), rfl, rfl, F7, N7, fun i ys nw hj => ?_, by rw [List.size_toArray, sizeLine_eq]; omega, ⟨rfl, .nil⟩, ?_, ?_⟩
    · obtain ⟨rfl, _⟩ := hj
      exact .inr ⟨_, by k_mem, rfl, _, rfl⟩
    · rintro hh j v ys news I2 oI C oC D m₃ h3 tk3 E' hj hv2 ⟨rfl, hys⟩ hyl hoC hmx F8 N8 hoff3 hne
      have hjl : j < vs'.length := by simpa using hj
      have hra := rowsAt_getD hrs' hjl
      have ev : vs'.getD j Value.none = v := by
        have : vs'[j]? = some v := by simpa using hv2
        simp [List.getD, this]
      rw [ev] at hra
      have hfs : (th.take (j + 1)).filter (fun o => decide (o.take (rowP x).length = rowP x)) = (th.take j).filter (fun o => decide (o.take (rowP x).length = rowP x)) ++ [th.getD j []].filter (fun o => decide (o.take (rowP x).length = rowP x)) := by
        rw [List.take_add_one, List.filter_append]
        have : th[j]? = some (th.getD j []) := by simp [List.getD, show j < th.length by omega]
        rw [this]; rfl
      have hra2 := hra
      have hr8 : (th.getD j []).length ≤ 100 := hgl _ (by rw [show th.getD j [] = th[j]'(by omega) from by simp [List.getD, show j < th.length by omega]]; exact List.getElem_mem _)
      generalize th.getD j [] = r8 at hra hra2 hfs hr8
      obtain ⟨a, ws, kk, rfl, hws, hwh⟩ := hra
      have hIL : h3.IsList a (List.toArray ws) := isList_lst (n := kk) (hwh.elim (F8.keep _ _) fun q => (N8 _ (.tail _ (.tail _ (.tail _ (.tail _ (.tail _ (.tail _ (.tail _ (.tail _ q))))))))).1)
      have hwl := strsAre_len hws
      dsimp only
      (repeat' ((fail_if_success (with_reducible show wpAny _ _ (exec (Stmt.For _ _ _ _ _) _) _ _ _)); (fail_if_success (with_reducible show TurnEnd _ _ _ _ _ _ _ _)); (fail_if_success (with_reducible show wpAny _ _ (eval (Expr.ListComp _ _ _ _) _) _ _ _)); (fail_if_success (with_reducible show JSrcR _ _ _ _ _ _ _ _ _ _ _ _ _ _ _)); (fail_if_success (with_reducible show JSrc _ _ _ _ _ _ _ _ _ _ _ _ _ _ _)); (fail_if_success (with_reducible show JEnd _ _ _ _ _ _ _ _ _ _ _ _)); (fail_if_success (with_reducible show wpAny _ _ (compareOp _ (Value.ref _) (Value.ref _)) _ _ _)); (fail_if_success (with_reducible show Ends _ _ _)); first | (k_unfold; (try dsimp only)) | walk1 | (dsimp only; walk1)))
      (rename Fr s.heap s.heap.objs.size _ _ => F6); (rename News s.heap s.heap.objs.size _ _ => N6)
      have hwt := strsAre_take (rowP x).length hws
      rw [hrl] at N6
      refine lst_eq (xs := r8.take (rowP x).length) (ys := rowP x) str_eqAt (by show u + 3 < 9900; omega) ⟨_, _, rfl, News.isList N6 (.head _), strs_all2 hwt⟩ ⟨_, _, rfl, News.isList N6 (by k_mem), strs_all2 hrow⟩ ?_
      (repeat' ((fail_if_success (with_reducible show wpAny _ _ (exec (Stmt.For _ _ _ _ _) _) _ _ _)); (fail_if_success (with_reducible show TurnEnd _ _ _ _ _ _ _ _)); (fail_if_success (with_reducible show wpAny _ _ (eval (Expr.ListComp _ _ _ _) _) _ _ _)); (fail_if_success (with_reducible show JSrcR _ _ _ _ _ _ _ _ _ _ _ _ _ _ _)); (fail_if_success (with_reducible show JSrc _ _ _ _ _ _ _ _ _ _ _ _ _ _ _)); (fail_if_success (with_reducible show JEnd _ _ _ _ _ _ _ _ _ _ _ _)); (fail_if_success (with_reducible show wpAny _ _ (compareOp _ (Value.ref _) (Value.ref _)) _ _ _)); (fail_if_success (with_reducible show Ends _ _ _)); first | (k_unfold; (try dsimp only)) | walk1 | (dsimp only; walk1)))
      · refine ⟨_, _, _, rfl, F6, fun p hp => N6 p (.tail _ hp), hoff3, rfl, ?_⟩
        rw [hfs, List.filter_cons_of_pos (by simpa using ‹List.take (rowP x).length r8 = rowP x›), List.filter_nil]
        exact hys.append (.cons ⟨a, ws, kk, rfl, hws, hwh⟩ .nil)
      · refine ⟨_, _, _, rfl, F6, fun p hp => N6 p (.tail _ hp), hoff3, rfl, ?_⟩
        rw [hfs, List.filter_cons_of_neg (by simpa using ‹¬ List.take (rowP x).length r8 = rowP x›), List.filter_nil, List.append_nil]
        exact hys
    · intro D h4 tk4 ys news' ⟨e2, hys⟩ F5 N5 o1
      subst e2
      have htl : th.take vs'.toArray.size = th := List.take_of_length_le (by simp; omega)
      rw [htl, hgx] at hys
      clear N7 F7
      obtain ⟨oa, ob, oc, od, oe, orr⟩ := o1
      dsimp only at oa ob oc od oe
      (repeat' ((fail_if_success (with_reducible show wpAny _ _ (exec (Stmt.For _ _ _ _ _) _) _ _ _)); (fail_if_success (with_reducible show TurnEnd _ _ _ _ _ _ _ _)); (fail_if_success (with_reducible show wpAny _ _ (eval (Expr.ListComp _ _ _ _) _) _ _ _)); (fail_if_success (with_reducible show JSrcR _ _ _ _ _ _ _ _ _ _ _ _ _ _ _)); (fail_if_success (with_reducible show JSrc _ _ _ _ _ _ _ _ _ _ _ _ _ _ _)); (fail_if_success (with_reducible show JEnd _ _ _ _ _ _ _ _ _ _ _ _)); (fail_if_success (with_reducible show wpAny _ _ (compareOp _ (Value.ref _) (Value.ref _)) _ _ _)); (fail_if_success (with_reducible show Ends _ _ _)); first | (k_unfold; (try dsimp only)) | walk1 | (dsimp only; walk1)))
      (rename Fr s.heap s.heap.objs.size _ _ => F3); (rename News s.heap s.heap.objs.size _ _ => N3)
      have hall := hys.all2 F3 N3 (by (first | exact List.forall_mem_nil _ | (intro p hp; repeat (first | exact hp | refine List.Mem.tail _ ?_))))
      have hl3 := News.isList N3 (.tail _ (.head _))
      have hw3 := News.isList N3 (.head _)
      have hr3 := News.isList N3 (.tail _ (.tail _ (.head _)))
      refine lst_ne (xs := [rowP x]) (ys := [rowP x]) (row_eqAt (by show u + 3 < 9000; omega)) (by show u + 3 < cLine; unfold cLine; omega) ⟨_, _, rfl, hl3, hall⟩ ⟨_, _, rfl, hw3, .cons ⟨_, _, rfl, hr3, strs_all2 hrow⟩ .nil⟩ ?_
      rw [decide_eq_true rfl]
      dsimp only [Bool.not_true]
      repeat' ((fail_if_success (with_reducible show wpAny _ _ (call (Value.builtin "list.remove") _) _ _ _)); (fail_if_success (with_reducible show TurnEnd _ _ _ _ _ _ _ _)); first | (k_unfold; (try dsimp only)) | walk1 | (dsimp only; walk1))
      (rename Fr s.heap s.heap.objs.size _ _ => F2); (rename News s.heap s.heap.objs.size _ _ => N2)
      have hmm : rowP x ∈ th := (List.mem_filter.mp (hgx ▸ List.mem_singleton.mpr rfl : rowP x ∈ th.filter fun o => decide (o.take (rowP x).length = rowP x))).1
      refine remove_R F2 N2 (by k_updF) hrs' (by (first | exact List.forall_mem_nil _ | (intro p hp; repeat (first | exact hp | refine List.Mem.tail _ ?_)))) (by k_mem) hrow hmm (by show u + 3 < 8000; omega) (by omega) fun h5 vs5 k5 F1 N1 hrs5 hvl5 => ?_
      clear F2 N2
      (repeat' ((fail_if_success (with_reducible show wpAny _ _ (exec (Stmt.For _ _ _ _ _) _) _ _ _)); (fail_if_success (with_reducible show TurnEnd _ _ _ _ _ _ _ _)); (fail_if_success (with_reducible show wpAny _ _ (eval (Expr.ListComp _ _ _ _) _) _ _ _)); (fail_if_success (with_reducible show JSrcR _ _ _ _ _ _ _ _ _ _ _ _ _ _ _)); (fail_if_success (with_reducible show JSrc _ _ _ _ _ _ _ _ _ _ _ _ _ _ _)); (fail_if_success (with_reducible show JEnd _ _ _ _ _ _ _ _ _ _ _ _)); (fail_if_success (with_reducible show wpAny _ _ (compareOp _ (Value.ref _) (Value.ref _)) _ _ _)); (fail_if_success (with_reducible show Ends _ _ _)); first | (k_unfold; (try dsimp only)) | walk1 | (dsimp only; walk1)))
      refine TurnEnd.next F1 (fun p hp => N1 p (.tail _ (.tail _ (.tail _ (.tail _ hp))))) ?_ ⟨_, _, _, _, own, rfl, ‹Obj.data _ = Data.cell (some (Value.ref _))›, hrs5, by omega, hOff, fun y hy => by simp only [if_neg hy]⟩
      intro p hp q hq
      rw [List.mem_singleton.mp hq]
      rcases List.mem_cons.mp hp with rfl | hp
      · exact n1
      rcases List.mem_cons.mp hp with rfl | hp
      · exact n2
      · exact hoffI p hp
  · rintro m₁ news₁ h tk' ⟨o1, v₁, vs', n', own, rfl, d2, hrs', hvn, hOff, hm⟩ F8 N8
    have hvl := strsAre_len hps
    rw [hvl, List.take_length] at hrs'
    generalize ps.foldl stepGone rs = th at hrs' hc hfn hf2 hf64 hR
    have e8 : m₁ = fun y => if y = Str.ofString "place" then m₁ y else m₀ y := by
      funext y
      by_cases hy : y = Str.ofString "place"
      · rw [if_pos hy]
      · rw [if_neg hy, hm y hy]
    rw [e8] at F8
    generalize m₁ (Str.ofString "place") = cv at F8
    subst hm0
    clear F9 N9 hm e8
    change Fr s.heap s.heap.objs.size h _ at F8
    change News s.heap s.heap.objs.size h _ at N8
    (repeat' ((fail_if_success (with_reducible show wpAny _ _ (exec (Stmt.For _ _ _ _ _) _) _ _ _)); (fail_if_success (with_reducible show TurnEnd _ _ _ _ _ _ _ _)); (fail_if_success (with_reducible show wpAny _ _ (eval (Expr.ListComp _ _ _ _) _) _ _ _)); (fail_if_success (with_reducible show Ends _ _ _)); first | (k_unfold; (try dsimp only)) | walk1 | (dsimp only; walk1)))
    refine For_invV (E := fun _ _ => False) s.heap rfl rfl ?_ (fun _ => rfl) (fun e s h => h.elim)
    refine nameX_L F8 rfl ?_
    generalize hm0 : (fun (y : Str) => ite (y = Str.ofString "place") _ _) = m₀ at F8
    refine iter_base (news := (s.heap.objs.size + 1, o1) :: (lt, W.listOf (List.toArray vs') n') :: own) (fun i m nw => ∃ o1 v₁ vs' n' own, nw = (s.heap.objs.size + 1, o1) :: (lt, W.listOf (List.toArray vs') n') :: own ∧ o1.data = .cell v₁ ∧ RowsAt s.heap own vs' ((qs.take i).foldl stepCome th) ∧
      vs'.length ≤ 64 + i ∧ OwnOff own [s.heap.objs.size + 1, lt] ∧ ∀ y, y ≠ Str.ofString "place" → m y = m₀ y) rfl hco F8 N8 ?_ ?_ ?_
    · exact ⟨o1, v₁, vs', n', own, rfl, d2, hrs', hvn, hOff, fun _ _ => rfl⟩
    · clear hrs' hvn hOff d2
      rintro i v m₂ news₂ h2 tk2 I itO hv ⟨o2, v₂, vs2, n2', own2, rfl, d3, hrs', hvn, hOff, hm⟩ hoff F7 N7
      have hoffI : ∀ p ∈ own2, p.1 ≠ I := fun p hp => hoff p (.tail _ (.tail _ hp))
      have n1 := neN (hoff _ (.head _))
      have n2 := neN (hoff _ (.tail _ (.head _)))
      obtain ⟨x, xt, rfl, hx⟩ := hqs.item i v hv
      have hxs := hsp x (.inr (List.mem_of_getElem? hx))
      have hst : (qs.take (i + 1)).foldl stepCome th = stepCome ((qs.take i).foldl stepCome th) x := by
        rw [List.take_add_one, hx, Option.toList_some, List.foldl_append]; rfl
      have hgx := hc i x hx
      have hvl2 := strsAre_len hqs
      have hil : i < vc.length := (List.getElem?_eq_some_iff.mp hv).1
      rw [hst]
      generalize (qs.take i).foldl stepCome th = ti at hrs' hgx
      have e8 : (fun y => if y = Str.ofString "place" then some (Value.str x xt) else m₂ y) = fun y => if y = Str.ofString "place" then some (Value.str x xt) else m₀ y := by
        funext y
        by_cases hy : y = Str.ofString "place"
        · rw [if_pos hy, if_pos hy]
        · rw [if_neg hy, if_neg hy, hm y hy]
      rw [e8] at F7
      subst hm0
      clear F8 N8 hst hm e8
      change Fr s.heap s.heap.objs.size h2 _ at F7
      change News s.heap s.heap.objs.size h2 ((I, itO) :: _ :: _ :: own2) at N7
      dsimp only at n1 n2
      (repeat' ((fail_if_success (with_reducible show wpAny _ _ (exec (Stmt.For _ _ _ _ _) _) _ _ _)); (fail_if_success (with_reducible show TurnEnd _ _ _ _ _ _ _ _)); (fail_if_success (with_reducible show wpAny _ _ (eval (Expr.ListComp _ _ _ _) _) _ _ _)); (fail_if_success (with_reducible show JSrcR _ _ _ _ _ _ _ _ _ _ _ _ _ _ _)); (fail_if_success (with_reducible show JSrc _ _ _ _ _ _ _ _ _ _ _ _ _ _ _)); (fail_if_success (with_reducible show JEnd _ _ _ _ _ _ _ _ _ _ _ _)); (fail_if_success (with_reducible show wpAny _ _ (compareOp _ (Value.ref _) (Value.ref _)) _ _ _)); (fail_if_success (with_reducible show Ends _ _ _)); first | (k_unfold; (try dsimp only)) | walk1 | (dsimp only; walk1)))
      (rename Fr s.heap s.heap.objs.size _ _ => F5); (rename News s.heap s.heap.objs.size _ _ => N5)
      (rename StrsAre _ (Txt.split _ _) => hS7)
      have hrow := strsAre_drop 1 hS7
      change StrsAre _ (rowP x) at hrow
      have hrl := strsAre_len hrow
      have hini := strsAre_take (rowP x).length.pred hrow
      have hde : (rowP x).take (rowP x).length.pred = (rowP x).dropLast := by rw [List.dropLast_eq_take]; rfl
      rw [hde] at hini
      rw [hrl] at N5
      rename_i vs7 _ _ D7 _ hlD _ o7 d7 D6 _ _ _ _ _
      have hRows : RowsAt s.heap ((D7, W.listOf (List.toArray (List.drop 1 vs7)) 0) :: own2) (vs2 ++ [Value.ref D7]) (stepCome ti x) :=
        (hrs'.mono (fun _ _ e => e) (fun p hp => .tail _ hp)).append (.cons ⟨D7, _, 0, rfl, hrow, .inr (.head _)⟩ .nil)
      have hOff2 : OwnOff ((D7, W.listOf (List.toArray (List.drop 1 vs7)) 0) :: own2) [s.heap.objs.size + 1, lt] := by
        obtain ⟨_, _, k3, k4, _⟩ := hlD
        intro p hp b hb
        rcases List.mem_cons.mp hp with rfl | hp
        · rcases List.mem_cons.mp hb with rfl | hb
          · exact Nat.ne_of_gt k3
          · rw [List.mem_singleton.mp hb]; exact Nat.ne_of_gt k4
        · exact hOff p hp b hb
      have hoff3 : ∀ (o8 oL : Obj), ∀ p ∈ ((s.heap.objs.size + 1, o8) :: (lt, oL) :: (D7, W.listOf (List.toArray (List.drop 1 vs7)) 0) :: own2 : List (Addr × Obj)), ∀ q ∈ [(I, itO)], p.1 ≠ q.1 := by
        obtain ⟨_, k2, _, _, _⟩ := hlD
        intro o8 oL p hp q hq
        rw [List.mem_singleton.mp hq]
        rcases List.mem_cons.mp hp with rfl | hp
        · exact n1
        rcases List.mem_cons.mp hp with rfl | hp
        · exact n2
        rcases List.mem_cons.mp hp with rfl | hp
        · exact Nat.ne_of_gt k2
        · exact hoffI p hp
      have hvn2 : (vs2 ++ [Value.ref D7]).length ≤ 64 + (i + 1) := by rw [List.length_append, List.length_singleton]; omega
      have hl3 := News.isList N5 (.tail _ (.head _))
      have hw3 := News.isList N5 (.head _)
      refine lst_ne (xs := (rowP x).dropLast) (ys := []) str_eqAt (by show u + 3 < cLine; unfold cLine; omega) ⟨_, _, rfl, hl3, strs_all2 hini⟩ ⟨_, _, rfl, hw3, .nil⟩ ?_
      (repeat' ((fail_if_success (with_reducible show wpAny _ _ (exec (Stmt.For _ _ _ _ _) _) _ _ _)); (fail_if_success (with_reducible show TurnEnd _ _ _ _ _ _ _ _)); (fail_if_success (with_reducible show wpAny _ _ (eval (Expr.ListComp _ _ _ _) _) _ _ _)); (fail_if_success (with_reducible show JSrcR _ _ _ _ _ _ _ _ _ _ _ _ _ _ _)); (fail_if_success (with_reducible show JSrc _ _ _ _ _ _ _ _ _ _ _ _ _ _ _)); (fail_if_success (with_reducible show JEnd _ _ _ _ _ _ _ _ _ _ _ _)); (fail_if_success (with_reducible show wpAny _ _ (compareOp _ (Value.ref _) (Value.ref _)) _ _ _)); (fail_if_success (with_reducible show Ends _ _ _)); first | (k_unfold; (try dsimp only)) | walk1 | (dsimp only; walk1)))
      · (rename Fr s.heap s.heap.objs.size _ _ => F4); (rename News s.heap s.heap.objs.size _ _ => N4)
        simp only [List.push_toArray] at N4
        exact TurnEnd.next F4 (fun p hp => N4 p ((by (((repeat' (refine List.forall_mem_cons.mpr ⟨by k_mem, ?_⟩)); (first | exact List.forall_mem_nil _ | (intro p hp; repeat (first | exact hp | refine List.Mem.tail _ ?_))))) : ∀ p ∈ (I, itO) :: (s.heap.objs.size + 1, o7) :: (lt, W.listOf (List.toArray (vs2 ++ [Value.ref D7])) (n2' + 1)) :: (D7, W.listOf (List.toArray (List.drop 1 vs7)) 0) :: own2, p ∈ _) p hp)) (hoff3 _ _)
          ⟨_, _, _, _, _, rfl, d7, hRows, hvn2, hOff2, fun y hy => by simp only [if_neg hy]⟩
      · (rename Fr s.heap s.heap.objs.size _ _ => F4); (rename News s.heap s.heap.objs.size _ _ => N4)
        rw [hrl] at N4
        have hmm := hgx.resolve_left (of_decide_eq_false (by assumption))
        refine notIn_R F4 N4 (vs := vs2) (n := n2') (by k_mem) hrs' (by (first | exact List.forall_mem_nil _ | (intro p hp; repeat (first | exact hp | refine List.Mem.tail _ ?_)))) (.head _) hini (by show u + 3 < 9000; omega) ?_
        rw [decide_eq_true hmm]
        dsimp only [Bool.not_true]
        (repeat' ((fail_if_success (with_reducible show wpAny _ _ (exec (Stmt.For _ _ _ _ _) _) _ _ _)); (fail_if_success (with_reducible show TurnEnd _ _ _ _ _ _ _ _)); (fail_if_success (with_reducible show wpAny _ _ (eval (Expr.ListComp _ _ _ _) _) _ _ _)); (fail_if_success (with_reducible show JSrcR _ _ _ _ _ _ _ _ _ _ _ _ _ _ _)); (fail_if_success (with_reducible show JSrc _ _ _ _ _ _ _ _ _ _ _ _ _ _ _)); (fail_if_success (with_reducible show JEnd _ _ _ _ _ _ _ _ _ _ _ _)); (fail_if_success (with_reducible show wpAny _ _ (compareOp _ (Value.ref _) (Value.ref _)) _ _ _)); (fail_if_success (with_reducible show Ends _ _ _)); first | (k_unfold; (try dsimp only)) | walk1 | (dsimp only; walk1)))
        (rename Fr s.heap s.heap.objs.size _ _ => F3); (rename News s.heap s.heap.objs.size _ _ => N3)
        simp only [List.push_toArray] at N3
        exact TurnEnd.next F3 (fun p hp => N3 p ((by (((repeat' (refine List.forall_mem_cons.mpr ⟨by k_mem, ?_⟩)); (first | exact List.forall_mem_nil _ | (intro p hp; repeat (first | exact hp | refine List.Mem.tail _ ?_))))) : ∀ p ∈ (I, itO) :: (s.heap.objs.size + 1, o7) :: (lt, W.listOf (List.toArray (vs2 ++ [Value.ref D7])) (n2' + 1)) :: (D7, W.listOf (List.toArray (List.drop 1 vs7)) 0) :: own2, p ∈ _) p hp)) (hoff3 _ _)
          ⟨_, _, _, _, _, rfl, d7, hRows, hvn2, hOff2, fun y hy => by simp only [if_neg hy]⟩
    · rintro m₂ news₂ h2 tk2 ⟨o2, v₂, vs2, n2', own2, rfl, d3, hrs', hvn, hOff, hm⟩ F7 N7
      have hvl2 := strsAre_len hqs
      rw [hvl2, List.take_length] at hrs'
      have e8 : m₂ = fun y => if y = Str.ofString "place" then m₂ y else m₀ y := by
        funext y
        by_cases hy : y = Str.ofString "place"
        · rw [if_pos hy]
        · rw [if_neg hy, hm y hy]
      rw [e8] at F7
      subst hm0
      clear F8 N8 hm e8
      change Fr s.heap s.heap.objs.size h2 _ at F7
      change News s.heap s.heap.objs.size h2 _ at N7
      repeat' ((fail_if_success (with_reducible show wpAny _ _ (call (Value.builtin "sorted") _) _ _ _)); (fail_if_success (with_reducible show Ends _ _ _)); first | (k_unfold; (try dsimp only)) | walk1 | (dsimp only; walk1))
      refine sorted_R F7 N7 (vs := vs2) (n := n2') (by k_mem) hrs' (by (first | exact List.forall_mem_nil _ | (intro p hp; repeat (first | exact hp | refine List.Mem.tail _ ?_)))) hfn hf2 hf64 (by show u + 3 < 8000; omega) fun D h3 tk3 vs3 rs3 k3 F6 N6 hlt hrs3 hperm hpw => ?_
      exact hR _ _ D vs3 k3 own2 rs3 F6.keep (N6 _ (.head _)).2.2 (N6 _ (.head _)).1 (fun p hp => ⟨Nat.ne_of_lt (hlt p (.tail _ (.tail _ hp))), (N6 p (.tail _ (.tail _ (.tail _ hp)))).2.2, (N6 p (.tail _ (.tail _ (.tail _ hp)))).1⟩) hrs3 hperm hpw
end

theorem zz_32 : True := by
  w_top off
  trivial
section
variable {prog : Program} {w : World} {A : Around} {E : Value → Shared → Prop} {R : Result → Shared → Prop}
/-- a set that is being filled with the strs of a list -/
theorem set_loop (hh : A.handled = none) {S I l : Addr} {vs : List Value} {ys : List Str} {n : Nat} (hIS : I ≠ S) (hlS : l ≠ S) (hlI : l ≠ I) (hvs : StrsAre vs ys) (hlen : vs.length ≤ 4000) : ∀ (k i : Nat) (s : Shared) (c : Nat), vs.length - i = k → i ≤ vs.length →
    s.heap.IsListIter I l i → s.heap.get? l = some (lst vs n) → s.heap.SetOf (PySem.strKind prog w) S (fun k' => decide (k' ∈ ys.take i)) c → c ≤ i →
    (∀ h' tk c', h'.SetOf (PySem.strKind prog w) S (fun k' => decide (k' ∈ ys)) c' → c' ≤ vs.length → (∀ b o, b ≠ S → b ≠ I → s.heap.get? b = some o → h'.get? b = some o) → R (.ok (.ret .none)) { s with heap := h', toks := tk }) →
    codeAny (model prog w) A (.builtin "set.update.loop" ⟨[.ref S, .ref I], []⟩) R s := by
  have hyl := strsAre_len hvs
  intro k
  induction k with
  | zero =>
    intro i s c hk hi hit hl hS hc hR
    obtain rfl : i = vs.length := by omega
    refine codeAny_builtin F.entry_set_update_loop ?_
    unfold Builtin.«set.update.loop»
    refine wpAny_bind (wpAny_pyNext_list_end hh hit (isList_lst hl) (by simp) fun h' hk' => ?_)
    rw [hyl, List.take_length] at hS
    obtain ⟨o, es, ep, t, ho, rest⟩ := hS
    exact wpAny_pure (hR h' s.toks c ⟨o, es, ep, t, hk' S o (Ne.symm hIS) ho, rest⟩ hc fun b o _ hb e => hk' b o hb e)
  | succ k ih =>
    intro i s c hk hi hit hl hS hc hR
    have hlt : i < vs.length := by omega
    refine codeAny_builtin F.entry_set_update_loop ?_
    unfold Builtin.«set.update.loop»
    refine wpAny_bind (wpAny_pyNext_list_item hit (isList_lst hl) (x := vs[i]) (by simp [hlt]) fun h₁ hit₁ hs₁ => ?_)
    obtain ⟨x, xt, hx, hxi⟩ := hvs.item i vs[i] (by simp [hlt])
    rw [hx]
    have hS₁ : h₁.SetOf (PySem.strKind prog w) S (fun k' => decide (k' ∈ ys.take i)) c := by
      obtain ⟨o, es, ep, t, ho, rest⟩ := hS
      exact ⟨o, es, ep, t, hs₁.extBut S o (Ne.symm hIS) ho, rest⟩
    refine wpAny_bind (wpAny_holding ?_)
    unfold setAdd
    refine wpAny_holding (wpAny_bind ((PySem.strKind prog w).pyHash (k := x) (PySem.strKind_is _ _ _ _) ?_))
    refine wpAny_setAddHashed_of (knd := PySem.strKind prog w) (s := { s with heap := h₁, toks := s.toks + 1 }) (PySem.strKind_is _ _ _ _) rfl hS₁ (by unfold scanBound; omega) fun h₂ hs₂ hS₂ => ?_
    have hS₃ : h₂.SetOf (PySem.strKind prog w) S (fun k' => decide (k' ∈ ys.take (i + 1))) (if decide (x ∈ ys.take i) = true then c else c + 1) :=
      SetOf_congr hS₂ (fun k' => by rw [List.take_add_one, hxi]; simp [List.mem_append, Bool.decide_or]) rfl
    refine wpAny_pure ⟨plainId_quiet F.plain_set_update_loop _, ih (i + 1) _ _ (by omega) hlt (hit₁.at fun o e => hs₂.extBut I o hIS e) (hs₂.extBut l _ hlS (hs₁.extBut l _ hlI hl)) hS₃ (by split <;> omega) fun h' tk c' hS' hc' hk' => ?_⟩
    exact hR h' tk c' hS' hc' fun b o h1 h2 e => hk' b o h1 h2 (hs₂.extBut b o h1 (hs₁.extBut b o h2 e))
/-- a type that makes its object by one built-in and fills it by another -/
theorem type_made {T newId initId : String} {args : List Value} {s : Shared} {Q Q₁ : Value → Shared → Prop} (ft : TypeCalled T newId initId) (hct : checkTypeCall T ⟨args, []⟩ = pure ())
    (new : codeAny (model prog w) A.in1 (.call (.builtin newId) ⟨.type T :: args, []⟩) (wants Q₁ E) s)
    (init : ∀ x t, Q₁ x t → t.TypeIs x T ∧ codeAny (model prog w) A.in1 (.call (.builtin initId) ⟨x :: args, []⟩) (wants (fun r t' => r = .none ∧ Q x t') E) t) : wpAny (model prog w) A (call (.type T) args) Q E s := by
  rcases ft with ⟨f1, f2, ⟨c, tl, f3⟩, f4, f5, f6, f7⟩
  refine wpAny_call (codeAny_of_tree ?_)
  change wpAny _ _ (callAny (.type T) ⟨args, []⟩) _ _ s
  refine wpAny_pure ⟨Code.quiet_builtin _ (by decide +kernel), codeAny_builtin F.entry_type_call ?_⟩
  rw [Around.under_plain (weight_type_call_type T args []) rfl]
  repeat (any_goals (first | assumption | wp_step))
  refine codeAny_mono new fun r t hr => ?_
  rcases r with e | fl
  · exact hr
  cases fl
  case ret x =>
    obtain ⟨hT, go⟩ := init x t hr
    have b1 := f7.lookup
    have b2 := f7.bind x
    repeat (any_goals (first | assumption | wp_step))
    refine codeAny_mono go fun r' t' hr' => ?_
    rcases r' with e | fl
    · exact hr'
    cases fl
    case ret y =>
      obtain ⟨rfl, hq⟩ := hr'
      repeat (any_goals (first | assumption | wp_step))
    all_goals exact hr'.elim
  all_goals exact hr.elim
/-- an empty set, new -/
def set0 (led : Bool) : Obj := { cls := .type "set", dict := none, data := .set #[] 0 (.fresh 0 0 led) }
/-- .. is filled with the strs of a list -/
theorem set_fill {s : Shared} (hh : A.handled = none) {S l : Addr} {led : Bool} {vs : List Value} {ys : List Str} {n : Nat} (hS : s.heap.get? S = some (set0 led)) (hl : s.heap.get? l = some (lst vs n)) (hvs : StrsAre vs ys) (hlen : vs.length ≤ 4000)
    (hR : ∀ h' tk c, h'.SetOf (PySem.strKind prog w) S (fun k' => decide (k' ∈ ys)) c → c ≤ vs.length → (∀ b o, b ≠ S → s.heap.get? b = some o → h'.get? b = some o) → R (.ok (.ret .none)) { s with heap := h', toks := tk }) :
    codeAny (model prog w) A (.call (.builtin "set.__init__") ⟨[.ref S, .ref l], []⟩) R s := by
  have m1 := F.sub_list_set
  have m2 := F.sub_list_frozenset
  have m3 : (Value.type "list" == Value.type "dict") = false := by decide
  have hne : l ≠ S := by
    rintro rfl
    exact absurd (congrArg Obj.cls (Option.some.inj (hS.symm.trans hl))) (show Value.type "set" ≠ Value.type "list" by decide)
  refine codeAny_call_builtin F.called_set.init.plain F.entry_set_init (check_set_init_1 ⟨_, hS, rfl⟩ ?_)
  unfold Builtin.«set.__init__» noKeywords Builtin.Frozenset.updateFrom
  generalize hPI : pyIter = PI
  obtain ⟨h, g, dr, tk, os⟩ := s
  wp_walk
  subst hPI
  refine wpAny_pyIter_list (isList_lst hl) (wpAny_bind (wpAny_runValue ?_))
  have new : ∀ b o, h.get? b = some o → b ≠ h.objs.size := fun b o e => Nat.ne_of_lt (Heap.lt_size e)
  refine set_loop (l := l) (n := n) (show A.in1.handled = none from hh) (Ne.symm (new _ _ hS)) hne (new _ _ hl) hvs hlen _ 0 _ 0 rfl (Nat.zero_le _) ?_ ?_ ?_ (Nat.le_refl _) fun h' tk c hc hb hk => ?_
  · exact ⟨_, Heap.get?_push_size _ rfl, rfl, rfl⟩
  · exact Heap.get?_push_of_some _ hl
  · exact SetOf_congr ((setObjOf_fresh (knd := PySem.strKind prog w) led).setOf (Heap.get?_push_of_some _ hS) (by unfold scanBound; omega)) (fun _ => by simp) rfl
  · exact wpAny_pure (wpAny_pure (hR h' tk c hc hb fun b o h1 e => hk b o h1 (new b o e) (Heap.get?_push_of_some _ e)))
/-- set of a list of strs -/
theorem call_set_strs {s : Shared} (hh : A.handled = none) {l : Addr} {vs : List Value} {ys : List Str} {n : Nat} {Q : Value → Shared → Prop} (hl : s.heap.get? l = some (lst vs n)) (hvs : StrsAre vs ys) (hlen : vs.length ≤ 4000)
    (h : ∀ h' tk c, h'.SetOf (PySem.strKind prog w) s.heap.objs.size (fun k' => decide (k' ∈ ys)) c → c ≤ vs.length → (∀ b o, s.heap.get? b = some o → h'.get? b = some o) → Q (.ref s.heap.objs.size) { s with heap := h', toks := tk }) :
    wpAny (model prog w) A (call (.type "set") [.ref l]) Q E s := by
  refine type_made (Q₁ := fun x t => ∃ led, x = .ref s.heap.objs.size ∧ t = { s with heap := s.heap.push (set0 led) }) F.called_set (F.typeCall_set_1 _) (code_set_new_1 _ fun led => ⟨led, rfl, rfl⟩) ?_
  rintro _ _ ⟨led, rfl, rfl⟩
  refine ⟨⟨_, Heap.get?_push_size _ rfl, rfl⟩, ?_⟩
  refine set_fill (show A.in1.handled = none from hh) (by exact Heap.get?_push_size _ rfl) (by exact Heap.get?_push_of_some _ hl) hvs hlen fun h' tk c hc hb hk => ⟨rfl, ?_⟩
  exact h h' tk c hc hb fun b o e => hk b o (Nat.ne_of_lt (Heap.lt_size e)) (Heap.get?_push_of_some _ e)
theorem set_news {s : Shared} {h₀ : Heap} {L l : Addr} {m : Str → Option Value} {news : List (Addr × Obj)} {vs : List Value} {ys : List Str} {n : Nat} {Q : Value → Shared → Prop} (hh : A.handled = none) (F : Fr h₀ L s.heap m) (N : News h₀ L s.heap news)
    (hl : s.heap.get? l = some (lst vs n)) (hvs : StrsAre vs ys) (hlen : vs.length ≤ 4000)
    (h : ∀ h' tk D o c, Fr h₀ L h' m → News h₀ L h' ((D, o) :: news) → (∀ p ∈ news, p.1 < D) → o.SetObjOf (PySem.strKind prog w) (fun k' => decide (k' ∈ ys)) c → c ≤ 4000 → Q (.ref D) { s with heap := h', toks := tk }) :
    wpAny (model prog w) A (call (.type "set") [.ref l]) Q E s :=
  call_set_strs hh hl hvs hlen fun h' tk c hS hc hk => by
    obtain ⟨o, ho, hso⟩ := hS.objOf
    have hn : s.heap.get? s.heap.objs.size = none := by
      cases e : s.heap.get? s.heap.objs.size with
      | none => rfl
      | some o => exact absurd (Heap.lt_size e) (Nat.lt_irrefl _)
    exact h h' tk _ o c (F.kept hk) (news_more F N hk hn ho) (fun p hp => Heap.lt_size (N p hp).1) hso (by omega)
end

theorem zz_32b : True := by
  w_top off
  trivial

section
variable {prog : Program} {w : World} {A : Around} {E : Value → Shared → Prop} {s : Shared}
/-- a built-in bound to an object, its check shown at the state at hand -/
theorem call_bndW {f : String} {self : Value} {x : Addr} {args : List Value} {Q : Value → Shared → Prop} (ho : s.heap.get? x = some (bnd f self)) (hc : ∀ (Q' : Unit → Shared → Prop) (E' : Value → Shared → Prop), Q' () s → wpAny (model prog w) A.in1 (checkBoundCall f ⟨self :: args, []⟩) Q' E' s) (hq : (Code.builtin f ⟨self :: args, []⟩).quiet = true)
    (h : codeAny (model prog w) A (.builtin f ⟨self :: args, []⟩) (wants Q E) s) : wpAny (model prog w) A (call (.ref x) args) Q E s := by
  refine wpAny_call (codeAny_of_tree ?_)
  show wpAny _ A.in1 (callAny (.ref x) ⟨args, []⟩) _ _ s
  simp only [callAny]
  refine wpAny_bind (wpAny_load ho ?_)
  simp only [bnd, show (Value.type "builtin_function_or_method" == Value.type "method" || Value.type "builtin_function_or_method" == Value.type "builtin_function_or_method" || Value.type "builtin_function_or_method" == Value.type "method-wrapper") = true by decide, if_true]
  refine KFB.if_so (by decide) ?_
  refine wpAny_bind (hc _ _ ?_)
  refine wpAny_bind (wpAny_pure (wpAny_pure ?_))
  exact ⟨hq, h⟩
theorem set_bnd_sig : Manifest.signature? "set.__contains__" = some ⟨.oneArg, "set.__contains__", "__contains__", .self, [⟨"object", .posOnly, true⟩]⟩ := by
  rw [signature?_of (id := "set.__contains__") (n := ['_', '_', 's', 'n', 'i', 'a', 't', 'n', 'o', 'c', '_', '_']) (o := ['t', 'e', 's']) (by kernel_rfl) PySem.F.owner_set]; kernel_rfl
theorem set_bnd_kind : builtinKind "set.__contains__" = some .method := by kernel_rfl
theorem set_not_module : isSubtype (.type "set") (.type "module") = pure false := by rw [isSubtype_type]; kernel_rfl
theorem isType_set {M : Model} {S : Addr} {o : Obj} {es : Array (Int × Value)} {ep : Nat} {t : SetTable} {Q : Bool → Shared → Prop} (ho : s.heap.get? S = some o) (hd : o.data = .set es ep t) (h : Q false s) : wpAny M A (isType (.ref S)) Q E s := by
  unfold isType
  refine wpAny_bind (wpAny_loadPart ho ?_)
  rw [hd]
  exact wpAny_pure h
theorem set_bnd_args {M : Model} {a b : Value} {Q : Unit → Shared → Prop} (h : Q () s) : wpAny M A (Bind.checkArgs "set.__contains__" ⟨.oneArg, s!"{Bind.lastOf "set"}.{Bind.lastOf "set.__contains__"}", "__contains__", .self, [⟨"object", .posOnly, true⟩]⟩ ⟨[a, b], []⟩) Q E s := by
  refine wpAny_of_eq (a := ()) ?_ h
  kernel_rfl
theorem set_bnd_check {M : Model} {S : Addr} {x : Value} {o : Obj} {es : Array (Int × Value)} {ep : Nat} {t : SetTable} {Q : Unit → Shared → Prop} (ho : s.heap.get? S = some o) (hcl : o.cls = .type "set") (hd : o.data = .set es ep t) (h : Q () s) : wpAny M A (checkBoundCall "set.__contains__" ⟨[.ref S, x], []⟩) Q E s := by
  have hT : s.TypeIs (.ref S) "set" := ⟨o, ho, hcl⟩
  unfold checkBoundCall
  rw [set_bnd_sig, set_bnd_kind]
  dsimp only
  refine KFB.if_not (by decide) ?_
  refine wpAny_bind (wpAny_isInstance hT set_not_module ?_)
  refine KFB.if_not (by decide +kernel) ?_
  refine wpAny_bind (isType_set ho hd ?_)
  refine KFB.if_not rfl ?_
  refine wpAny_bind (wpAny_typeOf hT ?_)
  exact set_bnd_args h
/-- the bound method of a set asked -/
theorem set_ask {S x : Addr} {p : Str} {t : Tok} {o : Obj} {ys : List Str} {c : Nat} {Q : Value → Shared → Prop} (hx : s.heap.get? x = some (bnd "set.__contains__" (.ref S))) (ho : s.heap.get? S = some o) (hso : o.SetObjOf (PySem.strKind prog w) (fun k' => decide (k' ∈ ys)) c) (hc : c ≤ 4000)
    (h : Q (.bool (decide (p ∈ ys))) { s with toks := s.toks + 1 }) : wpAny (model prog w) A (call (.ref x) [.str p t]) Q E s := by
  have hS := hso.setOf ho (by unfold scanBound; omega)
  have hS2 := hS
  obtain ⟨o', es, ep, tb, ho', hcl, hd, _⟩ := hS2
  refine call_bndW hx (fun Q' E' hq => set_bnd_check ho' hcl.1 hd hq) (Code.quiet_builtin _ (by decide +kernel)) (codeAny_builtin entry_set_contains ?_)
  unfold Builtin.«frozenset.__contains__» Builtin.Frozenset.oneOther
  simp only [List.isEmpty_nil, bind_assoc]
  unfold Builtin.Frozenset.addrOf Builtin.Frozenset.withSetAsKey setContains
  refine wpAny_bind (wpAny_pure ?_)
  try dsimp only
  refine wpAny_bind (wpAny_pure ?_)
  try dsimp only
  refine wpAny_bind (wpAny_tryCatch ?_)
  refine wpAny_holding ?_
  refine wpAny_bind ((PySem.strKind prog w).pyHash (PySem.strKind_is prog w p t) ?_)
  refine wpAny_bind (wpAny_setFind_of (s := { s with toks := s.toks + 1 }) (PySem.strKind_is prog w p t) rfl hS fun r hr => ?_)
  refine wpAny_pure ?_
  show wpAny _ _ (ret (Value.bool r.isSome)) _ _ _
  rw [hr]
  exact wpAny_pure h
end

theorem zz_32c : True := by
  w_top off
  trivial
theorem md_slot : Slot "method_descriptor" "__get__" "method_descriptor.__get__" :=
  .of (owner := "method_descriptor") (n := "__get__") (by rw [typeLookup_type, builtinLookup_eq_fast]; kernel_rfl) (by decide +kernel) (by decide +kernel) (by decide +kernel)
    (by first | exact .inl (by decide +kernel) | exact .inr (by decide +kernel)) (by rw [isSubtype_type]; kernel_rfl)
theorem md_entry : entryFor table "method_descriptor.__get__" = some Builtin.«method_descriptor.__get__» := entryFor_of_tree (by kernel_rfl)
theorem md_args (a b c : Value) : argsOk "method_descriptor.__get__" ⟨[a, b, c], []⟩ := by unfold argsOk; kernel_rfl
theorem md_noset : typeLookup (.type "method_descriptor") "__set__" = pure none := by rw [typeLookup_type, builtinLookup_eq_fast]; kernel_rfl
theorem md_nodel : typeLookup (.type "method_descriptor") "__delete__" = pure none := by rw [typeLookup_type, builtinLookup_eq_fast]; kernel_rfl
theorem set_self_sub : isSubtype (.type "set") (.type (".".intercalate ("set.__contains__".cutAt '.').dropLast)) = pure true := by
  have e0 : "set.__contains__".cutAt '.' = ["set", "__contains__"] := by first | rfl | decide +kernel
  rw [e0]
  have e1 : ".".intercalate ["set", "__contains__"].dropLast = "set" := by decide +kernel
  rw [e1, isSubtype_type]; kernel_rfl
section
variable {prog : Program} {w : World} {A : Around} {E : Value → Shared → Prop} {h : Heap} {g : Array GenState} {d : Drawn} {t : Nat} {os : OsState} {a : Addr} {o : Obj}
theorem set_md_get {R : Result → Shared → Prop} (hx : h.get? a = some o) (hc : o.cls = .type "set") (hq : R (.ok (.ret (.ref h.objs.size))) ⟨h.push (bnd "set.__contains__" (.ref a)), g, d, t, os⟩) :
    codeAny (model prog w) A (.call (.builtin "method_descriptor.__get__") ⟨[.builtin "set.__contains__", .ref a, .type "set"], []⟩) R ⟨h, g, d, t, os⟩ := by
  have hT : (⟨h, g, d, t, os⟩ : Shared).TypeIs (.ref a) "set" := ⟨_, hx, hc⟩
  have hT5 : (⟨h, g, d, t, os⟩ : Shared).TypeIs (.builtin "set.__contains__") "method_descriptor" := F.type_set_contains
  have f8 := set_self_sub
  refine codeAny_call_builtin md_slot.plain md_entry (md_slot.check _ _ _ _ _ _ _ _ hT5 (md_args _ _ _) ?_)
  unfold Builtin.«method_descriptor.__get__»
  repeat (any_goals (first | assumption | wp_step))
theorem set_attr_entry {es : Array (Int × Value)} {ep : Nat} {tb : SetTable} {tk : Tok} {Q : Fin → Shared → Prop} (hx : h.get? a = some { cls := .type "set", dict := none, data := .set es ep tb, slots := #[] }) (hq : Q (.done (.ret (.ref h.objs.size))) ⟨h.push (bnd "set.__contains__" (.ref a)), g, d, t, os⟩) :
    wpAny (model prog w) A (Builtin.«object.__getattribute__» ⟨[.ref a, .str "__contains__" tk], []⟩) Q E ⟨h, g, d, t, os⟩ := by
  have hT : (⟨h, g, d, t, os⟩ : Shared).TypeIs (.ref a) "set" := ⟨_, hx, rfl⟩
  have hT5 : (⟨h, g, d, t, os⟩ : Shared).TypeIs (.builtin "set.__contains__") "method_descriptor" := F.type_set_contains
  have f4 := F.slot_set_contains.lookup
  have f5 := F.type_set_contains
  have f6 := md_slot.lookup
  have f7 := md_noset
  have f8 := md_nodel
  repeat (any_goals (first | assumption | wp_step))
  refine set_md_get hx rfl ?_
  repeat (any_goals (first | assumption | wp_step))
theorem set_attr {s : Shared} {es : Array (Int × Value)} {ep : Nat} {tb : SetTable} {Q : Value → Shared → Prop} (hx : s.heap.get? a = some { cls := .type "set", dict := none, data := .set es ep tb, slots := #[] })
    (hq : ∀ tk, Q (.ref s.heap.objs.size) { s with heap := s.heap.push (bnd "set.__contains__" (.ref a)), toks := tk }) : wpAny (model prog w) A (getAttr (.ref a) "__contains__" true) Q E s := by
  obtain ⟨h, g, d, t, os⟩ := s
  have hT : ∀ tk', (⟨h, g, d, tk', os⟩ : Shared).TypeIs (.ref a) "set" := fun _ => ⟨_, hx, rfl⟩
  have hTr : (⟨h, g, d, t, os⟩ : Shared).TypeIs (.ref a) "set" := ⟨_, hx, rfl⟩
  have f2 := F.slot_set_getattribute.lookup
  have f3 := F.slot_set_getattribute.bind (.ref a)
  unfold getAttr getAttrBy
  repeat (any_goals (first | assumption | exact hT _ | wp_step))
  refine codeAny_call_builtin F.slot_set_getattribute.plain F.entry_set_ga (F.slot_set_getattribute.check _ _ _ _ _ _ _ _ (hT _) (F.args_set_getattribute_2 _ _) (set_attr_entry hx ?_))
  repeat (any_goals (first | assumption | wp_step))
  all_goals exact hq _
end

theorem zz_32d : True := by
  w_top off
  trivial
section
variable {prog : Program} {w : World} {A : Around} {E : Value → Shared → Prop} {s : Shared} {h₀ : Heap} {L l : Addr} {m : Str → Option Value} {news : List (Addr × Obj)} {vs : List Value} {n : Nat}
theorem news_push {h₀ h : Heap} {L : Addr} {m : Str → Option Value} {news : List (Addr × Obj)} (F : Fr h₀ L h m) (N : News h₀ L h news) (o : Obj) (hf : o.isFreed = false) : News h₀ L (h.push o) ((h.objs.size, o) :: news) := by
  intro p hp
  rcases List.mem_cons.mp hp with rfl | hp
  · exact ⟨Heap.get?_push_size _ hf, Ne.symm (Nat.ne_of_lt F.ns.lt), next_is_new F⟩
  · exact ⟨Heap.get?_push_of_some _ (N p hp).1, (N p hp).2⟩
/-- an iterator over a list -/
abbrev liO (l : Addr) (i : Nat) : Obj := { cls := .type "list_iterator", data := .fields #[.ref l, .int (i : Int) 0] }
theorem iter_S {Q : Value → Shared → Prop} (F : Fr h₀ L s.heap m) (N : News h₀ L s.heap news) (hl : s.heap.IsList l vs.toArray)
    (h : ∀ I h', Fr h₀ L h' m → News h₀ L h' ((I, liO l 0) :: news) → (∀ p ∈ news, p.1 < I) → Q (.ref I) { s with heap := h' }) :
    wpAny (model prog w) A (call (.builtin "iter") [.ref l]) Q E s := by
  refine call_function_entry (by decide +kernel) (by decide +kernel) kdk_entry_iter (kdk_args_iter _) ?_
  unfold Builtin.«iter»
  refine wpAny_bind (m := someArgs "iter" 1 2 _) (wpAny_of_eq (a := [Value.ref l]) (by first | rfl | kernel_rfl!) ?_)
  show wpAny _ _ (pyIter (.ref l) >>= _) _ _ _
  refine wpAny_bind (wpAny_pyIter_list hl ?_)
  exact wpAny_pure ⟨_, rfl, h _ _ (F.push _) (news_push F N _ rfl) (fun p hp => Heap.lt_size (N p hp).1)⟩
end

theorem zz_33 : True := by
  w_top off
  trivial
section
variable {w : World} {s : Shared} {mg mb : Str → Option Value} {mean : ExcName → Option Value} {d u : Nat} {gs : Option (List Code)} {base : Heap} {outer : List Env} {R : Result → Shared → Prop}
theorem difference_spec (W : Wd w mg mb mean base outer ⟨none, d, some outer, gs, u⟩ s.heap) (hdp : d < 600) {lm ls : Addr} {vm vs : List Value} {nm ns : Nat} {ms ss : List Str} (hlm : s.heap.get? lm = some (lst vm nm)) (hms : StrsAre vm ms) (hls : s.heap.get? ls = some (lst vs ns)) (hss : StrsAre vs ss)
    (hn : ss.length ≤ 64)
    (hR : ∀ h' tk (x dx B S I : Addr) (oS : Obj) (c : Nat), (∀ b o, s.heap.get? b = some o → h'.get? b = some o) →
      (∀ p ∈ [(I, liO lm 0), (x, ({ cls := .ref 83, dict := some dx, data := .plain, slots := #[some (.ref B), some (.ref I)] } : Obj)), (dx, dictOf [] 0), (B, bnd "set.__contains__" (.ref S)), (S, oS)], h'.get? p.1 = some p.2 ∧ s.heap.get? p.1 = none) →
      @LT.lt Nat _ x I → oS.SetObjOf (PySem.strKind PySem.Challenge.rw_il0206_01.row.prog w) (fun k' => decide (k' ∈ ss)) c → c ≤ 4000 → R (.ok (.ret (.ref x))) ⟨h', s.gens, s.drawn, tk, s.os⟩) :
    codeAny (model PySem.Challenge.rw_il0206_01.row.prog w) ⟨none, d, some outer, gs, u⟩ (.call (.ref 94) ⟨[.ref lm, .ref ls], []⟩) R s := by
  change codeAny _ _ _ (Ends R) s
  obtain ⟨T, KX, K0⟩ := W
  refine codeAny_call_def (by unfold recursionLimit; dsimp only; omega) (KX 94 _ (by rfl)) rfl T.nolimit (codeRec_of KX (by k_is)) rfl (BindsTo.of_eq rfl) (by decide) (locs rfl) ?_
  intro h₁ hns hk
  have F : Fr s.heap s.heap.objs.size h₁ (fun x => List.lookup x [(Str.ofString "subtrahend", Value.ref ls), (Str.ofString "minuend", Value.ref lm)]) := ⟨hns, hk, Nat.le_refl _⟩
  have N : News s.heap s.heap.objs.size h₁ [] := News.nil
  clear hns hk
  change wpAny _ (Around.deeper _ (envOf _ _ _ _ _)) (execs _ (envOf _ _ _ _ _)) _ _ ⟨h₁, s.gens, s.drawn, _, s.os⟩
  repeat' ((fail_if_success (with_reducible show wpAny _ _ (call (Value.type "set") _) _ _ _)); (fail_if_success (with_reducible show Ends _ _ _)); first | (k_unfold; (try dsimp only)) | walk1 | (dsimp only; walk1))
  have hvl := strsAre_len hss
  refine set_news rfl F N (F.keep _ _ hls) hss (by omega) fun h2 tk2 S oS c F2 N2 hlt hso hc => ?_
  clear F N
  repeat' ((fail_if_success (with_reducible show wpAny _ _ (getAttr (Value.ref S) _) _ _ _)); (fail_if_success (with_reducible show Ends _ _ _)); first | (k_unfold; (try dsimp only)) | walk1 | (dsimp only; walk1))
  have hso2 := hso.setOf (N2 _ (.head _)).1 (by unfold scanBound; omega)
  obtain ⟨o', es, ep, tb, ho', ⟨hcl, hdi, hsl⟩, hdt, _⟩ := hso2
  have hoo : o' = { cls := .type "set", dict := none, data := .set es ep tb, slots := #[] } := by
    obtain ⟨_, _, _, _⟩ := o'
    dsimp only at hcl hdi hsl hdt
    subst hcl hdi hsl hdt; rfl
  subst hoo
  clear hcl hdi hsl hdt
  refine set_attr ho' fun tk3 => ?_
  have F3 := F2.push (bnd "set.__contains__" (.ref S))
  have N3 := news_push F2 N2 (bnd "set.__contains__" (.ref S)) rfl
  have hlt3 : S < h2.objs.size := Heap.lt_size ho'
  generalize h2.objs.size = B at N3 hlt3 ⊢
  generalize h2.push (bnd "set.__contains__" (.ref S)) = h3 at F3 N3 ⊢
  clear F2 N2 ho' hlt
  repeat' ((fail_if_success (with_reducible show wpAny _ _ (call (Value.builtin "iter") _) _ _ _)); (fail_if_success (with_reducible show Ends _ _ _)); first | (k_unfold; (try dsimp only)) | walk1 | (dsimp only; walk1))
  (rename Fr _ _ _ _ => F4); (rename News _ _ _ _ => N4); (rename Fr s.heap s.heap.objs.size _ _ => FG4)
  refine iter_S F4 N4 (isList_lst (F4.keep _ _ (FG4.keep _ _ hlm))) fun I h4 F5 N5 l5 => ?_
  k_lt l5
  clear F4 N4
  repeat' ((fail_if_success (with_reducible show Ends _ _ _)); first | (k_unfold; (try dsimp only)) | walk1 | (dsimp only; walk1))
  (rename News s.heap s.heap.objs.size _ _ => N6)
  (rename Fr s.heap s.heap.objs.size _ _ => F6)
  refine hR _ _ _ _ B S I oS c F6.keep (fun p hp => ⟨(N6 p hp).1, (N6 p hp).2.2⟩) l5.1 hso hc
end

theorem zz_34 : True := by
  w_top off
  trivial
section
variable {prog : Program} {w : World} {A : Around} {E : Value → Shared → Prop} {s : Shared} {it l : Addr} {vs : List Value} {n i : Nat}
/-- next(it) over a list's iterator: an item is there, or the list is at its end -/
theorem li_next {Q : Value → Shared → Prop} (hit : s.heap.get? it = some (liO l i)) (hl : s.heap.get? l = some (lst vs n))
    (hI : ∀ v, vs[i]? = some v → ∀ g, g.get? it = some (liO l (i + 1)) → Heap.SameBut it s.heap g → Q v { s with heap := g })
    (hE : vs[i]? = none → A.handled = none ∧ ∀ g o g' e, Heap.SameBut it s.heap g → g.get? it = some o → Heap.MadeExcOf g g' e (.type "StopIteration") [] → E (.ref e) { s with heap := g' }) :
    wpAny (model prog w) A (call (.builtin "next") [.ref it]) Q E s := by
  have ty : s.TypeIs (.ref it) "list_iterator" := ⟨_, hit, rfl⟩
  have one : someArgs "next" 1 2 ⟨[.ref it], []⟩ = pure [Value.ref it] := by kernel_rfl!
  refine call_function_entry (by decide +kernel) (by decide +kernel) kdk_entry_next (kdk_args_next _) ?_
  unfold Builtin.«next»
  refine wpAny_bind (wpAny_of_eq one (wpAny_bind (wpAny_specialOf (name := Str.ofString "__next__") ty slot_listiter_next.lookup (wpAny_ite_split (fun q => absurd q (by decide)) fun _ => ?_))))
  refine wpAny_bind (wpAny_callSpecial?_slot (name := Str.ofString "__next__") ty slot_listiter_next (wpAny_call_entry slot_listiter_next ty entry_listiter_next ?_ (args_listiter_next _)))
  have f0 : (liO l i).data = .fields #[.ref l, .int i 0] := rfl
  change wpAny _ _ (field (.ref it) 0 >>= _) _ _ _
  refine wpAny_bind (wpAny_field hit f0 (x := .ref l) rfl ?_)
  change wpAny _ _ (field (.ref it) 1 >>= _) _ _ _
  refine wpAny_bind (wpAny_field hit f0 (x := .int i 0) rfl (wpAny_bind (m := seqItems? _) (wpAny_seqItems hl rfl ?_)))
  simp only [Int.toNat_natCast, List.getElem?_toArray]
  cases at_i : vs[i]? with
  | some v =>
    refine wpAny_bind (wpAny_setField hit f0 (by simp) (wpAny_pure ⟨v, rfl, wpAny_pure ⟨v, rfl, hI v at_i _ ?_ (Heap.SameBut.update ..)⟩⟩))
    rw [Heap.get?_update_self _ hit rfl]
    rfl
  | none =>
    obtain ⟨hh, hE⟩ := hE at_i
    refine wpAny_bind (wpAny_rule (wpAny_bind (wpAny_setField hit f0 (by simp) ?_)))
    exact wpAny_bind (stop_made fun g' e q => wpAny_raiseNew_none hh (hE _ _ g' e (Heap.SameBut.update ..) (Heap.get?_update_self _ hit rfl) q))
theorem li_next_item {v : Value} {Q : Value → Shared → Prop} (hit : s.heap.get? it = some (liO l i)) (hl : s.heap.get? l = some (lst vs n)) (hx : vs[i]? = some v)
    (hQ : ∀ h', h'.get? it = some (liO l (i + 1)) → Heap.SameBut it s.heap h' → Q v { s with heap := h' }) : wpAny (model prog w) A (call (.builtin "next") [.ref it]) Q E s :=
  li_next hit hl (fun u hu g => by rw [hx] at hu; cases hu; exact hQ g) fun hn => by rw [hx] at hn; cases hn
theorem li_next_end {Q : Value → Shared → Prop} (hh : A.handled = none) (hit : s.heap.get? it = some (liO l i)) (hl : s.heap.get? l = some (lst vs n)) (hx : vs[i]? = none)
    (hE : ∀ h1 h2 e o, Heap.SameBut it s.heap h1 → h1.get? it = some o → Heap.MadeExcOf h1 h2 e (.type "StopIteration") [] → E (.ref e) { s with heap := h2 }) : wpAny (model prog w) A (call (.builtin "next") [.ref it]) Q E s :=
  li_next hit hl (fun u hu => by rw [hx] at hu; cases hu) fun _ => ⟨hh, fun g o g' e a b c => hE g g' e o a b c⟩
end

theorem zz_35 : True := by
  w_top off
  trivial
theorem news_set {h₀ h h' : Heap} {L I : Addr} {o o' : Obj} {rest : List (Addr × Obj)} (N : News h₀ L h ((I, o) :: rest)) (hs : Heap.SameBut I h h') (hI : h'.get? I = some o') (hr : ∀ p ∈ rest, p.1 ≠ I) : News h₀ L h' ((I, o') :: rest) := by
  intro p hp
  rcases List.mem_cons.mp hp with rfl | hp
  · exact ⟨hI, (N _ (.head _)).2⟩
  · exact ⟨hs.extBut _ _ (hr p hp) (N p (.tail _ hp)).1, (N p (.tail _ hp)).2⟩
/-- an object of the class filterfalse -/
abbrev ffO (dx B I : Addr) : Obj := { cls := .ref 83, dict := some dx, data := .plain, slots := #[some (.ref B), some (.ref I)] }
section
variable {w : World} {s : Shared} {mg mb : Str → Option Value} {mean : ExcName → Option Value} {d u : Nat} {gs : Option (List Code)} {base : Heap} {outer : List Env} {R : Result → Shared → Prop}
theorem next_spec {x dx B S I lm : Addr} {oS : Obj} {c : Nat} {vm : List Value} {nm i : Nat} {ms ss : List Str} (W : Wd w mg mb mean base outer ⟨none, d, some outer, gs, u⟩ (hideAll s.heap [I, x, dx])) (hdp : d < 600)
    (hx : s.heap.get? x = some (ffO dx B I)) (hdx : s.heap.get? dx = some (dictOf [] 0)) (hlm : s.heap.get? lm = some (lst vm nm)) (hB : s.heap.get? B = some (bnd "set.__contains__" (.ref S))) (hS : s.heap.get? S = some oS) (hso : oS.SetObjOf (PySem.strKind PySem.Challenge.rw_il0206_01.row.prog w) (fun k' => decide (k' ∈ ss)) c) (hc : c ≤ 4000)
    (hI : s.heap.get? I = some (liO lm i)) (hxI : x ≠ I) (hdI : dx ≠ I) (hxd : dx ≠ x) (hlo : lm ∉ [I, x, dx]) (hBo : B ∉ [I, x, dx]) (hSo : S ∉ [I, x, dx]) (hms : StrsAre vm ms) (hi : i ≤ vm.length)
    (hok : ∀ h' tk k y t, i ≤ k → ms[k]? = some y → y ∉ ss → (∀ j z, i ≤ j → j < k → ms[j]? = some z → z ∈ ss) → (∀ b o, b ≠ I → s.heap.get? b = some o → h'.get? b = some o) → h'.get? I = some (liO lm (k + 1)) → R (.ok (.ret (.str y t))) ⟨h', s.gens, s.drawn, tk, s.os⟩)
    (hend : ∀ h' tk e ob, (∀ j z, i ≤ j → ms[j]? = some z → z ∈ ss) → h'.get? e = some ob → ob.cls = .type "StopIteration" → (∀ b o, b ≠ I → (∀ env ∈ outer, env.frame ≠ some b) → s.heap.get? b = some o → h'.get? b = some o) → s.heap.UpToSlots h' → R (.error (.ref e)) ⟨h', s.gens, s.drawn, tk, s.os⟩) :
    codeAny (model PySem.Challenge.rw_il0206_01.row.prog w) ⟨none, d, some outer, gs, u⟩ (.call (.ref 79) ⟨[.ref x], []⟩) R s := by
  change codeAny _ _ _ (Ends R) s
  obtain ⟨T, KX, K0⟩ := W
  have hgk : ∀ b o, (hideAll s.heap [I, x, dx]).get? b = some o → s.heap.get? b = some o := fun b o e => of_hideAll _ e
  have hkg : ∀ b o, b ∉ [I, x, dx] → s.heap.get? b = some o → (hideAll s.heap [I, x, dx]).get? b = some o := fun b o hb e => hideAll_get _ e hb
  refine codeAny_call_def (by unfold recursionLimit; dsimp only; omega) ((KX.keeps hgk) 79 _ (by rfl)) rfl (T.nolimit.keeps hgk) (codeRec_of (KX.keeps hgk) (by k_is)) rfl (BindsTo.of_eq rfl) (by decide) (locs rfl) ?_
  intro h₁ hns hk
  have hgs : (hideAll s.heap [I, x, dx]).objs.size ≤ s.heap.objs.size := by rw [hideAll_size]; exact Nat.le_refl _
  have hgn : ∀ b ∈ [I, x, dx], (hideAll s.heap [I, x, dx]).get? b = none := fun b hb => hideAll_none _ hb
  replace hlm := hkg _ _ hlo hlm
  replace hB := hkg _ _ hBo hB
  replace hS := hkg _ _ hSo hS
  have F : Fr (hideAll s.heap [I, x, dx]) s.heap.objs.size h₁ (fun y => List.lookup y [(Str.ofString "self", Value.ref x)]) := ⟨hns, fun b o e => hk b o (hgk b o e), hgs⟩
  have N : News (hideAll s.heap [I, x, dx]) s.heap.objs.size h₁ [(I, liO lm i), (x, ffO dx B I), (dx, dictOf [] 0)] := fun p hp => by
    rcases List.mem_cons.mp hp with rfl | hp
    · exact ⟨hk _ _ hI, Nat.ne_of_lt (Heap.lt_size hI), hgn _ (.head _)⟩
    rcases List.mem_cons.mp hp with rfl | hp
    · exact ⟨hk _ _ hx, Nat.ne_of_lt (Heap.lt_size hx), hgn _ (.tail _ (.head _))⟩
    · rw [List.mem_singleton.mp hp]
      exact ⟨hk _ _ hdx, Nat.ne_of_lt (Heap.lt_size hdx), hgn _ (.tail _ (.tail _ (.head _)))⟩
  have hN1 := neN hxI
  have hN2 := neN hdI
  have hN3 := neN hxd
  have hkeep : ∀ b o, b ≠ I → s.heap.get? b = some o → b = x ∧ o = ffO dx B I ∨ b = dx ∧ o = dictOf [] 0 ∨ (hideAll s.heap [I, x, dx]).get? b = some o := fun b o hb e => by
    by_cases h1 : b = x
    · subst h1; rw [hx] at e; exact .inl ⟨rfl, (Option.some.inj e).symm⟩
    by_cases h2 : b = dx
    · subst h2; rw [hdx] at e; exact .inr (.inl ⟨rfl, (Option.some.inj e).symm⟩)
    · exact .inr (.inr (hkg b o (by simp [hb, h1, h2]) e))
  have hsz : ∀ b o, s.heap.get? b = some o → b ≠ s.heap.objs.size := fun b o e => Nat.ne_of_lt (Heap.lt_size e)
  have hnf : ∀ b o, b = I → s.heap.get? b = some o → ∃ vs, o.data = .fields vs := fun b o hb e => by subst hb; rw [hI] at e; cases e; exact ⟨_, rfl⟩
  clear hns hk hI hx hdx
  generalize hideAll s.heap [I, x, dx] = g at *
  change wpAny _ (Around.deeper _ (envOf _ _ _ _ _)) (execs _ (envOf _ _ _ _ _)) _ _ ⟨h₁, s.gens, s.drawn, _, s.os⟩
  repeat' ((fail_if_success (with_reducible show wpAny _ _ (exec (Stmt.While _ _ _ _) _) _ _ _)); (fail_if_success (with_reducible show Ends _ _ _)); first | (k_unfold; (try dsimp only)) | walk1 | (dsimp only; walk1))
  (rename Fr g _ _ _ => F5); (rename News g _ _ _ => N5)
  have hml := strsAre_len hms
  have hrest : ∀ p ∈ [(x, ffO dx B I), (dx, dictOf [] 0)], p.1 ≠ I := fun p hp => by
    rcases List.mem_cons.mp hp with rfl | hp
    · exact hxI
    · rw [List.mem_singleton.mp hp]; exact hdI
  generalize hm0 : (fun (y : Str) => ite (y = Str.ofString "func") _ _) = m₀ at F5
  refine While_inv2 (n₀ := vm.length - i) (fun n m nw => ∃ k, n = vm.length - k ∧ i ≤ k ∧ k ≤ vm.length ∧ (∀ j z, i ≤ j → j < k → ms[j]? = some z → z ∈ ss) ∧ nw = [(I, liO lm k), (x, ffO dx B I), (dx, dictOf [] 0)] ∧ ∀ y, y ≠ Str.ofString "item" → m y = m₀ y) F5 N5 ⟨i, rfl, Nat.le_refl _, hi, fun j z h1 h2 => absurd h1 (by omega), rfl, fun _ _ => rfl⟩ ?_
  rintro n m₁ nw₁ h₂ tk₂ F6 N6 ⟨k, rfl, hik, hkn, hall, rfl, hm⟩
  have e8 : m₁ = fun y => if y = Str.ofString "item" then m₁ y else m₀ y := by
    funext y
    by_cases hy : y = Str.ofString "item"
    · rw [if_pos hy]
    · rw [if_neg hy, hm y hy]
  rw [e8] at F6
  subst hm0
  clear F5 N5 e8 hm
  dsimp only at F6
  change Fr g s.heap.objs.size h₂ _ at F6
  change News g s.heap.objs.size h₂ _ at N6
  repeat' ((fail_if_success (with_reducible show wpAny _ _ (call (Value.builtin "next") _) _ _ _)); (fail_if_success (with_reducible show WhileStep2 _ _ _ _ _ _ _ _)); (fail_if_success (with_reducible show Ends _ _ _)); first | (k_unfold; (try dsimp only)) | walk1 | (dsimp only; walk1))
  (rename Fr g _ _ _ => F7); (rename News g _ _ _ => N7)
  by_cases hlt : k < vm.length
  · obtain ⟨y, yt, hyv, hyi⟩ := hms.item k vm[k] (by simp [hlt])
    refine li_next_item (N7 _ (.head _)).1 (F7.keep _ _ hlm) (v := vm[k]) (by simp [hlt]) fun h3 hI3 hs3 => ?_
    rw [hyv]
    have F8 := F7.change hs3 (N7 _ (.head _)).2.1 (N7 _ (.head _)).2.2
    have N8 := news_set N7 hs3 hI3 hrest
    clear F7 N7 hs3 hI3
    repeat' ((fail_if_success (with_reducible show wpAny _ _ (call (Value.ref _) _) _ _ _)); (fail_if_success (with_reducible show WhileStep2 _ _ _ _ _ _ _ _)); (fail_if_success (with_reducible show Ends _ _ _)); first | (k_unfold; (try dsimp only)) | walk1 | (dsimp only; walk1))
    (rename Fr g _ _ _ => F9); (rename News g _ _ _ => N9)
    refine callWith_bnd (f := "set.__contains__") (self := .ref S) ?_
    repeat' ((fail_if_success (with_reducible show _ ∧ _)); first | (k_unfold; (try dsimp only)) | walk1 | (dsimp only; walk1))
    refine set_ask (F9.keep _ _ hB) (F9.keep _ _ hS) hso hc ?_
    have fin : ∀ h5, Fr g s.heap.objs.size h5 (fun y_1 => if y_1 = Str.ofString "item" then some (Value.str y yt) else if y_1 = Str.ofString "item" then m₁ y_1 else if y_1 = Str.ofString "func" then some (Value.ref B) else List.lookup y_1 [(Str.ofString "self", Value.ref x)]) →
        News g s.heap.objs.size h5 [(I, liO lm (k + 1)), (x, ffO dx B I), (dx, dictOf [] 0)] → ∀ b o, b ≠ I → s.heap.get? b = some o → h5.get? b = some o := fun h5 F N b o hb e => by
      rcases hkeep b o hb e with ⟨rfl, rfl⟩ | ⟨rfl, rfl⟩ | h
      · exact (N _ (.tail _ (.head _))).1
      · exact (N _ (.tail _ (.tail _ (.head _)))).1
      · exact F.keep _ _ h
    repeat' ((fail_if_success (with_reducible show WhileStep2 _ _ _ _ _ _ _ _)); (fail_if_success (with_reducible show Ends _ _ _)); first | (k_unfold; (try dsimp only)) | walk1 | (dsimp only; walk1))
    · dsimp only [WhileStep2]
      refine ⟨_, _, _, _, vm.length - (k + 1), rfl, F9, N9, by omega, k + 1, rfl, by omega, by omega, fun j z h1 h2 h3 => ?_, rfl, fun z hz => by simp only [if_neg hz]⟩
      by_cases hj : j = k
      · subst hj; rw [hyi] at h3; cases h3; assumption
      · exact hall j z h1 (by omega) h3
    · change Ends R (Except.ok (Flow.ret (Value.str y yt))) _
      exact hok _ _ k y yt hik hyi (by assumption) hall (fin _ F9 N9) (N9 _ (.head _)).1
  · refine li_next_end rfl (N7 _ (.head _)).1 (F7.keep _ _ hlm) (by simp; omega) fun h3 h4 e o hs3 hI3 hex => ?_
    have F8 := F7.change hs3 (N7 _ (.head _)).2.1 (N7 _ (.head _)).2.2
    have N8 := news_set N7 hs3 hI3 hrest
    refine wpAny_leaves_madeW (base := hideAll h3 (s.heap.objs.size :: outer.filterMap (·.frame))) (h := h3) (outer := outer) (L := s.heap.objs.size) rfl rfl (fun b o q => of_hideAll _ q) (funFrames_hide (pushX K0 F8 rfl rfl).frames ?_) hex fun h' t x1 x2 x3 x4 => ?_
    · intro env he b hb
      rcases List.mem_cons.mp he with rfl | he
      · rw [← Option.some.inj hb]; exact .head _
      · exact .tail _ (List.mem_filterMap.mpr ⟨env, he, hb⟩)
    · obtain ⟨ob, hob, hobc⟩ := x1.there
      have hk3 : ∀ b o, b ≠ I → s.heap.get? b = some o → h3.get? b = some o := fun b o hb e => by
        rcases hkeep b o hb e with ⟨rfl, rfl⟩ | ⟨rfl, rfl⟩ | h
        · exact (N8 _ (.tail _ (.head _))).1
        · exact (N8 _ (.tail _ (.tail _ (.head _)))).1
        · exact F8.keep _ _ h
      refine hend h' _ e ob (fun j z h1 h2 => hall j z h1 ?_ h2) hob hobc (fun b o hb hf ho => ?_) (fun b o ho hd => ?_)
      · have := (List.getElem?_eq_some_iff.mp h2).1; omega
      · refine x1.1 b o (hideAll_get _ (hk3 b o hb ho) fun hm => ?_)
        rcases List.mem_cons.mp hm with rfl | hm
        · exact absurd (Heap.lt_size ho) (Nat.lt_irrefl _)
        · obtain ⟨env, he, hfe⟩ := List.mem_filterMap.mp hm
          exact hf env he hfe
      · have hbI : b ≠ I := fun h => by obtain ⟨vs, hv⟩ := hnf b o h ho; exact hd vs hv
        exact x4 b o (hex.keeps _ _ (hk3 b o hbI ho)) hd
end

theorem zz_36 : True := by
  w_top off
  trivial
section
variable {w : World} {s : Shared} {mg mb : Str → Option Value} {mean : ExcName → Option Value} {d u : Nat} {gs : Option (List Code)} {base : Heap} {outer : List Env} {R : Result → Shared → Prop}
theorem iter_spec (W : Wd w mg mb mean base outer ⟨none, d, some outer, gs, u⟩ s.heap) (hdp : d < 600) {x : Addr}
    (hR : ∀ h' tk, (∀ b o, s.heap.get? b = some o → h'.get? b = some o) → R (.ok (.ret (.ref x))) ⟨h', s.gens, s.drawn, tk, s.os⟩) :
    codeAny (model PySem.Challenge.rw_il0206_01.row.prog w) ⟨none, d, some outer, gs, u⟩ (.call (.ref 72) ⟨[.ref x], []⟩) R s := by
  change codeAny _ _ _ (Ends R) s
  obtain ⟨T, KX, K0⟩ := W
  refine codeAny_call_def (by unfold recursionLimit; dsimp only; omega) (KX 72 _ (by rfl)) rfl T.nolimit (codeRec_of KX (by k_is)) rfl (BindsTo.of_eq rfl) (by decide) (locs rfl) ?_
  intro h₁ hns hk
  have F : Fr s.heap s.heap.objs.size h₁ (fun y => List.lookup y [(Str.ofString "self", Value.ref x)]) := ⟨hns, hk, Nat.le_refl _⟩
  have N : News s.heap s.heap.objs.size h₁ [] := News.nil
  clear hns hk
  change wpAny _ (Around.deeper _ (envOf _ _ _ _ _)) (execs _ (envOf _ _ _ _ _)) _ _ ⟨h₁, s.gens, s.drawn, _, s.os⟩
  tb_start
  (rename Fr s.heap s.heap.objs.size _ _ => F9)
  exact hR _ _ F9.keep
end
/-- a frame behind a change of one object that is not the frame's -/
theorem fr_one {h₀ h h' : Heap} {L I : Addr} {m : Str → Option Value} (F : Fr h₀ L h m) (hL : L ≠ I) (hI : h₀.get? I = none) (k : ∀ b o, b ≠ I → h.get? b = some o → h'.get? b = some o) : Fr h₀ L h' m :=
  ⟨F.ns.at' fun o e => k L o hL e, fun b o e => k b o (fun hb => by rw [hb, hI] at e; cases e) (F.keep b o e), F.above⟩
section
variable {w : World} {mg mb : Str → Option Value} {mean : ExcName → Option Value} {d : Nat} {gs : Option (List Code)} {base h₀ : Heap} {outer : List Env} {R : Result → Shared → Prop} {L : Addr} {m : Str → Option Value}
/-- what a walk over an object of filterfalse rests on -/
structure FF (w : World) (h₀ : Heap) (L : Addr) (m : Str → Option Value) (x dx B S I lm : Addr) (oS : Obj) (vm : List Value) (nm i : Nat) (h : Heap) : Prop where
  F : Fr h₀ L h m
  hx : h.get? x = some (ffO dx B I)
  hdx : h.get? dx = some (dictOf [] 0)
  hlm : h.get? lm = some (lst vm nm)
  hB : h.get? B = some (bnd "set.__contains__" (.ref S))
  hS : h.get? S = some oS
  hI : h.get? I = some (liO lm i)
theorem FF.change {x dx B S I lm D : Addr} {oS : Obj} {vm : List Value} {nm i : Nat} {h h' : Heap} (f : FF w h₀ L m x dx B S I lm oS vm nm i h) (hD : D ∉ [x, dx, B, S, I, lm, L]) (h0 : h₀.get? D = none) (k : ∀ b o, b ≠ D → h.get? b = some o → h'.get? b = some o) : FF w h₀ L m x dx B S I lm oS vm nm i h' := by
  have g : ∀ b ∈ [x, dx, B, S, I, lm, L], b ≠ D := fun b hb e => hD (e ▸ hb)
  exact ⟨fr_one f.F (g _ (by simp)) h0 k, k _ _ (g _ (by simp)) f.hx, k _ _ (g _ (by simp)) f.hdx, k _ _ (g _ (by simp)) f.hlm, k _ _ (g _ (by simp)) f.hB, k _ _ (g _ (by simp)) f.hS, k _ _ (g _ (by simp)) f.hI⟩
/-- the addresses of an object of filterfalse -/
structure FFA (h₀ : Heap) (x dx B S I lm L : Addr) : Prop where
  xI : x ≠ I
  dI : dx ≠ I
  dX : dx ≠ x
  lo : lm ∉ [I, x, dx]
  Bo : B ∉ [I, x, dx]
  So : S ∉ [I, x, dx]
  L : L ∉ [I, x, dx]
  h0 : ∀ b ∈ [I, x, dx], h₀.get? b = none
theorem ff_next {x dx B S I lm : Addr} {oS : Obj} {c u : Nat} {vm : List Value} {nm i : Nat} {ms ss : List Str} {s : Shared} {Q : Option Value → Shared → Prop} {E : Value → Shared → Prop}
    (hW : ∀ h u', Fr h₀ L h m → Wd w mg mb mean base outer ⟨none, d, some outer, gs, u'⟩ h) (KX : (hd.heap_1 w.params).In h₀) (hdp : d < 600) (hfr : ∀ env ∈ outer, ∀ b, env.frame = some b → h₀.get? b = none) (a : FFA h₀ x dx B S I lm L)
    (f : FF w h₀ L m x dx B S I lm oS vm nm i s.heap) (hso : oS.SetObjOf (PySem.strKind PySem.Challenge.rw_il0206_01.row.prog w) (fun k' => decide (k' ∈ ss)) c) (hc : c ≤ 4000) (hms : StrsAre vm ms) (hi : i ≤ vm.length)
    (hok : ∀ h' tk k y t, i ≤ k → ms[k]? = some y → y ∉ ss → (∀ j z, i ≤ j → j < k → ms[j]? = some z → z ∈ ss) → (∀ b o, b ≠ I → s.heap.get? b = some o → h'.get? b = some o) → FF w h₀ L m x dx B S I lm oS vm nm (k + 1) h' → Q (some (.str y t)) ⟨h', s.gens, s.drawn, tk, s.os⟩)
    (hend : ∀ h' tk, (∀ j z, i ≤ j → ms[j]? = some z → z ∈ ss) → (∀ b o, b ≠ I → (∀ env ∈ outer, env.frame ≠ some b) → s.heap.get? b = some o → h'.get? b = some o) → Fr h₀ L h' m → Q none ⟨h', s.gens, s.drawn, tk, s.os⟩) :
    wpAny (model PySem.Challenge.rw_il0206_01.row.prog w) ⟨none, d, some outer, gs, u⟩ (pyNext (.ref x)) Q E s := by
  obtain ⟨F, hx, hdx, hlm, hB, hS, hI⟩ := f
  have hLo := a.L
  have Fg : Fr h₀ L (hideAll s.heap [I, x, dx]) m := ⟨F.ns.at' fun o e => hideAll_get _ e hLo, fun b o e => hideAll_get _ (F.keep b o e) fun hm => (by rw [a.h0 b hm] at e; cases e), F.above⟩
  refine owit_next (od := some (dictOf [] 0)) F KX ⟨hx, rfl, rfl, hdx⟩ (by k_is) (by k_is) ?_
  refine wpAny_call (next_spec (hW _ _ Fg) hdp hx hdx hlm hB hS hso hc hI a.xI a.dI a.dX a.lo a.Bo a.So hms hi (fun h' tk k y t h1 h2 h3 h4 hk hI' => ?_) (fun h' tk e ob h1 he hcl hk hup => ?_))
  · have g : ∀ b ∈ [x, dx, B, S, lm, L], b ≠ I := fun b hb => by
      simp only [List.mem_cons, List.not_mem_nil, or_false] at hb
      rcases hb with rfl | rfl | rfl | rfl | rfl | rfl
      · exact a.xI
      · exact a.dI
      · exact fun e => a.Bo (e ▸ .head _)
      · exact fun e => a.So (e ▸ .head _)
      · exact fun e => a.lo (e ▸ .head _)
      · exact fun e => a.L (e ▸ .head _)
    exact hok h' tk k y t h1 h2 h3 h4 hk ⟨fr_one F (g _ (by simp)) (a.h0 _ (by simp)) hk, hk _ _ (g _ (by simp)) hx, hk _ _ (g _ (by simp)) hdx, hk _ _ (g _ (by simp)) hlm, hk _ _ (g _ (by simp)) hB, hk _ _ (g _ (by simp)) hS, hI'⟩
  · have hT : Shared.TypeIs ⟨h', s.gens, s.drawn, tk, s.os⟩ (.ref e) "StopIteration" := ⟨ob, he, hcl⟩
    show OwitStop _ _ _ _ _ _
    unfold OwitStop
    refine wpAny_isInstance hT isSubtype_stop ?_
    rw [if_pos rfl]
    refine hend h' tk h1 hk (Fr.of_stays F (fun b o e => hk b o (fun hb => ?_) (fun env he hf => ?_) (F.keep b o e)) hup)
    · subst hb; rw [a.h0 _ (by simp)] at e; cases e
    · rw [hfr env he b hf] at e; cases e
end

theorem zz_36b : True := by
  w_top off
  trivial
theorem filter_step {ms ss : List Str} {i k : Nat} {y : Str} (hik : i ≤ k) (hy : ms[k]? = some y) (hn : y ∉ ss) (hall : ∀ j z, i ≤ j → j < k → ms[j]? = some z → z ∈ ss) :
    (ms.take (k + 1)).filter (fun z => !decide (z ∈ ss)) = (ms.take i).filter (fun z => !decide (z ∈ ss)) ++ [y] := by
  have hk : k < ms.length := (List.getElem?_eq_some_iff.mp hy).1
  have e1 : (ms.take k).filter (fun z => !decide (z ∈ ss)) = (ms.take i).filter (fun z => !decide (z ∈ ss)) := by
    have e2 : ms.take k = ms.take i ++ (ms.take k).drop i := by
      conv => lhs; rw [← List.take_append_drop i (ms.take k)]
      rw [List.take_take, Nat.min_eq_left hik]
    rw [e2, List.filter_append]
    have e3 : ((ms.take k).drop i).filter (fun z => !decide (z ∈ ss)) = [] := by
      rw [List.filter_eq_nil_iff]
      intro z hz
      obtain ⟨j, hj, rfl⟩ := List.mem_iff_getElem.mp hz
      have hj2 : j + i < k := by
        rw [List.length_drop, List.length_take] at hj
        omega
      have hz2 : ms[i + j]? = some (((ms.take k).drop i)[j]) := by rw [List.getElem_drop, List.getElem_take]; exact List.getElem?_eq_getElem (by omega)
      have := hall (i + j) _ (Nat.le_add_right _ _) (by omega) hz2
      simpa using this
    rw [e3, List.append_nil]
  rw [List.take_add_one, hy, Option.toList_some, List.filter_append, e1]
  simp [hn]
theorem lst_pushed (acc : List Value) (cc : Nat) (v : Value) : ∃ c', Obj.mapSeq (·.push v) (lst acc cc) = lst (acc ++ [v]) c' := ⟨_, by simp only [Obj.mapSeq, lst, List.push_toArray]; rfl⟩
theorem filter_end {ms ss : List Str} {i : Nat} (hall : ∀ j z, i ≤ j → ms[j]? = some z → z ∈ ss) : ms.filter (fun z => !decide (z ∈ ss)) = (ms.take i).filter (fun z => !decide (z ∈ ss)) := by
  conv => lhs; rw [← List.take_append_drop i ms]
  rw [List.filter_append]
  have e3 : (ms.drop i).filter (fun z => !decide (z ∈ ss)) = [] := by
    rw [List.filter_eq_nil_iff]
    intro z hz
    obtain ⟨j, hj, rfl⟩ := List.mem_iff_getElem.mp hz
    have hj2 : i + j < ms.length := by rw [List.length_drop] at hj; omega
    have hz2 : ms[i + j]? = some ((ms.drop i)[j]) := by rw [List.getElem_drop]; exact List.getElem?_eq_getElem hj2
    have := hall (i + j) _ (Nat.le_add_right _ _) hz2
    simpa using this
  rw [e3, List.append_nil]
section
variable {w : World} {mg mb : Str → Option Value} {mean : ExcName → Option Value} {d : Nat} {gs : Option (List Code)} {base h₀ : Heap} {outer : List Env} {R : Result → Shared → Prop} {L : Addr} {m : Str → Option Value}
theorem ff_loop {x dx B S I lm D : Addr} {oS : Obj} {c u : Nat} {vm : List Value} {nm : Nat} {ms ss : List Str}
    (hW : ∀ h u', Fr h₀ L h m → Wd w mg mb mean base outer ⟨none, d, some outer, gs, u'⟩ h) (KX : (hd.heap_1 w.params).In h₀) (hdp : d < 600) (hfr : ∀ env ∈ outer, ∀ b, env.frame = some b → h₀.get? b = none) (a : FFA h₀ x dx B S I lm L)
    (hso : oS.SetObjOf (PySem.strKind PySem.Challenge.rw_il0206_01.row.prog w) (fun k' => decide (k' ∈ ss)) c) (hc : c ≤ 4000) (hms : StrsAre vm ms) (hlen : vm.length ≤ 1000)
    (hD : D ∉ [x, dx, B, S, I, lm, L]) (hD0 : h₀.get? D = none) (hDf : ∀ env ∈ outer, env.frame ≠ some D) : ∀ (k i : Nat) (s : Shared) (acc : List Value) (cc : Nat), vm.length - i ≤ k → i ≤ vm.length → FF w h₀ L m x dx B S I lm oS vm nm i s.heap →
      s.heap.get? D = some (lst acc cc) → StrsAre acc ((ms.take i).filter (fun z => !decide (z ∈ ss))) →
      (∀ h' tk acc' c', Fr h₀ L h' m → (∀ b o, b ≠ I → b ≠ D → (∀ env ∈ outer, env.frame ≠ some b) → s.heap.get? b = some o → h'.get? b = some o) → h'.get? D = some (lst acc' c') → StrsAre acc' (ms.filter (fun z => !decide (z ∈ ss))) → R (.ok (.ret .none)) ⟨h', s.gens, s.drawn, tk, s.os⟩) →
      codeAny (model PySem.Challenge.rw_il0206_01.row.prog w) ⟨none, d, some outer, gs, u⟩ (.builtin "list.extend.loop" ⟨[.ref D, .ref x, .none], []⟩) R s := by
  have hml := strsAre_len hms
  have hDI : D ≠ I := fun e => hD (e ▸ by simp)
  intro k
  induction k with
  | zero =>
    intro i s acc cc hk hi f hDo hacc hR
    refine codeAny_builtin F.entry_extend_loop ?_
    rw [Around.under_plainId F.plain_extend_loop _]
    show wpAny _ ⟨none, d, some outer, gs, _⟩ (pyNext (.ref x) >>= _) _ _ s
    refine wpAny_bind (ff_next hW KX hdp hfr a f hso hc hms hi (fun h' tk j y t h1 h2 h3 h4 hk' f' => ?_) (fun h' tk h1 hk' F' => ?_))
    · have := (List.getElem?_eq_some_iff.mp h2).1; omega
    · exact wpAny_pure (hR h' tk acc cc F' (fun b o hb _ hf e => hk' b o hb hf e) (hk' _ _ hDI hDf hDo) (by rw [filter_end h1]; exact hacc))
  | succ k ih =>
    intro i s acc cc hk hi f hDo hacc hR
    refine codeAny_builtin F.entry_extend_loop ?_
    rw [Around.under_plainId F.plain_extend_loop _]
    show wpAny _ ⟨none, d, some outer, gs, _⟩ (pyNext (.ref x) >>= _) _ _ s
    refine wpAny_bind (ff_next hW KX hdp hfr a f hso hc hms hi (fun h' tk j y t h1 h2 h3 h4 hk' f' => ?_) (fun h' tk h1 hk' F' => ?_))
    · have hj : j < vm.length := by have := (List.getElem?_eq_some_iff.mp h2).1; omega
      have hD' := hk' _ _ hDI hDo
      have haccl := strsAre_len hacc
      have hfl := List.length_filter_le (fun z => !decide (z ∈ ss)) (ms.take i)
      rw [List.length_take] at hfl
      obtain ⟨c2, hc2⟩ := lst_pushed acc cc (.str y t)
      show wpAny _ _ (updateSeq D (·.push (.str y t)) >>= _) _ _ _
      refine wpAny_bind ?_
      refine wpAny_updateSeq (hz := by rw [List.size_toArray, sizeLine_eq]; omega) hD' rfl (wpAny_pure ⟨plainId_quiet F.plain_extend_loop _, ih (j + 1) _ (acc ++ [.str y t]) _ (by omega) (by omega) (f'.change hD hD0 fun b o hb e => (Heap.get?_update_other _ _ (Ne.symm hb)).trans e) ((Heap.get?_update_self _ hD' rfl).trans (congrArg some hc2)) ?_ fun h2 tk2 acc' c' F2 hk2 hD2 hacc2 => ?_⟩) (by rw [Array.size_push, List.size_toArray, sizeLine_eq]; omega)
      · rw [filter_step h1 h2 h3 h4]
        exact hacc.append' (.cons _ _ .nil)
      · exact hR h2 tk2 acc' c' F2 (fun b o hb hbD hf e => hk2 b o hb hbD hf ((Heap.get?_update_other _ _ (Ne.symm hbD)).trans (hk' b o hb e))) hD2 hacc2
    · exact wpAny_pure (hR h' tk acc cc F' (fun b o hb _ hf e => hk' b o hb hf e) (hk' _ _ hDI hDf hDo) (by rw [filter_end h1]; exact hacc))
end

theorem zz_36c : True := by
  w_top off
  trivial
section
variable {w : World} {mg mb : Str → Option Value} {mean : ExcName → Option Value} {d : Nat} {gs : Option (List Code)} {base h₀ : Heap} {outer : List Env} {L : Addr} {m : Str → Option Value}
theorem list_ff {x dx B S I lm : Addr} {oS : Obj} {c u : Nat} {vm : List Value} {nm : Nat} {ms ss : List Str} {s : Shared} {Q : Value → Shared → Prop} {E : Value → Shared → Prop}
    (hW : ∀ h u', Fr h₀ L h m → Wd w mg mb mean base outer ⟨none, d, some outer, gs, u'⟩ h) (KX : (hd.heap_1 w.params).In h₀) (hdp : d < 600) (hfr : ∀ env ∈ outer, ∀ b, env.frame = some b → h₀.get? b = none ∧ b < s.heap.objs.size) (a : FFA h₀ x dx B S I lm L)
    (hso : oS.SetObjOf (PySem.strKind PySem.Challenge.rw_il0206_01.row.prog w) (fun k' => decide (k' ∈ ss)) c) (hc : c ≤ 4000) (hms : StrsAre vm ms) (hlen : vm.length ≤ 1000) (f : FF w h₀ L m x dx B S I lm oS vm nm 0 s.heap)
    (hQ : ∀ h' tk acc' c', Fr h₀ L h' m → (∀ b o, b ≠ I → (∀ env ∈ outer, env.frame ≠ some b) → s.heap.get? b = some o → h'.get? b = some o) → h'.get? s.heap.objs.size = some (lst acc' c') → StrsAre acc' (ms.filter (fun z => !decide (z ∈ ss))) → Q (.ref s.heap.objs.size) ⟨h', s.gens, s.drawn, tk, s.os⟩) :
    wpAny (model PySem.Challenge.rw_il0206_01.row.prog w) ⟨none, d, some outer, gs, u⟩ (call (.type "list") [.ref x]) Q E s := by
  have hDn : s.heap.get? s.heap.objs.size = none := Heap.get?_none_of_le (Nat.le_refl _)
  have hlt : ∀ b o, s.heap.get? b = some o → b ≠ s.heap.objs.size := fun b o e => Nat.ne_of_lt (Heap.lt_size e)
  have hD : s.heap.objs.size ∉ [x, dx, B, S, I, lm, L] := by
    intro hm
    simp only [List.mem_cons, List.not_mem_nil, or_false] at hm
    rcases hm with e | e | e | e | e | e | e
    · exact hlt _ _ f.hx e.symm
    · exact hlt _ _ f.hdx e.symm
    · exact hlt _ _ f.hB e.symm
    · exact hlt _ _ f.hS e.symm
    · exact hlt _ _ f.hI e.symm
    · exact hlt _ _ f.hlm e.symm
    · exact absurd f.F.ns.lt (e ▸ Nat.lt_irrefl _)
  have hD0 : h₀.get? s.heap.objs.size = none := next_is_new f.F
  refine callType_codes (Q₁ := fun obj s₁ => obj = .ref s.heap.objs.size ∧ s₁ = { s with heap := s.heap.push { cls := .type "list", data := .seq #[] } }) F.called_list (F.typeCall_list_1 _) F.entry_list_init
    (code_list_new _ ⟨rfl, rfl⟩) fun obj s₁ h₁ => ?_
  obtain ⟨rfl, rfl⟩ := h₁
  have hS1 : (s.heap.push { cls := .type "list", data := .seq #[] }).get? s.heap.objs.size = some (lst [] 0) := Heap.get?_push_size _ rfl
  refine ⟨⟨_, hS1, rfl⟩, F.args_list_init_2 _ _, ?_⟩
  have f1 : FF w h₀ L m x dx B S I lm oS vm nm 0 (s.heap.push { cls := .type "list", data := .seq #[] }) := f.change hD hD0 fun b o _ e => Heap.get?_push_of_some _ e
  generalize hh1 : s.heap.push { cls := .type "list", data := .seq #[] } = h1 at hS1 f1 ⊢
  have hk1 : ∀ b o, s.heap.get? b = some o → h1.get? b = some o := fun b o e => hh1 ▸ Heap.get?_push_of_some _ e
  clear hh1
  show wpAny _ _ (do let old ← Builtin.List.listItems (.ref s.heap.objs.size); Builtin.List.listUpdate (.ref s.heap.objs.size) (fun _ => #[]); letGo old.toList.reverse; Builtin.List.listExtendWith (.ref s.heap.objs.size) (.ref x) .none) _ _ _
  refine wpAny_bind ?_
  unfold Builtin.List.listItems
  refine wpAny_bind (wpAny_seqItems hS1 rfl (wpAny_pure ?_))
  show wpAny _ _ (updateSeq s.heap.objs.size (fun _ => #[]) >>= fun _ => letGo (#[] : Array Value).toList.reverse >>= fun _ => Builtin.List.listExtendWith (.ref s.heap.objs.size) (.ref x) .none) _ _ _
  refine wpAny_bind (wpAny_updateSeq hS1 rfl ?_)
  have hS2 := Heap.get?_update_self (Obj.mapSeq (fun _ => (#[] : Array Value))) hS1 rfl
  have oth2 : ∀ b o, b ≠ s.heap.objs.size → h1.get? b = some o → (h1.update s.heap.objs.size (Obj.mapSeq (fun _ => (#[] : Array Value)))).get? b = some o := fun b o hb e => (Heap.get?_update_other _ _ (Ne.symm hb)).trans e
  have f2 := f1.change hD hD0 oth2
  have hk2 : ∀ b o, s.heap.get? b = some o → (h1.update s.heap.objs.size (Obj.mapSeq (fun _ => (#[] : Array Value)))).get? b = some o := fun b o e => oth2 b o (hlt b o e) (hk1 b o e)
  obtain ⟨c2, hc2⟩ : ∃ c2, Obj.mapSeq (fun _ => (#[] : Array Value)) (lst [] 0) = lst [] c2 := ⟨_, rfl⟩
  rw [hc2] at hS2
  generalize h1.update s.heap.objs.size (Obj.mapSeq (fun _ => (#[] : Array Value))) = h2 at hS2 f2 hk2 ⊢
  refine wpAny_bind (wpAny_letGo ?_)
  clear hS1 f1 hk1 oth2
  have I2 : W.InstAt h2 x (ffO dx B I) 83 (some (dictOf [] 0)) := ⟨f2.hx, rfl, rfl, f2.hdx⟩
  have X2 := KX.keeps f2.F.keep
  have h0 : Builtin.List.listSameRef (.ref s.heap.objs.size) (.ref x) = false := by
    have : s.heap.objs.size ≠ x := fun e => hD (e ▸ by simp)
    simp [Builtin.List.listSameRef, this]
  unfold Builtin.List.listExtendWith
  refine wpAny_bind (I2.type.here ?_)
  simp only [h0, show (Value.ref 83 == Value.type "list") = false from rfl, show (Value.ref 83 == Value.type "tuple") = false from rfl, Bool.or_false, Bool.false_eq_true, if_false]
  refine wpAny_bind (owit_iter (od := some (dictOf [] 0)) f2.F KX I2 (by k_is) (by k_is) (wpAny_call (iter_spec (hW _ _ f2.F) hdp fun h3 tk3 hk3 => ?_)))
  have f3 : FF w h₀ L m x dx B S I lm oS vm nm 0 h3 := ⟨f2.F.kept hk3, hk3 _ _ f2.hx, hk3 _ _ f2.hdx, hk3 _ _ f2.hlm, hk3 _ _ f2.hB, hk3 _ _ f2.hS, hk3 _ _ f2.hI⟩
  have hS3 := hk3 _ _ hS2
  have I3 : W.InstAt h3 x (ffO dx B I) 83 (some (dictOf [] 0)) := ⟨f3.hx, rfl, rfl, f3.hdx⟩
  have X3 := KX.keeps f3.F.keep
  have hk4 : ∀ b o, s.heap.get? b = some o → h3.get? b = some o := fun b o e => hk3 _ _ (hk2 b o e)
  clear hk3 hk2 f2 hS2 I2 X2
  refine owit_it (od := some (dictOf [] 0)) (g := .ref 79) f3.F KX I3 (by k_is) ?_
  refine wpAny_bind (wpAny_holding ?_)
  unfold Builtin.List.listLengthHint
  refine wpAny_bind (m := specialOf _ _) (wpAny_bind (I3.type.here ((looks_findIn X3 (r := none) (by k_is)).here ?_)))
  show wpAny _ _ (specialOf (Value.ref x) (Str.ofString "__length_hint__") >>= _) _ _ _
  refine wpAny_bind (m := specialOf _ _) (wpAny_bind (I3.type.here ((looks_findIn X3 (r := none) (by k_is)).here ?_)))
  refine wpAny_pure ?_
  show wpAny _ _ (rule "list.extend.makes-room" >>= fun _ => Builtin.List.listTouch (.ref s.heap.objs.size) >>= fun _ => again (.builtin "list.extend.loop" ⟨[.ref s.heap.objs.size, .ref x, .none], []⟩)) _ _ _
  refine wpAny_bind (wpAny_rule ?_)
  refine wpAny_bind ?_
  show wpAny _ _ (updateSeq s.heap.objs.size (·.push .none) >>= fun _ => updateSeq s.heap.objs.size (·.pop)) _ _ _
  refine wpAny_bind (wpAny_updateSeq hS3 rfl ?_)
  have hS4 := Heap.get?_update_self (Obj.mapSeq (·.push Value.none)) hS3 rfl
  refine wpAny_updateSeq hS4 rfl ?_
  have hS5 := Heap.get?_update_self (Obj.mapSeq (·.pop)) hS4 rfl
  obtain ⟨c5, hc5⟩ : ∃ c5, Obj.mapSeq (·.pop) (Obj.mapSeq (·.push Value.none) (lst [] c2)) = lst [] c5 := ⟨_, rfl⟩
  rw [hc5] at hS5
  have oth5 : ∀ b o, b ≠ s.heap.objs.size → h3.get? b = some o → ((h3.update s.heap.objs.size (Obj.mapSeq (·.push Value.none))).update s.heap.objs.size (Obj.mapSeq (·.pop))).get? b = some o :=
    fun b o hb e => (Heap.get?_update_other _ _ (Ne.symm hb)).trans ((Heap.get?_update_other _ _ (Ne.symm hb)).trans e)
  have f5 := f3.change hD hD0 oth5
  have hk5 : ∀ b o, s.heap.get? b = some o → ((h3.update s.heap.objs.size (Obj.mapSeq (·.push Value.none))).update s.heap.objs.size (Obj.mapSeq (·.pop))).get? b = some o := fun b o e => oth5 b o (hlt b o e) (hk4 b o e)
  generalize (h3.update s.heap.objs.size (Obj.mapSeq (·.push Value.none))).update s.heap.objs.size (Obj.mapSeq (·.pop)) = h5 at hS5 f5 hk5 ⊢
  refine wpAny_pure ⟨plainId_quiet F.plain_extend_loop _, ff_loop hW KX hdp (fun env he b hb => (hfr env he b hb).1) a hso hc hms hlen hD hD0 (fun env he hf => absurd (hfr env he _ hf).2 (Nat.lt_irrefl _)) vm.length 0 _ [] c5 (Nat.sub_le _ _) (Nat.zero_le _) f5 hS5 .nil fun h' tk acc' c' F' hk' hD' hacc => ?_⟩
  exact ⟨rfl, hQ h' tk acc' c' F' (fun b o hb hf e => hk' b o hb (hlt b o e) hf (hk5 b o e)) hD' hacc⟩
end

theorem zz_37 : True := by
  w_top off
  trivial
section
variable {prog : Program} {w : World} {A : Around} {s : Shared} {env : Env} {h₀ : Heap}
/-- a for over a list of the ledger, its target any name -/
def ForAt (prog : Program) (w : World) (A : Around) (h₀ : Heap) (env : Env) (x : Str) (body : List Stmt) (Q : Flow → Shared → Prop) (E : Value → Shared → Prop) (xv : Value) (s₁ : Shared) : Prop :=
  ∃ (l : Addr) (vs : List Value) (n : Nat) (m₀ : Str → Option Value) (news : List (Addr × Obj)) (J : Nat → (Str → Option Value) → List (Addr × Obj) → Prop), xv = .ref l ∧ Fr h₀ env.locals s₁.heap m₀ ∧ News h₀ env.locals s₁.heap ((l, lst vs n) :: news) ∧ (∀ p ∈ news, p.1 ≠ l) ∧ J 0 m₀ news ∧
    (∀ i v m₁ news₁ h tk I itO, vs[i]? = some v → J i m₁ news₁ → I ≠ l → (∀ p ∈ news₁, p.1 ≠ I ∧ p.1 ≠ l) → Fr h₀ env.locals h m₁ → News h₀ env.locals h ((I, itO) :: (l, lst vs n) :: news₁) →
      wpAny (model prog w) A (storeName env x v) (fun _ s₂ => wpAny (model prog w) A (execs body env) (TurnEnd h₀ env.locals [(I, itO), (l, lst vs n)] (J (i + 1)) { s₁ with heap := h, toks := tk } Q) E s₂) E { s₁ with heap := h, toks := tk }) ∧
    (∀ m₁ news₁ h tk, J vs.length m₁ news₁ → Fr h₀ env.locals h m₁ → News h₀ env.locals h news₁ → Q .next { s₁ with heap := h, toks := tk })
theorem For_any {E : Value → Shared → Prop} {Q : Flow → Shared → Prop} {x : Str} {px pos : Pos} {iter : Expr} {body : List Stmt} (h₀ : Heap) (hh : A.handled = none)
    (h : wpAny (model prog w) A (eval iter env) (ForAt prog w A h₀ env x body Q E) E s)
    (hs : ∀ x, foldedSetIterable iter env x = pure x := by intro _; rfl)
    (hE : PassesOwn (model prog w) A env E := by passes_own) :
    wpAny (model prog w) A (exec (.For (.Name x px) iter body [] pos) env) Q E s := by
  refine wpAny_For (wpAny_mono h (fun xv s₁ h₁ => ?_) fun _ _ e => e) hs
  obtain ⟨l, vs, n, m₀, news, J, rfl, F, N, hnl, hj, turn, done⟩ := h₁
  have hlo := (N _ (.head _)).1
  have hlL := (N _ (.head _)).2.1
  have hln := (N _ (.head _)).2.2
  refine wpAny_pyIter_list (isList_lst hlo) ?_
  have hne : l ≠ s₁.heap.objs.size := Nat.ne_of_lt (Heap.lt_size hlo)
  have hIn : h₀.get? s₁.heap.objs.size = none := next_is_new F
  have hIL : s₁.heap.objs.size ≠ env.locals := fun e => absurd F.ns.lt (e ▸ Nat.lt_irrefl _)
  have hnI : ∀ p ∈ news, p.1 ≠ s₁.heap.objs.size := fun p hp => Nat.ne_of_lt (Heap.lt_size (N p (.tail _ hp)).1)
  generalize hI : s₁.heap.objs.size = I at *
  refine codeAny_forLoop (R := fun r s' => match r with | .ok f => Q f s' | .error e => cameBackBy (model prog w) A env E e s')
    (fun k s' => ∃ h' tk m' news' i, s' = { s₁ with heap := h', toks := tk } ∧ h'.IsListIter I l i ∧ Fr h₀ env.locals h' m' ∧ News h₀ env.locals h' ((l, lst vs n) :: news') ∧ (∀ p ∈ news', p.1 ≠ I ∧ p.1 ≠ l) ∧ J i m' news' ∧ i ≤ vs.length ∧ k = vs.length + 1 - i) ?_ (vs.length + 1)
    ⟨_, s₁.toks, m₀, news, 0, rfl, ⟨_, by rw [← hI]; exact Heap.get?_push_size _ rfl, rfl, rfl⟩, F.push _, fun p hp => ⟨Heap.get?_push_of_some _ (N p hp).1, (N p hp).2⟩, fun p hp => ⟨hnI p hp, hnl p hp⟩, hj, Nat.zero_le _, rfl⟩
  rintro k s' ⟨h', tk, m', news', i, rfl, hit, F', N', hnw, hJ, hi, rfl⟩
  have hl' := (N' _ (.head _)).1
  by_cases hlt' : i < vs.length
  · refine wpAny_pyNext_list_item hit (isList_lst hl') (x := vs[i]) (by simp [hlt']) fun h₁ hit₁ hs₁ => ?_
    have old : ∀ b o, h₀.get? b = some o → b ≠ I := fun b o e hb => by rw [hb, hIn] at e; cases e
    have F₁ : Fr h₀ env.locals h₁ m' := ⟨F'.ns.at' fun o e => hs₁.extBut _ o (Ne.symm hIL) e, fun b o e => hs₁.extBut b o (old b o e) (F'.keep b o e), F'.above⟩
    obtain ⟨itO, hito, hitr⟩ := hit₁
    have N₃ : News h₀ env.locals h₁ ((I, itO) :: (l, lst vs n) :: news') := fun p hp => by
      rcases List.mem_cons.mp hp with rfl | hp
      · exact ⟨hito, hIL, hIn⟩
      · refine ⟨hs₁.extBut _ _ ?_ (N' p hp).1, (N' p hp).2⟩
        rcases List.mem_cons.mp hp with rfl | hp
        · exact hne
        · exact (hnw p hp).1
    refine wpAny_passesOwn hE (wpAny_assign_Name (wpAny_mono (turn i vs[i] m' news' h₁ tk I itO (by simp [hlt']) hJ (Ne.symm hne) hnw F₁ N₃) (fun _ s₂ h₂ => ?_) fun _ _ e => e))
    refine wpAny_passesOwn hE (wpAny_mono h₂ (fun f s₃ q => ?_) fun _ _ e => e)
    have fin : (∃ h' tk₂ m' news', s₃ = { ({ s₁ with heap := h₁, toks := tk } : Shared) with heap := h', toks := tk₂ } ∧ Fr h₀ env.locals h' m' ∧ News h₀ env.locals h' ([(I, itO), (l, lst vs n)] ++ news') ∧ (∀ p ∈ news', ∀ q ∈ [(I, itO), (l, lst vs n)], p.1 ≠ q.1) ∧ J (i + 1) m' news') →
        ∃ m, m < vs.length + 1 - i ∧ ∃ h' tk m' news' i, s₃ = { s₁ with heap := h', toks := tk } ∧ h'.IsListIter I l i ∧ Fr h₀ env.locals h' m' ∧ News h₀ env.locals h' ((l, lst vs n) :: news') ∧ (∀ p ∈ news', p.1 ≠ I ∧ p.1 ≠ l) ∧ J i m' news' ∧ i ≤ vs.length ∧ m = vs.length + 1 - i := by
      rintro ⟨h₃, tk₃, m₃, news₃, rfl, F₃, N₃', ho, hJ₃⟩
      exact ⟨vs.length + 1 - (i + 1), by omega, h₃, tk₃, m₃, news₃, i + 1, rfl, ⟨itO, (N₃' _ (.head _)).1, hitr⟩, F₃, fun p hp => N₃' p (.tail _ hp), fun p hp => ⟨ho p hp _ (.head _), ho p hp _ (.tail _ (.head _))⟩, hJ₃, hlt', rfl⟩
    cases f with
    | next => exact fin q
    | cont => exact fin q
    | brk => exact q
    | ret v => exact q
  · have hin : i = vs.length := by omega
    subst hin
    refine wpAny_pyNext_list_end hh hit (isList_lst hl') (by simp) fun h₁ hk₁ => wpAny_execs_nil ?_
    have old : ∀ b o, h₀.get? b = some o → b ≠ I := fun b o e hb => by rw [hb, hIn] at e; cases e
    exact done m' news' h₁ tk hJ ⟨F'.ns.at' fun o e => hk₁ _ o (Ne.symm hIL) e, fun b o e => hk₁ b o (old b o e) (F'.keep b o e), F'.above⟩ (fun p hp => ⟨hk₁ _ _ (hnw p hp).1 (N' p (.tail _ hp)).1, (N' p (.tail _ hp)).2⟩)
end
def evens {α : Type} : List α → List α
  | [] => []
  | [a] => [a]
  | a :: _ :: r => a :: evens r
theorem evens_map {α β : Type} (f : α → β) : ∀ l : List α, evens (l.map f) = (evens l).map f
  | [] => rfl
  | [_] => rfl
  | a :: _ :: r => by
    show f a :: evens (r.map f) = f a :: (evens r).map f
    rw [evens_map f r]
theorem evens_strs : ∀ {vs : List Value} {st : List Str}, StrsAre vs st → StrsAre (evens vs) (evens st)
  | _, _, .nil => .nil
  | _, _, .cons y t .nil => .cons y t .nil
  | _, _, .cons y t (.cons z u h) => .cons y t (evens_strs h)
theorem evens_le {α : Type} : ∀ l : List α, (evens l).length ≤ l.length
  | [] => Nat.le_refl _
  | [_] => Nat.le_refl _
  | _ :: _ :: r => by
    have := evens_le r
    show (evens r).length + 1 ≤ r.length + 2
    omega
theorem evens_mem {α : Type} : ∀ (l : List α) (t : α), t ∈ evens l → t ∈ l
  | [], _, h => h
  | [_], _, h => h
  | _ :: _ :: r, t, h => by
    rcases List.mem_cons.mp h with rfl | h
    · exact .head _
    · exact .tail _ (.tail _ (evens_mem r t h))
theorem pick_even : ∀ vs : List Value, vs.length ≤ 8 → (slicePick vs.toArray (some 0) none (some 2)).toList = evens vs := by
  intro vs h
  match vs, h with
  | [], _ =>
    unfold slicePick
    rw [show ∀ x : List Value, x.length = 0 → sliceRange (sliceBounds (some 0) none (some 2) x.toArray.size).1 (sliceBounds (some 0) none (some 2) x.toArray.size).2.1 (sliceBounds (some 0) none (some 2) x.toArray.size).2.2 = [] from fun x hx => by rw [List.size_toArray, hx]; decide +kernel]
    · rfl
    · rfl
  | [_], _ =>
    unfold slicePick
    rw [show ∀ x : List Value, x.length = 1 → sliceRange (sliceBounds (some 0) none (some 2) x.toArray.size).1 (sliceBounds (some 0) none (some 2) x.toArray.size).2.1 (sliceBounds (some 0) none (some 2) x.toArray.size).2.2 = [0] from fun x hx => by rw [List.size_toArray, hx]; decide +kernel]
    · rfl
    · rfl
  | [_, _], _ =>
    unfold slicePick
    rw [show ∀ x : List Value, x.length = 2 → sliceRange (sliceBounds (some 0) none (some 2) x.toArray.size).1 (sliceBounds (some 0) none (some 2) x.toArray.size).2.1 (sliceBounds (some 0) none (some 2) x.toArray.size).2.2 = [0] from fun x hx => by rw [List.size_toArray, hx]; decide +kernel]
    · rfl
    · rfl
  | [_, _, _], _ =>
    unfold slicePick
    rw [show ∀ x : List Value, x.length = 3 → sliceRange (sliceBounds (some 0) none (some 2) x.toArray.size).1 (sliceBounds (some 0) none (some 2) x.toArray.size).2.1 (sliceBounds (some 0) none (some 2) x.toArray.size).2.2 = [0, 2] from fun x hx => by rw [List.size_toArray, hx]; decide +kernel]
    · rfl
    · rfl
  | [_, _, _, _], _ =>
    unfold slicePick
    rw [show ∀ x : List Value, x.length = 4 → sliceRange (sliceBounds (some 0) none (some 2) x.toArray.size).1 (sliceBounds (some 0) none (some 2) x.toArray.size).2.1 (sliceBounds (some 0) none (some 2) x.toArray.size).2.2 = [0, 2] from fun x hx => by rw [List.size_toArray, hx]; decide +kernel]
    · rfl
    · rfl
  | [_, _, _, _, _], _ =>
    unfold slicePick
    rw [show ∀ x : List Value, x.length = 5 → sliceRange (sliceBounds (some 0) none (some 2) x.toArray.size).1 (sliceBounds (some 0) none (some 2) x.toArray.size).2.1 (sliceBounds (some 0) none (some 2) x.toArray.size).2.2 = [0, 2, 4] from fun x hx => by rw [List.size_toArray, hx]; decide +kernel]
    · rfl
    · rfl
  | [_, _, _, _, _, _], _ =>
    unfold slicePick
    rw [show ∀ x : List Value, x.length = 6 → sliceRange (sliceBounds (some 0) none (some 2) x.toArray.size).1 (sliceBounds (some 0) none (some 2) x.toArray.size).2.1 (sliceBounds (some 0) none (some 2) x.toArray.size).2.2 = [0, 2, 4] from fun x hx => by rw [List.size_toArray, hx]; decide +kernel]
    · rfl
    · rfl
  | [_, _, _, _, _, _, _], _ =>
    unfold slicePick
    rw [show ∀ x : List Value, x.length = 7 → sliceRange (sliceBounds (some 0) none (some 2) x.toArray.size).1 (sliceBounds (some 0) none (some 2) x.toArray.size).2.1 (sliceBounds (some 0) none (some 2) x.toArray.size).2.2 = [0, 2, 4, 6] from fun x hx => by rw [List.size_toArray, hx]; decide +kernel]
    · rfl
    · rfl
  | [_, _, _, _, _, _, _, _], _ =>
    unfold slicePick
    rw [show ∀ x : List Value, x.length = 8 → sliceRange (sliceBounds (some 0) none (some 2) x.toArray.size).1 (sliceBounds (some 0) none (some 2) x.toArray.size).2.1 (sliceBounds (some 0) none (some 2) x.toArray.size).2.2 = [0, 2, 4, 6] from fun x hx => by rw [List.size_toArray, hx]; decide +kernel]
    · rfl
    · rfl
  | _ :: _ :: _ :: _ :: _ :: _ :: _ :: _ :: _ :: r, h => exact absurd h (by simp)
theorem pick_odd : ∀ vs : List Value, vs.length ≤ 8 → (slicePick vs.toArray (some 1) none (some 2)).toList = evens (vs.drop 1) := by
  intro vs h
  match vs, h with
  | [], _ =>
    unfold slicePick
    rw [show ∀ x : List Value, x.length = 0 → sliceRange (sliceBounds (some 1) none (some 2) x.toArray.size).1 (sliceBounds (some 1) none (some 2) x.toArray.size).2.1 (sliceBounds (some 1) none (some 2) x.toArray.size).2.2 = [] from fun x hx => by rw [List.size_toArray, hx]; decide +kernel]
    · rfl
    · rfl
  | [_], _ =>
    unfold slicePick
    rw [show ∀ x : List Value, x.length = 1 → sliceRange (sliceBounds (some 1) none (some 2) x.toArray.size).1 (sliceBounds (some 1) none (some 2) x.toArray.size).2.1 (sliceBounds (some 1) none (some 2) x.toArray.size).2.2 = [] from fun x hx => by rw [List.size_toArray, hx]; decide +kernel]
    · rfl
    · rfl
  | [_, _], _ =>
    unfold slicePick
    rw [show ∀ x : List Value, x.length = 2 → sliceRange (sliceBounds (some 1) none (some 2) x.toArray.size).1 (sliceBounds (some 1) none (some 2) x.toArray.size).2.1 (sliceBounds (some 1) none (some 2) x.toArray.size).2.2 = [1] from fun x hx => by rw [List.size_toArray, hx]; decide +kernel]
    · rfl
    · rfl
  | [_, _, _], _ =>
    unfold slicePick
    rw [show ∀ x : List Value, x.length = 3 → sliceRange (sliceBounds (some 1) none (some 2) x.toArray.size).1 (sliceBounds (some 1) none (some 2) x.toArray.size).2.1 (sliceBounds (some 1) none (some 2) x.toArray.size).2.2 = [1] from fun x hx => by rw [List.size_toArray, hx]; decide +kernel]
    · rfl
    · rfl
  | [_, _, _, _], _ =>
    unfold slicePick
    rw [show ∀ x : List Value, x.length = 4 → sliceRange (sliceBounds (some 1) none (some 2) x.toArray.size).1 (sliceBounds (some 1) none (some 2) x.toArray.size).2.1 (sliceBounds (some 1) none (some 2) x.toArray.size).2.2 = [1, 3] from fun x hx => by rw [List.size_toArray, hx]; decide +kernel]
    · rfl
    · rfl
  | [_, _, _, _, _], _ =>
    unfold slicePick
    rw [show ∀ x : List Value, x.length = 5 → sliceRange (sliceBounds (some 1) none (some 2) x.toArray.size).1 (sliceBounds (some 1) none (some 2) x.toArray.size).2.1 (sliceBounds (some 1) none (some 2) x.toArray.size).2.2 = [1, 3] from fun x hx => by rw [List.size_toArray, hx]; decide +kernel]
    · rfl
    · rfl
  | [_, _, _, _, _, _], _ =>
    unfold slicePick
    rw [show ∀ x : List Value, x.length = 6 → sliceRange (sliceBounds (some 1) none (some 2) x.toArray.size).1 (sliceBounds (some 1) none (some 2) x.toArray.size).2.1 (sliceBounds (some 1) none (some 2) x.toArray.size).2.2 = [1, 3, 5] from fun x hx => by rw [List.size_toArray, hx]; decide +kernel]
    · rfl
    · rfl
  | [_, _, _, _, _, _, _], _ =>
    unfold slicePick
    rw [show ∀ x : List Value, x.length = 7 → sliceRange (sliceBounds (some 1) none (some 2) x.toArray.size).1 (sliceBounds (some 1) none (some 2) x.toArray.size).2.1 (sliceBounds (some 1) none (some 2) x.toArray.size).2.2 = [1, 3, 5] from fun x hx => by rw [List.size_toArray, hx]; decide +kernel]
    · rfl
    · rfl
  | [_, _, _, _, _, _, _, _], _ =>
    unfold slicePick
    rw [show ∀ x : List Value, x.length = 8 → sliceRange (sliceBounds (some 1) none (some 2) x.toArray.size).1 (sliceBounds (some 1) none (some 2) x.toArray.size).2.1 (sliceBounds (some 1) none (some 2) x.toArray.size).2.2 = [1, 3, 5, 7] from fun x hx => by rw [List.size_toArray, hx]; decide +kernel]
    · rfl
    · rfl
  | _ :: _ :: _ :: _ :: _ :: _ :: _ :: _ :: _ :: r, h => exact absurd h (by simp)
section
variable {prog : Program} {w : World} {A : Around} {E : Value → Shared → Prop} {s : Shared} {h₀ : Heap} {L l : Addr} {m : Str → Option Value} {news : List (Addr × Obj)} {vs : List Value} {n : Nat} {Q : Value → Shared → Prop} {value slice : PySem.Expr} {ta tb : Tok} {ops : List Value}
theorem even_S (F : Fr h₀ L s.heap m) (N : News h₀ L s.heap news) (hm : (l, W.listOf vs.toArray n) ∈ news) (hz : vs.length ≤ 8)
    (h : ∀ D h', Fr h₀ L h' m → News h₀ L h' ((D, W.listOf (evens vs).toArray 0) :: news) → (∀ p ∈ news, p.1 < D) → Q (.ref D) { s with heap := h' })
    (hs : subscripted slice false (.ref l) (.ref s.heap.objs.size) = operate ops (getItem (.ref l) (.ref s.heap.objs.size))) (ht : ∀ r, letTemporaryGo value (.ref l) r = pure ()) :
    wpAny (model prog w) A (subscriptTail value slice (.ref l) (.ref s.heap.objs.size)) Q E { s with heap := s.heap.push { cls := .type "slice", data := .fields #[.int 0 ta, .none, .int 2 tb] } } :=
  kmk_slice3_lit F N (News.isList N hm) (.int _ _) .none (.int _ _) (by decide) (pick_even vs hz) h hs ht (by rw [List.size_toArray, sizeLine_eq]; omega)
theorem odd_S (F : Fr h₀ L s.heap m) (N : News h₀ L s.heap news) (hm : (l, W.listOf vs.toArray n) ∈ news) (hz : vs.length ≤ 8)
    (h : ∀ D h', Fr h₀ L h' m → News h₀ L h' ((D, W.listOf (evens (vs.drop 1)).toArray 0) :: news) → (∀ p ∈ news, p.1 < D) → Q (.ref D) { s with heap := h' })
    (hs : subscripted slice false (.ref l) (.ref s.heap.objs.size) = operate ops (getItem (.ref l) (.ref s.heap.objs.size))) (ht : ∀ r, letTemporaryGo value (.ref l) r = pure ()) :
    wpAny (model prog w) A (subscriptTail value slice (.ref l) (.ref s.heap.objs.size)) Q E { s with heap := s.heap.push { cls := .type "slice", data := .fields #[.int 1 ta, .none, .int 2 tb] } } :=
  kmk_slice3_lit F N (News.isList N hm) (.int _ _) .none (.int _ _) (by decide) (pick_odd vs hz) h hs ht (by rw [List.size_toArray, sizeLine_eq]; omega)
end

local macro_rules | `(tactic| walk_at "subscriptTail Name Slice ref ref") => `(tactic| (k_here; (with_reducible show wpAny _ _ (subscriptTail _ (PySem.Expr.Slice (some _) none (some _) _) (Value.ref _) (Value.ref _)) _ _ _); k_dflt (first
  | (refine' even_S ?F ?N ?l ?z ?_ ?s ?t; (case F => k_asm); (case N => k_asm); (case l => k_mem); (case s => with_unfolding_all rfl); (case t => kmk_pure); (case z => omega))
  | (refine' odd_S ?F ?N ?l ?z ?_ ?s ?t; (case F => k_asm); (case N => k_asm); (case l => k_mem); (case s => with_unfolding_all rfl); (case t => kmk_pure); (case z => omega))); intro D' h' F' N' l1; (try k_lt l1)))

theorem zz_40 : True := by
  w_top off
  trivial
/-- the law's body and its names -/
def lawD : List Stmt × Scope := match PySem.Challenge.rw_il0206_01.row.prog.main.body.getLast? with
  | some (.FunctionDef _ _ b _ _ _ sc _ _ _) => (b, sc)
  | _ => ([], ⟨.function, [], false, false, []⟩)

theorem zz_41 : True := by
  w_top off
  trivial
theorem filter_take {α : Type} {l : List α} {j : Nat} {y : α} {p : α → Bool} (hy : l[j]? = some y) : (l.take (j + 1)).filter p = (l.take j).filter p ++ if p y = true then [y] else [] := by
  rw [List.take_add_one, hy, Option.toList_some, List.filter_append]
  by_cases h : p y = true
  · rw [if_pos h, List.filter_cons_of_pos h, List.filter_nil]
  · rw [if_neg h, List.filter_cons_of_neg h, List.filter_nil]
section
variable {w : World} {s : Shared} {mg mb : Str → Option Value} {mean : ExcName → Option Value} {h₀ : Heap} {L fa : Addr} {cd : Value} {Q : Flow → Shared → Prop}
theorem stage8 {d u : Nat} {gs : Option (List Code)} {outer : List Env} {base : Heap} {lb lh lg lc : Addr} {og oc : Obj} {vb vh vg vc : List Value} {nb nh ng nc : Nat} {sb sh sg sc : List Str} {rest : List (Addr × Obj)} {m : Str → Option Value} {v1 v2 v3 v4 v5 : Value}
    (T : Top vq (looseW vq [Str.ofString "_dedupe", Str.ofString "filterfalse"]) mean mg mb h₀) (KX : (hd.heap_1 w.params).In h₀) (K0 : Below ⟨none, d, some outer, gs, u⟩ base outer h₀) (hu : u ≤ 100) (hd6 : d < 500)
    (F : Fr h₀ L s.heap (fun y => if y = Str.ofString "behind" then some (.ref lh) else if y = Str.ofString "before" then some (.ref lb) else if y = Str.ofString "new" then some v1 else if y = Str.ofString "old" then some v2 else if y = Str.ofString "texts" then some v3 else if y = Str.ofString "script" then some v4 else m y))
    (N : News h₀ L s.heap ((L + 1 + 1 + 1 + 1, oc) :: (L + 1 + 1 + 1, og) :: (lg, lst vg ng) :: (lc, lst vc nc) :: (lb, lst vb nb) :: (lh, lst vh nh) :: rest))
    (dg : og.data = .cell (some (.ref lg))) (dc : oc.data = .cell (some (.ref lc)))
    (hsb : StrsAre vb sb) (hsh : StrsAre vh sh) (hsg : StrsAre vg sg) (hsc : StrsAre vc sc) (h1 : sb.length ≤ 100) (h2 : sh.length ≤ 100) (h3 : sg.length ≤ 100) (h4 : sc.length ≤ 100)
    (hQ : ∀ h' tk m', Fr h₀ L h' m' → Q (.ret (.bool (decide (sg.reverse = sb.filter fun z => decide (z ∈ sg)) && decide (sc = sh.filter fun z => decide (z ∈ sc))))) ⟨h', s.gens, s.drawn, tk, s.os⟩) :
    wpAny (model PySem.Challenge.rw_il0206_01.row.prog w) (Around.deeper ⟨none, d, some outer, gs, u⟩ (envOfC (Str.ofString "law") lawD.2 L fa cd)) (execs (lawD.1.drop 8) (envOfC (Str.ofString "law") lawD.2 L fa cd)) Q (fun _ _ => False) s := by
  obtain ⟨p, hp⟩ : ∃ p, p = lawD := ⟨_, rfl⟩
  rw [← hp]
  conv at hp => rhs; unfold lawD; whnf
  subst hp
  dsimp only [List.drop]
  change wpAny _ _ _ _ _ ⟨s.heap, s.gens, s.drawn, s.toks, s.os⟩
  have e1 := strsAre_len hsb
  have e2 := strsAre_len hsh
  have e3 := strsAre_len hsg
  have e4 := strsAre_len hsc
  (repeat' ((fail_if_success (with_reducible show wpAny _ _ (exec (Stmt.For _ _ _ _ _) _) _ _ _)); (fail_if_success (with_reducible show TurnEnd _ _ _ _ _ _ _ _)); (fail_if_success (with_reducible show wpAny _ _ (eval (Expr.ListComp _ _ _ _) _) _ _ _)); (fail_if_success (with_reducible show JSrcR _ _ _ _ _ _ _ _ _ _ _ _ _ _ _)); (fail_if_success (with_reducible show JSrc _ _ _ _ _ _ _ _ _ _ _ _ _ _ _)); (fail_if_success (with_reducible show JEnd _ _ _ _ _ _ _ _ _ _ _ _)); (fail_if_success (with_reducible show wpAny _ _ (compareOp _ (Value.ref _) (Value.ref _)) _ _ _)); (fail_if_success (with_reducible show Ends _ _ _)); first | (k_unfold; (try dsimp only)) | walk1 | (dsimp only; walk1)))
  (rename Fr h₀ L _ _ => F7); (rename News h₀ L _ _ => N7)
  refine comp_list1 F7 (by with_unfolding_all rfl) (by decide) (by rfl) (by decide) (by rfl) ?_
  (repeat' ((fail_if_success (with_reducible show wpAny _ _ (exec (Stmt.For _ _ _ _ _) _) _ _ _)); (fail_if_success (with_reducible show TurnEnd _ _ _ _ _ _ _ _)); (fail_if_success (with_reducible show wpAny _ _ (eval (Expr.ListComp _ _ _ _) _) _ _ _)); (fail_if_success (with_reducible show JSrcR _ _ _ _ _ _ _ _ _ _ _ _ _ _ _)); (fail_if_success (with_reducible show JSrc _ _ _ _ _ _ _ _ _ _ _ _ _ _ _)); (fail_if_success (with_reducible show JEnd _ _ _ _ _ _ _ _ _ _ _ _)); (fail_if_success (with_reducible show wpAny _ _ (compareOp _ (Value.ref _) (Value.ref _)) _ _ _)); (fail_if_success (with_reducible show Ends _ _ _)); first | (k_unfold; (try dsimp only)) | walk1 | (dsimp only; walk1)))
  refine ⟨lb, vb.toArray, _, fun i ys nw => nw = _ ∧ StrsAre ys ((sb.take i).filter fun z => decide (z ∈ sg)), rfl, rfl, F7, N7, fun i ys nw hj => ?_, by rw [List.size_toArray, sizeLine_eq]; omega, ⟨rfl, .nil⟩, ?_, ?_⟩
  · obtain ⟨rfl, _⟩ := hj
    exact .inr ⟨_, by k_mem, rfl, _, rfl⟩
  · rintro hh j v ys news I2 oI C oC D m₃ h3 tk3 E' hj hv2 ⟨rfl, hys⟩ hyl hoC hmx F8 N8 hoff3 hne
    obtain ⟨y, yt, rfl, hy⟩ := hsb.item j v (by simpa using hv2)
    dsimp only
    repeat' ((fail_if_success (with_reducible show wpAny _ _ (compareOp _ _ _) _ _ _)); first | (k_unfold; (try dsimp only)) | walk1 | (dsimp only; walk1))
    refine lst_in IsStr.func str_eqAt ⟨yt, rfl⟩ ⟨lg, vg, rfl, News.isList N8 (by k_mem), strs_all2 hsg⟩ decide_eq_true_iff ?_
    (repeat' ((fail_if_success (with_reducible show wpAny _ _ (exec (Stmt.For _ _ _ _ _) _) _ _ _)); (fail_if_success (with_reducible show TurnEnd _ _ _ _ _ _ _ _)); (fail_if_success (with_reducible show wpAny _ _ (eval (Expr.ListComp _ _ _ _) _) _ _ _)); (fail_if_success (with_reducible show JSrcR _ _ _ _ _ _ _ _ _ _ _ _ _ _ _)); (fail_if_success (with_reducible show JSrc _ _ _ _ _ _ _ _ _ _ _ _ _ _ _)); (fail_if_success (with_reducible show JEnd _ _ _ _ _ _ _ _ _ _ _ _)); (fail_if_success (with_reducible show wpAny _ _ (compareOp _ (Value.ref _) (Value.ref _)) _ _ _)); (fail_if_success (with_reducible show Ends _ _ _)); first | (k_unfold; (try dsimp only)) | walk1 | (dsimp only; walk1)))
    · refine ⟨_, _, _, rfl, F8, N8, hoff3, rfl, ?_⟩
      rw [filter_take hy, if_pos (by simpa using ‹y ∈ sg›)]
      exact hys.append' (.cons _ _ .nil)
    · refine ⟨_, _, _, rfl, F8, N8, hoff3, rfl, ?_⟩
      rw [filter_take hy, if_neg (by simpa using ‹¬ y ∈ sg›), List.append_nil]
      exact hys
  · rintro D h4 tk4 ys news' ⟨rfl, hys⟩ F5 N5 o1
    have htl : sb.take vb.toArray.size = sb := List.take_of_length_le (by simp; omega)
    rw [htl] at hys
    have hrev := strsAre_reverse hsg
    refine lst_eq (xs := sg.reverse) (ys := sb.filter fun z => decide (z ∈ sg)) str_eqAt (by show u + 3 < cLine; unfold cLine; omega) ⟨_, _, rfl, News.isList N5 (.tail _ (.head _)), strs_all2 hrev⟩ ⟨_, _, rfl, News.isList N5 (.head _), strs_all2 hys⟩ ?_
    (repeat' ((fail_if_success (with_reducible show wpAny _ _ (exec (Stmt.For _ _ _ _ _) _) _ _ _)); (fail_if_success (with_reducible show TurnEnd _ _ _ _ _ _ _ _)); (fail_if_success (with_reducible show wpAny _ _ (eval (Expr.ListComp _ _ _ _) _) _ _ _)); (fail_if_success (with_reducible show JSrcR _ _ _ _ _ _ _ _ _ _ _ _ _ _ _)); (fail_if_success (with_reducible show JSrc _ _ _ _ _ _ _ _ _ _ _ _ _ _ _)); (fail_if_success (with_reducible show JEnd _ _ _ _ _ _ _ _ _ _ _ _)); (fail_if_success (with_reducible show wpAny _ _ (compareOp _ (Value.ref _) (Value.ref _)) _ _ _)); (fail_if_success (with_reducible show Ends _ _ _)); first | (k_unfold; (try dsimp only)) | walk1 | (dsimp only; walk1)))
    · have hA : sg.reverse = sb.filter fun z => decide (z ∈ sg) := by assumption
      clear o1
      refine comp_list1 F5 (by with_unfolding_all rfl) (by decide) (by rfl) (by decide) (by rfl) ?_
      (repeat' ((fail_if_success (with_reducible show wpAny _ _ (exec (Stmt.For _ _ _ _ _) _) _ _ _)); (fail_if_success (with_reducible show TurnEnd _ _ _ _ _ _ _ _)); (fail_if_success (with_reducible show wpAny _ _ (eval (Expr.ListComp _ _ _ _) _) _ _ _)); (fail_if_success (with_reducible show JSrcR _ _ _ _ _ _ _ _ _ _ _ _ _ _ _)); (fail_if_success (with_reducible show JSrc _ _ _ _ _ _ _ _ _ _ _ _ _ _ _)); (fail_if_success (with_reducible show JEnd _ _ _ _ _ _ _ _ _ _ _ _)); (fail_if_success (with_reducible show wpAny _ _ (compareOp _ (Value.ref _) (Value.ref _)) _ _ _)); (fail_if_success (with_reducible show Ends _ _ _)); first | (k_unfold; (try dsimp only)) | walk1 | (dsimp only; walk1)))
      refine ⟨lh, vh.toArray, _, fun i ys nw => nw = _ ∧ StrsAre ys ((sh.take i).filter fun z => decide (z ∈ sc)), rfl, rfl, F5, N5, fun i ys nw hj => ?_, by rw [List.size_toArray, sizeLine_eq]; omega, ⟨rfl, .nil⟩, ?_, ?_⟩
      · obtain ⟨rfl, _⟩ := hj
        exact .inr ⟨_, by k_mem, rfl, _, rfl⟩
      · rintro hh j v ys2 news I2 oI C oC D2 m₃ h3 tk3 E' hj hv2 ⟨rfl, hys2⟩ hyl hoC hmx F8 N8 hoff3 hne
        obtain ⟨y, yt, rfl, hy⟩ := hsh.item j v (by simpa using hv2)
        dsimp only
        repeat' ((fail_if_success (with_reducible show wpAny _ _ (compareOp _ _ _) _ _ _)); first | (k_unfold; (try dsimp only)) | walk1 | (dsimp only; walk1))
        refine lst_in IsStr.func str_eqAt ⟨yt, rfl⟩ ⟨lc, vc, rfl, News.isList N8 (by k_mem), strs_all2 hsc⟩ decide_eq_true_iff ?_
        (repeat' ((fail_if_success (with_reducible show wpAny _ _ (exec (Stmt.For _ _ _ _ _) _) _ _ _)); (fail_if_success (with_reducible show TurnEnd _ _ _ _ _ _ _ _)); (fail_if_success (with_reducible show wpAny _ _ (eval (Expr.ListComp _ _ _ _) _) _ _ _)); (fail_if_success (with_reducible show JSrcR _ _ _ _ _ _ _ _ _ _ _ _ _ _ _)); (fail_if_success (with_reducible show JSrc _ _ _ _ _ _ _ _ _ _ _ _ _ _ _)); (fail_if_success (with_reducible show JEnd _ _ _ _ _ _ _ _ _ _ _ _)); (fail_if_success (with_reducible show wpAny _ _ (compareOp _ (Value.ref _) (Value.ref _)) _ _ _)); (fail_if_success (with_reducible show Ends _ _ _)); first | (k_unfold; (try dsimp only)) | walk1 | (dsimp only; walk1)))
        · refine ⟨_, _, _, rfl, F8, N8, hoff3, rfl, ?_⟩
          rw [filter_take hy, if_pos (by simpa using ‹y ∈ sc›)]
          exact hys2.append' (.cons _ _ .nil)
        · refine ⟨_, _, _, rfl, F8, N8, hoff3, rfl, ?_⟩
          rw [filter_take hy, if_neg (by simpa using ‹¬ y ∈ sc›), List.append_nil]
          exact hys2
      · rintro D2 h6 tk6 ys2 news' ⟨rfl, hys2⟩ F4 N4 o1
        have htl : sh.take vh.toArray.size = sh := List.take_of_length_le (by simp; omega)
        rw [htl] at hys2
        refine lst_eq (xs := sc) (ys := sh.filter fun z => decide (z ∈ sc)) str_eqAt (by show u + 3 < cLine; unfold cLine; omega) ⟨_, _, rfl, News.isList N4 (by k_mem), strs_all2 hsc⟩ ⟨_, _, rfl, News.isList N4 (.head _), strs_all2 hys2⟩ ?_
        have := hQ h6 tk6 _ F4
        rw [decide_eq_true hA, Bool.true_and] at this
        exact this
    · have hA : ¬ sg.reverse = sb.filter fun z => decide (z ∈ sg) := by assumption
      have hz := fun tk => hQ h4 tk _ F5
      rw [show ((decide (sg.reverse = sb.filter fun z => decide (z ∈ sg))) && decide (sc = sh.filter fun z => decide (z ∈ sc))) = decide (sg.reverse = sb.filter fun z => decide (z ∈ sg)) from by rw [decide_eq_false hA]; rfl] at hz
      exact hz _
end

theorem zz_42 : True := by
  w_top off
  trivial
theorem RowsAt.inHeap {h₀ h : Heap} {L : Addr} {m : Str → Option Value} {own news : List (Addr × Obj)} (F : Fr h₀ L h m) (N : News h₀ L h news) (sub : ∀ p ∈ own, p ∈ news) {vs : List Value} {rs : List (List Str)} (x : RowsAt h₀ own vs rs) : RowsAt h [] vs rs := by
  induction x with
  | nil => exact .nil
  | cons hr _ ih =>
    obtain ⟨a, ws, k, e, hw, hx⟩ := hr
    exact .cons ⟨a, ws, k, e, hw, .inl (hx.elim (F.keep _ _) fun q => (N _ (sub _ q)).1)⟩ ih
theorem sorted_unique : ∀ {a b : List (List Str)}, a.Perm b → a.Pairwise (fun x y => rowLt x y = true) → b.Pairwise (fun x y => rowLt x y = true) → a = b
  | [], b, h, _, _ => by rw [List.Perm.nil_eq h]
  | x :: xs, [], h, _, _ => by have := h.length_eq; simp at this
  | x :: xs, y :: ys, h, ha, hb => by
    have e : x = y := by
      have h1 : x ∈ y :: ys := h.mem_iff.mp (.head _)
      have h2 : y ∈ x :: xs := h.mem_iff.mpr (.head _)
      rcases List.mem_cons.mp h1 with e | h1
      · exact e
      rcases List.mem_cons.mp h2 with e | h2
      · exact e.symm
      · exact (rowLt_anti ((List.pairwise_cons.mp ha).1 _ h2) ((List.pairwise_cons.mp hb).1 _ h1)).elim
    subst e
    rw [sorted_unique (List.Perm.cons_inv h) (List.pairwise_cons.mp ha).2 (List.pairwise_cons.mp hb).2]
theorem news_app {h₀ h h' : Heap} {L : Addr} {m : Str → Option Value} {news own : List (Addr × Obj)} (F : Fr h₀ L h m) (N : News h₀ L h news)
    (k : ∀ b o, h.get? b = some o → h'.get? b = some o) (ho : ∀ p ∈ own, h.get? p.1 = none ∧ h'.get? p.1 = some p.2) : News h₀ L h' (own ++ news) := by
  intro p hp
  rcases List.mem_append.mp hp with hp | hp
  · refine ⟨(ho p hp).2, ?_, ?_⟩
    · intro e
      obtain ⟨oL, _, _, hL, _⟩ := F.ns
      rw [← e, (ho p hp).1] at hL; cases hL
    · cases q : h₀.get? p.1 with
      | none => rfl
      | some o' => have := (ho p hp).1; rw [F.keep _ _ q] at this; cases this
  · exact ⟨k _ _ (N p hp).1, (N p hp).2⟩
/-- rows of the heap as rows of the base and of a ledger -/
theorem RowsAt.lift {h₀ h : Heap} {L : Addr} {m : Str → Option Value} (F : Fr h₀ L h m) {vs : List Value} {rs : List (List Str)} (x : RowsAt h [] vs rs) : ∃ own, RowsAt h₀ own vs rs ∧ News h₀ L h own ∧ ∀ p ∈ own, ∃ ws k, p.2 = lst ws k := by
  induction x with
  | nil => exact ⟨[], .nil, News.nil, fun _ h => nomatch h⟩
  | cons hr _ ih =>
    obtain ⟨own, h1, h2, h3⟩ := ih
    obtain ⟨a, ws, k, e, hw, hx⟩ := hr
    have hx : h.get? a = some (lst ws k) := hx.elim id fun q => nomatch q
    cases q : h₀.get? a with
    | some o =>
      have := F.keep _ _ q
      rw [hx] at this
      exact ⟨own, .cons ⟨a, ws, k, e, hw, .inl (this ▸ q)⟩ h1, h2, h3⟩
    | none =>
      refine ⟨(a, lst ws k) :: own, .cons ⟨a, ws, k, e, hw, .inr (.head _)⟩ (h1.mono (fun _ _ e => e) fun p hp => .tail _ hp), fun p hp => ?_, List.forall_mem_cons.mpr ⟨⟨ws, k, rfl⟩, h3⟩⟩
      rcases List.mem_cons.mp hp with rfl | hp
      · refine ⟨hx, ?_, q⟩
        intro e
        obtain ⟨oL, _, _, hL, hd, _⟩ := F.ns
        rw [← e, hx] at hL
        cases hL; cases hd
      · exact h2 p hp
theorem RowsAt.inH2 {h₁ h : Heap} {own : List (Addr × Obj)} (k : ∀ b o, h₁.get? b = some o → h.get? b = some o) (ho : ∀ p ∈ own, h.get? p.1 = some p.2) {vs : List Value} {rs : List (List Str)} (x : RowsAt h₁ own vs rs) : RowsAt h [] vs rs := by
  induction x with
  | nil => exact .nil
  | cons hr _ ih =>
    obtain ⟨a, ws, n, e, hw, hx⟩ := hr
    exact .cons ⟨a, ws, n, e, hw, .inl (hx.elim (k _ _) fun q => ho _ q)⟩ ih
section
variable {w : World} {s : Shared} {mg mb : Str → Option Value} {mean : ExcName → Option Value} {h₀ : Heap} {L fa : Addr} {cd : Value} {Q : Flow → Shared → Prop}
theorem stage7 {d u : Nat} {gs : Option (List Code)} {outer : List Env} {base : Heap} {lb lh lg lc lo ln : Addr} {og oc : Obj} {vb vh vg vc vo vn : List Value} {nb nh ng nc no nn : Nat} {sb sh sg sc : List Str} {ro rn : List (List Str)} {own : List (Addr × Obj)} {m : Str → Option Value} {v3 v4 : Value}
    (T : Top vq (looseW vq [Str.ofString "_dedupe", Str.ofString "filterfalse"]) mean mg mb h₀) (KX : (hd.heap_1 w.params).In h₀) (K0 : Below ⟨none, d, some outer, gs, u⟩ base outer h₀) (hu : u ≤ 100) (hd6 : d < 500)
    (F : Fr h₀ L s.heap (fun y => if y = Str.ofString "behind" then some (.ref lh) else if y = Str.ofString "before" then some (.ref lb) else if y = Str.ofString "new" then some (.ref ln) else if y = Str.ofString "old" then some (.ref lo) else if y = Str.ofString "texts" then some v3 else if y = Str.ofString "script" then some v4 else m y))
    (N : News h₀ L s.heap ((L + 1 + 1 + 1 + 1, oc) :: (L + 1 + 1 + 1, og) :: (lg, lst vg ng) :: (lc, lst vc nc) :: (lb, lst vb nb) :: (lh, lst vh nh) :: (lo, lst vo no) :: (ln, lst vn nn) :: own))
    (dg : og.data = .cell (some (.ref lg))) (dc : oc.data = .cell (some (.ref lc)))
    (hsb : StrsAre vb sb) (hsh : StrsAre vh sh) (hsg : StrsAre vg sg) (hsc : StrsAre vc sc) (h1 : sb.length ≤ 60) (h2 : sh.length ≤ 60) (h3 : sg.length ≤ 60) (h4 : sc.length ≤ 60)
    (hro : RowsAt h₀ own vo ro) (hrn : RowsAt h₀ own vn rn)
    (hA : sg.filter (fun z => decide (z ∈ sc)) = [])
    (hn1 : ro.length ≤ 60) (hsp : ∀ p, p ∈ sg ∨ p ∈ sc → p.length ≤ 900 ∧ (Txt.split p (Str.ofString "/")).length ≤ 100)
    (hg : ∀ (i : Nat) (p : Str), sg[i]? = some p → ((sg.take i).foldl stepGone ro).filter (fun o => decide (o.take (rowP p).length = rowP p)) = [rowP p] ∧ ∀ r ∈ (sg.take i).foldl stepGone ro, r.length ≤ 100)
    (hc : ∀ (i : Nat) (p : Str), sc[i]? = some p → (rowP p).dropLast = [] ∨ (rowP p).dropLast ∈ (sc.take i).foldl stepCome (sg.foldl stepGone ro))
    (hfin : (sc.foldl stepCome (sg.foldl stepGone ro)).Perm rn) (hnd : rn.Nodup) (hl2 : 2 ≤ rn.length) (hl64 : rn.length < 60)
    (hE1 : sg.reverse = sb.filter fun z => decide (z ∈ sg)) (hE2 : sc = sh.filter fun z => decide (z ∈ sc))
    (hQ : ∀ h' tk m', Fr h₀ L h' m' → Q (.ret (.bool true)) ⟨h', s.gens, s.drawn, tk, s.os⟩) :
    wpAny (model PySem.Challenge.rw_il0206_01.row.prog w) (Around.deeper ⟨none, d, some outer, gs, u⟩ (envOfC (Str.ofString "law") lawD.2 L fa cd)) (execs (lawD.1.drop 7) (envOfC (Str.ofString "law") lawD.2 L fa cd)) Q (fun _ _ => False) s := by
  have KB := fun rest s Fx Nx hQx => stage8 (w := w) (s := s) (L := L) (lb := lb) (lh := lh) (nb := nb) (nh := nh) (ng := ng) (nc := nc) (fa := fa) (cd := cd) (Q := Q) (rest := rest) (v1 := .ref ln) (v2 := .ref lo) (v3 := v3) (v4 := v4) (v5 := v4) (m := m) T KX K0 hu hd6 Fx Nx dg dc hsb hsh hsg hsc (by omega) (by omega) (by omega) (by omega) hQx
  obtain ⟨p, hp⟩ : ∃ p, p = lawD := ⟨_, rfl⟩
  rw [← hp] at KB ⊢
  conv at hp => rhs; unfold lawD; whnf
  subst hp
  dsimp only [List.drop] at KB ⊢
  change wpAny _ _ _ _ _ ⟨s.heap, s.gens, s.drawn, s.toks, s.os⟩
  have e1 := strsAre_len hsb
  have e2 := strsAre_len hsh
  have e3 := strsAre_len hsg
  have e4 := strsAre_len hsc
  (repeat' ((fail_if_success (with_reducible show wpAny _ _ (exec (Stmt.For _ _ _ _ _) _) _ _ _)); (fail_if_success (with_reducible show TurnEnd _ _ _ _ _ _ _ _)); (fail_if_success (with_reducible show wpAny _ _ (eval (Expr.ListComp _ _ _ _) _) _ _ _)); (fail_if_success (with_reducible show JSrcR _ _ _ _ _ _ _ _ _ _ _ _ _ _ _)); (fail_if_success (with_reducible show JSrc _ _ _ _ _ _ _ _ _ _ _ _ _ _ _)); (fail_if_success (with_reducible show JEnd _ _ _ _ _ _ _ _ _ _ _ _)); (fail_if_success (with_reducible show wpAny _ _ (compareOp _ (Value.ref _) (Value.ref _)) _ _ _)); (fail_if_success (with_reducible show Ends _ _ _)); first | (k_unfold; (try dsimp only)) | walk1 | (dsimp only; walk1)))
  refine comp_list1 F (by with_unfolding_all rfl) (by decide) (by rfl) (by decide) (by rfl) ?_
  (repeat' ((fail_if_success (with_reducible show wpAny _ _ (exec (Stmt.For _ _ _ _ _) _) _ _ _)); (fail_if_success (with_reducible show TurnEnd _ _ _ _ _ _ _ _)); (fail_if_success (with_reducible show wpAny _ _ (eval (Expr.ListComp _ _ _ _) _) _ _ _)); (fail_if_success (with_reducible show JSrcR _ _ _ _ _ _ _ _ _ _ _ _ _ _ _)); (fail_if_success (with_reducible show JSrc _ _ _ _ _ _ _ _ _ _ _ _ _ _ _)); (fail_if_success (with_reducible show JEnd _ _ _ _ _ _ _ _ _ _ _ _)); (fail_if_success (with_reducible show wpAny _ _ (compareOp _ (Value.ref _) (Value.ref _)) _ _ _)); (fail_if_success (with_reducible show Ends _ _ _)); first | (k_unfold; (try dsimp only)) | walk1 | (dsimp only; walk1)))
  refine ⟨lg, vg.toArray, _, fun i ys nw => nw = _ ∧ StrsAre ys ((sg.take i).filter fun z => decide (z ∈ sc)), rfl, rfl, F, N, fun i ys nw hj => ?_, by rw [List.size_toArray, sizeLine_eq]; omega, ⟨rfl, .nil⟩, ?_, ?_⟩
  · obtain ⟨rfl, _⟩ := hj
    exact .inr ⟨_, by k_mem, rfl, _, rfl⟩
  · rintro hh j v ys news I2 oI C oC D m₃ h3 tk3 E' hj hv2 ⟨rfl, hys⟩ hyl hoC hmx F8 N8 hoff3 hne
    obtain ⟨y, yt, rfl, hy⟩ := hsg.item j v (by simpa using hv2)
    dsimp only
    repeat' ((fail_if_success (with_reducible show wpAny _ _ (compareOp _ _ _) _ _ _)); first | (k_unfold; (try dsimp only)) | walk1 | (dsimp only; walk1))
    refine lst_in IsStr.func str_eqAt ⟨yt, rfl⟩ ⟨lc, vc, rfl, News.isList N8 (by k_mem), strs_all2 hsc⟩ decide_eq_true_iff ?_
    (repeat' ((fail_if_success (with_reducible show wpAny _ _ (exec (Stmt.For _ _ _ _ _) _) _ _ _)); (fail_if_success (with_reducible show TurnEnd _ _ _ _ _ _ _ _)); (fail_if_success (with_reducible show wpAny _ _ (eval (Expr.ListComp _ _ _ _) _) _ _ _)); (fail_if_success (with_reducible show JSrcR _ _ _ _ _ _ _ _ _ _ _ _ _ _ _)); (fail_if_success (with_reducible show JSrc _ _ _ _ _ _ _ _ _ _ _ _ _ _ _)); (fail_if_success (with_reducible show JEnd _ _ _ _ _ _ _ _ _ _ _ _)); (fail_if_success (with_reducible show wpAny _ _ (compareOp _ (Value.ref _) (Value.ref _)) _ _ _)); (fail_if_success (with_reducible show Ends _ _ _)); first | (k_unfold; (try dsimp only)) | walk1 | (dsimp only; walk1)))
    · refine ⟨_, _, _, rfl, F8, N8, hoff3, rfl, ?_⟩
      rw [filter_take hy, if_pos (by simpa using ‹y ∈ sc›)]
      exact hys.append' (.cons _ _ .nil)
    · refine ⟨_, _, _, rfl, F8, N8, hoff3, rfl, ?_⟩
      rw [filter_take hy, if_neg (by simpa using ‹¬ y ∈ sc›), List.append_nil]
      exact hys
  · rintro D h4 tk4 ys news' ⟨rfl, hys⟩ F5 N5 o1
    have htl : sg.take vg.toArray.size = sg := List.take_of_length_le (by simp; omega)
    rw [htl, hA] at hys
    (repeat' ((fail_if_success (with_reducible show wpAny _ _ (exec (Stmt.For _ _ _ _ _) _) _ _ _)); (fail_if_success (with_reducible show TurnEnd _ _ _ _ _ _ _ _)); (fail_if_success (with_reducible show wpAny _ _ (eval (Expr.ListComp _ _ _ _) _) _ _ _)); (fail_if_success (with_reducible show JSrcR _ _ _ _ _ _ _ _ _ _ _ _ _ _ _)); (fail_if_success (with_reducible show JSrc _ _ _ _ _ _ _ _ _ _ _ _ _ _ _)); (fail_if_success (with_reducible show JEnd _ _ _ _ _ _ _ _ _ _ _ _)); (fail_if_success (with_reducible show wpAny _ _ (compareOp _ (Value.ref _) (Value.ref _)) _ _ _)); (fail_if_success (with_reducible show Ends _ _ _)); first | (k_unfold; (try dsimp only)) | walk1 | (dsimp only; walk1)))
    (rename Fr h₀ L _ _ => F6); (rename News h₀ L _ _ => N6)
    refine lst_ne (xs := ([] : List Str)) (ys := []) str_eqAt (by show u + 3 < cLine; unfold cLine; omega) ⟨_, _, rfl, News.isList N6 (.tail _ (.head _)), strs_all2 hys⟩ ⟨_, _, rfl, News.isList N6 (.head _), .nil⟩ ?_
    rw [decide_eq_true rfl]
    dsimp only [Bool.not_true]
    repeat' ((fail_if_success (with_reducible show wpAny _ _ (call (Value.ref _) _) _ _ _)); (fail_if_success (with_reducible show wpAny _ _ (compareOp _ (Value.ref _) (Value.ref _)) _ _ _)); first | (k_unfold; (try dsimp only)) | walk1 | (dsimp only; walk1))
    refine wpAny_call (done_spec (wd_call T KX K0 F6 rfl rfl) (by (try dsimp only); omega) (by show u + 3 ≤ 1000; omega) (N6 _ (by k_mem : (lo, lst vo no) ∈ _)).1 (hro.inHeap F6 N6 (by (first | exact List.forall_mem_nil _ | (intro p hp; repeat (first | exact hp | refine List.Mem.tail _ ?_))))) (N6 _ (by k_mem : (lg, lst vg ng) ∈ _)).1 hsg (N6 _ (by k_mem : (lc, lst vc nc) ∈ _)).1 hsc (by omega) (by omega) (by omega) hsp hg hc
      (hfin.nodup_iff.mpr hnd) (by rw [hfin.length_eq]; exact hl2) (by rw [hfin.length_eq]; omega) fun h7 tk7 l7 vs7 n7 own7 rs7 hk7 hl7n hl7 hown7 hrs7 hp7 hpw7 => ?_)
    have F7 := F6.kept hk7
    obtain ⟨own8, hrs8, N8, _⟩ := RowsAt.lift F7 (hrs7.inH2 hk7 fun p hp => (hown7 p hp).2.2)
    have N7 := news_more F6 N6 hk7 hl7n hl7
    have N9 : News h₀ L h7 ((l7, lst vs7 n7) :: (L + 1 + 1 + 1 + 1, oc) :: (L + 1 + 1 + 1, og) :: (lg, lst vg ng) :: (lc, lst vc nc) :: (lb, lst vb nb) :: (lh, lst vh nh) :: (lo, lst vo no) :: (ln, lst vn nn) :: (own8 ++ own)) := fun p hp => by
      rcases List.mem_cons.mp hp with rfl | hp
      · exact N7 _ (.head _)
      iterate 8
        rcases List.mem_cons.mp hp with rfl | hp
        · exact N7 _ (by k_mem)
      rcases List.mem_append.mp hp with hp | hp
      · exact N8 p hp
      · exact N7 p ((by (first | exact List.forall_mem_nil _ | (intro p hp; repeat (first | exact hp | refine List.Mem.tail _ ?_))) : ∀ p ∈ own, p ∈ _) p hp)
    replace hrs8 := hrs8.mono (own' := own8 ++ own) (fun _ _ e => e) fun p hp => List.mem_append_left _ hp
    replace hrn := hrn.mono (own' := own8 ++ own) (fun _ _ e => e) fun p hp => List.mem_append_right _ hp
    clear N7 N8 hown7 hrs7 hl7n hl7 hk7 F6 N6 o1 hg hc hsp hro
    generalize own8 ++ own = own9 at N9 hrs8 hrn
    repeat' ((fail_if_success (with_reducible show wpAny _ _ (call (Value.builtin "sorted") _) _ _ _)); (fail_if_success (with_reducible show wpAny _ _ (compareOp _ (Value.ref _) (Value.ref _)) _ _ _)); first | (k_unfold; (try dsimp only)) | walk1 | (dsimp only; walk1))
    refine sorted_R F7 N9 (vs := vn) (n := nn) (by k_mem) hrn (by (first | exact List.forall_mem_nil _ | (intro p hp; repeat (first | exact hp | refine List.Mem.tail _ ?_)))) hnd hl2 (by omega) (by show u + 3 < 8000; omega) fun D2 h8 tk8 vs8 rs8 k8 F8 N8 hlt8 hr8 hp8 hpw8 => ?_
    have hEq : rs7 = rs8 := sorted_unique (hp7.trans (hfin.trans hp8.symm)) hpw7 hpw8
    subst hEq
    clear F7 N9
    repeat' ((fail_if_success (with_reducible show wpAny _ _ (compareOp _ (Value.ref _) (Value.ref _)) _ _ _)); first | (k_unfold; (try dsimp only)) | walk1 | (dsimp only; walk1))
    refine lst_ne (xs := rs7) (ys := rs7) (row_eqAt (by show u + 3 < 9000; omega)) (by show u + 3 < cLine; unfold cLine; omega) ⟨_, _, rfl, News.isList N8 (.tail _ (.head _)), hrs8.all2 F8 N8 (by (first | exact List.forall_mem_nil _ | (intro p hp; repeat (first | exact hp | refine List.Mem.tail _ ?_))))⟩ ⟨_, _, rfl, News.isList N8 (.head _), hr8.all2 F8 N8 (by (first | exact List.forall_mem_nil _ | (intro p hp; repeat (first | exact hp | refine List.Mem.tail _ ?_))))⟩ ?_
    rw [decide_eq_true rfl]
    dsimp only [Bool.not_true]
    repeat' ((fail_if_success (with_reducible show wpAny _ _ (execs [Stmt.Return _ _] _) Q _ _)); first | (k_unfold; (try dsimp only)) | walk1 | (dsimp only; walk1))
    (rename Fr h₀ L _ _ => F3); (rename News h₀ L _ _ => N3)
    refine KB ((lo, lst vo no) :: (ln, lst vn nn) :: own9) _ F3 (fun p hp => N3 p (.tail _ (.tail _ hp))) fun h' tk m' F' => ?_
    rw [decide_eq_true hE1, decide_eq_true hE2]
    exact hQ h' tk m' F'
end

theorem zz_43 : True := by
  w_top off
  trivial
theorem ne_of_cls {h : Heap} {a b : Addr} {o o' : Obj} (ha : h.get? a = some o) (hb : h.get? b = some o') (hc : o.cls ≠ o'.cls) : a ≠ b := fun e => by
  subst e
  rw [ha] at hb
  cases hb
  exact hc rfl
theorem diff_pack {w : World} {h₀ h h' : Heap} {L : Addr} {m : Str → Option Value} {x dx B S I lm : Addr} {oS : Obj} {vm : List Value} {nm c : Nat} {ss : List Str} (F : Fr h₀ L h m) (hlm : h.get? lm = some (lst vm nm)) (k : ∀ b o, h.get? b = some o → h'.get? b = some o)
    (hall : ∀ p ∈ [(I, liO lm 0), (x, ({ cls := .ref 83, dict := some dx, data := .plain, slots := #[some (.ref B), some (.ref I)] } : Obj)), (dx, dictOf [] 0), (B, bnd "set.__contains__" (.ref S)), (S, oS)], h'.get? p.1 = some p.2 ∧ h.get? p.1 = none)
    (hso : oS.SetObjOf (PySem.strKind PySem.Challenge.rw_il0206_01.row.prog w) (fun k' => decide (k' ∈ ss)) c) (hc : c ≤ 4000) :
    FFA h₀ x dx B S I lm L ∧ FF w h₀ L m x dx B S I lm oS vm nm 0 h' := by
  have hI := hall _ (.head _)
  have hx := hall _ (.tail _ (.head _))
  have hdx := hall _ (.tail _ (.tail _ (.head _)))
  have hB := hall _ (.tail _ (.tail _ (.tail _ (.head _))))
  have hS := hall _ (.tail _ (.tail _ (.tail _ (.tail _ (.head _)))))
  dsimp only at hI hx hdx hB hS
  have hScls : oS.cls = .type "set" := by
    obtain ⟨o', _, _, _, ho', hcl, _⟩ := hso.setOf hS.1 (by unfold scanBound; omega)
    rw [hS.1] at ho'
    cases ho'
    exact hcl.1
  have fr : ∀ b ∈ [I, x, dx], h.get? b = none := fun b hb => by
    simp only [List.mem_cons, List.not_mem_nil, or_false] at hb
    rcases hb with rfl | rfl | rfl
    · exact hI.2
    · exact hx.2
    · exact hdx.2
  have old : ∀ b o, h.get? b = some o → b ∉ [I, x, dx] := fun b o e hb => by rw [fr b hb] at e; cases e
  have three : ∀ (b : Addr) (o : Obj), h'.get? b = some o → o.cls ≠ .type "list_iterator" → o.cls ≠ .ref 83 → o.cls ≠ .type "dict" → b ∉ [I, x, dx] := fun b o e h1 h2 h3 hb => by
    simp only [List.mem_cons, List.not_mem_nil, or_false] at hb
    rcases hb with rfl | rfl | rfl
    · exact ne_of_cls e hI.1 h1 rfl
    · exact ne_of_cls e hx.1 h2 rfl
    · exact ne_of_cls e hdx.1 h3 rfl
  refine ⟨⟨ne_of_cls hx.1 hI.1 (show Value.ref 83 ≠ Value.type "list_iterator" by decide), ne_of_cls hdx.1 hI.1 (show Value.type "dict" ≠ Value.type "list_iterator" by decide), ne_of_cls hdx.1 hx.1 (show Value.type "dict" ≠ Value.ref 83 by decide), old _ _ hlm,
    three _ _ hB.1 (show Value.type "builtin_function_or_method" ≠ Value.type "list_iterator" by decide) (show Value.type "builtin_function_or_method" ≠ Value.ref 83 by decide) (show Value.type "builtin_function_or_method" ≠ Value.type "dict" by decide), three _ _ hS.1 (by rw [hScls]; decide) (by rw [hScls]; decide) (by rw [hScls]; decide), ?_, fun b hb => ?_⟩,
    ⟨F.kept k, hx.1, hdx.1, k _ _ hlm, hB.1, hS.1, hI.1⟩⟩
  · obtain ⟨oL, _, _, hL, _⟩ := F.ns
    exact old _ _ hL
  · cases e : h₀.get? b with
    | none => rfl
    | some o => have := F.keep _ _ e; rw [fr b hb] at this; cases this
theorem ne_cell {h₀ h : Heap} {L : Addr} {news : List (Addr × Obj)} {a b : Addr} {o : Obj} {v : Option Value} {vs : List Value} {n : Nat} (N : News h₀ L h news) (m1 : (a, o) ∈ news) (m2 : (b, lst vs n) ∈ news) (d : o.data = .cell v) : @Ne Nat b a := fun e => by
  have e' : b = a := e
  subst e'
  have h1 := (N _ m1).1
  have h2 := (N _ m2).1
  dsimp only at h1 h2
  rw [h1] at h2
  cases h2
  cases d
theorem own_off {h₀ h : Heap} {L : Addr} {news own : List (Addr × Obj)} {bs : List Addr} (N : News h₀ L h news) (sub : ∀ p ∈ own, p ∈ news) (hl : ∀ p ∈ own, ∃ ws k, p.2 = lst ws k) (hb : ∀ b ∈ bs, ∃ o v, (b, o) ∈ news ∧ o.data = .cell v) : OwnOff own bs := fun p hp b hbb => by
  obtain ⟨o, v, h1, h2⟩ := hb b hbb
  obtain ⟨ws, k, e⟩ := hl p hp
  have h3 := sub p hp
  obtain ⟨a, po⟩ := p
  dsimp only at e
  subst e
  exact ne_cell N h1 h3 h2
section
variable {w : World} {s : Shared} {mg mb : Str → Option Value} {mean : ExcName → Option Value} {h₀ : Heap} {L fa : Addr} {cd : Value} {Q : Flow → Shared → Prop}
theorem stage6 {d u : Nat} {gs : Option (List Code)} {base : Heap} {lb lh lo ln : Addr} {og oc : Obj} {vb vh vo vn : List Value} {nb nh no nn : Nat} {sb sh : List Str} {ro rn : List (List Str)} {own : List (Addr × Obj)} {m : Str → Option Value} {v3 v4 : Value} {v5 v6 : Option Value}
    (T : Top vq (looseW vq [Str.ofString "_dedupe", Str.ofString "filterfalse"]) mean mg mb h₀) (KX : (hd.heap_1 w.params).In h₀) (K0 : Below ⟨none, d, some [], gs, u⟩ base [] h₀) (hu : u ≤ 100) (hd6 : d < 500)
    (F : Fr h₀ L s.heap (fun y => if y = Str.ofString "behind" then some (.ref lh) else if y = Str.ofString "before" then some (.ref lb) else if y = Str.ofString "new" then some (.ref ln) else if y = Str.ofString "old" then some (.ref lo) else if y = Str.ofString "texts" then some v3 else if y = Str.ofString "script" then some v4 else m y))
    (N : News h₀ L s.heap ((L + 1 + 1 + 1 + 1, oc) :: (L + 1 + 1 + 1, og) :: (lb, lst vb nb) :: (lh, lst vh nh) :: (lo, lst vo no) :: (ln, lst vn nn) :: own)) (hOwn : ∀ p ∈ own, ∃ ws k, p.2 = lst ws k)
    (dg : og.data = .cell v5) (dc : oc.data = .cell v6)
    (hsb : StrsAre vb sb) (hsh : StrsAre vh sh) (h1 : sb.length ≤ 60) (h2 : sh.length ≤ 60)
    (hro : RowsAt h₀ own vo ro) (hrn : RowsAt h₀ own vn rn) {sg sc : List Str} (esg : (sb.filter fun z => !decide (z ∈ sh)).reverse = sg) (esc : (sh.filter fun z => !decide (z ∈ sb)) = sc)
    (hA : sg.filter (fun z => decide (z ∈ sc)) = [])
    (hn1 : ro.length ≤ 60) (hsp : ∀ p, p ∈ sg ∨ p ∈ sc → p.length ≤ 900 ∧ (Txt.split p (Str.ofString "/")).length ≤ 100)
    (hg : ∀ (i : Nat) (p : Str), sg[i]? = some p → ((sg.take i).foldl stepGone ro).filter (fun o => decide (o.take (rowP p).length = rowP p)) = [rowP p] ∧ ∀ r ∈ (sg.take i).foldl stepGone ro, r.length ≤ 100)
    (hc : ∀ (i : Nat) (p : Str), sc[i]? = some p → (rowP p).dropLast = [] ∨ (rowP p).dropLast ∈ (sc.take i).foldl stepCome (sg.foldl stepGone ro))
    (hfin : (sc.foldl stepCome (sg.foldl stepGone ro)).Perm rn) (hnd : rn.Nodup) (hl2 : 2 ≤ rn.length) (hl64 : rn.length < 60)
    (hE1 : sg.reverse = sb.filter fun z => decide (z ∈ sg)) (hE2 : sc = sh.filter fun z => decide (z ∈ sc))
    (hQ : ∀ h' tk m', Fr h₀ L h' m' → Q (.ret (.bool true)) ⟨h', s.gens, s.drawn, tk, s.os⟩) :
    wpAny (model PySem.Challenge.rw_il0206_01.row.prog w) (Around.deeper ⟨none, d, some [], gs, u⟩ (envOfC (Str.ofString "law") lawD.2 L fa cd)) (execs (lawD.1.drop 6) (envOfC (Str.ofString "law") lawD.2 L fa cd)) Q (fun _ _ => False) s := by
  have hN1 := ne_cell N (by k_mem : (L + 1 + 1 + 1, og) ∈ _) (by k_mem : (lb, lst vb nb) ∈ _) dg
  have hN2 := ne_cell N (by k_mem : (L + 1 + 1 + 1, og) ∈ _) (by k_mem : (lh, lst vh nh) ∈ _) dg
  have hN3 := ne_cell N (by k_mem : (L + 1 + 1 + 1, og) ∈ _) (by k_mem : (lo, lst vo no) ∈ _) dg
  have hN4 := ne_cell N (by k_mem : (L + 1 + 1 + 1, og) ∈ _) (by k_mem : (ln, lst vn nn) ∈ _) dg
  have hN5 := ne_cell N (by k_mem : (L + 1 + 1 + 1 + 1, oc) ∈ _) (by k_mem : (lb, lst vb nb) ∈ _) dc
  have hN6 := ne_cell N (by k_mem : (L + 1 + 1 + 1 + 1, oc) ∈ _) (by k_mem : (lh, lst vh nh) ∈ _) dc
  have hN7 := ne_cell N (by k_mem : (L + 1 + 1 + 1 + 1, oc) ∈ _) (by k_mem : (lo, lst vo no) ∈ _) dc
  have hN8 := ne_cell N (by k_mem : (L + 1 + 1 + 1 + 1, oc) ∈ _) (by k_mem : (ln, lst vn nn) ∈ _) dc
  have hOff : OwnOff own [L + 1 + 1 + 1, L + 1 + 1 + 1 + 1] := own_off N (by (first | exact List.forall_mem_nil _ | (intro p hp; repeat (first | exact hp | refine List.Mem.tail _ ?_)))) hOwn fun b hb => by
    rcases List.mem_cons.mp hb with rfl | hb
    · exact ⟨og, _, by k_mem, dg⟩
    · rw [List.mem_singleton.mp hb]; exact ⟨oc, _, by k_mem, dc⟩
  have hW : ∀ h u' m', Fr h₀ L h m' → Wd w mg mb mean base [envOfC (Str.ofString "law") lawD.2 L fa cd] ⟨none, d + 1, some [envOfC (Str.ofString "law") lawD.2 L fa cd], gs, u'⟩ h := fun h u' m' Fx =>
    ⟨T.keeps Fx.keep, KX.keeps Fx.keep, ⟨rfl, (pushX (env := envOfC (Str.ofString "law") lawD.2 L fa cd) K0 Fx rfl rfl).stays, (pushX (env := envOfC (Str.ofString "law") lawD.2 L fa cd) K0 Fx rfl rfl).frames⟩⟩
  have hfl1 := List.length_filter_le (fun z => !decide (z ∈ sh)) sb
  have hfl2 := List.length_filter_le (fun z => !decide (z ∈ sb)) sh
  have hgl : sg.length ≤ 60 := by rw [← esg, List.length_reverse]; omega
  have hcl : sc.length ≤ 60 := by rw [← esc]; omega
  have K7 := fun lg lc og oc vg vc ng nc s Fx Nx dg dc hsg hsc hQx => stage7 (w := w) (s := s) (fa := fa) (cd := cd) (Q := Q) (L := L) (lb := lb) (lh := lh) (lg := lg) (lc := lc) (lo := lo) (ln := ln) (og := og) (oc := oc) (vb := vb) (vh := vh) (vg := vg) (vc := vc) (vo := vo) (vn := vn) (nb := nb) (nh := nh) (ng := ng) (nc := nc) (no := no) (nn := nn)
    (sb := sb) (sh := sh) (sg := sg) (sc := sc) (ro := ro) (rn := rn) (own := own) (m := m) (v3 := v3) (v4 := v4) T KX K0 hu hd6 Fx Nx dg dc hsb hsh hsg hsc h1 h2 hgl hcl hro hrn hA hn1 hsp hg hc hfin hnd hl2 hl64 hE1 hE2 hQx
  obtain ⟨p, hp⟩ : ∃ p, p = lawD := ⟨_, rfl⟩
  rw [← hp] at hW K7 ⊢
  conv at hp => rhs; unfold lawD; whnf
  subst hp
  dsimp only [List.drop] at K7 ⊢
  change wpAny _ _ _ _ _ ⟨s.heap, s.gens, s.drawn, s.toks, s.os⟩
  have e1 := strsAre_len hsb
  have e2 := strsAre_len hsh
  repeat' ((fail_if_success (with_reducible show wpAny _ _ (call (Value.ref _) _) _ _ _)); first | (k_unfold; (try dsimp only)) | walk1 | (dsimp only; walk1))
  have hlb : s.heap.get? lb = some (lst vb nb) := (N _ (by k_mem : (lb, lst vb nb) ∈ _)).1
  have hlh : s.heap.get? lh = some (lst vh nh) := (N _ (by k_mem : (lh, lst vh nh) ∈ _)).1
  refine wpAny_call (difference_spec (wd_call T KX K0 F rfl rfl) (by (try dsimp only); omega) hlb hsb hlh hsh (by omega) fun h7 tk7 x dx B S I oS c hk7 hall hxI hso hc => ?_)
  obtain ⟨ffa, ff⟩ := diff_pack (w := w) F hlb hk7 hall hso hc
  have N7 := news_kept N hk7
  have hfI : ∀ p ∈ (L + 1 + 1 + 1 + 1, oc) :: (L + 1 + 1 + 1, og) :: (lb, lst vb nb) :: (lh, lst vh nh) :: (lo, lst vo no) :: (ln, lst vn nn) :: own, p.1 ≠ I := fun p hp e => by have := (N p hp).1; rw [e, (hall _ (.head _)).2] at this; cases this
  have F7 := F.kept hk7
  clear hall hk7
  repeat' ((fail_if_success (with_reducible show wpAny _ _ (call (Value.type "list") _) _ _ _)); first | (k_unfold; (try dsimp only)) | walk1 | (dsimp only; walk1))
  have hLn : h₀.get? L = none := Heap.get?_none_of_le F.above
  refine list_ff (fun h u' Fx => hW h u' _ Fx) KX (by show d + 1 < 600; omega) (fun env he b hb => ?_) ffa hso hc hsb (by omega) ff fun h8 tk8 acc c8 F8 hk8 hD8 hacc => ?_
  · rw [List.mem_singleton.mp he] at hb
    rw [← Option.some.inj hb]
    exact ⟨hLn, F7.ns.lt⟩
  have hL0 : ∀ p ∈ (L + 1 + 1 + 1 + 1, oc) :: (L + 1 + 1 + 1, og) :: (lb, lst vb nb) :: (lh, lst vh nh) :: (lo, lst vo no) :: (ln, lst vn nn) :: own, p.1 < h7.objs.size := fun p hp => Heap.lt_size (N7 p hp).1
  have N8 : News h₀ L h8 ((h7.objs.size, lst acc c8) :: (L + 1 + 1 + 1 + 1, oc) :: (L + 1 + 1 + 1, og) :: (lb, lst vb nb) :: (lh, lst vh nh) :: (lo, lst vo no) :: (ln, lst vn nn) :: own) := fun p hp => by
    rcases List.mem_cons.mp hp with rfl | hp
    · exact ⟨hD8, Ne.symm (Nat.ne_of_lt F7.ns.lt), next_is_new F7⟩
    · exact ⟨hk8 _ _ (hfI p hp) (fun env he hf => (N7 p hp).2.1 (by rw [List.mem_singleton.mp he] at hf; exact (Option.some.inj hf).symm)) (N7 p hp).1, (N7 p hp).2⟩
  dsimp only
  generalize h7.objs.size = D8 at N8 hL0 ⊢
  clear hk8 hD8 F7 N7 ff ffa hfI hso
  have hal := strsAre_len hacc
  have hfl := List.length_filter_le (fun z => !decide (z ∈ sh)) sb
  repeat' ((fail_if_success (with_reducible show wpAny _ _ (call (Value.ref _) _) _ _ _)); first | (k_unfold; (try dsimp only)) | walk1 | (dsimp only; walk1))
  (rename Fr h₀ L _ _ => F9); (rename News h₀ L _ _ => N9)
  have hsg := strsAre_reverse hacc
  rw [esg] at hsg
  rename_i Dg _ _
  have N10 : News h₀ L _ ((Dg, W.listOf acc.reverse.toArray 0) :: (L + 1 + 1 + 1 + 1, oc) :: (L + 1 + 1 + 1, og) :: (lb, lst vb nb) :: (lh, lst vh nh) :: (lo, lst vo no) :: (ln, lst vn nn) :: own) := fun p hp => by
    rcases List.mem_cons.mp hp with rfl | hp
    · exact N9 _ (.head _)
    · exact N9 _ (.tail _ (.tail _ hp))
  clear N8 N9
  refine wpAny_call (difference_spec (wd_call T KX K0 F9 rfl rfl) (by (try dsimp only); omega) (N10 _ (by k_mem : (lh, lst vh nh) ∈ _)).1 hsh (N10 _ (by k_mem : (lb, lst vb nb) ∈ _)).1 hsb (by omega) fun h7 tk7 x dx B S I oS c hk7 hall hxI hso hc => ?_)
  have hlh2 := (N10 _ (by k_mem : (lh, lst vh nh) ∈ _)).1
  dsimp only at hlh2
  obtain ⟨ffa, ff⟩ := diff_pack (w := w) F9 hlh2 hk7 hall hso hc
  have N7 := news_kept N10 hk7
  have hfI : ∀ p ∈ (Dg, W.listOf acc.reverse.toArray 0) :: (L + 1 + 1 + 1 + 1, oc) :: (L + 1 + 1 + 1, og) :: (lb, lst vb nb) :: (lh, lst vh nh) :: (lo, lst vo no) :: (ln, lst vn nn) :: own, p.1 ≠ I := fun p hp e => by have := (N10 p hp).1; rw [e, (hall _ (.head _)).2] at this; cases this
  have F7 := F9.kept hk7
  clear hall hk7 N10 F9 hlh2
  repeat' ((fail_if_success (with_reducible show wpAny _ _ (call (Value.type "list") _) _ _ _)); first | (k_unfold; (try dsimp only)) | walk1 | (dsimp only; walk1))
  refine list_ff (fun h u' Fx => hW h u' _ Fx) KX (by show d + 1 < 600; omega) (fun env he b hb => ?_) ffa hso hc hsh (by omega) ff fun h8 tk8 acc2 c9 F10 hk8 hD8 hacc2 => ?_
  · rw [List.mem_singleton.mp he] at hb
    rw [← Option.some.inj hb]
    exact ⟨hLn, F7.ns.lt⟩
  rw [esc] at hacc2
  have N8 : News h₀ L h8 ((h7.objs.size, lst acc2 c9) :: (Dg, W.listOf acc.reverse.toArray 0) :: (L + 1 + 1 + 1 + 1, oc) :: (L + 1 + 1 + 1, og) :: (lb, lst vb nb) :: (lh, lst vh nh) :: (lo, lst vo no) :: (ln, lst vn nn) :: own) := fun p hp => by
    rcases List.mem_cons.mp hp with rfl | hp
    · exact ⟨hD8, Ne.symm (Nat.ne_of_lt F7.ns.lt), next_is_new F7⟩
    · exact ⟨hk8 _ _ (hfI p hp) (fun env he hf => (N7 p hp).2.1 (by rw [List.mem_singleton.mp he] at hf; exact (Option.some.inj hf).symm)) (N7 p hp).1, (N7 p hp).2⟩
  dsimp only
  generalize h7.objs.size = Dc at N8 ⊢
  clear hk8 hD8 F7 N7 ff ffa hfI hso
  have hM1 := ne_cell N8 (by k_mem : (L + 1 + 1 + 1, og) ∈ _) (by k_mem : (Dc, lst acc2 c9) ∈ _) dg
  have hM2 := ne_cell N8 (by k_mem : (L + 1 + 1 + 1 + 1, oc) ∈ _) (by k_mem : (Dc, lst acc2 c9) ∈ _) dc
  have hM3 := ne_cell N8 (by k_mem : (L + 1 + 1 + 1, og) ∈ _) (by k_mem : (Dg, W.listOf acc.reverse.toArray 0) ∈ _) dg
  have hM4 := ne_cell N8 (by k_mem : (L + 1 + 1 + 1 + 1, oc) ∈ _) (by k_mem : (Dg, W.listOf acc.reverse.toArray 0) ∈ _) dc
  repeat' ((fail_if_success (with_reducible show wpAny _ _ (execs [Stmt.If _ _ _ _, _] _) _ _ _)); first | (k_unfold; (try dsimp only)) | walk1 | (dsimp only; walk1))
  (rename Fr h₀ L _ _ => F3); (rename News h₀ L _ _ => N3)
  refine K7 Dg Dc _ _ acc.reverse acc2 0 c9 _ F3 ?_ ‹Obj.data _ = Data.cell (some (Value.ref Dg))› ‹Obj.data _ = Data.cell (some (Value.ref Dc))› hsg hacc2 hQ
  intro p hp
  iterate 4
    rcases List.mem_cons.mp hp with rfl | hp
    · exact N3 _ (by k_mem)
  exact N3 p (.tail _ (.tail _ (.tail _ (.tail _ (.tail _ hp)))))
end

theorem zz_44 : True := by
  w_top off
  trivial
theorem strs_snoc {ys : List Value} {st : List Str} {z : Str} {t : Tok} (h : StrsAre ys st) : StrsAre (ys ++ [Value.str z t]) (st ++ [z]) := h.append' (.cons _ _ .nil)
theorem map_take_snoc {α β : Type} {l : List α} {j : Nat} {y : α} (f : α → β) (hy : l[j]? = some y) : (l.take (j + 1)).map f = (l.take j).map f ++ [f y] := by
  rw [List.take_add_one, hy, Option.toList_some, List.map_append]; rfl
section
variable {prog : Program} {w : World} {A : Around} {E : Value → Shared → Prop} {s : Shared} {l : Addr} {vs : List Value} {ys : List Str}
theorem join_L {x : Str} {t : Tok} {Q : Value → Shared → Prop} (hl : s.heap.IsList l vs.toArray) (hS : StrsAre vs ys) (hb : ∀ a ∈ ys, a.length ≤ 1000) (hn : ys.length ≤ 2000) (hx : x.length ≤ 64)
    (h : ∀ t' k, (Txt.join x ys).length ≤ 2200000 → Q (.str (Txt.join x ys) t') { s with toks := k }) : wpAny (model prog w) A (call (.builtin "str.join") [.str x t, .ref l]) Q E s := by
  have h1 := sum_len_le 1000 ys hb
  have h2 : ys.length * x.length ≤ 2000 * 64 := Nat.mul_le_mul hn hx
  exact join_list hl (by simpa using hS) (by omega) fun t' k => h t' k (Nat.le_trans (join_len x ys) (by omega))
end
/-- the rows' texts, list by list -/
def J5 (N0 : List (Addr × Obj)) (f : List Str → Str) (ro rn : List (List Str)) (i : Nat) (ys : List Value) (nw : List (Addr × Obj)) : Prop :=
  (i = 0 ∧ ys = [] ∧ nw = N0) ∨ (i = 1 ∧ ∃ D1 y1, ys = [.ref D1] ∧ nw = (D1, LCg.lst y1) :: N0 ∧ StrsAre y1 (ro.map f)) ∨
  (i = 2 ∧ ∃ D1 y1 D2 y2, ys = [.ref D1, .ref D2] ∧ nw = (D2, LCg.lst y2) :: (D1, LCg.lst y1) :: N0 ∧ StrsAre y1 (ro.map f) ∧ StrsAre y2 (rn.map f))
theorem J5.sub {N0 : List (Addr × Obj)} {f : List Str → Str} {ro rn : List (List Str)} {i : Nat} {ys : List Value} {nw : List (Addr × Obj)} (h : J5 N0 f ro rn i ys nw) : ∀ p ∈ N0, p ∈ nw := fun p hp => by
  rcases h with ⟨_, _, rfl⟩ | ⟨_, D1, y1, _, rfl, _⟩ | ⟨_, D1, y1, D2, y2, _, rfl, _⟩
  · exact hp
  · exact .tail _ hp
  · exact .tail _ (.tail _ hp)
section
variable {w : World} {s : Shared} {mg mb : Str → Option Value} {mean : ExcName → Option Value} {h₀ : Heap} {L fa : Addr} {cd : Value} {Q : Flow → Shared → Prop}
theorem stage5 {d u : Nat} {gs : Option (List Code)} {base : Heap} {lb lh lo ln : Addr} {og oc : Obj} {vb vh vo vn : List Value} {nb nh no nn : Nat} {sb sh : List Str} {ro rn : List (List Str)} {own : List (Addr × Obj)} {m : Str → Option Value} {v3 v4 : Value} {v5 v6 : Option Value}
    (T : Top vq (looseW vq [Str.ofString "_dedupe", Str.ofString "filterfalse"]) mean mg mb h₀) (KX : (hd.heap_1 w.params).In h₀) (K0 : Below ⟨none, d, some [], gs, u⟩ base [] h₀) (hu : u ≤ 100) (hd6 : d < 500)
    (F : Fr h₀ L s.heap (fun y => if y = Str.ofString "behind" then some (.ref lh) else if y = Str.ofString "before" then some (.ref lb) else if y = Str.ofString "new" then some (.ref ln) else if y = Str.ofString "old" then some (.ref lo) else if y = Str.ofString "texts" then some v3 else if y = Str.ofString "script" then some v4 else m y))
    (N : News h₀ L s.heap ((L + 1 + 1 + 1 + 1, oc) :: (L + 1 + 1 + 1, og) :: (lb, lst vb nb) :: (lh, lst vh nh) :: (lo, lst vo no) :: (ln, lst vn nn) :: own)) (hOwn : ∀ p ∈ own, ∃ ws k, p.2 = lst ws k)
    (dg : og.data = .cell v5) (dc : oc.data = .cell v6)
    (hsb : StrsAre vb sb) (hsh : StrsAre vh sh) (h1 : sb.length ≤ 60) (h2 : sh.length ≤ 60)
    (hro : RowsAt h₀ own vo ro) (hrn : RowsAt h₀ own vn rn) (hB1 : sb = ro.map fun r => Str.ofString "/" ++ Txt.join (Str.ofString "/") r) (hB2 : sh = rn.map fun r => Str.ofString "/" ++ Txt.join (Str.ofString "/") r)
    (hk : ∀ r, r ∈ ro ∨ r ∈ rn → r.length ≤ 100 ∧ ∀ a ∈ r, a.length ≤ 100)
    {sg sc : List Str} (esg : (sb.filter fun z => !decide (z ∈ sh)).reverse = sg) (esc : (sh.filter fun z => !decide (z ∈ sb)) = sc)
    (hA : sg.filter (fun z => decide (z ∈ sc)) = []) (hsp : ∀ p, p ∈ sg ∨ p ∈ sc → p.length ≤ 900 ∧ (Txt.split p (Str.ofString "/")).length ≤ 100)
    (hg : ∀ (i : Nat) (p : Str), sg[i]? = some p → ((sg.take i).foldl stepGone ro).filter (fun o => decide (o.take (rowP p).length = rowP p)) = [rowP p] ∧ ∀ r ∈ (sg.take i).foldl stepGone ro, r.length ≤ 100)
    (hc : ∀ (i : Nat) (p : Str), sc[i]? = some p → (rowP p).dropLast = [] ∨ (rowP p).dropLast ∈ (sc.take i).foldl stepCome (sg.foldl stepGone ro))
    (hfin : (sc.foldl stepCome (sg.foldl stepGone ro)).Perm rn) (hnd : rn.Nodup) (hl2 : 2 ≤ rn.length) (hl64 : rn.length < 60)
    (hE1 : sg.reverse = sb.filter fun z => decide (z ∈ sg)) (hE2 : sc = sh.filter fun z => decide (z ∈ sc))
    (hQ : ∀ h' tk m', Fr h₀ L h' m' → Q (.ret (.bool true)) ⟨h', s.gens, s.drawn, tk, s.os⟩) :
    wpAny (model PySem.Challenge.rw_il0206_01.row.prog w) (Around.deeper ⟨none, d, some [], gs, u⟩ (envOfC (Str.ofString "law") lawD.2 L fa cd)) (execs (lawD.1.drop 5) (envOfC (Str.ofString "law") lawD.2 L fa cd)) Q (fun _ _ => False) s := by
  have e5 : ro.length = sb.length := by rw [hB1, List.length_map]
  have e6 : rn.length = sh.length := by rw [hB2, List.length_map]
  have K6 := fun s Fx Nx hQx => stage6 (w := w) (s := s) (fa := fa) (cd := cd) (Q := Q) (L := L) (lb := lb) (lh := lh) (lo := lo) (ln := ln) (og := og) (oc := oc) (vb := vb) (vh := vh) (vo := vo) (vn := vn) (nb := nb) (nh := nh) (no := no) (nn := nn)
    (sb := sb) (sh := sh) (ro := ro) (rn := rn) (own := own) (m := m) (v3 := v3) (v4 := v4) T KX K0 hu hd6 Fx Nx hOwn dg dc hsb hsh h1 h2 hro hrn esg esc hA (by omega) hsp hg hc hfin hnd hl2 hl64 hE1 hE2 hQx
  obtain ⟨p, hp⟩ : ∃ p, p = lawD := ⟨_, rfl⟩
  rw [← hp] at K6 ⊢
  conv at hp => rhs; unfold lawD; whnf
  subst hp
  dsimp only [List.drop] at K6 ⊢
  change wpAny _ _ _ _ _ ⟨s.heap, s.gens, s.drawn, s.toks, s.os⟩
  have e1 := strsAre_len hsb
  have e2 := strsAre_len hsh
  have e3 := hro.length
  have e4 := hrn.length
  (repeat' ((fail_if_success (with_reducible show wpAny _ _ (exec (Stmt.For _ _ _ _ _) _) _ _ _)); (fail_if_success (with_reducible show TurnEnd _ _ _ _ _ _ _ _)); (fail_if_success (with_reducible show wpAny _ _ (eval (Expr.ListComp _ _ _ _) _) _ _ _)); (fail_if_success (with_reducible show JSrcR _ _ _ _ _ _ _ _ _ _ _ _ _ _ _)); (fail_if_success (with_reducible show JSrc _ _ _ _ _ _ _ _ _ _ _ _ _ _ _)); (fail_if_success (with_reducible show JEnd _ _ _ _ _ _ _ _ _ _ _ _)); (fail_if_success (with_reducible show wpAny _ _ (compareOp _ (Value.ref _) (Value.ref _)) _ _ _)); (fail_if_success (with_reducible show Ends _ _ _)); first | (k_unfold; (try dsimp only)) | walk1 | (dsimp only; walk1)))
  (rename Fr h₀ L _ _ => F1); (rename News h₀ L _ _ => N1)
  rename_i Dl _ _
  refine comp_list0 F1 (by with_unfolding_all rfl) (by decide) (by rfl) (by decide) (by rfl) ?_
  (repeat' ((fail_if_success (with_reducible show wpAny _ _ (exec (Stmt.For _ _ _ _ _) _) _ _ _)); (fail_if_success (with_reducible show TurnEnd _ _ _ _ _ _ _ _)); (fail_if_success (with_reducible show wpAny _ _ (eval (Expr.ListComp _ _ _ _) _) _ _ _)); (fail_if_success (with_reducible show JSrcR _ _ _ _ _ _ _ _ _ _ _ _ _ _ _)); (fail_if_success (with_reducible show JSrc _ _ _ _ _ _ _ _ _ _ _ _ _ _ _)); (fail_if_success (with_reducible show JEnd _ _ _ _ _ _ _ _ _ _ _ _)); (fail_if_success (with_reducible show wpAny _ _ (compareOp _ (Value.ref _) (Value.ref _)) _ _ _)); (fail_if_success (with_reducible show Ends _ _ _)); first | (k_unfold; (try dsimp only)) | walk1 | (dsimp only; walk1)))
  (rename Fr h₀ L _ _ => F2); (rename News h₀ L _ _ => N2)
  rename_i Di _ _
  refine ⟨Di, #[Value.ref lo, Value.ref ln], _, J5 ((Di, W.listOf #[Value.ref lo, Value.ref ln] 0) :: (Dl, W.listOf #[Value.ref lb, Value.ref lh] 0) :: (L + 1 + 1 + 1 + 1, oc) :: (L + 1 + 1 + 1, og) :: (lb, lst vb nb) :: (lh, lst vh nh) :: (lo, lst vo no) :: (ln, lst vn nn) :: own) (fun r => Str.ofString "/" ++ Txt.join (Str.ofString "/") r) ro rn, rfl, rfl, F2, N2, fun i ys nw hj => ?_, by rw [sizeLine_eq]; exact Nat.le_of_ble_eq_true rfl, .inl ⟨rfl, rfl, rfl⟩, ?_, ?_⟩
  · exact .inr ⟨_, hj.sub _ (.head _), rfl, _, rfl⟩
  · rintro hh j v ys news I2 oI C oC D m₃ h3 tk3 E' hj hv2 hJ hyl hoC hmx F8 N8 hoff3 hne
    obtain ⟨lr, vr, nr, rr, rfl, hmem, hrr, hbnd, hrl, hnext⟩ : ∃ lr vr nr rr, v = .ref lr ∧ (lr, lst vr nr) ∈ news ∧ RowsAt h₀ own vr rr ∧ (∀ r ∈ rr, r.length ≤ 100 ∧ ∀ a ∈ r, a.length ≤ 100) ∧ rr.length ≤ 60 ∧
        ∀ D1 y1, StrsAre y1 (rr.map fun r => Str.ofString "/" ++ Txt.join (Str.ofString "/") r) → J5 ((Di, W.listOf #[Value.ref lo, Value.ref ln] 0) :: (Dl, W.listOf #[Value.ref lb, Value.ref lh] 0) :: (L + 1 + 1 + 1 + 1, oc) :: (L + 1 + 1 + 1, og) :: (lb, lst vb nb) :: (lh, lst vh nh) :: (lo, lst vo no) :: (ln, lst vn nn) :: own) (fun r => Str.ofString "/" ++ Txt.join (Str.ofString "/") r) ro rn (j + 1) (ys ++ [.ref D1]) ((D1, LCg.lst y1) :: news) := by
      have hJ2 := hJ
      rcases hJ with ⟨rfl, rfl, rfl⟩ | ⟨rfl, D1, y1, rfl, rfl, hy1⟩ | ⟨rfl, _⟩
      · simp at hv2
        subst hv2
        exact ⟨lo, vo, no, ro, rfl, by k_mem, hro, fun r hr => hk r (.inl hr), by omega, fun D1 y1 h => .inr (.inl ⟨rfl, D1, y1, rfl, rfl, h⟩)⟩
      · simp at hv2
        subst hv2
        exact ⟨ln, vn, nn, rn, rfl, by k_mem, hrn, fun r hr => hk r (.inr hr), by omega, fun D2 y2 h => .inr (.inr ⟨rfl, D1, y1, D2, y2, rfl, rfl, hy1, h⟩)⟩
      · simp at hj
    have hsub := hJ.sub
    have hown : ∀ p ∈ own, p ∈ news := fun p hp => hsub p ((by (first | exact List.forall_mem_nil _ | (intro p hp; repeat (first | exact hp | refine List.Mem.tail _ ?_))) : ∀ p ∈ own, p ∈ _) p hp)
    dsimp only
    refine comp_list0 F8 (by with_unfolding_all rfl) (by decide) (by rfl) (by decide) (by rfl) ?_
    (repeat' ((fail_if_success (with_reducible show wpAny _ _ (exec (Stmt.For _ _ _ _ _) _) _ _ _)); (fail_if_success (with_reducible show TurnEnd _ _ _ _ _ _ _ _)); (fail_if_success (with_reducible show wpAny _ _ (eval (Expr.ListComp _ _ _ _) _) _ _ _)); (fail_if_success (with_reducible show JSrcR _ _ _ _ _ _ _ _ _ _ _ _ _ _ _)); (fail_if_success (with_reducible show JSrc _ _ _ _ _ _ _ _ _ _ _ _ _ _ _)); (fail_if_success (with_reducible show JEnd _ _ _ _ _ _ _ _ _ _ _ _)); (fail_if_success (with_reducible show wpAny _ _ (compareOp _ (Value.ref _) (Value.ref _)) _ _ _)); (fail_if_success (with_reducible show Ends _ _ _)); first | (k_unfold; (try dsimp only)) | walk1 | (dsimp only; walk1)))
    have hvrl := hrr.length
    refine ⟨lr, vr.toArray, _, fun i y2 nw => nw = (I2, oI) :: (C, oC) :: (D, LCg.lst ys) :: news ∧ StrsAre y2 ((rr.take i).map fun r => Str.ofString "/" ++ Txt.join (Str.ofString "/") r), rfl, rfl, F8, N8, fun i y2 nw hj2 => ?_, by rw [List.size_toArray, sizeLine_eq]; omega, ⟨rfl, .nil⟩, ?_, ?_⟩
    · obtain ⟨rfl, _⟩ := hj2
      exact .inr ⟨_, .tail _ (.tail _ (.tail _ hmem)), rfl, _, rfl⟩
    · rintro hh2 j2 v2 ys2 news2 I3 oI3 C3 oC3 D3 m₄ h5 tk5 E2 hj2 hv3 ⟨rfl, hys2⟩ hyl2 hoC2 hmx2 F5 N5 hoff5 hne5
      have hjl : j2 < vr.length := by simpa using hj2
      have hra := rowsAt_getD hrr hjl
      have ev : vr.getD j2 Value.none = v2 := by
        have : vr[j2]? = some v2 := by simpa using hv3
        simp [List.getD, this]
      have hrj : rr[j2]? = some (rr.getD j2 []) := by simp [List.getD, show j2 < rr.length by omega]
      rw [ev] at hra
      have hb8 := hbnd _ (List.mem_of_getElem? hrj)
      generalize rr.getD j2 [] = r8 at hra hrj hb8
      obtain ⟨a, ws, kk, rfl, hws, hwh⟩ := hra
      have hIL : h5.IsList a (List.toArray ws) := isList_lst (n := kk) (hwh.elim (F5.keep _ _) fun q => (N5 _ (.tail _ (.tail _ (.tail _ (.tail _ (.tail _ (.tail _ (hown _ q)))))))).1)
      dsimp only
      repeat' ((fail_if_success (with_reducible show wpAny _ _ (call (Value.builtin "str.join") _) _ _ _)); (fail_if_success (with_reducible show JEnd _ _ _ _ _ _ _ _ _ _ _ _)); first | (k_unfold; (try dsimp only)) | walk1 | (dsimp only; walk1))
      refine join_L hIL hws (fun a ha => Nat.le_trans (hb8.2 a ha) (by decide)) (by omega) (by decide) fun t9 k9 hjl9 => ?_
      repeat' ((fail_if_success (with_reducible show JEnd _ _ _ _ _ _ _ _ _ _ _ _)); first | (k_unfold; (try dsimp only)) | walk1 | (dsimp only; walk1))
      refine ⟨_, _, _, rfl, F5, N5, hoff5, rfl, ?_⟩
      rw [map_take_snoc _ hrj]
      exact strs_snoc hys2
    · rintro D1 h6 tk6 y2 news2 ⟨rfl, hy2⟩ F6 N6 o6
      have htl : rr.take vr.toArray.size = rr := List.take_of_length_le (by simp; omega)
      rw [htl] at hy2
      refine ⟨_, _, (D1, LCg.lst y2) :: news, rfl, F6, fun p hp => ?_, ?_, hnext D1 y2 hy2⟩
      · rcases List.mem_cons.mp hp with rfl | hp
        · exact N6 _ (.tail _ (.head _))
        rcases List.mem_cons.mp hp with rfl | hp
        · exact N6 _ (.tail _ (.tail _ (.head _)))
        rcases List.mem_cons.mp hp with rfl | hp
        · exact N6 _ (.tail _ (.tail _ (.tail _ (.head _))))
        rcases List.mem_cons.mp hp with rfl | hp
        · exact N6 _ (.head _)
        · exact N6 _ (.tail _ (.tail _ (.tail _ (.tail _ hp))))
      · obtain ⟨q1, q2, q3, _⟩ := o6
        exact LCg.Off3.of (List.forall_mem_cons.mpr ⟨⟨Ne.symm q1, Ne.symm q2, Ne.symm q3⟩, hoff3.mem⟩)
  · rintro D h4 tk4 ys news' hJ F5 N5 o1
    rcases hJ with ⟨h, _⟩ | ⟨h, _⟩ | ⟨_, D1, y1, D2, y2, rfl, rfl, hy1, hy2⟩
    · simp at h
    · simp at h
    rw [← hB1] at hy1
    rw [← hB2] at hy2
    clear o1
    (repeat' ((fail_if_success (with_reducible show wpAny _ _ (exec (Stmt.For _ _ _ _ _) _) _ _ _)); (fail_if_success (with_reducible show TurnEnd _ _ _ _ _ _ _ _)); (fail_if_success (with_reducible show wpAny _ _ (eval (Expr.ListComp _ _ _ _) _) _ _ _)); (fail_if_success (with_reducible show JSrcR _ _ _ _ _ _ _ _ _ _ _ _ _ _ _)); (fail_if_success (with_reducible show JSrc _ _ _ _ _ _ _ _ _ _ _ _ _ _ _)); (fail_if_success (with_reducible show JEnd _ _ _ _ _ _ _ _ _ _ _ _)); (fail_if_success (with_reducible show wpAny _ _ (compareOp _ (Value.ref _) (Value.ref _)) _ _ _)); (fail_if_success (with_reducible show Ends _ _ _)); first | (k_unfold; (try dsimp only)) | walk1 | (dsimp only; walk1)))
    refine lst_ne (xs := [sb, sh]) (ys := [sb, sh]) (row_eqAt (by show u + 3 < 9000; omega)) (by show u + 3 < cLine; unfold cLine; omega) ⟨Dl, [.ref lb, .ref lh], rfl, News.isList N5 (by k_mem), .cons ⟨_, _, rfl, News.isList N5 (by k_mem), strs_all2 hsb⟩ (.cons ⟨_, _, rfl, News.isList N5 (by k_mem), strs_all2 hsh⟩ .nil)⟩
      ⟨D, [.ref D1, .ref D2], rfl, News.isList N5 (.head _), .cons ⟨_, _, rfl, News.isList N5 (by k_mem), strs_all2 hy1⟩ (.cons ⟨_, _, rfl, News.isList N5 (by k_mem), strs_all2 hy2⟩ .nil)⟩ ?_
    rw [decide_eq_true rfl]
    dsimp only [Bool.not_true]
    repeat' ((fail_if_success (with_reducible show wpAny _ _ (execs [Stmt.Assign _ _ _, _, _] _) _ _ _)); first | (k_unfold; (try dsimp only)) | walk1 | (dsimp only; walk1))
    (rename Fr h₀ L _ _ => F3); (rename News h₀ L _ _ => N3)
    exact K6 _ F3 (fun p hp => N3 p (.tail _ (.tail _ (.tail _ (.tail _ (.tail _ hp)))))) hQ
end

theorem zz_45 : True := by
  w_top off
  trivial
/-- what the law's rows, places, gone and come are like -/
structure Plain (sb sh sg sc : List Str) (ro rn : List (List Str)) : Prop where
  h1 : sb.length ≤ 60
  h2 : sh.length ≤ 60
  hB1 : sb = ro.map fun r => Str.ofString "/" ++ Txt.join (Str.ofString "/") r
  hB2 : sh = rn.map fun r => Str.ofString "/" ++ Txt.join (Str.ofString "/") r
  hk : ∀ r, r ∈ ro ∨ r ∈ rn → r.length ≤ 100 ∧ ∀ a ∈ r, a.length ≤ 100
  esg : (sb.filter fun z => !decide (z ∈ sh)).reverse = sg
  esc : (sh.filter fun z => !decide (z ∈ sb)) = sc
  hA : sg.filter (fun z => decide (z ∈ sc)) = []
  hsp : ∀ p, p ∈ sg ∨ p ∈ sc → p.length ≤ 900 ∧ (Txt.split p (Str.ofString "/")).length ≤ 100
  hg : ∀ (i : Nat) (p : Str), sg[i]? = some p → ((sg.take i).foldl stepGone ro).filter (fun o => decide (o.take (rowP p).length = rowP p)) = [rowP p] ∧ ∀ r ∈ (sg.take i).foldl stepGone ro, r.length ≤ 100
  hc : ∀ (i : Nat) (p : Str), sc[i]? = some p → (rowP p).dropLast = [] ∨ (rowP p).dropLast ∈ (sc.take i).foldl stepCome (sg.foldl stepGone ro)
  hfin : (sc.foldl stepCome (sg.foldl stepGone ro)).Perm rn
  hnd : rn.Nodup
  hl2 : 2 ≤ rn.length
  hl64 : rn.length < 60
  hE1 : sg.reverse = sb.filter fun z => decide (z ∈ sg)
  hE2 : sc = sh.filter fun z => decide (z ∈ sc)
section
variable {w : World} {s : Shared} {mg mb : Str → Option Value} {mean : ExcName → Option Value} {h₀ : Heap} {L fa : Addr} {cd : Value} {Q : Flow → Shared → Prop}
theorem stage4 {d u : Nat} {gs : Option (List Code)} {base : Heap} {lo ln lt : Addr} {og oc : Obj} {vo vn vt : List Value} {no nn nt : Nat} {ts sb sh sg sc : List Str} {ro rn : List (List Str)} {pe po : List (List Str)} {own : List (Addr × Obj)} {m : Str → Option Value} {v4 : Value} {v5 v6 : Option Value}
    (T : Top vq (looseW vq [Str.ofString "_dedupe", Str.ofString "filterfalse"]) mean mg mb h₀) (KX : (hd.heap_1 w.params).In h₀) (K0 : Below ⟨none, d, some [], gs, u⟩ base [] h₀) (hu : u ≤ 100) (hd6 : d < 500)
    (F : Fr h₀ L s.heap (fun y => if y = Str.ofString "new" then some (.ref ln) else if y = Str.ofString "old" then some (.ref lo) else if y = Str.ofString "texts" then some (.ref lt) else if y = Str.ofString "script" then some v4 else m y))
    (N : News h₀ L s.heap ((L + 1 + 1 + 1 + 1, oc) :: (L + 1 + 1 + 1, og) :: (lo, lst vo no) :: (ln, lst vn nn) :: (lt, lst vt nt) :: own)) (hOwn : ∀ p ∈ own, ∃ ws k, p.2 = lst ws k)
    (dg : og.data = .cell v5) (dc : oc.data = .cell v6) (hG : AllBare s.gens)
    (hts : StrsAre vt ts) (htl : ts.length ≤ 8) (hro : RowsAt h₀ own vo ro) (hrn : RowsAt h₀ own vn rn)
    (hpe : pe.length ≤ (evens ts).length) (hpe2 : ∀ (i : Nat) (t : Str), (evens ts)[i]? = some t → ∃ pl, pe[i]? = some pl ∧ TF t pl) (heb : dedup pe.flatten = sb)
    (hpo : po.length ≤ (evens (ts.drop 1)).length) (hpo2 : ∀ (i : Nat) (t : Str), (evens (ts.drop 1))[i]? = some t → ∃ pl, po[i]? = some pl ∧ TF t pl) (heh : dedup po.flatten = sh)
    (P : Plain sb sh sg sc ro rn)
    (hQ : ∀ h' gs' tk m', AllBare gs' → Fr h₀ L h' m' → Q (.ret (.bool true)) ⟨h', gs', s.drawn, tk, s.os⟩) :
    wpAny (model PySem.Challenge.rw_il0206_01.row.prog w) (Around.deeper ⟨none, d, some [], gs, u⟩ (envOfC (Str.ofString "law") lawD.2 L fa cd)) (execs (lawD.1.drop 4) (envOfC (Str.ofString "law") lawD.2 L fa cd)) Q (fun _ _ => False) s := by
  have K5 := fun lb lh vb vh nb nh s Fx Nx hsb hsh hQx => stage5 (w := w) (s := s) (fa := fa) (cd := cd) (Q := Q) (L := L) (lb := lb) (lh := lh) (lo := lo) (ln := ln) (og := og) (oc := oc) (vb := vb) (vh := vh) (vo := vo) (vn := vn) (nb := nb) (nh := nh) (no := no) (nn := nn)
    (sb := sb) (sh := sh) (ro := ro) (rn := rn) (own := (lt, lst vt nt) :: own) (m := m) (v3 := .ref lt) (v4 := v4) T KX K0 hu hd6 Fx Nx (fun p hp => by rcases List.mem_cons.mp hp with rfl | hp; exact ⟨_, _, rfl⟩; exact hOwn p hp) dg dc hsb hsh P.h1 P.h2 (hro.mono (fun _ _ e => e) fun p hp => .tail _ hp) (hrn.mono (fun _ _ e => e) fun p hp => .tail _ hp) P.hB1 P.hB2 P.hk P.esg P.esc P.hA P.hsp P.hg P.hc P.hfin P.hnd P.hl2 P.hl64 P.hE1 P.hE2 hQx
  obtain ⟨p, hp⟩ : ∃ p, p = lawD := ⟨_, rfl⟩
  rw [← hp] at K5 ⊢
  conv at hp => rhs; unfold lawD; whnf
  subst hp
  dsimp only [List.drop] at K5 ⊢
  change wpAny _ _ _ _ _ ⟨s.heap, s.gens, s.drawn, s.toks, s.os⟩
  have e1 := strsAre_len hts
  repeat' ((fail_if_success (with_reducible show wpAny _ _ (call (Value.ref _) _) _ _ _)); first | (k_unfold; (try dsimp only)) | walk1 | (dsimp only; walk1))
  (rename Fr h₀ L _ _ => F1); (rename News h₀ L _ _ => N1)
  rename_i De _ _
  have hev := evens_strs hts
  have hel : (evens ts).length ≤ 8 := Nat.le_trans (evens_le _) htl
  refine wpAny_call (places_spec (wd_call T KX K0 F1 rfl rfl) (by (try dsimp only); omega) (N1 _ (.head _)).1 hev (by omega) hpe hpe2 hG fun h2 gs2 tk2 lb vb nb hk2 hlbn hlb hvb hG2 => ?_)
  have N2 := news_more F1 N1 hk2 hlbn hlb
  have F2 := F1.kept hk2
  rw [heb] at hvb
  clear hk2 hlbn hlb
  repeat' ((fail_if_success (with_reducible show wpAny _ _ (call (Value.ref _) _) _ _ _)); first | (k_unfold; (try dsimp only)) | walk1 | (dsimp only; walk1))
  (rename Fr h₀ L _ _ => F3); (rename News h₀ L _ _ => N3)
  rename_i Do _ _
  have hod := evens_strs (strsAre_drop 1 hts)
  have hol : (evens (ts.drop 1)).length ≤ 8 := Nat.le_trans (evens_le _) (by rw [List.length_drop]; omega)
  refine wpAny_call (places_spec (wd_call T KX K0 F3 rfl rfl) (by (try dsimp only); omega) (N3 _ (.head _)).1 hod (by omega) hpo hpo2 hG2 fun h4 gs4 tk4 lh vh nh hk4 hlhn hlh hvh hG4 => ?_)
  have N4 := news_more F3 N3 hk4 hlhn hlh
  have F4 := F3.kept hk4
  rw [heh] at hvh
  clear hk4 hlhn hlh N3
  repeat' ((fail_if_success (with_reducible show wpAny _ _ (execs [Stmt.If _ _ _ _, _, _, _] _) _ _ _)); first | (k_unfold; (try dsimp only)) | walk1 | (dsimp only; walk1))
  (rename Fr h₀ L _ _ => F5); (rename News h₀ L _ _ => N5)
  refine K5 lb lh vb vh nb nh _ (fr_swap (by decide) F5) ?_ hvb hvh fun h' tk m' F' => hQ h' gs4 tk m' hG4 F'
  intro p hp
  iterate 6
    rcases List.mem_cons.mp hp with rfl | hp
    · exact N5 _ (by k_mem)
  exact N5 p ((by (((repeat' (refine List.forall_mem_cons.mpr ⟨by k_mem, ?_⟩)); (first | exact List.forall_mem_nil _ | (intro p hp; repeat (first | exact hp | refine List.Mem.tail _ ?_))))) : ∀ p ∈ (lt, lst vt nt) :: own, p ∈ _) p hp)
end

theorem zz_46 : True := by
  w_top off
  trivial
section
variable {w : World} {s : Shared} {mg mb : Str → Option Value} {mean : ExcName → Option Value} {h₀ : Heap} {L fa : Addr} {cd : Value} {Q : Flow → Shared → Prop}
theorem stage3 {d u : Nat} {gs : Option (List Code)} {base : Heap} {lt : Addr} {og oc : Obj} {vt : List Value} {nt : Nat} {ts sb sh sg sc : List Str} {ro rn : List (List Str)} {pe po : List (List Str)} {rest : List (Addr × Obj)} {m : Str → Option Value} {v4 : Value} {v5 v6 : Option Value}
    (T : Top vq (looseW vq [Str.ofString "_dedupe", Str.ofString "filterfalse"]) mean mg mb h₀) (KX : (hd.heap_1 w.params).In h₀) (K0 : Below ⟨none, d, some [], gs, u⟩ base [] h₀) (hu : u ≤ 100) (hd6 : d < 500)
    (F : Fr h₀ L s.heap (fun y => if y = Str.ofString "texts" then some (.ref lt) else if y = Str.ofString "script" then some v4 else m y))
    (N : News h₀ L s.heap ((L + 1 + 1 + 1 + 1, oc) :: (L + 1 + 1 + 1, og) :: (lt, lst vt nt) :: rest))
    (dg : og.data = .cell v5) (dc : oc.data = .cell v6) (hG : AllBare s.gens)
    (hts : StrsAre vt ts) (htl : ts.length ≤ 8) (hspl : ∀ t ∈ ts, t.length ≤ 900 ∧ (Txt.split t (Str.ofString "/")).length ≤ 100)
    (hero : ((evens ts).map fun t => rowOf (Txt.split t (Str.ofString "/"))).foldl rowsAdd [] = ro) (hern : ((evens (ts.drop 1)).map fun t => rowOf (Txt.split t (Str.ofString "/"))).foldl rowsAdd [] = rn)
    (hpe : pe.length ≤ (evens ts).length) (hpe2 : ∀ (i : Nat) (t : Str), (evens ts)[i]? = some t → ∃ pl, pe[i]? = some pl ∧ TF t pl) (heb : dedup pe.flatten = sb)
    (hpo : po.length ≤ (evens (ts.drop 1)).length) (hpo2 : ∀ (i : Nat) (t : Str), (evens (ts.drop 1))[i]? = some t → ∃ pl, po[i]? = some pl ∧ TF t pl) (heh : dedup po.flatten = sh)
    (P : Plain sb sh sg sc ro rn)
    (hQ : ∀ h' gs' tk m', AllBare gs' → Fr h₀ L h' m' → Q (.ret (.bool true)) ⟨h', gs', s.drawn, tk, s.os⟩) :
    wpAny (model PySem.Challenge.rw_il0206_01.row.prog w) (Around.deeper ⟨none, d, some [], gs, u⟩ (envOfC (Str.ofString "law") lawD.2 L fa cd)) (execs (lawD.1.drop 3) (envOfC (Str.ofString "law") lawD.2 L fa cd)) Q (fun _ _ => False) s := by
  have K4 := fun lo ln vo vn no nn own s Fx Nx hOwn hG hro hrn hQx => stage4 (w := w) (s := s) (fa := fa) (cd := cd) (Q := Q) (L := L) (lo := lo) (ln := ln) (lt := lt) (og := og) (oc := oc) (vo := vo) (vn := vn) (vt := vt) (no := no) (nn := nn) (nt := nt)
    (ts := ts) (sb := sb) (sh := sh) (sg := sg) (sc := sc) (ro := ro) (rn := rn) (pe := pe) (po := po) (own := own) (m := m) (v4 := v4) T KX K0 hu hd6 Fx Nx hOwn dg dc hG hts htl hro hrn hpe hpe2 heb hpo hpo2 heh P hQx
  obtain ⟨p, hp⟩ : ∃ p, p = lawD := ⟨_, rfl⟩
  rw [← hp] at K4 ⊢
  conv at hp => rhs; unfold lawD; whnf
  subst hp
  dsimp only [List.drop] at K4 ⊢
  change wpAny _ _ _ _ _ ⟨s.heap, s.gens, s.drawn, s.toks, s.os⟩
  have e1 := strsAre_len hts
  repeat' ((fail_if_success (with_reducible show wpAny _ _ (call (Value.ref _) _) _ _ _)); first | (k_unfold; (try dsimp only)) | walk1 | (dsimp only; walk1))
  (rename Fr h₀ L _ _ => F1); (rename News h₀ L _ _ => N1)
  rename_i De _ _
  have hev := evens_strs hts
  have hel : (evens ts).length ≤ 8 := Nat.le_trans (evens_le _) htl
  refine wpAny_call (rows_spec (wd_call T KX K0 F1 rfl rfl) (by (try dsimp only); omega) (by show u + 3 ≤ 1000; omega) (N1 _ (.head _)).1 hev (by omega) (fun t ht => hspl t (evens_mem _ t ht)) fun h2 tk2 lo vo no own1 hk2 hlon hlo hown1 hro1 => ?_)
  rw [hero] at hro1
  have N2 := news_more F1 N1 hk2 hlon hlo
  have F2 := F1.kept hk2
  obtain ⟨own2, hro2, NO2, hOwn2⟩ := RowsAt.lift F2 (hro1.inH2 hk2 fun p hp => (hown1 p hp).2.2)
  have N3 : News h₀ L h2 ((lo, lst vo no) :: (L + 1 + 1 + 1 + 1, oc) :: (L + 1 + 1 + 1, og) :: (lt, lst vt nt) :: own2) := fun p hp => by
    iterate 4
      rcases List.mem_cons.mp hp with rfl | hp
      · exact N2 _ (by k_mem)
    exact NO2 p hp
  clear hk2 hlon hlo hown1 hro1 N2 NO2 N1 F1
  repeat' ((fail_if_success (with_reducible show wpAny _ _ (call (Value.ref _) _) _ _ _)); first | (k_unfold; (try dsimp only)) | walk1 | (dsimp only; walk1))
  (rename Fr h₀ L _ _ => F3); (rename News h₀ L _ _ => N4)
  rename_i Do _ _
  have hod := evens_strs (strsAre_drop 1 hts)
  have hol : (evens (ts.drop 1)).length ≤ 8 := Nat.le_trans (evens_le _) (by rw [List.length_drop]; omega)
  refine wpAny_call (rows_spec (wd_call T KX K0 F3 rfl rfl) (by (try dsimp only); omega) (by show u + 3 ≤ 1000; omega) (N4 _ (.head _)).1 hod (by omega) (fun t ht => hspl t (List.mem_of_mem_drop (evens_mem _ t ht))) fun h4 tk4 ln vn nn own3 hk4 hlnn hln hown3 hrn1 => ?_)
  rw [hern] at hrn1
  have N5 := news_more F3 N4 hk4 hlnn hln
  have F4 := F3.kept hk4
  obtain ⟨own4, hrn2, NO4, hOwn4⟩ := RowsAt.lift F4 (hrn1.inH2 hk4 fun p hp => (hown3 p hp).2.2)
  have N6 : News h₀ L h4 ((ln, lst vn nn) :: (lo, lst vo no) :: (L + 1 + 1 + 1 + 1, oc) :: (L + 1 + 1 + 1, og) :: (lt, lst vt nt) :: (own4 ++ own2)) := fun p hp => by
    iterate 5
      rcases List.mem_cons.mp hp with rfl | hp
      · exact N5 _ (by k_mem)
    rcases List.mem_append.mp hp with hp | hp
    · exact NO4 p hp
    · exact N5 p ((by (first | exact List.forall_mem_nil _ | (intro p hp; repeat (first | exact hp | refine List.Mem.tail _ ?_))) : ∀ p ∈ own2, p ∈ _) p hp)
  have hOwn : ∀ p ∈ own4 ++ own2, ∃ ws k, p.2 = lst ws k := fun p hp => (List.mem_append.mp hp).elim (hOwn4 p) (hOwn2 p)
  replace hro2 := hro2.mono (own' := own4 ++ own2) (fun _ _ e => e) fun p hp => List.mem_append_right _ hp
  replace hrn2 := hrn2.mono (own' := own4 ++ own2) (fun _ _ e => e) fun p hp => List.mem_append_left _ hp
  clear hk4 hlnn hln hown3 hrn1 N5 NO4 N4 hOwn2 hOwn4
  generalize own4 ++ own2 = own at N6 hOwn hro2 hrn2
  repeat' ((fail_if_success (with_reducible show wpAny _ _ (execs [Stmt.Assign _ _ _, Stmt.If _ _ _ _, Stmt.Assign _ _ _, _, _] _) _ _ _)); first | (k_unfold; (try dsimp only)) | walk1 | (dsimp only; walk1))
  (rename Fr h₀ L _ _ => F7); (rename News h₀ L _ _ => N7)
  refine K4 lo ln vo vn no nn own _ (fr_swap (by decide) F7) ?_ hOwn hG hro2 hrn2 fun h' gs' tk m' hG' F' => hQ h' gs' tk m' hG' F'
  intro p hp
  iterate 5
    rcases List.mem_cons.mp hp with rfl | hp
    · exact N7 _ (by k_mem)
  exact N7 p ((by (first | exact List.forall_mem_nil _ | (intro p hp; repeat (first | exact hp | refine List.Mem.tail _ ?_))) : ∀ p ∈ own, p ∈ _) p hp)
end

theorem zz_46b : True := by
  w_top off
  trivial
theorem pic_index (z : Int) (j : Nat) : ((if z < 0 then -z else z).fdiv (((6 ^ j : Nat) : Nat) : Int)).fmod 6 = ((z.natAbs / 6 ^ j % 6 : Nat) : Int) := by
  have e : (if z < 0 then -z else z) = (z.natAbs : Int) := by split <;> omega
  rw [e, Int.fdiv_eq_ediv_of_nonneg _ (Int.natCast_nonneg _), Int.fmod_eq_emod_of_nonneg _ (by decide)]
  rw [← Int.natCast_ediv]
  rfl
theorem six_pow (j : Nat) : (6 : Int) ^ (0 + (j : Int)).toNat = ((6 ^ j : Nat) : Int) := by
  rw [show (0 + (j : Int)).toNat = j by omega]
  exact (Int.natCast_pow 6 j).symm
theorem dg_take (x j : Nat) (hj : j < 4) : (dg x).take (j + 1) = (dg x).take j ++ [pc (x / 6 ^ j % 6)] := by
  rw [List.take_add_one]
  congr 1
  unfold dg
  simp [hj]
section
variable {prog : Program} {w : World} {A : Around} {E : Value → Shared → Prop} {s : Shared} {l : Addr} {vs : List Value} {n : Nat}
theorem item_N {value slice : PySem.Expr} {k : Nat} {u : Tok} {v : Value} {Q : Value → Shared → Prop} (hl : s.heap.get? l = some (lst vs n)) (hk : k < 1000) (hx : vs[k]? = some v) (h : Q v s)
    (hs : subscripted slice false (.ref l) (.int (k : Int) u) = operate [.ref l, .int (k : Int) u] (getItem (.ref l) (.int (k : Int) u)) := by with_unfolding_all rfl) :
    wpAny (model prog w) A (subscriptTail value slice (.ref l) (.int (k : Int) u)) Q E s :=
  tail_any (isList_lst hl).typeIs slot_list_getitem.lookup (wpAny_getItem_list (isList_lst hl) (by omega) (by omega) (by simpa using hx) h) hs
end

theorem zz_47 : True := by
  w_top off
  trivial
section
variable {w : World} {s : Shared} {mg mb : Str → Option Value} {mean : ExcName → Option Value} {h₀ : Heap} {L fa : Addr} {cd : Value} {Q : Flow → Shared → Prop}
theorem stage2 {d u : Nat} {gs : Option (List Code)} {base : Heap} {lt lp ls : Addr} {og oc ox op : Obj} {vs vp : List Value} {ns : List Int} {np : Nat} {m : Str → Option Value} {v5 v6 v7 : Option Value}
    (T : Top vq (looseW vq [Str.ofString "_dedupe", Str.ofString "filterfalse"]) mean mg mb h₀) (KX : (hd.heap_1 w.params).In h₀) (K0 : Below ⟨none, d, some [], gs, u⟩ base [] h₀) (hu : u ≤ 100) (hd6 : d < 500)
    (hScr : h₀.IsList ls vs.toArray) (hInts : IntsAre vs ns) (hlen : ns.length ≤ 63)
    (F : Fr h₀ L s.heap (fun y => if y = Str.ofString "texts" then some (.ref lt) else if y = Str.ofString "script" then some (.ref ls) else m y))
    (N : News h₀ L s.heap [(lt, lst [] 0), (lp, lst vp np), (L + 1 + 1 + 1 + 1, oc), (L + 1 + 1 + 1, og), (L + 1 + 1, ox), (L + 1, op)])
    (qg : og.data = .cell v5) (qc : oc.data = .cell v6) (qx : ox.data = .cell v7) (qp : op.data = .cell (some (.ref lp))) (hlp : @Ne Nat lt lp) (hG : AllBare s.gens)
    (hvp : StrsAre vp pcs)
    (hQ : ∀ h' tk vt nt (m' : Str → Option Value), Fr h₀ L h' (fun y => if y = Str.ofString "texts" then some (.ref lt) else if y = Str.ofString "script" then some (.ref ls) else m' y) → News h₀ L h' [(L + 1 + 1 + 1 + 1, oc), (L + 1 + 1 + 1, og), (lt, lst vt nt)] → StrsAre vt (([8, 13] ++ ns.take 6).map fun z : Int => txtOf (dg z.natAbs)) →
      wpAny (model PySem.Challenge.rw_il0206_01.row.prog w) (Around.deeper ⟨none, d, some [], gs, u⟩ (envOfC (Str.ofString "law") lawD.2 L fa cd)) (execs (lawD.1.drop 3) (envOfC (Str.ofString "law") lawD.2 L fa cd)) Q (fun _ _ => False) ⟨h', s.gens, s.drawn, tk, s.os⟩) :
    wpAny (model PySem.Challenge.rw_il0206_01.row.prog w) (Around.deeper ⟨none, d, some [], gs, u⟩ (envOfC (Str.ofString "law") lawD.2 L fa cd)) (execs (lawD.1.drop 2) (envOfC (Str.ofString "law") lawD.2 L fa cd)) Q (fun _ _ => False) s := by
  obtain ⟨p, hp⟩ : ∃ p, p = lawD := ⟨_, rfl⟩
  rw [← hp] at hQ ⊢
  conv at hp => rhs; unfold lawD; whnf
  subst hp
  dsimp only [List.drop] at hQ ⊢
  change wpAny _ _ _ _ _ ⟨s.heap, s.gens, s.drawn, s.toks, s.os⟩
  have hN1 := ne_cell N (by k_mem : (L + 1 + 1, ox) ∈ _) (by k_mem : (lt, lst [] 0) ∈ _) qx
  have hN2 := ne_cell N (by k_mem : (L + 1 + 1, ox) ∈ _) (by k_mem : (lp, lst vp np) ∈ _) qx
  have hN3 := ne_cell N (by k_mem : (L + 1, op) ∈ _) (by k_mem : (lt, lst [] 0) ∈ _) qp
  have hN4 := ne_cell N (by k_mem : (L + 1 + 1 + 1, og) ∈ _) (by k_mem : (lt, lst [] 0) ∈ _) qg
  have hN5 := ne_cell N (by k_mem : (L + 1 + 1 + 1 + 1, oc) ∈ _) (by k_mem : (lt, lst [] 0) ∈ _) qc
  have e1 := IntsAre.length hInts
  refine wpAny_execs_cons ?_
  refine For_any h₀ rfl ?_
  (repeat' ((fail_if_success (with_reducible show wpAny _ _ (exec (Stmt.For _ _ _ _ _) _) _ _ _)); (fail_if_success (with_reducible show TurnEnd _ _ _ _ _ _ _ _)); (fail_if_success (with_reducible show wpAny _ _ (eval (Expr.ListComp _ _ _ _) _) _ _ _)); (fail_if_success (with_reducible show Ends _ _ _)); first | (k_unfold; (try dsimp only)) | walk1 | (dsimp only; walk1)))
  (rename Fr h₀ L _ _ => F1); (rename News h₀ L _ _ => N1); (rename IntsAre _ ([8, 13] ++ _) => hI1)
  rename_i D ws _ _
  have hwl := IntsAre.length hI1
  have h8l : ([8, 13] ++ ns.take 6).length ≤ 8 := by simp; omega
  generalize [8, 13] ++ ns.take 6 = n8 at hI1 hwl h8l hQ
  refine ⟨D, ws, 0, _, [(lt, lst [] 0), (lp, lst vp np), (L + 1 + 1 + 1 + 1, oc), (L + 1 + 1 + 1, og), (L + 1 + 1, ox), (L + 1, op)], fun i m' nw => m' = (fun y => if y = Str.ofString "texts" then some (.ref lt) else if y = Str.ofString "script" then some (.ref ls) else m y) ∧
    ∃ vt nt ox' v, nw = [(lt, lst vt nt), (lp, lst vp np), (L + 1 + 1 + 1 + 1, oc), (L + 1 + 1 + 1, og), (L + 1 + 1, ox'), (L + 1, op)] ∧ ox'.data = .cell v ∧ StrsAre vt ((n8.take i).map fun z : Int => txtOf (dg z.natAbs)) ∧ vt.length = i, rfl, F1, fun p hp => ?_, ?_, ⟨rfl, [], 0, ox, _, rfl, qx, .nil, rfl⟩, ?_, ?_⟩
  · rcases List.mem_cons.mp hp with rfl | hp
    · exact N1 _ (.head _)
    · exact N1 p (.tail _ (.tail _ (.tail _ hp)))
  · rename_i l1
    obtain ⟨_, _, _, _, _, _, _, _⟩ := l1
    exact (by (((repeat' (refine List.forall_mem_cons.mpr ⟨by ((show @Ne Nat _ _; first | assumption | exact Ne.symm (by assumption) | omega)), ?_⟩)); (first | exact List.forall_mem_nil _ | (intro p hp; first | exact Nat.ne_of_lt (allLt_mem (by assumption) p hp) | exact OwnOff.ne (by assumption) (by k_memK) p hp | (have hx' := ‹∀ q ∈ _, q.1 ≠ _› p hp; exact hx'))))) : ∀ p ∈ [(lt, lst [] 0), (lp, lst vp np), (L + 1 + 1 + 1 + 1, oc), (L + 1 + 1 + 1, og), (L + 1 + 1, ox), (L + 1, op)], p.1 ≠ D)
  · clear N1 F1 hQ
    rintro i v m₁ news₁ h2 tk2 I itO hv ⟨rfl, vt, nt, ox2, v2, rfl, qx2, hvt, hvl⟩ hIl hoff F2 N2
    obtain ⟨zt, rfl⟩ := IntsAre.int_at hI1 i v hv
    have hiw : i < ws.length := (List.getElem?_eq_some_iff.mp hv).1
    have hz : n8[i]? = some (n8.getD i 0) := by simp [List.getD, show i < n8.length by omega]
    generalize n8.getD i 0 = z at hz
    have hI := fun p hp => neN (hoff p hp).1
    have hD := fun p hp => neN (hoff p hp).2
    have a1 := hI _ (by k_mem : (lt, lst vt nt) ∈ _)
    have a2 := hI _ (by k_mem : (lp, lst vp np) ∈ _)
    have a3 := hI _ (by k_mem : (L + 1 + 1 + 1 + 1, oc) ∈ _)
    have a4 := hI _ (by k_mem : (L + 1 + 1 + 1, og) ∈ _)
    have a5 := hI _ (by k_mem : (L + 1 + 1, ox2) ∈ _)
    have a6 := hI _ (by k_mem : (L + 1, op) ∈ _)
    have b1 := hD _ (by k_mem : (lt, lst vt nt) ∈ _)
    have b2 := hD _ (by k_mem : (lp, lst vp np) ∈ _)
    have b3 := hD _ (by k_mem : (L + 1 + 1 + 1 + 1, oc) ∈ _)
    have b4 := hD _ (by k_mem : (L + 1 + 1 + 1, og) ∈ _)
    have b5 := hD _ (by k_mem : (L + 1 + 1, ox2) ∈ _)
    have b6 := hD _ (by k_mem : (L + 1, op) ∈ _)
    replace hIl := neN hIl
    dsimp only at a1 a2 a3 a4 a5 a6 b1 b2 b3 b4 b5 b6
    clear hI hD hoff hv
    change Fr h₀ L h2 _ at F2
    change News h₀ L h2 _ at N2
    (repeat' ((fail_if_success (with_reducible show wpAny _ _ (exec (Stmt.For _ _ _ _ _) _) _ _ _)); (fail_if_success (with_reducible show TurnEnd _ _ _ _ _ _ _ _)); (fail_if_success (with_reducible show wpAny _ _ (eval (Expr.ListComp _ _ _ _) _) _ _ _)); (fail_if_success (with_reducible show JSrcR _ _ _ _ _ _ _ _ _ _ _ _ _ _ _)); (fail_if_success (with_reducible show JSrc _ _ _ _ _ _ _ _ _ _ _ _ _ _ _)); (fail_if_success (with_reducible show JEnd _ _ _ _ _ _ _ _ _ _ _ _)); (fail_if_success (with_reducible show wpAny _ _ (compareOp _ (Value.ref _) (Value.ref _)) _ _ _)); (fail_if_success (with_reducible show Ends _ _ _)); first | (k_unfold; (try dsimp only)) | walk1 | (dsimp only; walk1)))
    (rename Fr h₀ L _ _ => F3); (rename News h₀ L _ _ => N3); (rename Obj.data _ = Data.cell (some (Value.int _ _)) => qx3)
    refine comp_range0 F3 (by with_unfolding_all rfl) (by decide) (by rfl) (by decide) (by rfl) ?_
    (repeat' ((fail_if_success (with_reducible show wpAny _ _ (exec (Stmt.For _ _ _ _ _) _) _ _ _)); (fail_if_success (with_reducible show TurnEnd _ _ _ _ _ _ _ _)); (fail_if_success (with_reducible show wpAny _ _ (eval (Expr.ListComp _ _ _ _) _) _ _ _)); (fail_if_success (with_reducible show JSrcR _ _ _ _ _ _ _ _ _ _ _ _ _ _ _)); (fail_if_success (with_reducible show JSrc _ _ _ _ _ _ _ _ _ _ _ _ _ _ _)); (fail_if_success (with_reducible show JEnd _ _ _ _ _ _ _ _ _ _ _ _)); (fail_if_success (with_reducible show wpAny _ _ (compareOp _ (Value.ref _) (Value.ref _)) _ _ _)); (fail_if_success (with_reducible show Ends _ _ _)); first | (k_unfold; (try dsimp only)) | walk1 | (dsimp only; walk1)))
    (rename IsRange _ _ _ _ _ _ _ _ => hR8); (rename Fr h₀ L _ _ => F4); (rename News h₀ L _ _ => N4)
    refine ⟨_, 0, _, _, _, _, 4, _, fun i ys nw => nw = _ ∧ StrsAre ys ((dg z.natAbs).take i), rfl, rfl, F4, N4, hR8, ?_, ?_, ?_, ⟨rfl, .nil⟩, ?_, ?_⟩
    · decide
    · decide
    · rw [sizeLine_eq]; decide
    · rintro hh j v ys news I2 oI C oC D2 m₃ h5 tk5 E' hj ⟨t5, rfl⟩ ⟨rfl, hys⟩ hyl hoC hmx F5 N5 hoff5 hne5
      dsimp only
      repeat' ((fail_if_success (with_reducible show wpAny _ _ (binaryOp _ _ _) _ _ _)); (fail_if_success (with_reducible show JEnd _ _ _ _ _ _ _ _ _ _ _ _)); first | (k_unfold; (try dsimp only)) | walk1 | (dsimp only; walk1))
      have hb6 : Builtin.Int.intBits 6 = 3 := by decide
      have hp6 : 1 ≤ (6 : Nat) ^ j ∧ 6 ^ j ≤ 216 := (by decide : ∀ j : Nat, j < 4 → 1 ≤ 6 ^ j ∧ 6 ^ j ≤ 216) j hj
      refine pow_int (by omega) (by rw [hb6]; omega) ?_
      rw [six_pow]
      dsimp only
      refine floordiv_int (by omega) ?_ (.inl (PyProof.noPylong_small (by rw [Int.natAbs_natCast]; omega)))
      repeat' ((fail_if_success (with_reducible show wpAny _ _ (binaryOp _ _ _) _ _ _)); (fail_if_success (with_reducible show JEnd _ _ _ _ _ _ _ _ _ _ _ _)); first | (k_unfold; (try dsimp only)) | walk1 | (dsimp only; walk1))
      refine mod_int' (by decide) ?_
      rw [pic_index]
      have hlt6 : z.natAbs / 6 ^ j % 6 < 6 := Nat.mod_lt _ (by decide)
      have hvl6 := strsAre_len hvp
      have hp6l : pcs.length = 6 := by decide
      obtain ⟨y, yt, hye, hyi⟩ := hvp.item (z.natAbs / 6 ^ j % 6) (vp[z.natAbs / 6 ^ j % 6]'(by omega)) (by simp)
      have hyp : y = pc (z.natAbs / 6 ^ j % 6) := by unfold pc; simp [List.getD, hyi]
      refine item_N (N5 _ (by k_mem : (lp, lst vp np) ∈ _)).1 (by omega) (v := .str y yt) (by rw [← hye]; simp) ?_
      refine ⟨_, _, _, rfl, F5, N5, hoff5, rfl, ?_⟩
      rw [dg_take _ _ hj, ← hyp]
      exact strs_snoc hys
    · rintro D2 h6 tk6 ys news2 ⟨rfl, hys⟩ F6 N6 o6
      have hdl := dg_len z.natAbs
      rw [show (dg z.natAbs).take 4 = dg z.natAbs from List.take_of_length_le (by omega)] at hys
      have hyl := strsAre_len hys
      obtain ⟨c1, c2, c3, c4, c5, c6, c7, c8, c9, _⟩ := o6
      dsimp only at c1 c2 c3 c4 c5 c6 c7 c8 c9
      repeat' ((fail_if_success (with_reducible show wpAny _ _ (call (Value.builtin "str.join") _) _ _ _)); first | (k_unfold; (try dsimp only)) | walk1 | (dsimp only; walk1))
      (rename Fr h₀ L _ _ => F7); (rename News h₀ L _ _ => N7)
      refine join_L (News.isList N7 (.head _)) (.cons _ _ hys : StrsAre ([Value.str (Str.ofString ".") _] ++ ys) (dotS :: dg z.natAbs)) (fun a ha => ?_) (by rw [List.length_cons]; omega) (by decide) fun t9 k9 hjl9 => ?_
      · rcases List.mem_cons.mp ha with rfl | ha
        · decide +kernel
        · obtain ⟨kk, rfl⟩ := dg_mem ha
          have := pc_len kk; omega
      have hst : (n8.take (i + 1)).map (fun z : Int => txtOf (dg z.natAbs)) = (n8.take i).map (fun z : Int => txtOf (dg z.natAbs)) ++ [txtOf (dg z.natAbs)] := map_take_snoc _ hz
      rw [hst]
      (repeat' ((fail_if_success (with_reducible show wpAny _ _ (exec (Stmt.For _ _ _ _ _) _) _ _ _)); (fail_if_success (with_reducible show TurnEnd _ _ _ _ _ _ _ _)); (fail_if_success (with_reducible show wpAny _ _ (eval (Expr.ListComp _ _ _ _) _) _ _ _)); (fail_if_success (with_reducible show JSrcR _ _ _ _ _ _ _ _ _ _ _ _ _ _ _)); (fail_if_success (with_reducible show JSrc _ _ _ _ _ _ _ _ _ _ _ _ _ _ _)); (fail_if_success (with_reducible show JEnd _ _ _ _ _ _ _ _ _ _ _ _)); (fail_if_success (with_reducible show wpAny _ _ (compareOp _ (Value.ref _) (Value.ref _)) _ _ _)); (fail_if_success (with_reducible show Ends _ _ _)); first | (k_unfold; (try dsimp only)) | walk1 | (dsimp only; walk1)))
      (rename Fr h₀ L _ _ => F8); (rename News h₀ L _ _ => N8)
      refine TurnEnd.next F8 (fun p hp => N8 p (.tail _ (.tail _ (.tail _ hp)))) (fun p hp q hq => ?_) ⟨rfl, _, _, _, _, rfl, qx3, strs_snoc hvt, by rw [List.length_append, List.length_singleton]; omega⟩
      rcases List.mem_cons.mp hq with rfl | hq
      · exact (by (((repeat' (refine List.forall_mem_cons.mpr ⟨by ((show @Ne Nat _ _; first | assumption | exact Ne.symm (by assumption) | omega)), ?_⟩)); (first | exact List.forall_mem_nil _ | (intro p hp; first | exact Nat.ne_of_lt (allLt_mem (by assumption) p hp) | exact OwnOff.ne (by assumption) (by k_memK) p hp | (have hx' := ‹∀ q ∈ _, q.1 ≠ _› p hp; exact hx'))))) : ∀ p ∈ [(lt, W.listOf (vt ++ [Value.str (Txt.join (Str.ofString "/") (dotS :: dg z.natAbs)) t9]).toArray (nt + 1)), (lp, lst vp np), (L + 1 + 1 + 1 + 1, oc), (L + 1 + 1 + 1, og), (L + 1 + 1, _), (L + 1, op)], p.1 ≠ I) p hp
      · rw [List.mem_singleton.mp hq]
        exact (by (((repeat' (refine List.forall_mem_cons.mpr ⟨by ((show @Ne Nat _ _; first | assumption | exact Ne.symm (by assumption) | omega)), ?_⟩)); (first | exact List.forall_mem_nil _ | (intro p hp; first | exact Nat.ne_of_lt (allLt_mem (by assumption) p hp) | exact OwnOff.ne (by assumption) (by k_memK) p hp | (have hx' := ‹∀ q ∈ _, q.1 ≠ _› p hp; exact hx'))))) : ∀ p ∈ [(lt, W.listOf (vt ++ [Value.str (Txt.join (Str.ofString "/") (dotS :: dg z.natAbs)) t9]).toArray (nt + 1)), (lp, lst vp np), (L + 1 + 1 + 1 + 1, oc), (L + 1 + 1 + 1, og), (L + 1 + 1, _), (L + 1, op)], p.1 ≠ D) p hp
  · rintro m₁ news₁ h2 tk2 ⟨rfl, vt, nt, ox2, v2, rfl, qx2, hvt, hvl⟩ F2 N2
    rw [show n8.take ws.length = n8 from List.take_of_length_le (by omega)] at hvt
    dsimp only
    refine hQ h2 tk2 vt nt _ F2 (fun p hp => N2 p ?_) hvt
    exact (by (((repeat' (refine List.forall_mem_cons.mpr ⟨by k_mem, ?_⟩)); (first | exact List.forall_mem_nil _ | (intro p hp; repeat (first | exact hp | refine List.Mem.tail _ ?_))))) : ∀ p ∈ [(L + 1 + 1 + 1 + 1, oc), (L + 1 + 1 + 1, og), (lt, lst vt nt)], p ∈ _) p hp
end

theorem zz_48 : True := by
  w_top off
  trivial
section
variable {w : World} {s : Shared} {mg mb : Str → Option Value} {mean : ExcName → Option Value} {h₀ : Heap} {L fa : Addr} {cd : Value} {Q : Flow → Shared → Prop}
theorem stage0 {d u : Nat} {gs : Option (List Code)} {base : Heap} {ls : Addr} {o1 o2 o3 o4 : Obj} {vs : List Value} {ns : List Int} {v1 v2 v3 v4 : Option Value} {sb sh sg sc : List Str} {ro rn : List (List Str)} {pe po : List (List Str)} {ts : List Str}
    (T : Top vq (looseW vq [Str.ofString "_dedupe", Str.ofString "filterfalse"]) mean mg mb h₀) (KX : (hd.heap_1 w.params).In h₀) (K0 : Below ⟨none, d, some [], gs, u⟩ base [] h₀) (hu : u ≤ 100) (hd6 : d < 500)
    (hScr : h₀.IsList ls vs.toArray) (hInts : IntsAre vs ns) (hlen : ns.length ≤ 63)
    (F : Fr h₀ L s.heap (fun y => if y = Str.ofString "script" then some (.ref ls) else none))
    (N : News h₀ L s.heap [(L + 1 + 1 + 1 + 1, o1), (L + 1 + 1 + 1, o2), (L + 1 + 1, o3), (L + 1, o4)])
    (q1 : o1.data = .cell v1) (q2 : o2.data = .cell v2) (q3 : o3.data = .cell v3) (q4 : o4.data = .cell v4) (hG : AllBare s.gens)
    (hets : ([8, 13] ++ ns.take 6).map (fun z : Int => txtOf (dg z.natAbs)) = ts) (htl : ts.length ≤ 8) (hspl : ∀ t ∈ ts, t.length ≤ 900 ∧ (Txt.split t (Str.ofString "/")).length ≤ 100)
    (hero : ((evens ts).map fun t => rowOf (Txt.split t (Str.ofString "/"))).foldl rowsAdd [] = ro) (hern : ((evens (ts.drop 1)).map fun t => rowOf (Txt.split t (Str.ofString "/"))).foldl rowsAdd [] = rn)
    (hpe : pe.length ≤ (evens ts).length) (hpe2 : ∀ (i : Nat) (t : Str), (evens ts)[i]? = some t → ∃ pl, pe[i]? = some pl ∧ TF t pl) (heb : dedup pe.flatten = sb)
    (hpo : po.length ≤ (evens (ts.drop 1)).length) (hpo2 : ∀ (i : Nat) (t : Str), (evens (ts.drop 1))[i]? = some t → ∃ pl, po[i]? = some pl ∧ TF t pl) (heh : dedup po.flatten = sh)
    (P : Plain sb sh sg sc ro rn)
    (hQ : ∀ h' gs' tk m', AllBare gs' → Fr h₀ L h' m' → Q (.ret (.bool true)) ⟨h', gs', s.drawn, tk, s.os⟩) :
    wpAny (model PySem.Challenge.rw_il0206_01.row.prog w) (Around.deeper ⟨none, d, some [], gs, u⟩ (envOfC (Str.ofString "law") lawD.2 L fa cd)) (execs lawD.1 (envOfC (Str.ofString "law") lawD.2 L fa cd)) Q (fun _ _ => False) s := by
  have K3 := fun lt og oc vt nt m' s Fx Nx qg qc hG hts hQx => stage3 (w := w) (s := s) (fa := fa) (cd := cd) (Q := Q) (L := L) (lt := lt) (og := og) (oc := oc) (vt := vt) (nt := nt) (ts := ts) (sb := sb) (sh := sh) (sg := sg) (sc := sc) (ro := ro) (rn := rn) (pe := pe) (po := po) (rest := []) (m := m') (v4 := .ref ls) (v5 := v2) (v6 := v1)
    T KX K0 hu hd6 Fx Nx qg qc hG hts htl hspl hero hern hpe hpe2 heb hpo hpo2 heh P hQx
  have K2 := fun lt lp op vp np s Fx Nx qp hlp hG hvp hQx => stage2 (w := w) (s := s) (fa := fa) (cd := cd) (Q := Q) (L := L) (lt := lt) (lp := lp) (ls := ls) (og := o2) (oc := o1) (ox := o3) (op := op) (vs := vs) (vp := vp) (ns := ns) (np := np) (m := fun _ => none) (v5 := v2) (v6 := v1) (v7 := v3)
    T KX K0 hu hd6 hScr hInts hlen Fx Nx q2 q1 q3 qp hlp hG hvp hQx
  obtain ⟨p, hp⟩ : ∃ p, p = lawD := ⟨_, rfl⟩
  rw [← hp] at K3 K2 ⊢
  conv at hp => rhs; unfold lawD; whnf
  subst hp
  dsimp only [List.drop] at K3 K2 ⊢
  change wpAny _ _ _ _ _ ⟨s.heap, s.gens, s.drawn, s.toks, s.os⟩
  repeat' ((fail_if_success (with_reducible show wpAny _ _ (execs [Stmt.For _ _ _ _ _, _, _, _, _, _, _] _) _ _ _)); first | (k_unfold; (try dsimp only)) | walk1 | (dsimp only; walk1))
  (rename Fr h₀ L _ _ => F1); (rename News h₀ L _ _ => N1); (rename Obj.data _ = Data.cell (some (Value.ref _)) => q5)
  refine K2 _ _ _ _ _ _ F1 N1 q5 ?_ hG (.cons _ _ (.cons _ _ (.cons _ _ (.cons _ _ (.cons _ _ (.cons _ _ .nil)))))) fun h' tk vt nt m' F2 N2 hvt => ?_
  · omega
  · rw [hets] at hvt
    exact K3 _ o2 o1 vt nt m' _ F2 N2 q2 q1 hG hvt hQ
end

theorem zz_50 : True := by
  w_top off
  trivial
/-! the plain law: rows and places, with no program in sight -/
theorem strOf_join {r : List Str} (hn : r ≠ []) : strOf r = Txt.join sl (Str.ofString "" :: r) := by
  unfold strOf
  rw [tjoin, tjoin]
  cases r with
  | nil => exact absurd rfl hn
  | cons a r =>
    apply Str.ext'
    apply Array.toList_inj.mp
    rw [cps_cons2, sl_app_cps]
    rfl
theorem strOf_split {r : List Str} (h : okRow r) (hn : r ≠ []) : Txt.split (strOf r) sl = Str.ofString "" :: r := by
  rw [strOf_join hn]
  refine split_join (by simp) fun p hp => ?_
  rcases List.mem_cons.mp hp with rfl | hp
  · unfold free; decide +kernel
  · exact atom_free (h.2 p hp)
theorem rowP_strOf {r : List Str} (h : okRow r) (hn : r ≠ []) : rowP (strOf r) = r := by
  show (Txt.split (strOf r) sl).drop 1 = r
  rw [strOf_split h hn]; rfl
/-- a row that stands in a list of rows -/
def okne (r : List Str) : Prop := okRow r ∧ r ≠ []
theorem strOf_inj {r q : List Str} (h : okne r) (k : okne q) (e : strOf r = strOf q) : r = q := by
  rw [← rowP_strOf h.1 h.2, e, rowP_strOf k.1 k.2]
theorem strOf_mem {r : List Str} {l : List (List Str)} (h : okne r) (hl : ∀ q ∈ l, okne q) : strOf r ∈ l.map strOf ↔ r ∈ l := by
  constructor
  · intro hm
    obtain ⟨q, hq, e⟩ := List.mem_map.mp hm
    exact strOf_inj (hl q hq) h e ▸ hq
  · exact List.mem_map_of_mem
/-- each row's shorter ones stand ahead of it -/
inductive PC : List (List Str) → Prop
  | nil : PC []
  | snoc {l : List (List Str)} {q : List Str} : PC l → (q.dropLast = [] ∨ q.dropLast ∈ l) → PC (l ++ [q])
theorem PC.at {l : List (List Str)} (h : PC l) : ∀ {a b : List (List Str)} {q : List Str}, l = a ++ q :: b → q.dropLast = [] ∨ q.dropLast ∈ a := by
  induction h with
  | nil => intro a b q e; cases a <;> simp at e
  | @snoc l p hl hp ih =>
    intro a b q e
    rcases List.eq_nil_or_concat b with rfl | ⟨b', z, rfl⟩
    · have e' : l ++ [p] = a ++ [q] := e
      obtain ⟨h1, h2⟩ := List.append_inj' e' rfl
      cases h2; subst h1; exact hp
    · have e' : l ++ [p] = (a ++ q :: b') ++ [z] := by rw [e]; simp
      obtain ⟨h1, _⟩ := List.append_inj' e' rfl
      exact ih h1
/-- q is shorter than o and o opens with it -/
def Opens (q o : List Str) : Prop := q ≠ [] ∧ q.length < o.length ∧ o.take q.length = q
theorem PC.opens {l : List (List Str)} (h : PC l) : ∀ (n : Nat) {a b : List (List Str)} {o q : List Str}, o.length ≤ n → l = a ++ o :: b → Opens q o → q ∈ a
  | 0, _, _, o, q, hn, _, ho => absurd ho.2.1 (by omega)
  | n + 1, a, b, o, q, hn, e, ho => by
    obtain ⟨h1, h2, h3⟩ := ho
    rcases h.at e with hd | hd
    · have : o.dropLast.length = 0 := by rw [hd]; rfl
      rw [List.length_dropLast] at this
      have : q.length ≠ 0 := fun h => h1 (List.length_eq_zero_iff.mp h)
      omega
    · by_cases hq : q = o.dropLast
      · rw [hq]; exact hd
      · obtain ⟨a1, a2, ea⟩ := List.append_of_mem hd
        have hl : o.dropLast.length = o.length - 1 := List.length_dropLast
        have ht : o.dropLast.take q.length = q := by rw [List.dropLast_eq_take, List.take_take, Nat.min_eq_left (by omega), h3]
        have hlt : q.length < o.dropLast.length := by
          rcases Nat.lt_or_ge q.length o.dropLast.length with h | h
          · exact h
          · exact absurd (by rw [← ht]; exact List.take_of_length_le h) hq
        have := PC.opens h n (a := a1) (b := a2 ++ o :: b) (o := o.dropLast) (q := q) (by omega) (by rw [e, ea]; simp) ⟨h1, hlt, ht⟩
        rw [ea]; exact List.mem_append_left _ this
/-- what the first n of a row's places add -/
def adds (rs : List (List Str)) (r : List Str) (n : Nat) : List (List Str) := ((List.range n).map fun k => r.take (k + 1)).filter fun q => !decide (q ∈ rs)
theorem adds_succ (rs : List (List Str)) (r : List Str) (n : Nat) : adds rs r (n + 1) = adds rs r n ++ if r.take (n + 1) ∈ rs then [] else [r.take (n + 1)] := by
  unfold adds
  rw [List.range_succ, List.map_append, List.filter_append]
  congr 1
  by_cases h : r.take (n + 1) ∈ rs <;> simp [h]
theorem adds_len {rs : List (List Str)} {r : List Str} {n : Nat} {q : List Str} (h : q ∈ adds rs r n) : ∃ k, k < n ∧ q = r.take (k + 1) ∧ q ∉ rs := by
  obtain ⟨h1, h2⟩ := List.mem_filter.mp h
  obtain ⟨k, hk, rfl⟩ := List.mem_map.mp h1
  exact ⟨k, List.mem_range.mp hk, rfl, by simpa using h2⟩
theorem adds_mem {rs : List (List Str)} {r : List Str} {n k : Nat} (hk : k < n) : r.take (k + 1) ∈ rs ++ adds rs r n := by
  by_cases h : r.take (k + 1) ∈ rs
  · exact List.mem_append_left _ h
  · exact List.mem_append_right _ (List.mem_filter.mpr ⟨List.mem_map.mpr ⟨k, List.mem_range.mpr hk, rfl⟩, by simpa using h⟩)
theorem adds_new {rs : List (List Str)} {r : List Str} {n : Nat} (hn : n < r.length) : r.take (n + 1) ∉ adds rs r n := fun h => by
  obtain ⟨k, hk, e, _⟩ := adds_len h
  have := congrArg List.length e
  rw [List.length_take, List.length_take] at this
  omega
theorem rowsAdd_eq (rs : List (List Str)) (r : List Str) : rowsAdd rs r = rs ++ adds rs r r.length := rfl
structure Good (l : List (List Str)) : Prop where
  ok : ∀ r ∈ l, okne r
  nd : l.Nodup
  pc : PC l
theorem good_adds {rs : List (List Str)} {r : List Str} (g : Good rs) (hr : okRow r) : ∀ n, n ≤ r.length → Good (rs ++ adds rs r n)
  | 0, _ => by rw [show adds rs r 0 = [] from rfl, List.append_nil]; exact g
  | n + 1, hn => by
    have ih := good_adds g hr n (by omega)
    rw [adds_succ]
    by_cases h : r.take (n + 1) ∈ rs
    · rw [if_pos h, List.append_nil]; exact ih
    · rw [if_neg h, ← List.append_assoc]
      have hne : r.take (n + 1) ≠ [] := fun e => by have := congrArg List.length e; rw [List.length_take, List.length_nil] at this; omega
      refine ⟨fun q hq => ?_, ?_, .snoc ih.pc ?_⟩
      · rcases List.mem_append.mp hq with hq | hq
        · exact ih.ok q hq
        · rw [List.mem_singleton.mp hq]; exact ⟨okRow_take hr _, hne⟩
      · rw [List.nodup_append]
        refine ⟨ih.nd, by simp, fun a ha b hb e => ?_⟩
        rw [List.mem_singleton.mp hb] at e
        subst e
        rcases List.mem_append.mp ha with ha | ha
        · exact h ha
        · exact adds_new (by omega) ha
      · have hd : (r.take (n + 1)).dropLast = r.take n := by
          rw [List.dropLast_eq_take, List.length_take, List.take_take]
          congr 1; omega
        rw [hd]
        cases n with
        | zero => exact .inl rfl
        | succ n => exact .inr (adds_mem (by omega))
theorem good_rows : ∀ (rws : List (List Str)) (rs : List (List Str)), Good rs → (∀ r ∈ rws, okRow r) → Good (rws.foldl rowsAdd rs)
  | [], _, g, _ => g
  | r :: rws, rs, g, h => good_rows rws _ (good_adds g (h r (.head _)) _ (Nat.le_refl _)) fun q hq => h q (.tail _ hq)
theorem good_nil : Good [] := ⟨fun _ h => (nomatch h), .nil, .nil⟩
theorem adds_length_le (rs : List (List Str)) (r : List Str) (n : Nat) : (adds rs r n).length ≤ n := by
  have := List.length_filter_le (fun q => !decide (q ∈ rs)) ((List.range n).map fun k => r.take (k + 1))
  rw [List.length_map, List.length_range] at this
  exact this
theorem rows_length : ∀ (rws : List (List Str)) (rs : List (List Str)), (∀ r ∈ rws, okRow r) → (rws.foldl rowsAdd rs).length ≤ rs.length + 4 * rws.length
  | [], rs, _ => by simp
  | r :: rws, rs, h => by
    have h1 := rows_length rws (rowsAdd rs r) fun q hq => h q (.tail _ hq)
    have h2 := adds_length_le rs r r.length
    have h3 := (h r (.head _)).1
    rw [List.foldl_cons, List.length_cons]
    rw [rowsAdd_eq, List.length_append] at h1
    rw [rowsAdd_eq]
    omega
theorem rows_grow : ∀ (rws : List (List Str)) (rs : List (List Str)), rs.length ≤ (rws.foldl rowsAdd rs).length
  | [], rs => Nat.le_refl _
  | r :: rws, rs => by
    have h1 := rows_grow rws (rowsAdd rs r)
    rw [List.foldl_cons]
    refine Nat.le_trans ?_ h1
    rw [rowsAdd_eq, List.length_append]
    exact Nat.le_add_right _ _
/-- dedup's step -/
def dstep (acc : List Str) (k : Str) : List Str := if acc.any (fun z => decide (z = k)) then acc else acc ++ [k]
theorem dedup_adds {rs : List (List Str)} {r : List Str} (g : Good rs) (hr : okRow r) : ∀ n, n ≤ r.length → ((List.range n).map fun k => strOf (r.take (k + 1))).foldl dstep (rs.map strOf) = (rs ++ adds rs r n).map strOf
  | 0, _ => by rw [show adds rs r 0 = [] from rfl, List.append_nil]; rfl
  | n + 1, hn => by
    have ih := dedup_adds g hr n (by omega)
    have gn := good_adds g hr n (by omega)
    rw [List.range_succ, List.map_append, List.foldl_append, ih, adds_succ]
    have hne : okne (r.take (n + 1)) := ⟨okRow_take hr _, fun e => by have := congrArg List.length e; rw [List.length_take, List.length_nil] at this; omega⟩
    show dstep _ (strOf (r.take (n + 1))) = _
    unfold dstep
    have hany : ((rs ++ adds rs r n).map strOf).any (fun z => decide (z = strOf (r.take (n + 1)))) = true ↔ r.take (n + 1) ∈ rs := by
      rw [List.any_eq_true]
      constructor
      · rintro ⟨z, hz, e⟩
        have e' := of_decide_eq_true e
        subst e'
        rcases List.mem_append.mp ((strOf_mem hne gn.ok).mp hz) with h | h
        · exact h
        · exact absurd h (adds_new (by omega))
      · intro h
        exact ⟨_, List.mem_map_of_mem (List.mem_append_left _ h), decide_eq_true rfl⟩
    by_cases h : r.take (n + 1) ∈ rs
    · rw [if_pos (hany.mpr h), if_pos h, List.append_nil]
    · rw [if_neg (fun q => h (hany.mp q)), if_neg h, ← List.append_assoc]
      exact (List.map_append (l₁ := rs ++ adds rs r n) (l₂ := [r.take (n + 1)]) (f := strOf)).symm
theorem dedup_rows : ∀ (rws : List (List Str)) (rs : List (List Str)), Good rs → (∀ r ∈ rws, okRow r) → ((rws.map fun r => (rowsIn r).map strOf).flatten).foldl dstep (rs.map strOf) = (rws.foldl rowsAdd rs).map strOf
  | [], _, _, _ => rfl
  | r :: rws, rs, g, h => by
    rw [List.map_cons, List.flatten_cons, List.foldl_append, List.foldl_cons]
    have h1 := dedup_adds g (h r (.head _)) r.length (Nat.le_refl _)
    rw [show (rowsIn r).map strOf = (List.range r.length).map fun k => strOf (r.take (k + 1)) from by unfold rowsIn; rw [List.map_map]; rfl, h1]
    exact dedup_rows rws _ (good_adds g (h r (.head _)) _ (Nat.le_refl _)) fun q hq => h q (.tail _ hq)
theorem eraseR_filter : ∀ {l : List (List Str)} {r : List Str}, l.Nodup → eraseR l r = l.filter fun q => !decide (q = r)
  | [], _, _ => rfl
  | x :: xs, r, h => by
    obtain ⟨h1, h2⟩ := List.nodup_cons.mp h
    unfold eraseR
    by_cases e : x = r
    · subst e
      rw [if_pos rfl, List.filter_cons_of_neg (by simp)]
      symm
      rw [List.filter_eq_self]
      intro q hq
      simp
      exact fun e => h1 (e ▸ hq)
    · rw [if_neg e, List.filter_cons_of_pos (by simpa using e), eraseR_filter h2]
theorem erase_fold : ∀ (g : List (List Str)) (l : List (List Str)), l.Nodup → g.foldl eraseR l = l.filter fun q => !decide (q ∈ g)
  | [], l, _ => by
    symm
    rw [List.foldl_nil, List.filter_eq_self]
    simp
  | r :: g, l, h => by
    rw [List.foldl_cons, eraseR_filter h, erase_fold g _ (h.filter _), List.filter_filter]
    refine List.filter_congr fun q _ => ?_
    by_cases h1 : q = r <;> by_cases h2 : q ∈ g <;> simp [h1, h2]
theorem one_left {l : List (List Str)} {q : List Str} (h : l.Nodup) (hq : q ∈ l) (ho : ∀ x ∈ l, x = q) : l = [q] := by
  cases l with
  | nil => cases hq
  | cons a l =>
    have ea := ho a (.head _)
    subst ea
    cases l with
    | nil => rfl
    | cons b l =>
      have eb := ho b (.tail _ (.head _))
      subst eb
      exact absurd (List.mem_cons_self) (List.nodup_cons.mp h).1
theorem same_perm : ∀ {a b : List (List Str)}, a.Nodup → b.Nodup → (∀ x, x ∈ a ↔ x ∈ b) → a.Perm b
  | [], b, _, _, h => by
    cases b with
    | nil => exact .nil
    | cons x b => exact nomatch (h x).mpr (.head _)
  | x :: a, b, ha, hb, h => by
    obtain ⟨h1, h2⟩ := List.nodup_cons.mp ha
    obtain ⟨s, t, e⟩ := List.append_of_mem ((h x).mp (.head _))
    subst e
    have hb' : (x :: (s ++ t)).Nodup := (List.perm_middle.nodup_iff).mp hb
    refine (List.Perm.cons x (same_perm h2 (List.nodup_cons.mp hb').2 fun y => ?_)).trans List.perm_middle.symm
    have hy := h y
    constructor
    · intro hm
      have h3 : y ∈ s ++ x :: t := hy.mp (.tail _ hm)
      have h4 : y ≠ x := fun e => h1 (e ▸ hm)
      simpa [h4] using h3
    · intro hm
      have h4 : y ≠ x := fun e => (List.nodup_cons.mp hb').1 (e ▸ hm)
      have h3 : y ∈ x :: a := hy.mpr (by simp at hm ⊢; rcases hm with h | h; exact .inl h; exact .inr (.inr h))
      exact (List.mem_cons.mp h3).resolve_left h4

theorem zz_51 : True := by
  w_top off
  trivial
theorem split_unique {q : List Str} : ∀ {a b c d : List (List Str)}, a ++ q :: b = c ++ q :: d → q ∉ a → q ∉ c → a = c ∧ b = d
  | [], b, [], d, h, _, _ => ⟨rfl, by simpa using h⟩
  | [], b, x :: c, d, h, _, hc => by simp at h; exact absurd (h.1 ▸ List.mem_cons_self) hc
  | x :: a, b, [], d, h, ha, _ => by simp at h; exact absurd (h.1 ▸ List.mem_cons_self) ha
  | x :: a, b, y :: c, d, h, ha, hc => by
    simp only [List.cons_append, List.cons.injEq] at h
    obtain ⟨h1, h2⟩ := split_unique h.2 (fun m => ha (.tail _ m)) (fun m => hc (.tail _ m))
    exact ⟨by rw [h.1, h1], h2⟩
theorem nodup_mid {q : List Str} {a b : List (List Str)} (h : (a ++ q :: b).Nodup) : q ∉ a ∧ q ∉ b := by
  have := (List.perm_middle.nodup_iff).mp h
  have h2 := (List.nodup_cons.mp this).1
  exact ⟨fun m => h2 (List.mem_append_left _ m), fun m => h2 (List.mem_append_right _ m)⟩
theorem get_split {q : List Str} {l : List (List Str)} {i : Nat} (h : l[i]? = some q) : ∃ b, l = l.take i ++ q :: b := by
  obtain ⟨hi, e⟩ := List.getElem?_eq_some_iff.mp h
  refine ⟨l.drop (i + 1), ?_⟩
  conv => lhs; rw [← List.take_append_drop i l]
  rw [List.drop_eq_getElem_cons hi, e]
theorem map_filter_mem {Ro Rn : List (List Str)} (go : Good Ro) (gn : Good Rn) : (Ro.map strOf).filter (fun z => !decide (z ∈ Rn.map strOf)) = (Ro.filter fun q => !decide (q ∈ Rn)).map strOf := by
  rw [List.filter_map]
  congr 1
  refine List.filter_congr fun q hq => ?_
  have := strOf_mem (go.ok q hq) gn.ok
  by_cases h : q ∈ Rn
  · simp [Function.comp, h, this.mpr h]
  · have h2 : strOf q ∉ Rn.map strOf := fun m => h (this.mp m)
    simp only [Function.comp]
    rw [decide_eq_false h, decide_eq_false h2]
theorem gone_fold : ∀ (g : List (List Str)) (l : List (List Str)), (∀ q ∈ g, okne q) → (g.map strOf).foldl stepGone l = g.foldl eraseR l
  | [], _, _ => rfl
  | q :: g, l, h => by
    rw [List.map_cons, List.foldl_cons, List.foldl_cons, gone_fold g _ fun p hp => h p (.tail _ hp)]
    unfold stepGone
    rw [rowP_strOf (h q (.head _)).1 (h q (.head _)).2]
theorem come_fold : ∀ (g : List (List Str)) (l : List (List Str)), (∀ q ∈ g, okne q) → (g.map strOf).foldl stepCome l = l ++ g
  | [], l, _ => (List.append_nil l).symm
  | q :: g, l, h => by
    rw [List.map_cons, List.foldl_cons, come_fold g _ fun p hp => h p (.tail _ hp)]
    unfold stepCome
    rw [rowP_strOf (h q (.head _)).1 (h q (.head _)).2]
    simp
/-- what is taken away, at each step -/
theorem gone_step {Ro Rn : List (List Str)} (go : Good Ro) (gn : Good Rn) {i : Nat} {q : List Str} (h : (Ro.filter fun q => !decide (q ∈ Rn)).reverse[i]? = some q) :
    (((Ro.filter fun q => !decide (q ∈ Rn)).reverse.take i).foldl eraseR Ro).filter (fun o => decide (o.take q.length = q)) = [q] := by
  rw [erase_fold _ _ go.nd]
  obtain ⟨b, hb⟩ := get_split h
  have hndG : (Ro.filter fun q => !decide (q ∈ Rn)).reverse.Nodup := ((List.reverse_perm _).nodup_iff).mpr (go.nd.filter _)
  have hq1 := nodup_mid (hb ▸ hndG)
  have hqG : q ∈ Ro.filter fun q => !decide (q ∈ Rn) := List.mem_reverse.mp (List.mem_of_getElem? h)
  obtain ⟨hqo, hqn⟩ := List.mem_filter.mp hqG
  have hqn' : q ∉ Rn := by simpa using hqn
  refine one_left ((go.nd.filter _).filter _) ?_ fun o ho => ?_
  · refine List.mem_filter.mpr ⟨List.mem_filter.mpr ⟨hqo, ?_⟩, ?_⟩
    · simpa using hq1.1
    · simp
  · obtain ⟨h1, h2⟩ := List.mem_filter.mp ho
    obtain ⟨hoo, hot⟩ := List.mem_filter.mp h1
    have hpre : o.take q.length = q := of_decide_eq_true h2
    have hot' : o ∉ (Ro.filter fun q => !decide (q ∈ Rn)).reverse.take i := by simpa using hot
    by_cases hlen : q.length < o.length
    · exfalso
      have hop : Opens q o := ⟨(go.ok q hqo).2, hlen, hpre⟩
      have hon : o ∉ Rn := fun hm => by
        obtain ⟨a, c, e⟩ := List.append_of_mem hm
        exact hqn' (e ▸ List.mem_append_left _ (gn.pc.opens _ (Nat.le_refl _) e hop))
      obtain ⟨a, c, e⟩ := List.append_of_mem hoo
      have hqa := go.pc.opens _ (Nat.le_refl _) e hop
      obtain ⟨a1, a2, ea⟩ := List.append_of_mem hqa
      have eG : (Ro.filter fun q => !decide (q ∈ Rn)).reverse = ((a2 ++ o :: c).filter fun q => !decide (q ∈ Rn)).reverse ++ q :: (a1.filter fun q => !decide (q ∈ Rn)).reverse := by
        conv => lhs; rw [e, ea]
        rw [List.append_assoc, List.filter_append, List.cons_append, List.filter_cons_of_pos (by simpa using hqn'), List.reverse_append, List.reverse_cons]
        simp
      have hnq := nodup_mid (eG ▸ hndG)
      have := (split_unique (hb.symm.trans eG) hq1.1 hnq.1).1
      rw [this] at hot'
      exact hot' (List.mem_reverse.mpr (List.mem_filter.mpr ⟨List.mem_append_right _ (.head _), by simpa using hon⟩))
    · rw [← hpre]; exact (List.take_of_length_le (by omega)).symm
/-- what is made, at each step -/
theorem come_step {Ro Rn : List (List Str)} (go : Good Ro) (gn : Good Rn) {i : Nat} {q : List Str} (h : (Rn.filter fun q => !decide (q ∈ Ro))[i]? = some q) :
    q.dropLast = [] ∨ q.dropLast ∈ (Ro.filter fun q => decide (q ∈ Rn)) ++ (Rn.filter fun q => !decide (q ∈ Ro)).take i := by
  obtain ⟨b, hb⟩ := get_split h
  have hndC : (Rn.filter fun q => !decide (q ∈ Ro)).Nodup := gn.nd.filter _
  have hq1 := nodup_mid (hb ▸ hndC)
  obtain ⟨hqn, hqo⟩ := List.mem_filter.mp (List.mem_of_getElem? h)
  obtain ⟨a, c, e⟩ := List.append_of_mem hqn
  rcases gn.pc.at e with hd | hd
  · exact .inl hd
  · refine .inr ?_
    by_cases hdo : q.dropLast ∈ Ro
    · exact List.mem_append_left _ (List.mem_filter.mpr ⟨hdo, decide_eq_true (e ▸ List.mem_append_left _ hd)⟩)
    · refine List.mem_append_right _ ?_
      have eC : (Rn.filter fun q => !decide (q ∈ Ro)) = (a.filter fun q => !decide (q ∈ Ro)) ++ q :: (c.filter fun q => !decide (q ∈ Ro)) := by
        conv => lhs; rw [e]
        rw [List.filter_append, List.filter_cons_of_pos (p := fun q => !decide (q ∈ Ro)) hqo]
      have hnq := nodup_mid (eC ▸ hndC)
      rw [(split_unique (hb.symm.trans eC) hq1.1 hnq.1).1]
      exact List.mem_filter.mpr ⟨hd, by simpa using hdo⟩
theorem gone_all {Ro Rn : List (List Str)} (go : Good Ro) : (Ro.filter fun q => !decide (q ∈ Rn)).reverse.foldl eraseR Ro = Ro.filter fun q => decide (q ∈ Rn) := by
  rw [erase_fold _ _ go.nd]
  refine List.filter_congr fun q hq => ?_
  by_cases h : q ∈ Rn
  · simp [h]
  · simp [h, hq]
theorem plain_of {Ro Rn : List (List Str)} (go : Good Ro) (gn : Good Rn) (ho : Ro.length ≤ 50) (hn : Rn.length ≤ 50) (h2 : 2 ≤ Rn.length) :
    Plain (Ro.map strOf) (Rn.map strOf) ((Ro.filter fun q => !decide (q ∈ Rn)).reverse.map strOf) ((Rn.filter fun q => !decide (q ∈ Ro)).map strOf) Ro Rn := by
  have esg : ((Ro.map strOf).filter fun z => !decide (z ∈ Rn.map strOf)).reverse = (Ro.filter fun q => !decide (q ∈ Rn)).reverse.map strOf := by rw [map_filter_mem go gn, List.map_reverse]
  have esc : ((Rn.map strOf).filter fun z => !decide (z ∈ Ro.map strOf)) = (Rn.filter fun q => !decide (q ∈ Ro)).map strOf := map_filter_mem gn go
  have okG : ∀ q ∈ (Ro.filter fun q => !decide (q ∈ Rn)).reverse, okne q := fun q hq => go.ok q (List.mem_filter.mp (List.mem_reverse.mp hq)).1
  have okC : ∀ q ∈ Rn.filter fun q => !decide (q ∈ Ro), okne q := fun q hq => gn.ok q (List.mem_filter.mp hq).1
  have hall := gone_all (Rn := Rn) go
  refine { h1 := by rw [List.length_map]; omega, h2 := by rw [List.length_map]; omega, hB1 := rfl, hB2 := rfl, hk := fun r hr => ?_, esg := esg, esc := esc, hA := ?_, hsp := fun p hp => ?_, hg := fun i p hp => ?_, hc := fun i p hp => ?_, hfin := ?_, hnd := gn.nd, hl2 := h2, hl64 := by omega, hE1 := ?_, hE2 := ?_ }
  · have hok : okRow r := hr.elim (fun h => (go.ok r h).1) fun h => (gn.ok r h).1
    exact ⟨by have := hok.1; omega, fun a ha => by have := atom_len (hok.2 a ha); omega⟩
  · rw [List.filter_eq_nil_iff]
    intro p hp
    obtain ⟨q, hq, rfl⟩ := List.mem_map.mp hp
    rw [decide_eq_true_eq, strOf_mem (okG q hq) okC]
    intro hc
    exact absurd (List.mem_filter.mp hc).1 (by simpa using (List.mem_filter.mp (List.mem_reverse.mp hq)).2)
  · obtain ⟨q, hq, rfl⟩ : ∃ q, okne q ∧ strOf q = p := by
      rcases hp with hp | hp
      · obtain ⟨q, hq, e⟩ := List.mem_map.mp hp; exact ⟨q, okG q hq, e⟩
      · obtain ⟨q, hq, e⟩ := List.mem_map.mp hp; exact ⟨q, okC q hq, e⟩
    refine ⟨by have := strOf_len hq.1; omega, ?_⟩
    show (Txt.split (strOf q) sl).length ≤ 100
    rw [strOf_split hq.1 hq.2, List.length_cons]
    have := hq.1.1; omega
  · rw [List.getElem?_map] at hp
    obtain ⟨q, hq, rfl⟩ := Option.map_eq_some_iff.mp hp
    have hqk := okG q (List.mem_of_getElem? hq)
    rw [← List.map_take, gone_fold _ _ fun r hr => okG r (List.mem_of_mem_take hr), rowP_strOf hqk.1 hqk.2]
    refine ⟨gone_step go gn hq, fun r hr => ?_⟩
    rw [erase_fold _ _ go.nd] at hr
    have := (go.ok r (List.mem_filter.mp hr).1).1.1
    omega
  · rw [List.getElem?_map] at hp
    obtain ⟨q, hq, rfl⟩ := Option.map_eq_some_iff.mp hp
    have hqk := okC q (List.mem_of_getElem? hq)
    rw [← List.map_take, come_fold _ _ fun r hr => okC r (List.mem_of_mem_take hr), rowP_strOf hqk.1 hqk.2, gone_fold _ _ okG, hall]
    exact come_step go gn hq
  · rw [come_fold _ _ okC, gone_fold _ _ okG, hall]
    refine same_perm ?_ gn.nd fun x => ?_
    · rw [List.nodup_append]
      refine ⟨go.nd.filter _, gn.nd.filter _, fun a ha b hb e => ?_⟩
      subst e
      exact absurd (List.mem_filter.mp ha).1 (by simpa using (List.mem_filter.mp hb).2)
    · rw [List.mem_append, List.mem_filter, List.mem_filter]
      by_cases h : x ∈ Ro <;> simp [h]
  · rw [← esg, List.reverse_reverse]
    refine List.filter_congr fun z hz => ?_
    rw [Bool.eq_iff_iff]
    simp [hz]
  · rw [← esc]
    refine List.filter_congr fun z hz => ?_
    rw [Bool.eq_iff_iff]
    simp [hz]

theorem zz_60 : True := by
  w_top off
  trivial
/-- the texts of a script -/
def tsOf (ns : List Int) : List Str := ([8, 13] ++ ns.take 6).map fun z : Int => txtOf (dg z.natAbs)
theorem evens_of {xs : List Nat} : evens (xs.map fun x => txtOf (dg x)) = (evens xs).map fun x => txtOf (dg x) := evens_map _ _
theorem rows_of (xs : List Nat) : ((xs.map fun x => txtOf (dg x)).map fun t => rowOf (Txt.split t (Str.ofString "/"))) = xs.map rwOf := by rw [List.map_map]; rfl
theorem ok_of (xs : List Nat) : ∀ r ∈ xs.map rwOf, okRow r := fun r hr => by
  obtain ⟨x, _, rfl⟩ := List.mem_map.mp hr
  exact rwOf_ok x
theorem places_of (xs : List Nat) : (xs.map fun x => (rowsIn (rwOf x)).map strOf).length ≤ (xs.map fun x => txtOf (dg x)).length ∧
    (∀ (i : Nat) (t : Str), (xs.map fun x => txtOf (dg x))[i]? = some t → ∃ pl, (xs.map fun x => (rowsIn (rwOf x)).map strOf)[i]? = some pl ∧ TF t pl) ∧
    dedup (xs.map fun x => (rowsIn (rwOf x)).map strOf).flatten = ((xs.map rwOf).foldl rowsAdd []).map strOf := by
  refine ⟨by simp, fun i t h => ?_, ?_⟩
  · rw [List.getElem?_map] at h
    obtain ⟨x, hx, rfl⟩ := Option.map_eq_some_iff.mp h
    exact ⟨_, by rw [List.getElem?_map, hx]; rfl, txt_TF x⟩
  · have := dedup_rows (xs.map rwOf) [] good_nil (ok_of xs)
    rw [List.map_map] at this
    exact this
theorem two_rows : (rowsAdd [] (rwOf 13)).length = 2 := by decide +kernel
theorem plain_law (ns : List Int) : ∃ (sb sh sg sc : List Str) (ro rn pe po : List (List Str)), ((evens (tsOf ns)).map fun t => rowOf (Txt.split t (Str.ofString "/"))).foldl rowsAdd [] = ro ∧ ((evens ((tsOf ns).drop 1)).map fun t => rowOf (Txt.split t (Str.ofString "/"))).foldl rowsAdd [] = rn ∧
    pe.length ≤ (evens (tsOf ns)).length ∧ (∀ (i : Nat) (t : Str), (evens (tsOf ns))[i]? = some t → ∃ pl, pe[i]? = some pl ∧ TF t pl) ∧ dedup pe.flatten = sb ∧
    po.length ≤ (evens ((tsOf ns).drop 1)).length ∧ (∀ (i : Nat) (t : Str), (evens ((tsOf ns).drop 1))[i]? = some t → ∃ pl, po[i]? = some pl ∧ TF t pl) ∧ dedup po.flatten = sh ∧
    Plain sb sh sg sc ro rn ∧ (tsOf ns).length ≤ 8 ∧ (∀ t ∈ tsOf ns, t.length ≤ 900 ∧ (Txt.split t (Str.ofString "/")).length ≤ 100) := by
  have hx : tsOf ns = (([8, 13] ++ ns.take 6).map Int.natAbs).map fun x => txtOf (dg x) := by unfold tsOf; rw [List.map_map]; rfl
  have hlen : (([8, 13] ++ ns.take 6).map Int.natAbs).length ≤ 8 := by simp; omega
  have hB : ∃ B', evens ((([8, 13] ++ ns.take 6).map Int.natAbs).drop 1) = 13 :: B' := by
    show ∃ B', evens (13 :: (ns.take 6).map Int.natAbs) = 13 :: B'
    cases (ns.take 6).map Int.natAbs with
    | nil => exact ⟨[], rfl⟩
    | cons b r => exact ⟨evens r, rfl⟩
  rw [hx]
  generalize ([8, 13] ++ ns.take 6).map Int.natAbs = xs at hlen hB
  have hA := evens_le xs
  have hC := evens_le (xs.drop 1)
  rw [List.length_drop] at hC
  rw [← List.map_drop, evens_of, evens_of, rows_of, rows_of]
  obtain ⟨p1, p2, p3⟩ := places_of (evens xs)
  obtain ⟨r1, r2, r3⟩ := places_of (evens (xs.drop 1))
  have go : Good (((evens xs).map rwOf).foldl rowsAdd []) := good_rows _ _ good_nil (ok_of _)
  have gn : Good (((evens (xs.drop 1)).map rwOf).foldl rowsAdd []) := good_rows _ _ good_nil (ok_of _)
  have l1 := rows_length ((evens xs).map rwOf) [] (ok_of _)
  have l2 := rows_length ((evens (xs.drop 1)).map rwOf) [] (ok_of _)
  rw [List.length_map, List.length_nil] at l1 l2
  have h2 : 2 ≤ (((evens (xs.drop 1)).map rwOf).foldl rowsAdd []).length := by
    obtain ⟨B', e⟩ := hB
    rw [e, List.map_cons, List.foldl_cons, ← two_rows]
    exact rows_grow _ _
  refine ⟨_, _, _, _, _, _, _, _, rfl, rfl, p1, p2, p3, r1, r2, r3, plain_of go gn (by omega) (by omega) h2, by rw [List.length_map]; exact hlen, fun t ht => ?_⟩
  obtain ⟨x, _, rfl⟩ := List.mem_map.mp ht
  refine ⟨by have := txt_len x; omega, ?_⟩
  show (Txt.split (txtOf (dg x)) sl).length ≤ 100
  rw [txt_split, List.length_cons, dg_len]
  decide
theorem CellsAre.four {cm : Str → Option Value} {n n' n2 n3 : Str} {c c' c2 c3 : Addr} {cells : List (Addr × Obj)} (x : CellsAre cm [(n, c), (n', c'), (n2, c2), (n3, c3)] cells) :
    ∃ o o' o2 o3, cells = [(c, o), (c', o'), (c2, o2), (c3, o3)] ∧ o.data = .cell (cm n) ∧ o'.data = .cell (cm n') ∧ o2.data = .cell (cm n2) ∧ o3.data = .cell (cm n3) := by
  cases x with | cons h1 x => cases x with | cons h2 x => cases x with | cons h3 x => cases x with | cons h4 x => cases x; exact ⟨_, _, _, _, rfl, h1, h2, h3, h4⟩
theorem law0 : PySem.Challenge.rw_il0206_01.Holds := hd (by
  k_fill
  intro w s₀ s₁ mg mb G Y fa o pm cd doc dV kV ho hd hcd hD hmg hg args vals as hpre hlay hrd hwl hlo
  have KX := kIn_of Y
  have X := (Ground.X G).1
  have V := (Ground.X G).2
  refine Ground.open G ?_
  intro T B D TE TW
  try (refine guard_noD D (by decide +kernel) ?_; clear D)
  obtain ⟨_, _, M⟩ := bmod_of_top T
  have TA := at_of_top T
  try (obtain ⟨_, _, he, B0⟩ := based_of_top T rfl hmg ho hd; have he' : cd = _ := he; subst he'; clear he)
  clear hmg
  wrow_args hpre hlay hrd hwl hlo
  all_goals (
    first | refine callC_kw (enter_call ?_) | refine enter_call ?_ | refine callC_kw (enter_callW ?_) | refine enter_callW ?_ | w_how
    w_top on
    have K0 := below_caller (Top.heap T)
    skip)
  change codeAny _ _ _ (Ends _) _
  have he := Dflts.none hD rfl; subst he; have he := Dflts.noKw hD; subst he
  refine call_cellsN_ret (by decide) ho (fd_plain hd) (Top.nolimit T) hcd rfl (kinds_of (by kinds_ok)) (by decide) fun h₁ tk₁ cells F N0 X0 => ?_
  dsimp only [] at F X0 ⊢
  obtain ⟨o1, o2, o3, o4, hE, d1, d2, d3, d4⟩ := CellsAre.four X0
  subst hE
  clear X0 hD ho hd hcd
  (rename IntsAre _ _ => hInts); (rename Heap.IsList _ _ _ => hScr)
  (rename List Int => ns); (rename List Value => vs)
  obtain ⟨sb, sh, sg, sc, ro, rn, pe, po, hero, hern, hpe, hpe2, heb, hpo, hpo2, heh, P, htl, hspl⟩ := plain_law ns
  change Fr s₁.heap s₁.heap.objs.size h₁ (fun y => if y = Str.ofString "script" then some _ else none) at F
  change wpAny _ (Around.deeper ⟨none, 1 + claimMargin, some [], some [], 4⟩ (envOfC (Str.ofString "law") lawD.2 s₁.heap.objs.size fa _)) (execs lawD.1 (envOfC (Str.ofString "law") lawD.2 s₁.heap.objs.size fa _)) _ _ ⟨h₁, s₁.gens, s₁.drawn, _, s₁.os⟩
  refine stage0 T KX K0 (by decide) (by decide) hScr hInts (by omega) F N0 d1 d2 d3 d4 (by rw [hg]; exact AllBare.empty) rfl htl hspl hero hern hpe hpe2 heb hpo hpo2 heh P fun h' gs' tk m' hB hF => ?_
  exact ⟨.inl ⟨_, _, [], rfl, fun _ => rfl, ReadsW.bool true, by first | rfl | wrow_post, fun _ => ⟨List.nodup_nil, fun _ hm => (nomatch hm)⟩⟩, .of_keep hF.keep, rfl, hB⟩)

end Mine
theorem PySem.Challenge.cw_il0206_01_holds : PySem.Challenge.rw_il0206_01.Holds := by
  exact Mine.law0
